import PyProof.Rows.All
import Wide.All
import OpenK.AllK
import Wide.FinOn
import Lean
import PySem.Challenge.RW_mt0008_02
open PySem PySem.W PyProof.Rows
set_option Elab.async false
set_option maxRecDepth 100000
set_option maxHeartbeats 8000000
set_option linter.all false
set_option genSizeOf false
set_option genInjectivity false
namespace Mine
inductive Lx | v (i:Nat) | l (k:Nat) | a (x y:Lx) | m (k:Nat) (x:Lx) | r (k:Nat) (x:Lx) | c (x:Lx) | s (x y:Lx) | n (x:Lx)
inductive Lp | le (z:Bool) (x y:Lx) | lt (z:Bool) (x y:Lx) | eq (z:Bool) (x y:Lx) | no (f:Lp) | an (f g:Lp) | or (f g:Lp) | im (f g:Lp) | ff
inductive Lf | mk (k:Int) (n z:List Int)
inductive Lq | mk (t:List (Nat×Lx×Lx)) (h:List Lp) (g:Lp) (ms:List (List Int))
noncomputable abbrev Ld:=List (List (Bool×Lf))
noncomputable section
noncomputable abbrev lget {α:Type} (d:α) (l:List α):Nat→α:=List.rec (fun _=>d) (fun x _ ih i=>Nat.rec x (fun j _=>ih j) i) l
noncomputable abbrev lall {α:Type} (p:α→Bool) (l:List α):Bool:=List.rec true (fun x _ ih=>p x && ih) l
section
variable (cn:List Nat) (cz:List Int)
noncomputable abbrev Lx.N (e:Lx):Nat:=Lx.rec (fun i=>lget 0 cn i) (fun k=>k) (fun _ _ a b=>a+b) (fun k _ a=>k * a) (fun k _ a=>a * k) (fun _ _=>0) (fun _ _ _ _=>0) (fun _ _=>0) e
noncomputable abbrev Lx.Z (e:Lx):Int:=Lx.rec (fun i=>lget 0 cz i) (fun k=>(k:Int)) (fun _ _ a b=>a+b) (fun k _ a=>(k:Int) * a) (fun k _ a=>a * (k:Int)) (fun x _=>(x.N cn:Int)) (fun _ _ a b=>a - b) (fun _ a=>- a) e
noncomputable abbrev Lp.den (f:Lp):Prop:=Lp.rec (fun z x y=>Bool.rec (x.N cn≤y.N cn) (x.Z cn cz≤y.Z cn cz) z) (fun z x y=>Bool.rec (x.N cn < y.N cn) (x.Z cn cz < y.Z cn cz) z) (fun z x y=>Bool.rec (x.N cn=y.N cn) (x.Z cn cz=y.Z cn cz) z) (fun _ p=>¬ p) (fun _ _ p q=>p∧q) (fun _ _ p q=>p∨q) (fun _ _ p q=>p→q) False f
noncomputable abbrev ldenL (g:Prop) (hs:List Lp):Prop:=List.rec g (fun h _ p=>h.den cn cz→p) hs
end
noncomputable abbrev ltv (cn:List Nat) (cz:List Int) (t:Nat×Lx×Lx):Nat:=lget 0 [t.2.1.N cn - t.2.2.N cn,t.2.1.N cn - t.2.2.N cn,t.2.1.N cn / t.2.2.N cn,min (t.2.1.N cn) (t.2.2.N cn),max (t.2.1.N cn) (t.2.2.N cn),(t.2.1.Z cn cz).toNat] t.1
noncomputable abbrev lext (cz:List Int) (ts:List (Nat×Lx×Lx)):List Nat→List Nat:=List.rec (fun cn=>cn) (fun t _ ih cn=>ih (cn++[ltv cn cz t])) ts
noncomputable abbrev Lq.den (cn:List Nat) (cz:List Int) (q:Lq):Prop:=Lq.rec (fun t h g _=>ldenL (lext cz t cn) cz (g.den (lext cz t cn) cz) h) q
noncomputable def laddL (a:List Int):List Int→List Int:=List.rec (fun b=>b) (fun x a ih b=>List.rec (x :: a) (fun y b _=>(x+y) :: ih b) b) a
noncomputable def Lf.add (p q:Lf):Lf:=Lf.rec (fun k n z=>Lf.rec (fun k' n' z'=>.mk (k+k') (laddL n n') (laddL z z')) q) p
noncomputable def Lf.mul (m:Int) (p:Lf):Lf:=Lf.rec (fun k n z=>.mk (m * k) (n.map (m * ·)) (z.map (m * ·))) p
noncomputable def Lf.sub (p q:Lf):Lf:=p.add (q.mul (-1))
noncomputable def Lf.up (p:Lf):Lf:=p.add (.mk (-1) [] [])
noncomputable def lsg (i:Nat):List Int:=Nat.rec [1] (fun _ ih=>0 :: ih) i
noncomputable def Lx.fN (e:Lx):Lf:=Lx.rec (fun i=>.mk 0 (lsg i) []) (fun k=>.mk k [] []) (fun _ _ a b=>a.add b) (fun k _ a=>a.mul k) (fun k _ a=>a.mul k) (fun _ _=>.mk 0 [] []) (fun _ _ _ _=>.mk 0 [] []) (fun _ _=>.mk 0 [] []) e
noncomputable def Lx.fZ (e:Lx):Lf:=Lx.rec (fun i=>.mk 0 [] (lsg i)) (fun k=>.mk k [] []) (fun _ _ a b=>a.add b) (fun k _ a=>a.mul k) (fun k _ a=>a.mul k) (fun x _=>x.fN) (fun _ _ a b=>a.sub b) (fun _ a=>a.mul (-1)) e
noncomputable def lprod (A B:Ld):Ld:=A.flatMap fun a=>B.map (a++·)
noncomputable def lone (p:Lf):Ld:=[[(false,p)]]
noncomputable def lz (z:Bool) (x:Lx):Lf:=bif z then x.fZ else x.fN
noncomputable def ld (z:Bool) (x y:Lx):Lf:=(lz z y).sub (lz z x)
noncomputable def Lp.dnf (f:Lp):Bool→Ld:=Lp.rec (fun z x y b=>lone (bif b then ld z x y else (ld z y x).up)) (fun z x y b=>lone (bif b then (ld z x y).up else ld z y x))
  (fun z x y b=>bif b then [[(true,ld z y x)]] else lone (ld z y x).up++lone (ld z x y).up) (fun _ p b=>p (!b)) (fun _ _ p q b=>bif b then lprod (p b) (q b) else p b++q b) (fun _ _ p q b=>bif b then p b++q b else lprod (p b) (q b)) (fun _ _ p q b=>bif b then p (!b)++q b else lprod (p (!b)) (q b)) (fun b=>bif b then [] else [[]]) f
noncomputable def Lp.parts (f:Lp):Bool→List (Lp×Bool):=Lp.rec (fun z x y b=>[(.le z x y,b)]) (fun z x y b=>[(.lt z x y,b)]) (fun z x y b=>[(.eq z x y,b)]) (fun _ p b=>p (!b)) (fun f g p q b=>bif b then p b++q b else [(.an f g,b)])
  (fun f g p q b=>bif b then [(.or f g,b)] else p b++q b) (fun f g p q b=>bif b then [(.im f g,b)] else p (!b)++q b) (fun b=>[(.ff,b)]) f
noncomputable def Lp.cnf (f:Lp) (b:Bool):List Ld:=(f.parts b).map fun p=>p.1.dnf p.2
noncomputable def ltd (i:Nat) (t:Nat×Lx×Lx):Ld :=
  let x:=t.2.1.fN;let y:=t.2.2.fN;let v:=(Lx.v i).fN;let z:=t.2.1.fZ
  lget [] [[[(true,v),(false,y.sub x)],[(true,(v.add y).sub x)]],[[(false,x.sub v),(false,(v.add y).sub x)]],
    Lx.rec (fun _=>[]) (fun k=>[[(false,x.sub (v.mul k)),(false,((v.mul k).add (.mk ((k:Int) - 1) [] [])).sub x)]]) (fun _ _ _ _=>[]) (fun _ _ _=>[]) (fun _ _ _=>[]) (fun _ _=>[]) (fun _ _ _ _=>[]) (fun _ _=>[]) t.2.2,
    [[(true,v.sub x),(false,y.sub x)],[(true,v.sub y),(false,x.sub y)]],[[(true,v.sub x),(false,x.sub y)],[(true,v.sub y),(false,y.sub x)]],
    [[(true,v.sub z)],[(true,v),(false,z.mul (-1))]]] t.1
noncomputable def Lx.ok (n:Nat) (e:Lx):Bool:=Lx.rec (fun i=>Nat.ble (i+1) n) (fun _=>true) (fun _ _ a b=>a && b) (fun _ _ a=>a) (fun _ _ a=>a) (fun _ _=>true) (fun _ _ _ _=>true) (fun _ _=>true) e
noncomputable def Lx.okZ (n:Nat) (e:Lx):Bool:=Lx.rec (fun _=>true) (fun _=>true) (fun _ _ a b=>a && b) (fun _ _ a=>a) (fun _ _ a=>a) (fun x _=>x.ok n) (fun _ _ a b=>a && b) (fun _ a=>a) e
noncomputable def Lx.lit (e:Lx):Bool:=Lx.rec (fun _=>false) (fun k=>Nat.ble 1 k) (fun _ _ _ _=>false) (fun _ _ _=>false) (fun _ _ _=>false) (fun _ _=>false) (fun _ _ _ _=>false) (fun _ _=>false) e
noncomputable def ltok (n:Nat) (t:Nat×Lx×Lx):Bool:=lget false [t.2.1.ok n && t.2.2.ok n,t.2.1.ok n && t.2.2.ok n,t.2.1.ok n && t.2.2.lit,t.2.1.ok n && t.2.2.ok n,t.2.1.ok n && t.2.2.ok n,t.2.1.okZ n] t.1
noncomputable def lcomb (cs:List (Bool×Lf)):List Int→Lf:=List.rec (fun _=>.mk 0 [] []) (fun c _ ih ms=>List.rec (.mk 0 [] []) (fun m ms _=>bif c.1 || decide (0≤m) then (c.2.mul m).add (ih ms) else ih ms) ms) cs
noncomputable def Lf.bad (p:Lf):Bool:=Lf.rec (fun k n z=>decide (k < 0) && (lall (fun x=>decide (x≤0)) n && lall (fun x=>decide (x=0)) z)) p
noncomputable abbrev LinK:=List (Bool×Lf)→List (List Int)→Option (List (List Int))
noncomputable def lalt (f:LinK) (acc:List (Bool×Lf)) (d:Ld):List (List Int)→Option (List (List Int)):=List.rec some (fun a _ ih ms=>(f (a++acc) ms).bind ih) d
noncomputable def lgo (ds:List Ld):LinK:=List.rec (fun acc ms=>List.rec none (fun m ms _=>bif (lcomb acc m).bad then some ms else none) ms) (fun d _ ih acc ms=>List.rec none (fun m ms _=>List.rec (lalt ih acc d ms) (fun _ _ _=>bif (lcomb acc m).bad then some ms else none) m) ms) ds
noncomputable def ltab (ts:List (Nat×Lx×Lx)):Nat→List Ld:=List.rec (fun _=>[]) (fun t _ ih i=>ltd i t :: ih (i+1)) ts
noncomputable def lok (ts:List (Nat×Lx×Lx)):Nat→Bool:=List.rec (fun _=>true) (fun t _ ih i=>ltok i t && ih (i+1)) ts
noncomputable def lsing (d:Ld):Bool:=List.rec false (fun _ t _=>List.rec true (fun _ _ _=>false) t) d
noncomputable def lhd (ds:List Ld):List (Bool×Lf):=List.rec [] (fun d _ ih=>bif lsing d then List.rec ih (fun a _ _=>a++ih) d else ih) ds
noncomputable def ltl (ds:List Ld):List Ld:=List.rec [] (fun d _ ih=>bif lsing d then ih else d :: ih) ds
noncomputable def Lq.chk (n:Nat) (q:Lq):Bool:=Lq.rec (fun t h g ms=>lok t n && (lgo (ltl (g.cnf false++(ltab t n++h.flatMap (·.cnf true)))) (lhd (g.cnf false++(ltab t n++h.flatMap (·.cnf true)))) ms).isSome) q
noncomputable def ldot (a:List Int):List Int→Int:=List.rec (fun _=>0) (fun a _ ih x=>List.rec 0 (fun x xs _=>a * x+ih xs) x) a
theorem ldot_add (a:List Int):∀ b x:List Int,ldot (laddL a b) x=ldot a x+ldot b x:=by
  induction a with
  | nil=>exact fun b x=>(Int.zero_add _).symm
  | cons a as ih =>
    intro b x
    cases b with
    | nil=>exact (Int.add_zero _).symm
    | cons b bs =>
      cases x with
      | nil=>rfl
      | cons x xs=>show (a+b) * x+ldot (laddL as bs) xs=a * x+ldot as xs+(b * x+ldot bs xs);rw [ih,Int.add_mul,Int.add_assoc,Int.add_assoc,Int.add_left_comm (b * x)]
theorem ldot_mul (m:Int) (a:List Int):∀ x:List Int,ldot (a.map (m * ·)) x=m * ldot a x:=by
  induction a with
  | nil=>exact fun x=>(Int.mul_zero m).symm
  | cons a as ih =>
    intro x
    cases x with
    | nil=>exact (Int.mul_zero m).symm
    | cons x xs=>show m * a * x+ldot (as.map (m * ·)) xs=m * (a * x+ldot as xs);rw [ih,Int.mul_add,Int.mul_assoc]
theorem ldot_sg (i:Nat):∀ x:List Int,ldot (lsg i) x=lget 0 x i:=by
  induction i with
  | zero=>intro x;cases x with | nil=>rfl | cons x xs=>exact (Int.add_zero _).trans (Int.one_mul x)
  | succ i ih=>intro x;cases x with | nil=>rfl | cons x xs=>exact (congrArg (·+_) (Int.zero_mul x)).trans ((Int.zero_add _).trans (ih xs))
theorem lget_cast (l:List Nat):∀ i,lget 0 (l.map fun x:Nat=>(x:Int)) i=((lget 0 l i:Nat):Int):=by
  induction l with
  | nil=>exact fun _=>rfl
  | cons x xs ih=>intro i;cases i with | zero=>rfl | succ i=>exact ih i
section
variable (cn:List Nat) (cz:List Int)
noncomputable def Lf.val (p:Lf):Int:=Lf.rec (fun k n z=>k+(ldot n (cn.map fun x:Nat=>(x:Int))+ldot z cz)) p
theorem Lf.val_add (p q:Lf):(p.add q).val cn cz=p.val cn cz+q.val cn cz:=by
  cases p;cases q;show _+(ldot (laddL _ _) _+ldot (laddL _ _) _)=_+_+(_+_);rw [ldot_add,ldot_add];lia
theorem Lf.val_mul (m:Int) (p:Lf):(p.mul m).val cn cz=m * p.val cn cz:=by
  cases p;show _+(ldot (List.map _ _) _+ldot (List.map _ _) _)=m * (_+(_+_));rw [ldot_mul,ldot_mul,Int.mul_add,Int.mul_add]
theorem Lf.val_sub (p q:Lf):(p.sub q).val cn cz=p.val cn cz - q.val cn cz:=by
  rw [Lf.sub,Lf.val_add,Lf.val_mul,Int.neg_one_mul];rfl
theorem Lf.val_up (p:Lf):p.up.val cn cz=p.val cn cz - 1:=Lf.val_add cn cz p _
theorem Lx.val_N (e:Lx):(e.fN).val cn cz=(e.N cn:Int):=by
  induction e with
  | v i=>exact (Int.zero_add _).trans ((Int.add_zero _).trans ((ldot_sg i _).trans (lget_cast cn i)))
  | l k=>exact Int.add_zero _
  | a x y p q=>exact (Lf.val_add cn cz x.fN y.fN).trans (congr (congrArg HAdd.hAdd p) q)
  | m k x p=>exact (Lf.val_mul cn cz _ x.fN).trans (congrArg _ p)
  | r k x p=>exact (Lf.val_mul cn cz _ x.fN).trans ((congrArg _ p).trans (Int.mul_comm _ _))
  | _=>rfl
theorem Lx.val_Z (e:Lx):(e.fZ).val cn cz=e.Z cn cz:=by
  induction e with
  | v i=>exact (Int.zero_add _).trans ((Int.zero_add _).trans (ldot_sg i _))
  | l k=>exact Int.add_zero _
  | a x y p q=>exact (Lf.val_add cn cz x.fZ y.fZ).trans (congr (congrArg HAdd.hAdd p) q)
  | m k x p=>exact (Lf.val_mul cn cz _ x.fZ).trans (congrArg _ p)
  | r k x p=>exact (Lf.val_mul cn cz _ x.fZ).trans ((congrArg _ p).trans (Int.mul_comm _ _))
  | c x=>exact x.val_N cn cz
  | s x y p q=>exact (Lf.val_sub cn cz x.fZ y.fZ).trans (congr (congrArg HSub.hSub p) q)
  | n x p=>exact (Lf.val_mul cn cz _ x.fZ).trans ((congrArg _ p).trans (Int.neg_one_mul _))
noncomputable def lv (z:Bool) (x:Lx):Int:=bif z then x.Z cn cz else (x.N cn:Int)
theorem ld_val (z:Bool) (x y:Lx):(ld z x y).val cn cz=lv cn cz z y - lv cn cz z x :=
  (Lf.val_sub cn cz _ _).trans (by
    cases z
    · exact congr (congrArg HSub.hSub (y.val_N cn cz)) (x.val_N cn cz)
    · exact congr (congrArg HSub.hSub (y.val_Z cn cz)) (x.val_Z cn cz))
noncomputable def lsat (c:Bool×Lf):Prop:=bif c.1 then c.2.val cn cz=0 else 0≤c.2.val cn cz
noncomputable def lsats (a:List (Bool×Lf)):Prop:=∀ c∈a,lsat cn cz c
noncomputable def lsome (d:Ld):Prop:=∃ a∈d,lsats cn cz a
variable {cn cz}
theorem lsats_cons {c:Bool×Lf} {a:List (Bool×Lf)} (h:lsat cn cz c) (k:lsats cn cz a):lsats cn cz (c :: a):=List.forall_mem_cons.mpr ⟨h,k⟩
theorem lsats_nil:lsats cn cz []:=fun _ h=>nomatch h
theorem lsats_app {a b:List (Bool×Lf)} (h:lsats cn cz a) (k:lsats cn cz b):lsats cn cz (a++b):=fun c hc=>(List.mem_append.mp hc).elim (h c) (k c)
theorem lsome_one {a:List (Bool×Lf)} {d:Ld} (h:lsats cn cz a):lsome cn cz (a :: d):=⟨a,.head _,h⟩
theorem lsome_l {d e:Ld} (h:lsome cn cz d):lsome cn cz (d++e):=let ⟨a,ha,h⟩:=h;⟨a,List.mem_append_left _ ha,h⟩
theorem lsome_r {d e:Ld} (h:lsome cn cz e):lsome cn cz (d++e):=let ⟨a,ha,h⟩:=h;⟨a,List.mem_append_right _ ha,h⟩
theorem lsome_p {d e:Ld} (h:lsome cn cz d) (h':lsome cn cz e):lsome cn cz (lprod d e) :=
  let ⟨a,ha,h⟩:=h;let ⟨b,hb,h'⟩:=h'
  ⟨a++b,List.mem_flatMap.mpr ⟨a,ha,List.mem_map.mpr ⟨b,hb,rfl⟩⟩,lsats_app h h'⟩
theorem lone_le {z:Bool} {x y:Lx} (h:lv cn cz z x≤lv cn cz z y):lsome cn cz (lone (ld z x y)):=lsome_one (lsats_cons (show 0≤(ld z x y).val cn cz from (ld_val cn cz z x y).symm ▸ Int.sub_nonneg_of_le h) lsats_nil)
theorem lone_lt {z:Bool} {x y:Lx} (h:lv cn cz z x < lv cn cz z y):lsome cn cz (lone (ld z x y).up):=lsome_one (lsats_cons (show 0≤(ld z x y).up.val cn cz by rw [Lf.val_up,ld_val];lia) lsats_nil)
theorem lone_eq {z:Bool} {x y:Lx} (h:lv cn cz z x=lv cn cz z y):lsome cn cz [[(true,ld z y x)]]:=lsome_one (lsats_cons (show (ld z y x).val cn cz=0 from (ld_val cn cz z y x).trans (Int.sub_eq_zero_of_eq h)) lsats_nil)
theorem lle {z:Bool} {x y:Lx}:(Lp.le z x y).den cn cz ↔ lv cn cz z x≤lv cn cz z y:=by
  cases z
  · exact Int.ofNat_le.symm
  · exact .rfl
theorem llt {z:Bool} {x y:Lx}:(Lp.lt z x y).den cn cz ↔ lv cn cz z x < lv cn cz z y:=by
  cases z
  · exact Int.ofNat_lt.symm
  · exact .rfl
theorem leq {z:Bool} {x y:Lx}:(Lp.eq z x y).den cn cz ↔ lv cn cz z x=lv cn cz z y:=by
  cases z
  · exact Int.ofNat_inj.symm
  · exact .rfl
theorem Lp.dnf_ok (f:Lp):(f.den cn cz→lsome cn cz (f.dnf true))∧(¬ f.den cn cz→lsome cn cz (f.dnf false)):=by
  induction f with
  | le z x y=>exact ⟨fun h=>lone_le (lle.mp h),fun h=>lone_lt (Int.not_le.mp fun k=>h (lle.mpr k))⟩
  | lt z x y=>exact ⟨fun h=>lone_lt (llt.mp h),fun h=>lone_le (Int.not_lt.mp fun k=>h (llt.mpr k))⟩
  | eq z x y=>exact ⟨fun h=>lone_eq (leq.mp h),fun h=>(Int.lt_or_gt_of_ne fun k=>h (leq.mpr k)).elim (fun h=>lsome_r (lone_lt h)) fun h=>lsome_l (lone_lt h)⟩
  | no f p=>exact ⟨p.2,fun h=>p.1 (Classical.not_not.mp h)⟩
  | an f g p q=>exact ⟨fun h=>lsome_p (p.1 h.1) (q.1 h.2),fun h=>(Classical.not_and_iff_not_or_not.mp h).elim (fun h=>lsome_l (p.2 h)) fun h=>lsome_r (q.2 h)⟩
  | or f g p q=>exact ⟨fun h=>h.elim (fun h=>lsome_l (p.1 h)) fun h=>lsome_r (q.1 h),fun h=>lsome_p (p.2 fun x=>h (.inl x)) (q.2 fun x=>h (.inr x))⟩
  | im f g p q=>exact ⟨fun h=>(Classical.em (f.den cn cz)).elim (fun x=>lsome_r (q.1 (h x))) fun x=>lsome_l (p.2 x),fun h=>lsome_p (p.1 (Classical.byContradiction fun x=>h fun y=>absurd y x)) (q.2 fun x=>h fun _=>x)⟩
  | ff=>exact ⟨False.elim,fun _=>lsome_one lsats_nil⟩
noncomputable def lholds (cn:List Nat) (cz:List Int) (p:Lp×Bool):Prop:=bif p.2 then p.1.den cn cz else ¬ p.1.den cn cz
theorem Lp.parts_ok (f:Lp):∀ b,lholds cn cz (f,b)→∀ p∈f.parts b,lholds cn cz p:=by
  have one:∀ {g:Lp} {b},lholds cn cz (g,b)→∀ p∈[(g,b)],lholds cn cz p:=fun h p hp=>(List.mem_singleton.mp hp) ▸ h
  have two:∀ {A B:List (Lp×Bool)},(∀ p∈A,lholds cn cz p)→(∀ p∈B,lholds cn cz p)→∀ p∈A++B,lholds cn cz p:=fun h k p hp=>(List.mem_append.mp hp).elim (h p) (k p)
  induction f with
  | no f p=>intro b h;cases b with | false=>exact p true (Classical.not_not.mp h) | true=>exact p false h
  | an f g p q=>intro b h;cases b with | false=>exact one h | true=>exact two (p true h.1) (q true h.2)
  | or f g p q=>intro b h;cases b with | true=>exact one h | false=>exact two (p false fun x=>h (.inl x)) (q false fun x=>h (.inr x))
  | im f g p q=>intro b h;cases b with | true=>exact one h | false=>exact two (p true (Classical.byContradiction fun x=>h fun y=>absurd y x)) (q false fun x=>h fun _=>x)
  | _=>exact fun b h=>one h
theorem Lp.cnf_ok (f:Lp) (b:Bool) (h:lholds cn cz (f,b)):∀ d∈f.cnf b,lsome cn cz d:=fun d hd=>by
  obtain ⟨⟨g,c⟩,hp,rfl⟩:=List.mem_map.mp hd
  have:=f.parts_ok b h _ hp
  cases c with
  | true=>exact g.dnf_ok.1 this
  | false=>exact g.dnf_ok.2 this
theorem lcomb_ok (a:List (Bool×Lf)):∀ ms:List Int,lsats cn cz a→0≤(lcomb a ms).val cn cz:=by
  induction a with
  | nil=>exact fun _ _=>Int.le_refl 0
  | cons c cs ih =>
    intro ms h
    cases ms with
    | nil=>exact Int.le_refl 0
    | cons m ms =>
      have h:=List.forall_mem_cons.mp h
      have ih:=ih ms h.2
      show 0≤(bif c.1 || decide (0≤m) then (c.2.mul m).add (lcomb cs ms) else lcomb cs ms).val cn cz
      cases e:c.1 || decide (0≤m) with
      | false=>exact ih
      | true =>
        rw [cond_true,Lf.val_add,Lf.val_mul]
        refine Int.add_nonneg ?_ ih
        have hc:=h.1
        rw [lsat] at hc
        cases k:c.1 with
        | true=>rw [k] at hc;rw [show c.2.val cn cz=0 from hc,Int.mul_zero];exact Int.le_refl 0
        | false=>rw [k] at hc e;exact Int.mul_nonneg (of_decide_eq_true e) hc
theorem ldot_neg (n:List Int):∀ c:List Nat,lall (fun x=>decide (x≤0)) n=true→ldot n (c.map fun x:Nat=>(x:Int))≤0:=by
  induction n with
  | nil=>exact fun _ _=>Int.le_refl 0
  | cons a as ih =>
    intro c h
    cases c with
    | nil=>exact Int.le_refl 0
    | cons x xs=>have h:=Bool.and_eq_true_iff.mp h;exact Int.add_nonpos (Int.mul_nonpos_of_nonpos_of_nonneg (of_decide_eq_true h.1) (Int.natCast_nonneg x)) (ih xs h.2)
theorem ldot_nul (n:List Int):∀ c:List Int,lall (fun x=>decide (x=0)) n=true→ldot n c=0:=by
  induction n with
  | nil=>exact fun _ _=>rfl
  | cons a as ih =>
    intro c h
    cases c with
    | nil=>rfl
    | cons x xs =>
      have h:=Bool.and_eq_true_iff.mp h
      show a * x+ldot as xs=0
      rw [of_decide_eq_true h.1,Int.zero_mul,Int.zero_add];exact ih xs h.2
theorem Lf.bad_ok (p:Lf) (h:p.bad=true):p.val cn cz < 0:=by
  cases p with
  | mk k n z =>
    have h:=Bool.and_eq_true_iff.mp h
    have h':=Bool.and_eq_true_iff.mp h.2
    show k+(ldot n _+ldot z cz) < 0
    rw [ldot_nul z cz h'.2,Int.add_zero]
    exact Int.add_neg_of_neg_of_nonpos (of_decide_eq_true h.1) (ldot_neg n cn h'.1)
theorem lalt_ok {f:LinK} {acc:List (Bool×Lf)} (d:Ld):∀ ms:List (List Int),(lalt f acc d ms).isSome=true→∀ a∈d,∃ r,(f (a++acc) r).isSome=true:=by
  induction d with
  | nil=>exact fun _ _ a ha=>nomatch ha
  | cons b d ih =>
    intro ms h
    cases e:f (b++acc) ms with
    | none=>exact nomatch (congrArg (fun x=>(Option.bind x (lalt f acc d)).isSome) e).symm.trans h
    | some r=>exact List.forall_mem_cons.mpr ⟨⟨ms,by rw [e];rfl⟩,ih r ((congrArg (fun x=>(Option.bind x (lalt f acc d)).isSome) e).symm.trans h)⟩
theorem lgo_ok (ds:List Ld):∀ (acc:List (Bool×Lf)) (ms:List (List Int)),(lgo ds acc ms).isSome=true→(∀ d∈ds,lsome cn cz d)→lsats cn cz acc→False:=by
  have leaf:∀ {acc:List (Bool×Lf)} {m:List Int} {ms:List (List Int)},(bif (lcomb acc m).bad then some ms else none).isSome=true→lsats cn cz acc→False:=fun {acc m ms} h q=>by
    cases e:(lcomb acc m).bad with
    | false=>exact nomatch (congrArg (fun b=>(bif b then some ms else none).isSome) e).symm.trans h
    | true=>exact absurd (lcomb_ok acc m q) (Int.not_le.mpr (Lf.bad_ok _ e))
  induction ds with
  | nil =>
    intro acc ms h _ q
    cases ms with
    | nil=>exact nomatch h
    | cons m ms=>exact leaf h q
  | cons d ds ih =>
    intro acc ms h hd q
    cases ms with
    | nil=>exact nomatch h
    | cons m ms =>
      cases m with
      | cons k m=>exact leaf (m:=k :: m) h q
      | nil =>
        have hd:=List.forall_mem_cons.mp hd
        obtain ⟨a,ha,qa⟩:=hd.1
        obtain ⟨r,hr⟩:=lalt_ok d ms h a ha
        exact ih _ r hr hd.2 (lsats_app qa q)
theorem lhd_ok (ds:List Ld):(∀ d∈ds,lsome cn cz d)→lsats cn cz (lhd ds)∧∀ d∈ltl ds,lsome cn cz d:=by
  induction ds with
  | nil=>exact fun _=>⟨lsats_nil,fun _ h=>nomatch h⟩
  | cons d ds ih =>
    intro h
    have h:=List.forall_mem_cons.mp h
    have ih:=ih h.2
    cases d with
    | nil=>exact ⟨ih.1,List.forall_mem_cons.mpr ⟨h.1,ih.2⟩⟩
    | cons a d =>
      cases d with
      | nil=>obtain ⟨b,hb,hs⟩:=h.1;rw [List.mem_singleton.mp hb] at hs;exact ⟨lsats_app hs ih.1,ih.2⟩
      | cons b d=>exact ⟨ih.1,List.forall_mem_cons.mpr ⟨h.1,ih.2⟩⟩
end
theorem ltd_ok (cn:List Nat) (cz:List Int) (i:Nat) (t:Nat×Lx×Lx) {n:Nat} (ht:ltok n t=true) (hx:(Lx.v i).N cn=ltv cn cz t):lsome cn cz (ltd i t):=by
  obtain ⟨k,x,y⟩:=t
  have hv:=(Lx.v i).val_N cn cz
  rw [hx] at hv
  have eq:∀ {p:Lf} {z:Int},p.val cn cz=z→z=0→lsat cn cz (true,p):=fun a b=>a.trans b
  have le:∀ {p:Lf} {z:Int},p.val cn cz=z→0≤z→lsat cn cz (false,p):=fun a b=>show 0≤_ from a ▸ b
  have one:∀ {c:Bool×Lf} {d:Ld},lsat cn cz c→lsome cn cz ([c] :: d):=fun h=>lsome_one (lsats_cons h lsats_nil)
  have two:∀ {c e:Bool×Lf} {d:Ld},lsat cn cz c→lsat cn cz e→lsome cn cz ([c,e] :: d):=fun h k=>lsome_one (lsats_cons h (lsats_cons k lsats_nil))
  have sub:∀ {p q:Lf} {a b:Int},p.val cn cz=a→q.val cn cz=b→(p.sub q).val cn cz=a - b:=fun h k=>by rw [Lf.val_sub,h,k]
  have add:∀ {p q:Lf} {a b:Int},p.val cn cz=a→q.val cn cz=b→(p.add q).val cn cz=a+b:=fun h k=>by rw [Lf.val_add,h,k]
  have vx:=x.val_N cn cz
  have vy:=y.val_N cn cz
  have vz:=x.val_Z cn cz
  match k with
  | 0 =>
    have hv:((Lx.v i).fN).val cn cz=((x.N cn - y.N cn:Nat):Int):=hv
    rcases Nat.le_total (x.N cn) (y.N cn) with h | h
    · exact two (eq hv (by rw [Nat.sub_eq_zero_of_le h];rfl)) (le (sub vy vx) (Int.sub_nonneg_of_le (Int.ofNat_le.mpr h)))
    · exact lsome_r (d:=[_]) (one (eq (sub (add hv vy) vx) (by rw [Int.ofNat_sub h,Int.sub_add_cancel,Int.sub_self])))
  | 1 =>
    have hv:((Lx.v i).fN).val cn cz=((x.N cn - y.N cn:Nat):Int):=hv
    exact two (le (sub vx hv) (Int.sub_nonneg_of_le (Int.ofNat_le.mpr (Nat.sub_le _ _)))) (le (sub (add hv vy) vx) (Int.sub_nonneg_of_le (Int.ofNat_le.mpr (Nat.sub_le_iff_le_add.mp (Nat.le_refl _)))))
  | 2 =>
    have hv:((Lx.v i).fN).val cn cz=((x.N cn / y.N cn:Nat):Int):=hv
    cases y with
    | l k =>
      have hk:1≤k:=Nat.le_of_ble_eq_true (Bool.and_eq_true_iff.mp ht).2
      have h1:k * (x.N cn / k)≤x.N cn:=Nat.mul_div_le _ _
      have h2:x.N cn < k * (x.N cn / k)+k:=Nat.lt_mul_div_succ (x.N cn) hk
      have hm:(((Lx.v i).fN).mul k).val cn cz=((k * (x.N cn / k):Nat):Int):=(Lf.val_mul cn cz _ _).trans (congrArg _ hv)
      exact two (le (sub vx hm) (Int.sub_nonneg_of_le (Int.ofNat_le.mpr h1))) (le (sub (add hm (show (Lf.mk ((k:Int) - 1) [] []).val cn cz=(k:Int) - 1 from Int.add_zero _)) vx) (by lia))
    | _=>cases (Bool.and_eq_true_iff.mp ht).2
  | 3 =>
    have hv:((Lx.v i).fN).val cn cz=((min (x.N cn) (y.N cn):Nat):Int):=hv
    rcases Nat.le_total (x.N cn) (y.N cn) with h | h
    · exact two (eq (sub hv vx) (by rw [Nat.min_eq_left h,Int.sub_self])) (le (sub vy vx) (Int.sub_nonneg_of_le (Int.ofNat_le.mpr h)))
    · exact lsome_r (d:=[_]) (two (eq (sub hv vy) (by rw [Nat.min_eq_right h,Int.sub_self])) (le (sub vx vy) (Int.sub_nonneg_of_le (Int.ofNat_le.mpr h))))
  | 4 =>
    have hv:((Lx.v i).fN).val cn cz=((max (x.N cn) (y.N cn):Nat):Int):=hv
    rcases Nat.le_total (y.N cn) (x.N cn) with h | h
    · exact two (eq (sub hv vx) (by rw [Nat.max_eq_left h,Int.sub_self])) (le (sub vx vy) (Int.sub_nonneg_of_le (Int.ofNat_le.mpr h)))
    · exact lsome_r (d:=[_]) (two (eq (sub hv vy) (by rw [Nat.max_eq_right h,Int.sub_self])) (le (sub vy vx) (Int.sub_nonneg_of_le (Int.ofNat_le.mpr h))))
  | 5 =>
    have hv:((Lx.v i).fN).val cn cz=(((x.Z cn cz).toNat:Nat):Int):=hv
    rcases Int.le_total 0 (x.Z cn cz) with h | h
    · exact one (eq (sub hv vz) (by rw [Int.toNat_of_nonneg h,Int.sub_self]))
    · exact lsome_r (d:=[_]) (two (eq hv (by rw [Int.toNat_of_nonpos h];rfl)) (le ((Lf.val_mul cn cz _ _).trans (congrArg _ vz)) (by lia)))
  | k+6=>cases ht
theorem lget_app (l w:List Nat):∀ i,Nat.ble (i+1) l.length=true→lget 0 (l++w) i=lget 0 l i:=by
  induction l with
  | nil=>exact fun _ h=>nomatch h
  | cons x xs ih=>intro i h;cases i with | zero=>rfl | succ i=>exact ih i h
theorem lget_end (l w:List Nat) (x:Nat):lget 0 (l++x :: w) l.length=x:=by
  induction l with
  | nil=>rfl
  | cons _ _ ih=>exact ih
theorem Lx.N_ext (cn w:List Nat) (e:Lx):e.ok cn.length=true→e.N (cn++w)=e.N cn:=by
  induction e with
  | v i=>exact lget_app cn w i
  | a x y p q=>intro h;have h:=Bool.and_eq_true_iff.mp h;show x.N (cn++w)+y.N (cn++w)=x.N cn+y.N cn;rw [p h.1,q h.2]
  | m k x p=>exact fun h=>congrArg (k * ·) (p h)
  | r k x p=>exact fun h=>congrArg (· * k) (p h)
  | _=>exact fun _=>rfl
theorem lcg2 {α β:Type} (f:α→α→β) {a b c d:α} (p:a=c) (q:b=d):f a b=f c d:=p ▸ q ▸ rfl
theorem Lx.Z_ext (cn w:List Nat) (cz:List Int) (e:Lx):e.okZ cn.length=true→e.Z (cn++w) cz=e.Z cn cz:=by
  induction e with
  | a x y p q=>intro h;have h:=Bool.and_eq_true_iff.mp h;exact lcg2 HAdd.hAdd (p h.1) (q h.2)
  | s x y p q=>intro h;have h:=Bool.and_eq_true_iff.mp h;exact lcg2 HSub.hSub (p h.1) (q h.2)
  | m k x p=>exact fun h=>congrArg ((k:Int) * ·) (p h)
  | r k x p=>exact fun h=>congrArg (· * (k:Int)) (p h)
  | n x p=>exact fun h=>congrArg Int.neg (p h)
  | c x _=>exact fun h=>congrArg _ (x.N_ext cn w h)
  | _=>exact fun _=>rfl
theorem ltv_ext (cn w:List Nat) (cz:List Int) (t:Nat×Lx×Lx) (h:ltok cn.length t=true):ltv (cn++w) cz t=ltv cn cz t:=by
  obtain ⟨k,x,y⟩:=t
  have N2:∀ {x y:Lx},(x.ok cn.length && y.ok cn.length)=true→x.N (cn++w)=x.N cn∧y.N (cn++w)=y.N cn:=fun h=>⟨Lx.N_ext _ _ _ (Bool.and_eq_true_iff.mp h).1,Lx.N_ext _ _ _ (Bool.and_eq_true_iff.mp h).2⟩
  match k with
  | 0=>exact lcg2 HSub.hSub (N2 h).1 (N2 h).2
  | 1=>exact lcg2 HSub.hSub (N2 h).1 (N2 h).2
  | 2 =>
    cases y with
    | l k=>exact congrArg (· / k) (x.N_ext cn w (Bool.and_eq_true_iff.mp h).1)
    | _=>cases (Bool.and_eq_true_iff.mp h).2
  | 3=>exact lcg2 min (N2 h).1 (N2 h).2
  | 4=>exact lcg2 max (N2 h).1 (N2 h).2
  | 5=>exact congrArg Int.toNat (x.Z_ext cn w cz h)
  | k+6=>cases h
theorem lext_pre (cz:List Int) (ts:List (Nat×Lx×Lx)):∀ cn:List Nat,∃ l,lext cz ts cn=cn++l:=by
  induction ts with
  | nil=>exact fun cn=>⟨[],(List.append_nil cn).symm⟩
  | cons t ts ih=>intro cn;obtain ⟨l,e⟩:=ih (cn++[_]);exact ⟨_,e.trans (List.append_assoc _ _ _)⟩
theorem ltab_ok (cz:List Int) (ts:List (Nat×Lx×Lx)):∀ cn:List Nat,lok ts cn.length=true→∀ d∈ltab ts cn.length,lsome (lext cz ts cn) cz d:=by
  induction ts with
  | nil=>exact fun _ _ d hd=>nomatch hd
  | cons t ts ih =>
    intro cn h
    have h:=Bool.and_eq_true_iff.mp h
    have hl:(cn++[ltv cn cz t]).length=cn.length+1:=List.length_append
    refine List.forall_mem_cons.mpr ⟨ltd_ok _ cz _ t h.1 ?_,?_⟩
    · obtain ⟨l,e⟩:=lext_pre cz ts (cn++[ltv cn cz t])
      show lget 0 (lext cz ts _) _=ltv (lext cz ts _) cz t
      rw [e,List.append_assoc,ltv_ext _ _ _ _ h.1];exact lget_end _ _ _
    · have:=ih (cn++[ltv cn cz t]);rw [hl] at this;exact this h.2
theorem lden_ok (cn:List Nat) (cz:List Int) (g:Prop) (hs:List Lp):((∀ h∈hs,h.den cn cz)→g)→ldenL cn cz g hs:=by
  induction hs with
  | nil=>exact fun h=>h fun _ x=>nomatch x
  | cons f hs ih=>exact fun h q=>ih fun k=>h (List.forall_mem_cons.mpr ⟨q,k⟩)
theorem Lq.sound (q:Lq) (cn:List Nat) (cz:List Int) (h:q.chk cn.length=true):q.den cn cz:=by
  cases q with
  | mk t hs g ms =>
    have h:=Bool.and_eq_true_iff.mp h
    refine lden_ok _ cz _ hs fun hh=>Classical.byContradiction fun hg=>?_
    have k:=lhd_ok (cn:=lext cz t cn) (cz:=cz) (g.cnf false++(ltab t cn.length++hs.flatMap (·.cnf true))) fun d hd=>(List.mem_append.mp hd).elim (g.cnf_ok false hg d) fun hd=>(List.mem_append.mp hd).elim (ltab_ok cz t cn h.1 d) fun hd=>?_
    · exact lgo_ok _ _ ms h.2 k.2 k.1
    · obtain ⟨f,hf,hd⟩:=List.mem_flatMap.mp hd
      exact f.cnf_ok true (hh f hf) d hd
section
variable {α:Type}
noncomputable abbrev lDi (n:Nat) (k:Nat→Nat→α):α:=k (n % 16) (n / 16)
noncomputable abbrev lDl (e n:Nat) (k:Nat→Nat→α):α:=k (n % 16 ^ e) (n / 16 ^ e)
noncomputable abbrev lDe (f:Nat):Nat→(Lx→Nat→α)→α:=Nat.rec (fun n k=>k (.l 0) n) (fun _ ih n k=>lDi n fun d n=>bif Nat.ble d 6 then k (.v d) n else
  lget (lDl 2 n fun e n=>ih n fun x n=>k (.r e x) n) [lDi n fun e n=>k (.v (e+7)) n,lDi n fun e n=>k (.l (lget 0 [0,1,2,3,4,5,6,7,8,9,10,11,12,13,14,15] e)) n,lDi n fun e n=>lDl (e+2) n fun d n=>k (.l d) n,ih n fun x n=>ih n fun y n=>k (.a x y) n,lDl 2 n fun e n=>ih n fun x n=>k (.m e x) n,ih n fun x n=>k (.c x) n,ih n fun x n=>ih n fun y n=>k (.s x y) n,ih n fun x n=>k (.n x) n] (d - 7)) f
noncomputable abbrev lD2 (n:Nat) (k:Lx→Lx→Nat→α):α:=lDe 9 n fun x n=>lDe 9 n fun y n=>k x y n
noncomputable abbrev lDp (f:Nat):Nat→(Lp→Nat→α)→(Nat→α)→α:=Nat.rec (fun n k _=>k .ff n) (fun _ ih n k z=>lDi n fun d n =>
  lget (z n) [lD2 n fun x y n=>k (.le false x y) n,lD2 n fun x y n=>k (.lt false x y) n,lD2 n fun x y n=>k (.eq false x y) n,lD2 n fun x y n=>k (.le true x y) n,lD2 n fun x y n=>k (.lt true x y) n,lD2 n fun x y n=>k (.eq true x y) n,
    ih n (fun x n=>k (.no x) n) z,ih n (fun x n=>ih n (fun y n=>k (.an x y) n) z) z,ih n (fun x n=>ih n (fun y n=>k (.or x y) n) z) z,k .ff n,ih n (fun x n=>ih n (fun y n=>k (.im x y) n) z) z] d) f
noncomputable abbrev lDts (f:Nat):Nat→(List (Nat×Lx×Lx)→Nat→α)→α:=Nat.rec (fun n k=>k [] n) (fun _ ih n k=>lDi n fun d n=>bif Nat.ble d 5 then lD2 n fun x y n=>ih n fun ts n=>k ((d,x,y) :: ts) n else k [] n) f
noncomputable abbrev lDps (f:Nat):Nat→(List Lp→Nat→α)→α:=Nat.rec (fun n k=>k [] n) (fun _ ih n k=>lDp 9 n (fun t n=>ih n fun ts n=>k (t :: ts) n) fun n=>k [] n) f
noncomputable abbrev lDm (f:Nat):Nat→(List Int→Nat→α)→α:=Nat.rec (fun n k=>k [] n) (fun _ ih n k=>lDi n fun d n =>
  bif Nat.ble d 7 then ih n fun ms n=>k (Int.ofNat d :: ms) n else bif Nat.ble d 13 then ih n fun ms n=>k (Int.negSucc (d - 8) :: ms) n else bif Nat.ble d 14 then ih (n / 256) fun ms r=>k (Int.ofNat (n % 256) :: ms) r else k [] n) f
noncomputable abbrev lDms (f:Nat):Nat→(List (List Int)→α)→α:=Nat.rec (fun _ k=>k []) (fun _ ih n k=>bif Nat.beq n 0 then k [] else lDm 60 n fun m n=>ih n fun ms=>k (m :: ms)) f
end
noncomputable abbrev ldec (n:Nat):Lq:=lDts 9 n fun t n=>lDps 30 n fun h n=>lDp 9 n (fun g n=>lDms 70 n fun ms=>.mk t h g ms) fun _=>.mk [] [] .ff []
theorem lq1 {a:Nat} (n:Nat) (ok:(ldec n).chk 1=true):(ldec n).den [a] []:=Lq.sound _ _ _ ok
theorem aQ {a b:Nat} (n:Nat) (ok:(ldec n).chk 2=true):(ldec n).den [a,b] []:=Lq.sound _ _ _ ok
theorem aZ {a b c:Nat} (n:Nat) (ok:(ldec n).chk 3=true):(ldec n).den [a,b,c] []:=Lq.sound _ _ _ ok
theorem lq4 {a b c d:Nat} (n:Nat) (ok:(ldec n).chk 4=true):(ldec n).den [a,b,c,d] []:=Lq.sound _ _ _ ok
theorem lq5 {a b c d e:Nat} (n:Nat) (ok:(ldec n).chk 5=true):(ldec n).den [a,b,c,d,e] []:=Lq.sound _ _ _ ok
theorem lq6 {a b c d e f:Nat} (n:Nat) (ok:(ldec n).chk 6=true):(ldec n).den [a,b,c,d,e,f] []:=Lq.sound _ _ _ ok
theorem lq7 {a b c d e f g:Nat} (n:Nat) (ok:(ldec n).chk 7=true):(ldec n).den [a,b,c,d,e,f,g] []:=Lq.sound _ _ _ ok
theorem lq8 {a b c d e f g h:Nat} (n:Nat) (ok:(ldec n).chk 8=true):(ldec n).den [a,b,c,d,e,f,g,h] []:=Lq.sound _ _ _ ok
theorem lqx (cn:List Nat) (cz:List Int) (n:Nat) (ok:(ldec n).chk cn.length=true):(ldec n).den cn cz:=Lq.sound _ _ _ ok
end

noncomputable abbrev matchCls:Addr:=135
mutual
inductive Rep (bad:Addr→Prop) (h:Heap):PyData→Value→Prop
  | none:Rep bad h .none .none
  | bool (b:Bool):Rep bad h (.bool b) (.bool b)
  | int (i:Int) (t:Tok):Rep bad h (.int i) (.int i t)
  | str (x:Str) (t:Tok):Rep bad h (.str x) (.str x t)
  | list {a:Addr} {vs:Array Value} {n:Nat} {xs:List PyData}:¬ bad a→h.get? a=some { cls:=.type "list",data:=.seq vs n }→RepL bad h xs vs.toList→Rep bad h (.list xs) (.ref a)
  | tuple {a:Addr} {vs:Array Value} {n:Nat} {xs:List PyData}:¬ bad a→h.get? a=some { cls:=.type "tuple",data:=.seq vs n }→RepL bad h xs vs.toList→Rep bad h (.tuple xs) (.ref a)
  /-- an object of the class Match (a tuple of its own class) -/
  | mt {a:Addr} {dd:Option Addr} {vs:Array Value} {n:Nat} {xs:List PyData}:¬ bad a→h.get? a=some { cls:=.ref matchCls,dict:=dd,data:=.seq vs n }→RepL bad h xs vs.toList→Rep bad h (.dict [(.none,.tuple xs)]) (.ref a)
inductive RepL (bad:Addr→Prop) (h:Heap):List PyData→List Value→Prop
  | nil:RepL bad h [] []
  | cons {d:PyData} {ds:List PyData} {v:Value} {vs:List Value}:Rep bad h d v→RepL bad h ds vs→RepL bad h (d :: ds) (v :: vs)
end

noncomputable def KeepSeq (bad:Addr→Prop) (h h':Heap):Prop:=∀ b o vs n,¬ bad b→h.get? b=some o→o.data=.seq vs n→h'.get? b=some o

theorem RepL.ind {bad:Addr→Prop} {h:Heap} {P:List PyData→List Value→Prop} (nil:P [] []) (cons:∀ {d ds v vs},Rep bad h d v→RepL bad h ds vs→P ds vs→P (d :: ds) (v :: vs)) {ds:List PyData} {vs:List Value} (r:RepL bad h ds vs):P ds vs :=
  RepL.rec (motive_1:=fun _ _ _=>True) (motive_2:=fun ds vs _=>P ds vs) trivial (fun _=>trivial) (fun _ _=>trivial) (fun _ _=>trivial) (fun _ _ _ _=>trivial) (fun _ _ _ _=>trivial) (fun _ _ _ _=>trivial) nil (fun a b _ ih=>cons a b ih) r
theorem RepL.inv {bad:Addr→Prop} {h:Heap} {d:PyData} {ds:List PyData} {L:List Value} (q:RepL bad h (d :: ds) L):∃ v vs,L=v :: vs∧Rep bad h d v∧RepL bad h ds vs:=by
  cases q with | cons a b=>exact ⟨_,_,rfl,a,b⟩
@[elab_as_elim] theorem RepL.oneE {bad:Addr→Prop} {h:Heap} {d:PyData} {L:List Value} {P:List Value→Prop} (q:RepL bad h [d] L) (H:∀ v,Rep bad h d v→P [v]):P L:=by
  obtain ⟨v,vs,rfl,a,b⟩:=q.inv
  cases b;exact H v a
@[elab_as_elim] theorem RepL.twoE {bad:Addr→Prop} {h:Heap} {d e:PyData} {L:List Value} {P:List Value→Prop} (q:RepL bad h [d,e] L) (H:∀ v w,Rep bad h d v→Rep bad h e w→P [v,w]):P L:=by
  obtain ⟨v,vs,rfl,a,b⟩:=q.inv
  exact b.oneE (P:=fun x=>P (v :: x)) fun w c=>H v w a c
@[elab_as_elim] theorem Rep.intE {bad:Addr→Prop} {h:Heap} {i:Int} {v:Value} {P:Value→Prop} (q:Rep bad h (.int i) v) (H:∀ t,P (.int i t)):P v:=by cases q;exact H _
@[elab_as_elim] theorem Rep.listE {bad:Addr→Prop} {h:Heap} {xs:List PyData} {v:Value} {P:Value→Prop} (q:Rep bad h (.list xs) v) (H:∀ a vs n,¬ bad a→h.get? a=some { cls:=.type "list",data:=.seq vs n }→RepL bad h xs vs.toList→P (.ref a)):P v:=by cases q;exact H _ _ _ (by assumption) (by assumption) (by assumption)
@[elab_as_elim] theorem Rep.tupE {bad:Addr→Prop} {h:Heap} {xs:List PyData} {v:Value} {P:Value→Prop} (q:Rep bad h (.tuple xs) v) (H:∀ a vs n,¬ bad a→h.get? a=some { cls:=.type "tuple",data:=.seq vs n }→RepL bad h xs vs.toList→P (.ref a)):P v:=by cases q;exact H _ _ _ (by assumption) (by assumption) (by assumption)
@[elab_as_elim] theorem Rep.mtE {bad:Addr→Prop} {h:Heap} {xs:List PyData} {v:Value} {P:Value→Prop} (q:Rep bad h (.dict [(.none,.tuple xs)]) v) (H:∀ a dd vs n,¬ bad a→h.get? a=some { cls:=.ref matchCls,dict:=dd,data:=.seq vs n }→RepL bad h xs vs.toList→P (.ref a)):P v:=by cases q;exact H _ _ _ _ (by assumption) (by assumption) (by assumption)
theorem RepL.inv0 {bad:Addr→Prop} {h:Heap} {L:List Value} (q:RepL bad h [] L):L=[]:=by cases q;rfl
section
variable {bad bad':Addr→Prop} {h h':Heap} (k:∀ a o vs n,¬ bad a→h.get? a=some o→o.data=.seq vs n→¬ bad' a∧h'.get? a=some o)
include k
theorem Rep.map {d:PyData} {v:Value} (r:Rep bad h d v):Rep bad' h' d v :=
  Rep.rec (motive_1:=fun d v _=>Rep bad' h' d v) (motive_2:=fun ds vs _=>RepL bad' h' ds vs) .none .bool .int .str
    (fun hb ho _ ih=>let ⟨a,b⟩:=k _ _ _ _ hb ho rfl;.list a b ih) (fun hb ho _ ih=>let ⟨a,b⟩:=k _ _ _ _ hb ho rfl;.tuple a b ih) (fun hb ho _ ih=>let ⟨a,b⟩:=k _ _ _ _ hb ho rfl;.mt a b ih) .nil (fun _ _ a b=>.cons a b) r
theorem RepL.map {ds:List PyData} {vs:List Value} (r:RepL bad h ds vs):RepL bad' h' ds vs:=r.ind .nil fun a _ ih=>.cons (a.map k) ih
end
theorem KeepSeq.map {bad:Addr→Prop} {h h':Heap} (k:KeepSeq bad h h'):∀ a o vs n,¬ bad a→h.get? a=some o→o.data=.seq vs n→¬ bad a∧h'.get? a=some o:=fun a o vs n hb e ed=>⟨hb,k a o vs n hb e ed⟩
theorem Rep.keep {bad:Addr→Prop} {h h':Heap} (k:KeepSeq bad h h') {d:PyData} {v:Value} (r:Rep bad h d v):Rep bad h' d v:=r.map k.map
theorem RepL.keep {bad:Addr→Prop} {h h':Heap} (k:KeepSeq bad h h') {ds:List PyData} {vs:List Value} (r:RepL bad h ds vs):RepL bad h' ds vs:=r.map k.map
theorem Rep.imp {bad bad':Addr→Prop} {h:Heap} (k:∀ a o,h.get? a=some o→bad' a→bad a) {d:PyData} {v:Value} (r:Rep bad h d v):Rep bad' h d v:=r.map fun a o _ _ hb e _=>⟨fun x=>hb (k a o e x),e⟩
theorem RepL.imp {bad bad':Addr→Prop} {h:Heap} (k:∀ a o,h.get? a=some o→bad' a→bad a) {ds:List PyData} {vs:List Value} (r:RepL bad h ds vs):RepL bad' h ds vs:=r.map fun a o _ _ hb e _=>⟨fun x=>hb (k a o e x),e⟩
theorem Rep.reads {bad:Addr→Prop} {h:Heap} {d:PyData} {v:Value} (r:Rep bad h d v):d.canLay0=true→∃ as,Reads h v d as :=
  Rep.rec (motive_1:=fun d v _=>d.canLay0=true→∃ as,Reads h v d as) (motive_2:=fun ds vs _=>PyData.canLayAll0 ds=true→∃ as,ReadsAll h vs ds as)
    (fun _=>⟨_,.none⟩) (fun b _=>⟨_,.bool b⟩) (fun i t _=>⟨_,.int i t⟩) (fun x t _=>⟨_,.str x t⟩)
    (fun _ ho _ ih c=>let ⟨_,r⟩:=ih (by simpa [PyData.canLay0] using c);⟨_,.list ho rfl rfl r⟩) (fun _ ho _ ih c=>let ⟨_,r⟩:=ih (by simpa [PyData.canLay0] using c);⟨_,.tuple ho rfl rfl r⟩)
    (fun _ _ _ _ c=>by simp [PyData.canLay0] at c) (fun _=>⟨_,.nil⟩) (fun _ _ i1 i2 c=>by
      simp only [PyData.canLayAll0,Bool.and_eq_true] at c
      obtain ⟨_,r⟩:=i1 c.1
      obtain ⟨_,q⟩:=i2 c.2
      exact ⟨_,.cons r q⟩) r
theorem RepL.reads {bad:Addr→Prop} {h:Heap} {ds:List PyData} {vs:List Value} (r:RepL bad h ds vs):PyData.canLayAll0 ds=true→∃ as,ReadsAll h vs ds as :=
  r.ind (P:=fun ds vs=>PyData.canLayAll0 ds=true→∃ as,ReadsAll h vs ds as) (fun _=>⟨_,.nil⟩) fun a _ ih c=>by
    simp only [PyData.canLayAll0,Bool.and_eq_true] at c
    obtain ⟨_,r⟩:=a.reads c.1
    obtain ⟨_,q⟩:=ih c.2
    exact ⟨_,.cons r q⟩
theorem RepL.length {bad:Addr→Prop} {h:Heap} {ds:List PyData} {vs:List Value} (r:RepL bad h ds vs):ds.length=vs.length:=r.ind (P:=fun ds vs=>ds.length=vs.length) rfl fun _ _ ih=>congrArg Nat.succ ih
theorem RepL.get {bad:Addr→Prop} {h:Heap} {ds:List PyData} {vs:List Value} (r:RepL bad h ds vs):∀ {i:Nat} {d:PyData},ds[i]?=some d→∃ v,vs[i]?=some v∧Rep bad h d v :=
  r.ind (P:=fun ds vs=>∀ {i:Nat} {d:PyData},ds[i]?=some d→∃ v,vs[i]?=some v∧Rep bad h d v) (fun e=>by cases e) fun a _ ih i d e=>by
    cases i with
    | zero=>cases e;exact ⟨_,rfl,a⟩
    | succ i=>exact ih e
theorem RepL.getV {bad:Addr→Prop} {h:Heap} {ds:List PyData} {vs:List Value} (r:RepL bad h ds vs) {i:Nat} {v:Value} (e:vs[i]?=some v):∃ d,ds[i]?=some d∧Rep bad h d v:=by
  have hl:i < ds.length:=by rw [r.length];exact (List.getElem?_eq_some_iff.mp e).1
  obtain ⟨u,hu,q⟩:=r.get (List.getElem?_eq_getElem hl)
  rw [e] at hu;cases hu
  exact ⟨_,List.getElem?_eq_getElem hl,q⟩
theorem RepL.append {bad:Addr→Prop} {h:Heap} {ds es:List PyData} {vs ws:List Value} (r:RepL bad h ds vs) (q:RepL bad h es ws):RepL bad h (ds++es) (vs++ws):=r.ind (P:=fun ds vs=>RepL bad h (ds++es) (vs++ws)) q fun a _ ih=>.cons a ih
structure Ext (s s':Shared):Prop where
  keep:∀ b o,s.heap.get? b=some o→s'.heap.get? b=some o
  gens:s'.gens=s.gens
  os:s'.os=s.os
theorem Ext.refl (s:Shared):Ext s s:=⟨fun _ _ e=>e,rfl,rfl⟩
theorem Ext.toks (s:Shared) (t:Nat):Ext s { s with toks:=t }:=⟨fun _ _ e=>e,rfl,rfl⟩
theorem Ext.trans {a b c:Shared} (x:Ext a b) (y:Ext b c):Ext a c:=⟨fun _ _ e=>y.keep _ _ (x.keep _ _ e),y.gens.trans x.gens,y.os.trans x.os⟩
theorem Ext.push (s:Shared) (o:Obj):Ext s { s with heap:=s.heap.push o }:=⟨fun _ _ e=>Heap.get?_push_of_some _ e,rfl,rfl⟩
theorem Ext.seq {s s':Shared} (x:Ext s s') (bad:Addr→Prop):KeepSeq bad s.heap s'.heap:=fun _ _ _ _ _ e _=>x.keep _ _ e
theorem Rep.ext {bad:Addr→Prop} {s s':Shared} {d:PyData} {v:Value} (r:Rep bad s.heap d v) (x:Ext s s'):Rep bad s'.heap d v:=r.keep (x.seq bad)
theorem RepL.ext {bad:Addr→Prop} {s s':Shared} {d:List PyData} {v:List Value} (r:RepL bad s.heap d v) (x:Ext s s'):RepL bad s'.heap d v:=r.keep (x.seq bad)

noncomputable def Lk (h:Heap) (env:Env) (x:Str) (v:Value):Prop :=
  (env.kindOf x=some .local∧∃ m,h.Ns env.locals m∧m x=some v) ∨
  (env.kindOf x=some .cell∧∃ c,env.cells.lookup x=some c∧h.IsCell c (some v)) ∨
  (env.kindOf x=some .free∧(x == ("__classdict__":Str))=false∧∃ c,env.cells.lookup x=some c∧h.IsCell c (some v))
theorem Lk.keep {h h':Heap} {env:Env} {x:Str} {v:Value} (l:Lk h env x v) (k:∀ b o,h.get? b=some o→h'.get? b=some o):Lk h' env x v:=by
  rcases l with ⟨a,m,b,c⟩ | ⟨a,c,b,d⟩ | ⟨a,n,c,b,d⟩
  · exact .inl ⟨a,m,b.keeps k,c⟩
  · exact .inr (.inl ⟨a,c,b,d.keeps k⟩)
  · exact .inr (.inr ⟨a,n,c,b,d.keeps k⟩)
theorem Lk.load {M:Model} {A:Around} {E:Value→Shared→Prop} {s:Shared} {env:Env} {x:Str} {v:Value} {Q:Value→Shared→Prop} (hk:env.scope.kind=.function) (l:Lk s.heap env x v) (h:Q v s) :
    wpAny M A (loadName env x) Q E s:=by
  rcases l with ⟨a,m,b,c⟩ | ⟨a,c,b,d⟩ | ⟨a,n,c,b,d⟩
  · exact wpAny_loadName_local hk a b c h
  · exact wpAny_loadName_cell hk a b d h
  · exact wpAny_loadName_free hk a b d h n

inductive B where
  | val (d:PyData)
  | own (ds:List PyData)
  /-- just this value -/
  | raw (v:Value)
  /-- no name,but an object of the def's own that stands at a -/
  | at (a:Addr) (o:Obj)
  | free
noncomputable def B.owns:B→Prop
  | .own _=>True
  | .at _ _=>True
  | _=>False
noncomputable def Place (env:Env) (a:Addr):Prop:=a=env.locals∨∃ n,env.cells.lookup n=some a

structure Cx where
  prog:Program
  w:World
  h₀:Heap
  os₀:OsState
  mg:Str→Option Value
  mb:Str→Option Value
  /-- what a global name means -/
  gl:Str→Option Value
  K:Frag
  /-- values of h₀ that are known to be data -/
  dat:PyData→Value→Prop
structure Wf (X:Cx):Prop where
  nolimit:X.h₀.NoLimit
  g:X.h₀.Ns mainGlobals X.mg
  b:X.h₀.Ns builtinsNs X.mb
  gl:∀ x v,X.gl x=some v→X.mg x=some v∨(X.mg x=none∧X.mb x=some v)
  kin:X.K.In X.h₀

structure EnvOk (env:Env):Prop where
  kind:env.scope.kind=.function
  globals:env.globals=mainGlobals
  builtins:env.builtins=builtinsNs

structure FrameOk (h₀:Heap) (env:Env) (h:Heap):Prop where
  ns:∃ m,h.Ns env.locals m
  cell:∀ n c,env.cells.lookup n=some c→∃ v,h.IsCell c v
  ne:∀ n c,env.cells.lookup n=some c→c ≠ env.locals
  inj:∀ n n' c,env.cells.lookup n=some c→env.cells.lookup n'=some c→n=n'
  new:h₀.get? env.locals=none
  newc:∀ n c,env.cells.lookup n=some c→h₀.get? c=none
theorem FrameOk.keep {h₀ h h':Heap} {env:Env} (f:FrameOk h₀ env h) (k:∀ b o,h.get? b=some o→h'.get? b=some o):FrameOk h₀ env h' :=
  ⟨let ⟨m,a⟩:=f.ns;⟨m,a.keeps k⟩,fun n c e=>let ⟨v,a⟩:=f.cell n c e;⟨v,a.keeps k⟩,f.ne,f.inj,f.new,f.newc⟩

noncomputable def aN (bad:Addr→Prop) (O:Str→Option Addr) (a:Addr):Prop:=bad a∨∃ x,O x=some a

inductive Holds (bad:Addr→Prop) (O:Str→Option Addr) (env:Env) (s:Shared) (x:Str):B→Prop
  | val {d:PyData} {v:Value}:Lk s.heap env x v→Rep (aN bad O) s.heap d v→Holds bad O env s x (.val d)
  | own {ds:List PyData} {l:Addr} {vs:Array Value} {n:Nat}:O x=some l→Lk s.heap env x (.ref l)→s.heap.get? l=some { cls:=.type "list",data:=.seq vs n }→RepL (aN bad O) s.heap ds vs.toList→Holds bad O env s x (.own ds)
  | raw {v:Value}:Lk s.heap env x v→Holds bad O env s x (.raw v)
  | at {a:Addr} {o:Obj}:O x=some a→s.heap.get? a=some o→Holds bad O env s x (.at a o)
  | free:Holds bad O env s x .free
theorem Holds.move {bad bad':Addr→Prop} {O O':Str→Option Addr} {env:Env} {s s':Shared} {x:Str} {b:B} (h:Holds bad O env s x b) (lk:∀ v,Lk s.heap env x v→Lk s'.heap env x v) (hO:∀ l,O x=some l→O' x=some l) (hk:∀ l o,O x=some l→s.heap.get? l=some o→s'.heap.get? l=some o)
    (k:∀ a o vs n,¬ aN bad O a→s.heap.get? a=some o→o.data=.seq vs n→¬ aN bad' O' a∧s'.heap.get? a=some o):Holds bad' O' env s' x b:=by
  cases h with
  | val a q=>exact .val (lk _ a) (q.map k)
  | own a b c q=>exact .own (hO _ a) (lk _ b) (hk _ _ a c) (q.map k)
  | raw a=>exact .raw (lk _ a)
  | «at» a c=>exact .at (hO _ a) (hk _ _ a c)
  | free=>exact .free
structure Rel (X:Cx) (bad:Addr→Prop) (O:Str→Option Addr) (env:Env) (ρ:List (Str×B)) (s:Shared):Prop where
  wf:Wf X
  base:∀ b o,X.h₀.get? b=some o→s.heap.get? b=some o
  gens:s.gens=#[]
  os:s.os=X.os₀
  ok:EnvOk env
  frm:FrameOk X.h₀ env s.heap
  holds:∀ x b,ρ.lookup x=some b→Holds bad O env s x b
  inj:∀ x y l,O x=some l→O y=some l→x=y
  low:∀ a,bad a→∃ o,s.heap.get? a=some o
  good:∀ x l,O x=some l→¬ bad l∧X.h₀.get? l=none∧¬ Place env l∧∃ b,ρ.lookup x=some b∧b.owns
  dat:∀ d v,X.dat d v→Rep bad X.h₀ d v
section
variable {X:Cx} {bad:Addr→Prop} {O:Str→Option Addr} {env:Env} {ρ:List (Str×B)} {s:Shared}
theorem Rel.val (r:Rel X bad O env ρ s) (x:Str) (d:PyData) (e:ρ.lookup x=some (.val d)):∃ v,Lk s.heap env x v∧Rep (aN bad O) s.heap d v:=by
  cases r.holds x _ e with | val a b=>exact ⟨_,a,b⟩
theorem Rel.own (r:Rel X bad O env ρ s) (x:Str) (ds:List PyData) (e:ρ.lookup x=some (.own ds)):∃ l vs n,O x=some l∧Lk s.heap env x (.ref l)∧s.heap.get? l=some { cls:=.type "list",data:=.seq vs n }∧RepL (aN bad O) s.heap ds vs.toList:=by
  cases r.holds x _ e with | own a b c d=>exact ⟨_,_,_,a,b,c,d⟩
theorem Rel.raw (r:Rel X bad O env ρ s) (x:Str) (v:Value) (e:ρ.lookup x=some (.raw v)):Lk s.heap env x v:=by
  cases r.holds x _ e with | raw a=>exact a
theorem Rel.pt (r:Rel X bad O env ρ s) (x:Str) (a:Addr) (o:Obj) (e:ρ.lookup x=some (.at a o)):O x=some a∧s.heap.get? a=some o:=by
  cases r.holds x _ e with | «at» a b=>exact ⟨a,b⟩
theorem Rel.ext {s':Shared} (r:Rel X bad O env ρ s) (x:Ext s s'):Rel X bad O env ρ s' where
  wf:=r.wf
  base:=fun b o e=>x.keep _ _ (r.base b o e)
  gens:=x.gens.trans r.gens
  os:=x.os.trans r.os
  ok:=r.ok
  frm:=r.frm.keep x.keep
  holds:=fun y b e=>(r.holds y b e).move (fun _ l=>l.keep x.keep) (fun _ h=>h) (fun _ _ _ e=>x.keep _ _ e) fun _ _ _ _ hb e _=>⟨hb,x.keep _ _ e⟩
  inj:=r.inj
  low:=fun a e=>let ⟨o,ho⟩:=r.low a e;⟨o,x.keep _ _ ho⟩
  good:=r.good
  dat:=r.dat
end

structure Room (k:Nat) (A:Around):Prop where
  handled:A.handled=none
  depth:A.depth+10 * k≤900
  units:A.units+100 * k≤9000
theorem Room.in1 {k:Nat} {A:Around} (r:Room (k+1) A):Room k A.in1:=⟨r.handled,by have:=r.depth;show A.depth+_≤_;exact aQ 0xf113841910ab0a0f38419181a0ab0a0f rfl this,by have:=r.units;show A.units+1+_≤_;exact aQ 0xf11232829164b180aa0f232829181a64b0a0f rfl this⟩

noncomputable abbrev noE:Value→Shared→Prop:=fun _ _=>False

noncomputable def Ev (X:Cx) (k:Nat) (env:Env) (ρ:List (Str×B)) (e:Expr) (d:PyData):Prop :=
  ∀ (A:Around) (bad:Addr→Prop) (O:Str→Option Addr) (s:Shared),Room k A→Rel X bad O env ρ s →
    wpAny (model X.prog X.w) A (eval e env) (fun v s'=>Ext s s'∧Rep (aN bad O) s'.heap d v) noE s
noncomputable def Tst (X:Cx) (k:Nat) (env:Env) (ρ:List (Str×B)) (e:Expr) (b:Bool):Prop :=
  ∀ (A:Around) (bad:Addr→Prop) (O:Str→Option Addr) (s:Shared),Room k A→Rel X bad O env ρ s →
    wpAny (model X.prog X.w) A (isTrue e env (eval e env)) (fun v s'=>Ext s s'∧v=b) noE s
section
variable {X:Cx} {k:Nat} {env:Env} {ρ:List (Str×B)}

theorem Ev.use {e:Expr} {d:PyData} (h:Ev X k env ρ e d) {A:Around} {bad:Addr→Prop} {O:Str→Option Addr} {s:Shared} {Q:Value→Shared→Prop} (R:Room k A) (r:Rel X bad O env ρ s)
    (hq:∀ v s',Ext s s'→Rel X bad O env ρ s'→Rep (aN bad O) s'.heap d v→Q v s'):wpAny (model X.prog X.w) A (eval e env) Q noE s :=
  wpAny_mono (h A bad O s R r) (fun v s' q=>hq v s' q.1 (r.ext q.1) q.2) fun _ _ x=>x
theorem Tst.use {e:Expr} {b:Bool} (h:Tst X k env ρ e b) {A:Around} {bad:Addr→Prop} {O:Str→Option Addr} {s:Shared} {Q:Bool→Shared→Prop} (R:Room k A) (r:Rel X bad O env ρ s)
    (hq:∀ s',Ext s s'→Rel X bad O env ρ s'→Q b s'):wpAny (model X.prog X.w) A (isTrue e env (eval e env)) Q noE s :=
  wpAny_mono (h A bad O s R r) (fun v s' q=>q.2 ▸ hq s' q.1 (r.ext q.1)) fun _ _ x=>x

theorem aA {x:Str} {pos:Pos} {d:PyData} (h:ρ.lookup x=some (.val d)) (hd:(x == ("__debug__":Str))=false:=by decide):Ev X k env ρ (.Name x pos) d:=fun A bad O s R r=>by
  obtain ⟨v,l,q⟩:=r.val x d h
  exact wpAny_Name (Lk.load r.ok.kind l ⟨Ext.refl s,q⟩) hd
theorem aM {i:Int} {n:Nat} {pos:Pos}:Ev X k env ρ (.Constant (.int i) n pos) (.int i):=fun _ _ _ s _ _=>wpAny_Constant_int ⟨Ext.toks s _,.int _ _⟩
theorem ev_str {x:Str} {n:Nat} {pos:Pos}:Ev X k env ρ (.Constant (.str x) n pos) (.str x):=fun _ _ _ s _ _=>Calls.Constant_str ⟨Ext.toks s _,.str _ _⟩
theorem ev_none {n:Nat} {pos:Pos}:Ev X k env ρ (.Constant .none n pos) .none:=fun _ _ _ s _ _=>wpAny_pure (a:=Value.none) ⟨Ext.refl s,.none⟩
theorem ev_bool {b:Bool} {n:Nat} {pos:Pos}:Ev X k env ρ (.Constant (.bool b) n pos) (.bool b):=fun _ _ _ s _ _=>wpAny_pure (a:=Value.bool b) ⟨Ext.refl s,.bool _⟩

theorem aT {l r:Expr} {pos:Pos} {a b:Int} (hl:Ev X k env ρ l (.int a)) (hr:Ev X k env ρ r (.int b)):Ev X k env ρ (.BinOp l .Add r pos) (.int (a+b)):=fun A bad O s R q =>
  wpAny_BinOp (hl.use R q fun v s1 x1 r1 q1=>hr.use R r1 fun u s2 x2 r2 q2=>by cases q1;cases q2;exact add_int ⟨(x1.trans x2).trans (Ext.toks _ _),.int _ _⟩)
theorem ev_sub {l r:Expr} {pos:Pos} {a b:Int} (hl:Ev X k env ρ l (.int a)) (hr:Ev X k env ρ r (.int b)):Ev X k env ρ (.BinOp l .Sub r pos) (.int (a - b)):=fun A bad O s R q =>
  wpAny_BinOp (hl.use R q fun v s1 x1 r1 q1=>hr.use R r1 fun u s2 x2 r2 q2=>by cases q1;cases q2;exact sub_int ⟨(x1.trans x2).trans (Ext.toks _ _),.int _ _⟩)
theorem ev_mul {l r:Expr} {pos:Pos} {a b:Int} (hl:Ev X k env ρ l (.int a)) (hr:Ev X k env ρ r (.int b)) (hm:IntMulOk a b):Ev X k env ρ (.BinOp l .Mult r pos) (.int (a * b)):=fun A bad O s R q =>
  wpAny_BinOp (hl.use R q fun v s1 x1 r1 q1=>hr.use R r1 fun u s2 x2 r2 q2=>by cases q1;cases q2;exact mul_int ⟨(x1.trans x2).trans (Ext.toks _ _),.int _ _⟩ hm)
theorem ev_div {l r:Expr} {pos:Pos} {a b:Int} (hl:Ev X k env ρ l (.int a)) (hr:Ev X k env ρ r (.int b)) (hb:b ≠ 0) (hp:Builtin.divisionGoesByPylong a b=false):Ev X k env ρ (.BinOp l .FloorDiv r pos) (.int (a.fdiv b)):=fun A bad O s R q =>
  wpAny_BinOp (hl.use R q fun v s1 x1 r1 q1=>hr.use R r1 fun u s2 x2 r2 q2=>by cases q1;cases q2;exact floordiv_int hb ⟨(x1.trans x2).trans (Ext.toks _ _),.int _ _⟩ (.inl hp))
theorem ev_mod {l r:Expr} {pos:Pos} {a b:Int} (hl:Ev X k env ρ l (.int a)) (hr:Ev X k env ρ r (.int b)) (hb:b ≠ 0):Ev X k env ρ (.BinOp l .Mod r pos) (.int (a.fmod b)):=fun A bad O s R q =>
  wpAny_BinOp (hl.use R q fun v s1 x1 r1 q1=>hr.use R r1 fun u s2 x2 r2 q2=>by cases q1;cases q2;exact mod_int' hb ⟨(x1.trans x2).trans (Ext.toks _ _),.int _ _⟩)
theorem ev_neg {x:Expr} {pos:Pos} {a:Int} (h:Ev X k env ρ x (.int a)):Ev X k env ρ (.UnaryOp .USub x pos) (.int (-a)):=fun A bad O s R q =>
  wpAny_UnaryOp (h.use R q fun v s1 x1 r1 q1=>by cases q1;exact neg_int ⟨x1.trans (Ext.toks _ _),.int _ _⟩)

noncomputable def cmpI (op:CmpOp) (a b:Int):Option Bool:=match op with
  | .Eq=>some (a == b) | .NotEq=>some (a != b) | .Lt=>some (decide (a < b)) | .LtE=>some (decide (a≤b)) | .Gt=>some (decide (b < a)) | .GtE=>some (decide (b≤a)) | _=>none
theorem cmpI_ok {A:Around} {s:Shared} {op:CmpOp} {a b:Int} {t u:Tok} {c:Bool} (h:cmpI op a b=some c) {Q:Value→Shared→Prop} {E:Value→Shared→Prop} (q:Q (.bool c) s):wpAny (model X.prog X.w) A (compareOp op (.int a t) (.int b u)) Q E s:=by
  cases op <;> simp only [cmpI,Option.some.injEq,reduceCtorEq] at h <;> subst h
  · exact eq_int q
  · exact ne_int q
  · exact lt_int q
  · exact le_int q
  · exact gt_int q
  · exact ge_int q
theorem aJ {l r:Expr} {op:CmpOp} {pos:Pos} {a b:Int} {c:Bool} (hl:Ev X k env ρ l (.int a)) (hr:Ev X k env ρ r (.int b)) (h:cmpI op a b=some c)
    (hm:behindInMarks op r=false:=by with_unfolding_all rfl):Tst X k env ρ (.Compare l [op] [r] pos) c:=fun A bad O s R q =>
  wpAny_isTrue_Compare1 (hl.use R q fun v s1 x1 r1 q1=>hr.use R r1 fun u s2 x2 r2 q2=>by cases q1;cases q2;exact cmpI_ok h (wpAny_truthy_bool ⟨x1.trans x2,rfl⟩)) hm
theorem tst_eq {l r:Expr} {pos:Pos} {da db:PyData} (hl:Ev X k env ρ l da) (hr:Ev X k env ρ r db) (sa:SeqAt.shaped da=true) (sb:SeqAt.shaped db=true) (hk:0 < k)
    (hm:behindInMarks .Eq r=false:=by with_unfolding_all rfl):Tst X k env ρ (.Compare l [.Eq] [r] pos) (PyData.eqv da db):=fun A bad O s R q =>
  wpAny_isTrue_Compare1 (hl.use R q fun v s1 x1 r1 q1=>hr.use R r1 fun u s2 x2 r2 q2=>by
    obtain ⟨as,ra⟩:=(q1.ext x2).reads (SeqAt.canLay_of_shaped sa)
    obtain ⟨bs,rb⟩:=q2.reads (SeqAt.canLay_of_shaped sb)
    exact SeqAt.compareEq_shaped ra rb sa sb (by have:=R.units;show A.units+64 < 9900;exact aQ 0xf1126ac2940090a1f232829164b0a0f rfl this) (wpAny_truthy_bool ⟨x1.trans x2,rfl⟩)) hm
theorem tst_ne {l r:Expr} {pos:Pos} {da db:PyData} (hl:Ev X k env ρ l da) (hr:Ev X k env ρ r db) (sa:SeqAt.shaped da=true) (sb:SeqAt.shaped db=true) (hk:0 < k)
    (hm:behindInMarks .NotEq r=false:=by with_unfolding_all rfl):Tst X k env ρ (.Compare l [.NotEq] [r] pos) (!PyData.eqv da db):=fun A bad O s R q =>
  wpAny_isTrue_Compare1 (hl.use R q fun v s1 x1 r1 q1=>hr.use R r1 fun u s2 x2 r2 q2=>by
    obtain ⟨as,ra⟩:=(q1.ext x2).reads (SeqAt.canLay_of_shaped sa)
    obtain ⟨bs,rb⟩:=q2.reads (SeqAt.canLay_of_shaped sb)
    exact SeqAt.compareNe_shaped ra rb sa sb (by have:=R.units;show A.units+64 < 9900;exact aQ 0xf1126ac2940090a1f232829164b0a0f rfl this) (wpAny_truthy_bool ⟨x1.trans x2,rfl⟩)) hm
theorem ev_eq {l r:Expr} {pos:Pos} {da db:PyData} (hl:Ev X k env ρ l da) (hr:Ev X k env ρ r db) (sa:SeqAt.shaped da=true) (sb:SeqAt.shaped db=true) (hk:0 < k)
    (hm:behindInMarks .Eq r=false:=by with_unfolding_all rfl):Ev X k env ρ (.Compare l [.Eq] [r] pos) (.bool (PyData.eqv da db)):=fun A bad O s R q =>
  wpAny_Compare1 (hl.use R q fun v s1 x1 r1 q1=>hr.use R r1 fun u s2 x2 r2 q2=>by
    obtain ⟨as,ra⟩:=(q1.ext x2).reads (SeqAt.canLay_of_shaped sa)
    obtain ⟨bs,rb⟩:=q2.reads (SeqAt.canLay_of_shaped sb)
    exact SeqAt.compareEq_shaped ra rb sa sb (by have:=R.units;show A.units+64 < 9900;exact aQ 0xf1126ac2940090a1f232829164b0a0f rfl this) ⟨x1.trans x2,.bool _⟩) hm

theorem tst_bool {e:Expr} {b:Bool} (h:Ev X k env ρ e (.bool b)) (he:∀ whole,isTrue e env whole=(do let v ← whole;standAt e.pos;holding [v] (truthy v)):=by intro _;rfl):Tst X k env ρ e b:=fun A bad O s R r =>
  isTrue_plain (h.use R r fun v s1 x1 r1 q1=>by cases q1;exact wpAny_truthy_bool ⟨x1,rfl⟩) (he _)
theorem tst_int {e:Expr} {a:Int} (h:Ev X k env ρ e (.int a)) (he:∀ whole,isTrue e env whole=(do let v ← whole;standAt e.pos;holding [v] (truthy v)):=by intro _;rfl):Tst X k env ρ e (a != 0):=fun A bad O s R r =>
  isTrue_plain (h.use R r fun v s1 x1 r1 q1=>by cases q1;exact PySem.P.truthy_int ⟨x1,rfl⟩) (he _)
theorem tst_not {x:Expr} {pos:Pos} {b:Bool} (h:Tst X k env ρ x b):Tst X k env ρ (.UnaryOp .Not x pos) (!b):=fun A bad O s R r =>
  wpAny_isTrue_Not (h.use R r fun s1 x1 r1=>⟨x1,rfl⟩)
theorem tst_and0 {pos:Pos}:Tst X k env ρ (.BoolOp .And [] pos) true:=fun A bad O s R r=>isTrue_and_nil ⟨Ext.refl s,rfl⟩
theorem tst_or0 {pos:Pos}:Tst X k env ρ (.BoolOp .Or [] pos) false:=fun A bad O s R r=>isTrue_or_nil ⟨Ext.refl s,rfl⟩
theorem bC {x:Expr} {rest:List Expr} {pos:Pos} {b c:Bool} (h:Tst X k env ρ x b) (hr:b=true→Tst X k env ρ (.BoolOp .And rest pos) c):Tst X k env ρ (.BoolOp .And (x :: rest) pos) (b && c):=fun A bad O s R r =>
  isTrue_and (h.use R r fun s1 x1 r1=>by
    cases b with
    | false=>exact ⟨x1,rfl⟩
    | true=>exact (hr rfl).use R r1 fun s2 x2 r2=>⟨x1.trans x2,by simp⟩)
theorem tst_or {x:Expr} {rest:List Expr} {pos:Pos} {b c:Bool} (h:Tst X k env ρ x b) (hr:b=false→Tst X k env ρ (.BoolOp .Or rest pos) c):Tst X k env ρ (.BoolOp .Or (x :: rest) pos) (b || c):=fun A bad O s R r =>
  isTrue_or (h.use R r fun s1 x1 r1=>by
    cases b with
    | true=>exact ⟨x1,rfl⟩
    | false=>exact (hr rfl).use R r1 fun s2 x2 r2=>⟨x1.trans x2,by simp⟩)
theorem ev_if {test body orelse:Expr} {pos:Pos} {b:Bool} {d d':PyData} (h:Tst X k env ρ test b) (h1:b=true→Ev X k env ρ body d) (h2:b=false→Ev X k env ρ orelse d'):Ev X k env ρ (.IfExp test body orelse pos) (if b then d else d'):=fun A bad O s R r =>
  wpAny_IfExp (h.use R r fun s1 x1 r1=>by
    cases b with
    | true=>exact (h1 rfl).use R r1 fun v s2 x2 r2 q2=>⟨x1.trans x2,q2⟩
    | false=>exact (h2 rfl).use R r1 fun v s2 x2 r2 q2=>⟨x1.trans x2,q2⟩)

noncomputable def EvL (X:Cx) (k:Nat) (env:Env) (ρ:List (Str×B)) (pos:Pos) (es:List Expr) (ds:List PyData):Prop :=
  ∀ (A:Around) (bad:Addr→Prop) (O:Str→Option Addr) (s:Shared),Room k A→Rel X bad O env ρ s →
    wpAny (model X.prog X.w) A (spliced (backTo pos (starEach es env))) (fun vs s'=>Ext s s'∧RepL (aN bad O) s'.heap ds vs) noE s
theorem aG {pos:Pos}:EvL X k env ρ pos [] []:=fun A bad O s R r=>wpAny_items_nil ⟨Ext.refl s,.nil⟩
theorem aC {pos:Pos} {e:Expr} {es:List Expr} {d:PyData} {ds:List PyData} (h:Ev X k env ρ e d) (hs:EvL X k env ρ pos es ds)
    (he:starEach (e :: es) env=(false,eval e env) :: starEach es env:=by rfl):EvL X k env ρ pos (e :: es) (d :: ds):=fun A bad O s R r =>
  wpAny_items_cons (h.use R r fun v s1 x1 r1 q1=>wpAny_mono (hs A bad O s1 R r1) (fun vs s2 q2=>⟨x1.trans q2.1,.cons (q1.ext q2.1) q2.2⟩) fun _ _ x=>x) he
theorem badO_alive {bad:Addr→Prop} {O:Str→Option Addr} {s:Shared} (r:Rel X bad O env ρ s):∀ a,aN bad O a→∃ o,s.heap.get? a=some o:=fun a h=>h.elim (r.low a) fun ⟨x,e⟩=>by
  obtain ⟨_,_,_,b,hd,hb⟩:=r.good x a e
  cases b with
  | own ds =>
    obtain ⟨l,vs,n,ho,_,g,_⟩:=r.own x ds hd
    cases Option.some.inj (ho.symm.trans e)
    exact ⟨_,g⟩
  | «at» a' o =>
    obtain ⟨ho,g⟩:=r.pt x a' o hd
    cases Option.some.inj (ho.symm.trans e)
    exact ⟨_,g⟩
  | val _=>exact hb.elim
  | raw _=>exact hb.elim
  | free=>exact hb.elim
theorem Rel.datO {bad:Addr→Prop} {O:Str→Option Addr} {s:Shared} (r:Rel X bad O env ρ s):∀ d v,X.dat d v→Rep (aN bad O) X.h₀ d v:=fun d v e=>(r.dat d v e).imp fun a o e' h=>by
  rcases h with h | ⟨y,hy⟩
  · exact h
  · rw [(r.good y a hy).2.1] at e';cases e'
theorem Rel.datR {bad:Addr→Prop} {O:Str→Option Addr} {s:Shared} (r:Rel X bad O env ρ s) {d:PyData} {v:Value} (e:X.dat d v):Rep (aN bad O) s.heap d v:=(r.datO d v e).keep fun b o _ _ _ e _=>r.base b o e
theorem new_good {bad:Addr→Prop} {O:Str→Option Addr} {s:Shared} {l:Addr} (r:Rel X bad O env ρ s) (h:s.heap.get? l=none):¬ aN bad O l:=fun hb=>by
  obtain ⟨o,ho⟩:=badO_alive r l hb
  rw [h] at ho;cases ho
theorem get_size (h:Heap):h.get? h.objs.size=none:=by
  cases e:h.get? h.objs.size with
  | none=>rfl
  | some o=>exact absurd (Heap.lt_size e) (Nat.lt_irrefl _)
theorem Ext.none {s s':Shared} (x:Ext s s') {l:Addr} (h:s'.heap.get? l=none):s.heap.get? l=none:=by
  cases e:s.heap.get? l with
  | none=>rfl
  | some o=>rw [x.keep _ _ e] at h;cases h
end
section
variable {X:Cx} {k:Nat} {env:Env} {ρ:List (Str×B)}

theorem rep_new {T:String} {bad:Addr→Prop} {O:Str→Option Addr} {s:Shared} {vs:Array Value} {n:Nat} {ds:List PyData} (r:Rel X bad O env ρ s) (q:RepL (aN bad O) s.heap ds vs.toList) :
    ¬ aN bad O s.heap.objs.size∧(s.heap.push { cls:=.type T,data:=.seq vs n }).get? s.heap.objs.size=some { cls:=.type T,data:=.seq vs n }∧RepL (aN bad O) (s.heap.push { cls:=.type T,data:=.seq vs n }) ds vs.toList :=
  ⟨new_good r (get_size _),Heap.get?_push_size _ rfl,q.keep fun _ _ _ _ _ e _=>Heap.get?_push_of_some _ e⟩
theorem rep_newList {bad:Addr→Prop} {O:Str→Option Addr} {s:Shared} {vs:Array Value} {n:Nat} {ds:List PyData} (r:Rel X bad O env ρ s) (q:RepL (aN bad O) s.heap ds vs.toList) :
    Rep (aN bad O) (s.heap.push { cls:=.type "list",data:=.seq vs n }) (.list ds) (.ref s.heap.objs.size):=let ⟨a,b,c⟩:=rep_new (T:="list") (n:=n) r q;.list a b c
theorem rep_newTuple {bad:Addr→Prop} {O:Str→Option Addr} {s:Shared} {vs:Array Value} {n:Nat} {ds:List PyData} (r:Rel X bad O env ρ s) (q:RepL (aN bad O) s.heap ds vs.toList) :
    Rep (aN bad O) (s.heap.push { cls:=.type "tuple",data:=.seq vs n }) (.tuple ds) (.ref s.heap.objs.size):=let ⟨a,b,c⟩:=rep_new (T:="tuple") (n:=n) r q;.tuple a b c
theorem ev_list {es:List Expr} {pos:Pos} {ds:List PyData} (h:EvL X k env ρ pos es ds) (hz:ds.length≤sizeLine):Ev X k env ρ (.List es pos) (.list ds):=fun A bad O s R r =>
  wpAny_List (wpAny_mono (h A bad O s R r) (fun vs s1 q=>⟨by rw [← q.2.length];exact hz,q.1.trans (Ext.push _ _),rep_newList (r.ext q.1) (by simpa using q.2)⟩) fun _ _ x=>x)
theorem aU {es:List Expr} {n:Nat} {pos:Pos} {ds:List PyData} (h:EvL X k env ρ pos es ds) (hz:ds.length≤sizeLine):Ev X k env ρ (.Tuple es n pos) (.tuple ds):=fun A bad O s R r =>
  wpAny_Tuple (wpAny_mono (h A bad O s R r) (fun vs s1 q=>⟨by rw [← q.2.length];exact hz,q.1.trans (Ext.push _ _),rep_newTuple (r.ext q.1) (by simpa using q.2)⟩) fun _ _ x=>x)

noncomputable def EvS (X:Cx) (k:Nat) (env:Env) (ρ:List (Str×B)) (e:Expr) (ds:List PyData):Prop :=
  ∀ (A:Around) (bad:Addr→Prop) (O:Str→Option Addr) (s:Shared),Room k A→Rel X bad O env ρ s →
    wpAny (model X.prog X.w) A (eval e env) (fun v s'=>Ext s s'∧∃ a vs,v=.ref a∧s'.heap.PlainList a vs∧RepL (aN bad O) s'.heap ds vs.toList) noE s
theorem Rep.isList {bad:Addr→Prop} {h:Heap} {ds:List PyData} {v:Value} (r:Rep bad h (.list ds) v):∃ a vs,v=.ref a∧h.PlainList a vs∧RepL bad h ds vs.toList:=by
  cases r with | list hb ho hr=>exact ⟨_,_,rfl,⟨_,ho⟩,hr⟩
theorem Rep.isTup {bad:Addr→Prop} {h:Heap} {ds:List PyData} {v:Value} (r:Rep bad h (.tuple ds) v):∃ a vs,v=.ref a∧IsTup h a vs∧RepL bad h ds vs.toList:=by
  cases r with | tuple hb ho hr=>exact ⟨_,_,rfl,⟨_,ho,rfl,_,rfl⟩,hr⟩
theorem bK {e:Expr} {ds:List PyData} (h:Ev X k env ρ e (.list ds)):EvS X k env ρ e ds:=fun A bad O s R r=>h.use R r fun v s1 x1 r1 q1=>⟨x1,q1.isList⟩
theorem evs_own {x:Str} {pos:Pos} {ds:List PyData} (h:ρ.lookup x=some (.own ds)) (hd:(x == ("__debug__":Str))=false:=by decide):EvS X k env ρ (.Name x pos) ds:=fun A bad O s R r=>by
  obtain ⟨l,vs,n,_,lk,g,q⟩:=r.own x ds h
  exact wpAny_Name (Lk.load r.ok.kind lk ⟨Ext.refl s,l,vs,rfl,⟨_,g⟩,q⟩) hd
theorem EvS.use {e:Expr} {ds:List PyData} (h:EvS X k env ρ e ds) {A:Around} {bad:Addr→Prop} {O:Str→Option Addr} {s:Shared} {Q:Value→Shared→Prop} (R:Room k A) (r:Rel X bad O env ρ s)
    (hq:∀ a vs s',Ext s s'→Rel X bad O env ρ s'→s'.heap.PlainList a vs→RepL (aN bad O) s'.heap ds vs.toList→Q (.ref a) s'):wpAny (model X.prog X.w) A (eval e env) Q noE s :=
  wpAny_mono (h A bad O s R r) (fun v s' q=>by obtain ⟨x,a,vs,rfl,l,p⟩:=q;exact hq a vs s' x (r.ext x) l p) fun _ _ x=>x
theorem IsList_ext {s s':Shared} (x:Ext s s') {a:Addr} {vs:Array Value} (l:s.heap.PlainList a vs):s'.heap.IsList a vs:=let ⟨n,ho⟩:=l;⟨_,x.keep _ _ ho,rfl,_,rfl⟩
theorem PL_is {s:Shared} {a:Addr} {vs:Array Value} (l:s.heap.PlainList a vs):s.heap.IsList a vs:=let ⟨n,ho⟩:=l;⟨_,ho,rfl,_,rfl⟩
noncomputable def placeOf (n:Int) (len:Nat):Nat:=if n < 0 then (n+len).toNat else n.toNat
theorem ev_item {value slice:Expr} {pos:Pos} {ds:List PyData} {n:Int} {d:PyData} (hv:EvS X k env ρ value ds) (hi:Ev X k env ρ slice (.int n)) (hlo:-(ds.length:Int)≤n) (hhi:n < ds.length) (hz:ds.length≤sizeLine) (hd:ds[placeOf n ds.length]?=some d)
    (hs:∀ a u,subscripted slice false (.ref a) (.int n u)=operate [.ref a,.int n u] (getItem (.ref a) (.int n u)):=by intro _ _;with_unfolding_all rfl):Ev X k env ρ (.Subscript value slice pos) d:=fun A bad O s R r =>
  Subscript_ (hv.use R r fun a vs s1 x1 r1 l1 q1=>hi.use R r1 fun v s2 x2 r2 q2=>by
    cases q2
    have hl:=q1.length
    have hz':(sizeLine:Int) < 2 ^ 63:=by decide
    have hzz:(ds.length:Int)≤(sizeLine:Int):=by exact_mod_cast hz
    obtain ⟨v,hv,rv⟩:=q1.get hd
    refine tail_any (IsList_ext x2 l1).typeIs slot_list_getitem.lookup ?_ (hs _ _)
    unfold placeOf at hv hd
    split at hv
    · rename_i hn
      refine wpAny_getItem_list_neg (IsList_ext x2 l1) hn (by rw [← Array.length_toList,← hl];exact hlo) (by exact lqx [_,_] [_] 0xf111108000000000000000e9e3f8000000000000000e91c410000ce3f rfl hlo hz hz') (x:=v) ?_ ⟨x1.trans x2,rv.ext x2⟩
      rw [← Array.length_toList,← hl,← Array.getElem?_toList];exact hv
    · refine wpAny_getItem_list (IsList_ext x2 l1) (by exact lqx [] [_] 0xf110083f08046f rfl (by assumption)) (by exact lqx [_,_] [_] 0xf11118000000000000000e904f8000000000000000e91c41000c04f rfl hhi hz hz') (x:=v) (by rw [← Array.getElem?_toList];exact hv) ⟨x1.trans x2,rv.ext x2⟩)
end
theorem RepL.pick {bad:Addr→Prop} {h:Heap} {ds:List PyData} {vs:List Value} (r:RepL bad h ds vs):∀ idx:List Nat,RepL bad h (idx.filterMap (ds[·]?)) (idx.filterMap (vs[·]?))
  | []=>.nil
  | i :: idx=>by
    have ih:=r.pick idx
    cases e:ds[i]? with
    | some d =>
      obtain ⟨v,hv,q⟩:=r.get e
      rw [List.filterMap_cons_some e,List.filterMap_cons_some hv]
      exact .cons q ih
    | none =>
      have:vs[i]?=none:=by
        rw [List.getElem?_eq_none_iff] at e ⊢
        rw [← r.length];exact e
      rw [List.filterMap_cons_none e,List.filterMap_cons_none this]
      exact ih
noncomputable def pickD (ds:List PyData) (lo hi st:Option Int):List PyData :=
  (sliceRange (sliceBounds lo hi st ds.length).1 (sliceBounds lo hi st ds.length).2.1 (sliceBounds lo hi st ds.length).2.2).filterMap (ds[·]?)
theorem RepL.slice {bad:Addr→Prop} {h:Heap} {ds:List PyData} {vs:Array Value} (r:RepL bad h ds vs.toList) (lo hi st:Option Int):RepL bad h (pickD ds lo hi st) (slicePick vs lo hi st).toList:=by
  have e:vs.size=ds.length:=by rw [← Array.length_toList,r.length]
  have:=r.pick (sliceRange (sliceBounds lo hi st ds.length).1 (sliceBounds lo hi st ds.length).2.1 (sliceBounds lo hi st ds.length).2.2)
  unfold pickD slicePick
  rw [e]
  simpa using this
section
variable {X:Cx} {k:Nat} {env:Env} {ρ:List (Str×B)}
noncomputable def EvP (X:Cx) (k:Nat) (env:Env) (ρ:List (Str×B)) (e:Option Expr) (i:Option Int):Prop :=
  ∀ (A:Around) (bad:Addr→Prop) (O:Str→Option Addr) (s:Shared),Room k A→Rel X bad O env ρ s →
    wpAny (model X.prog X.w) A (evalPart e env) (fun v s'=>Ext s s'∧IsPart v i) noE s
theorem evp_none:EvP X k env ρ none none:=fun A bad O s R r=>wpAny_pure (a:=Value.none) ⟨Ext.refl s,.none⟩
theorem evp_some {e:Expr} {i:Int} (h:Ev X k env ρ e (.int i)):EvP X k env ρ (some e) (some i):=fun A bad O s R r=>h.use R r fun v s1 x1 r1 q1=>by cases q1;exact ⟨x1,.int _ _⟩
theorem ev_slice {value:Expr} {lower upper step:Option Expr} {p pos:Pos} {ds:List PyData} {lo hi st:Option Int} (hv:EvS X k env ρ value ds) (hl:EvP X k env ρ lower lo) (hu:EvP X k env ρ upper hi) (ht:EvP X k env ρ step st) (h0:st ≠ some 0) (hz:ds.length≤sizeLine) :
    Ev X k env ρ (.Subscript value (.Slice lower upper step p) pos) (.list (pickD ds lo hi st)):=fun A bad O s R r =>
  Subscript_ (hv.use R r fun a vs s1 x1 r1 l1 q1=>wpAny_Slice (wpAny_mono (hl A bad O s1 R r1) (fun v2 s2 q2=>wpAny_mono (hu A bad O s2 R (r1.ext q2.1)) (fun v3 s3 q3=>wpAny_mono (ht A bad O s3 R ((r1.ext q2.1).ext q3.1)) (fun v4 s4 q4=>by
    have x4:Ext s1 s4:=(q2.1.trans q3.1).trans q4.1
    have x5:Ext s1 { s4 with heap:=s4.heap.push { cls:=.type "slice",data:=.fields #[v2,v3,v4] } }:=x4.trans (Ext.push _ _)
    have hs:∃ ops,subscripted (.Slice lower upper step p) false (.ref a) (.ref s4.heap.objs.size)=operate ops (getItem (.ref a) (.ref s4.heap.objs.size)):=by cases step <;> exact ⟨_,rfl⟩
    obtain ⟨ops,hs⟩:=hs
    refine tail_any (IsList_ext x5 l1).typeIs slot_list_getitem.lookup ?_ hs
    refine wpAny_getItem_list_slice (IsList_ext x5 l1) (Heap.IsSliceOf.new ..) q2.2 q3.2 q4.2 h0 ?_ (by rw [← Array.length_toList,← q1.length];exact hz)
    exact ⟨(x1.trans x5).trans (Ext.push _ _),rep_newList (r1.ext x5) ((q1.ext x5).slice lo hi st)⟩) fun _ _ x=>x) fun _ _ x=>x) fun _ _ x=>x))
theorem add_lists_at {A:Around} {s:Shared} {l b:Addr} {vs ws:Array Value} {Q:Value→Shared→Prop} {E:Value→Shared→Prop} (hl:s.heap.IsList l vs) (hb:s.heap.IsList b ws) (hz:vs.size+ws.size≤sizeLine)
    (h:Q (.ref s.heap.objs.size) { s with heap:=s.heap.push { cls:=.type "list",data:=.seq (vs++ws) } }):wpAny (model X.prog X.w) A (binaryOp .Add (.ref l) (.ref b)) Q E s:=by
  obtain ⟨⟨cls,dd,data,sl⟩,ho,hc,n,hd⟩:=id hl
  obtain ⟨⟨cls2,dd2,data2,sl2⟩,ho2,hc2,n2,hd2⟩:=id hb
  simp only at hc hd hc2 hd2
  subst hc hd hc2 hd2
  exact concat_meets ⟨_,ho,rfl⟩ ⟨_,ho2,rfl⟩ noFill_list_add seq_list_add PySem.F.slot_list_add PySem.F.entry_list_add (PySem.F.args_list_add_2 _ _) (list_addW l b vs ws n n2 dd dd2 sl sl2 hz) ⟨ho,ho2,h⟩
theorem ev_cat {l r:Expr} {pos:Pos} {ds es:List PyData} (hl:EvS X k env ρ l ds) (hr:EvS X k env ρ r es) (hz:ds.length+es.length≤sizeLine):Ev X k env ρ (.BinOp l .Add r pos) (.list (ds++es)):=fun A bad O s R q =>
  wpAny_BinOp (hl.use R q fun a vs s1 x1 r1 l1 q1=>hr.use R r1 fun b ws s2 x2 r2 l2 q2 =>
    add_lists_at (IsList_ext x2 l1) (PL_is l2) (by rw [← Array.length_toList,← Array.length_toList,← q1.length,← q2.length];exact hz) ⟨(x1.trans x2).trans (Ext.push _ _),rep_newList r2 (by simpa using (q1.ext x2).append q2)⟩)
theorem glob_use {A:Around} {bad:Addr→Prop} {O:Str→Option Addr} {s:Shared} {x:Str} {pos:Pos} {v:Value} {Q:Value→Shared→Prop} (r:Rel X bad O env ρ s) (hx:X.gl x=some v) (hk:env.kindOf x=some .globalImplicit) (hq:Q v s)
    (hd:(x == ("__debug__":Str))=false:=by decide):wpAny (model X.prog X.w) A (eval (.Name x pos) env) Q noE s:=by
  refine wpAny_Name ?_ hd
  rw [loadName_read r.ok.kind hk]
  unfold loadGlobal
  rw [r.ok.globals,r.ok.builtins]
  rcases r.wf.gl x v hx with e | ⟨e,e'⟩
  · refine wpAny_bind (wpAny_nsGet (r.wf.g.keeps r.base) ?_)
    rw [e];exact wpAny_pure hq
  · refine wpAny_bind (wpAny_nsGet (r.wf.g.keeps r.base) ?_)
    rw [e]
    refine wpAny_bind (wpAny_nsGet (r.wf.b.keeps r.base) ?_)
    rw [e'];exact wpAny_pure hq
theorem EvL.args {f:Value} {pos:Pos} {e:Expr} {es:List Expr} {ds:List PyData} (h:EvL X k env ρ pos (e :: es) ds) (he:starEach (e :: es) env=(false,eval e env) :: starEach es env)
    {A:Around} {bad:Addr→Prop} {O:Str→Option Addr} {s:Shared} {Q:Args→Shared→Prop} (R:Room k A) (r:Rel X bad O env ρ s)
    (hq:∀ vs s',Ext s s'→Rel X bad O env ρ s'→RepL (aN bad O) s'.heap ds vs→Q ⟨vs,[]⟩ s'):wpAny (model X.prog X.w) A (evalArgs f true (backTo pos (starEach (e :: es) env)) []) Q noE s:=by
  have h':=h A bad O s R r
  rw [he] at h' ⊢
  exact Calls.evalArgs_plain (wpAny_mono h' (fun vs s1 q=>hq vs s1 q.1 (r.ext q.1) q.2) fun _ _ x=>x)
end
noncomputable def aH:List (Str×B)→Str→B→List (Str×B)
  | [],x,b=>[(x,b)]
  | (y,c) :: r,x,b=>if x=y then (y,b) :: r else (y,c) :: aH r x b
theorem put_self (x:Str) (b:B):∀ ρ:List (Str×B),(aH ρ x b).lookup x=some b
  | []=>by simp [aH]
  | (y,c) :: r=>by
    unfold aH
    by_cases h:x=y
    · rw [if_pos h,List.lookup_cons];simp [h]
    · rw [if_neg h,List.lookup_cons,put_self x b r]
      have:(x == y)=false:=beq_eq_false_iff_ne.mpr h
      rw [this]
theorem put_ne {x z:Str} (b:B) (hz:z ≠ x):∀ ρ:List (Str×B),(aH ρ x b).lookup z=ρ.lookup z
  | []=>by
    have:(z == x)=false:=beq_eq_false_iff_ne.mpr hz
    simp [aH,List.lookup_cons,this]
  | (y,c) :: r=>by
    unfold aH
    by_cases h:x=y
    · rw [if_pos h,List.lookup_cons,List.lookup_cons]
      have:(z == y)=false:=beq_eq_false_iff_ne.mpr (h ▸ hz)
      rw [this]
    · rw [if_neg h,List.lookup_cons,List.lookup_cons,put_ne b hz r]

noncomputable def neS (a b:Str):Bool:=!decide (a=b)
theorem hs {x:Str} {b:B} {ρ:List (Str×B)}:(aH ρ x b).lookup x=some b:=put_self x b ρ
theorem hn2 {z x:Str} {c b:B} {ρ:List (Str×B)} (q:z ≠ x) (h:ρ.lookup z=some c):(aH ρ x b).lookup z=some c:=(put_ne b q ρ).trans h
theorem hn {z x:Str} {c b:B} {ρ:List (Str×B)} (h:ρ.lookup z=some c) (q:neS z x=true):(aH ρ x b).lookup z=some c:=hn2 (by simpa [neS] using q) h
noncomputable def Own (env:Env) (x:Str):Prop:=env.kindOf x=some .local∨(env.kindOf x=some .cell∧∃ c,env.cells.lookup x=some c)

structure Step (env:Env) (O O':Str→Option Addr) (s s':Shared):Prop where
  keep:∀ b o,¬ Place env b→(∀ x,O x ≠ some b)→s.heap.get? b=some o→s'.heap.get? b=some o
  alive:∀ b o,s.heap.get? b=some o→∃ o',s'.heap.get? b=some o'
  new:∀ x l,O' x=some l→(∃ y,O y=some l)∨s.heap.get? l=none
theorem Step.refl (env:Env) (O:Str→Option Addr) (s:Shared):Step env O O s s:=⟨fun _ _ _ _ e=>e,fun b o e=>⟨o,e⟩,fun x l e=>.inl ⟨x,e⟩⟩
theorem Step.of_ext {env:Env} {O:Str→Option Addr} {s s':Shared} (x:Ext s s'):Step env O O s s':=⟨fun _ _ _ _ e=>x.keep _ _ e,fun b o e=>⟨o,x.keep _ _ e⟩,fun x l e=>.inl ⟨x,e⟩⟩
theorem Step.trans {env:Env} {O O' O'':Str→Option Addr} {s s' s'':Shared} (a:Step env O O' s s') (b:Step env O' O'' s' s''):Step env O O'' s s'' where
  keep:=fun c o hp ho e=>b.keep c o hp (fun x hx=>by
    rcases a.new x c hx with ⟨y,hy⟩ | h
    · exact ho y hy
    · rw [e] at h;cases h) (a.keep c o hp ho e)
  alive:=fun c o e=>let ⟨o',e'⟩:=a.alive c o e;b.alive c o' e'
  new:=fun x l e=>by
    rcases b.new x l e with ⟨y,hy⟩ | h
    · exact a.new y l hy
    · refine .inr ?_
      cases q:s.heap.get? l with
      | none=>rfl
      | some o=>obtain ⟨o',e'⟩:=a.alive l o q;rw [e'] at h;cases h
theorem same_alive {p:Addr} {h h':Heap} (hs:Heap.SameBut p h h') {o':Obj} (hp:h'.get? p=some o'):∀ b o,h.get? b=some o→∃ o',h'.get? b=some o':=fun b o e=>by
  by_cases q:b=p
  · subst q;exact ⟨o',hp⟩
  · exact ⟨o,(hs.2 b q).trans e⟩

section
variable {X:Cx} {k:Nat} {env:Env} {ρ:List (Str×B)}
theorem store_at {A:Around} {s:Shared} {x:Str} {v:Value} {h₀:Heap} {Q:Unit→Shared→Prop} {E:Value→Shared→Prop} {M:Model} (ok:EnvOk env) (f:FrameOk h₀ env s.heap) (hx:Own env x)
    (hq:∀ h' t p,Place env p→(env.kindOf x=some .local→p=env.locals)→Heap.SameBut p s.heap h'→Lk h' env x v→(∀ y u,y ≠ x→Lk s.heap env y u→Lk h' env y u)→FrameOk h₀ env h'→Q () { s with heap:=h',toks:=t }) :
    wpAny M A (storeName env x v) Q E s:=by
  obtain ⟨m,hm⟩:=f.ns
  rcases hx with hl | ⟨hl,c,hc⟩
  · refine wpAny_storeName_local hl hm (fun h' hn hs=>hq h' _ env.locals (.inl rfl) (fun _=>rfl) hs (.inl ⟨hl,_,hn,by simp⟩) (fun y u hy lk=>?_) ⟨⟨_,hn⟩,fun n c e=>let ⟨v,a⟩:=f.cell n c e;⟨v,a.sameBut hs (f.ne n c e)⟩,f.ne,f.inj,f.new,f.newc⟩) (by rw [ok.kind];rfl)
    rcases lk with ⟨a,m',b,c⟩ | ⟨a,c,b,d⟩ | ⟨a,n,c,b,d⟩
    · refine .inl ⟨a,_,hn,?_⟩
      have e:m'=m:=by
        obtain ⟨o,es,ep,ho,hd,_,hf⟩:=b
        obtain ⟨o',es',ep',ho',hd',_,hf'⟩:=hm
        rw [ho] at ho';cases ho'
        rw [hd] at hd';cases hd'
        funext z;rw [← hf z,hf' z]
      show (if y=x then some v else m y)=some u
      rw [if_neg hy,← e];exact c
    · exact .inr (.inl ⟨a,c,b,d.sameBut hs (f.ne y c b)⟩)
    · exact .inr (.inr ⟨a,n,c,b,d.sameBut hs (f.ne y c b)⟩)
  · obtain ⟨v₀,hv⟩:=f.cell x c hc
    refine wpAny_storeName_cell ok.kind hl hc hv fun h' hn hs=>hq h' _ c (.inr ⟨x,hc⟩) (fun q=>by rw [hl] at q;cases q) hs (.inr (.inl ⟨hl,c,hc,hn⟩)) (fun y u hy lk=>?_) ⟨⟨m,hm.sameBut hs (Ne.symm (f.ne x c hc))⟩,fun n d e=>?_,f.ne,f.inj,f.new,f.newc⟩
    · rcases lk with ⟨a,m',b,e⟩ | ⟨a,d,b,e⟩ | ⟨a,n,d,b,e⟩
      · exact .inl ⟨a,m',b.sameBut hs (Ne.symm (f.ne x c hc)),e⟩
      · exact .inr (.inl ⟨a,d,b,e.sameBut hs fun q=>hy (f.inj y x d b (q ▸ hc))⟩)
      · exact .inr (.inr ⟨a,n,d,b,e.sameBut hs fun q=>hy (f.inj y x d b (q ▸ hc))⟩)
    · by_cases q:d=c
      · exact ⟨_,q ▸ hn⟩
      · obtain ⟨v,a⟩:=f.cell n d e;exact ⟨v,a.sameBut hs q⟩
theorem place_noseq {h₀ h h':Heap} {p:Addr} (f:FrameOk h₀ env h) (hp:Place env p) (hs:Heap.SameBut p h h') (bad:Addr→Prop):KeepSeq bad h h':=fun b o vs n _ e ed=>by
  refine (hs.2 b fun q=>?_).trans e
  subst q
  rcases hp with rfl | ⟨n,hn⟩
  · obtain ⟨m,o',es,ep,ho,hd,_⟩:=f.ns
    rw [ho] at e;cases e;rw [hd] at ed;cases ed
  · obtain ⟨v,o',ho,hd⟩:=f.cell n b hn
    rw [ho] at e;cases e;rw [hd] at ed;cases ed
theorem place_alive {h₀ h:Heap} {p:Addr} (f:FrameOk h₀ env h) (hp:Place env p):∃ o,h.get? p=some o:=by
  rcases hp with rfl | ⟨n,hn⟩
  · obtain ⟨m,o',es,ep,ho,_⟩:=f.ns;exact ⟨_,ho⟩
  · obtain ⟨v,o',ho,_⟩:=f.cell n p hn;exact ⟨_,ho⟩
theorem place_new {h₀ h:Heap} {p:Addr} (f:FrameOk h₀ env h) (hp:Place env p):h₀.get? p=none:=by
  rcases hp with rfl | ⟨n,hn⟩
  · exact f.new
  · exact f.newc n p hn
noncomputable def del (O:Str→Option Addr) (x:Str):Str→Option Addr:=fun y=>if y=x then none else O y
theorem badO_del {bad:Addr→Prop} {O:Str→Option Addr} {x:Str} {a:Addr} (h:aN bad (del O x) a):aN bad O a:=h.imp id fun ⟨y,e⟩=>⟨y,by unfold del at e;split at e;cases e;exact e⟩
theorem del_some {O:Str→Option Addr} {x y:Str} {l:Addr} (e:del O x y=some l):y ≠ x∧O y=some l:=by
  unfold del at e
  by_cases h:y=x
  · rw [if_pos h] at e;cases e
  · rw [if_neg h] at e;exact ⟨h,e⟩
theorem del_ne {O:Str→Option Addr} {x y:Str} {l:Addr} (h:y ≠ x) (e:O y=some l):del O x y=some l:=(if_neg h).trans e
theorem put_some {ρ:List (Str×B)} {x y:Str} {b c:B} (e:(aH ρ x b).lookup y=some c):(y=x∧c=b)∨(y ≠ x∧ρ.lookup y=some c):=by
  by_cases h:y=x
  · subst h;rw [put_self] at e;exact .inl ⟨rfl,(Option.some.inj e).symm⟩
  · rw [put_ne _ h] at e;exact .inr ⟨h,e⟩
noncomputable def GoodAt (X:Cx) (bad:Addr→Prop) (env:Env) (ρ:List (Str×B)) (x:Str) (l:Addr):Prop:=¬ bad l∧X.h₀.get? l=none∧¬ Place env l∧∃ b,ρ.lookup x=some b∧b.owns
theorem GoodAt.pt {bad:Addr→Prop} {x y:Str} {l:Addr} {b:B} (g:GoodAt X bad env ρ y l) (h:y ≠ x):GoodAt X bad env (aH ρ x b) y l :=
  ⟨g.1,g.2.1,g.2.2.1,let ⟨c,h1,h2⟩:=g.2.2.2;⟨c,hn2 h h1,h2⟩⟩
theorem GoodAt.new {bad:Addr→Prop} {x y:Str} {l:Addr} {b:B} (g:GoodAt X bad env ρ y l) (hb:b.owns):GoodAt X bad env (aH ρ x b) x l:=⟨g.1,g.2.1,g.2.2.1,b,hs,hb⟩
theorem Rel.drops {bad:Addr→Prop} {O:Str→Option Addr} {s s':Shared} {x:Str} {b:B} (r:Rel X bad O env ρ s) (base:∀ b o,X.h₀.get? b=some o→s'.heap.get? b=some o) (gens:s'.gens=s.gens) (os:s'.os=s.os) (frm:FrameOk X.h₀ env s'.heap) (low:∀ b o,s.heap.get? b=some o→∃ o',s'.heap.get? b=some o')
    (hold:Holds bad (del O x) env s' x b) (mv:∀ y c,y ≠ x→Holds bad O env s y c→Holds bad (del O x) env s' y c):Rel X bad (del O x) env (aH ρ x b) s' where
  wf:=r.wf
  base:=base
  gens:=gens.trans r.gens
  os:=os.trans r.os
  ok:=r.ok
  frm:=frm
  holds:=fun y c e=>by
    rcases put_some e with ⟨h,h'⟩ | ⟨hy,e⟩
    · rw [h,h'];exact hold
    · exact mv y c hy (r.holds y c e)
  inj:=fun y z l e e'=>r.inj y z l (del_some e).2 (del_some e').2
  low:=fun a e=>let ⟨o,ho⟩:=r.low a e;low a o ho
  good:=fun y l e=>GoodAt.pt (r.good y l (del_some e).2) (del_some e).1
  dat:=r.dat
theorem Rel.turns {bad:Addr→Prop} {O:Str→Option Addr} {s s':Shared} {x:Str} {l:Addr} {b:B} (r:Rel X bad O env ρ s) (base:∀ b o,X.h₀.get? b=some o→s'.heap.get? b=some o) (gens:s'.gens=s.gens) (os:s'.os=s.os) (frm:FrameOk X.h₀ env s'.heap) (low:∀ b o,s.heap.get? b=some o→∃ o',s'.heap.get? b=some o')
    (hO:O x=some l) (hb:b.owns) (hold:Holds bad O env s' x b) (mv:∀ y c,y ≠ x→Holds bad O env s y c→Holds bad O env s' y c):Rel X bad O env (aH ρ x b) s' where
  wf:=r.wf
  base:=base
  gens:=gens.trans r.gens
  os:=os.trans r.os
  ok:=r.ok
  frm:=frm
  holds:=fun y c e=>by
    rcases put_some e with ⟨h,h'⟩ | ⟨hy,e⟩
    · rw [h,h'];exact hold
    · exact mv y c hy (r.holds y c e)
  inj:=r.inj
  low:=fun a e=>let ⟨o,ho⟩:=r.low a e;low a o ho
  good:=fun y l' e=>by
    by_cases h:y=x
    · subst h;exact GoodAt.new (r.good y l' e) hb
    · exact GoodAt.pt (r.good y l' e) h
  dat:=r.dat
noncomputable def ins (O:Str→Option Addr) (x:Str) (l:Addr):Str→Option Addr:=fun y=>if y=x then some l else O y
theorem ins_some {O:Str→Option Addr} {x y:Str} {l l':Addr} (e:ins O x l y=some l'):(y=x∧l'=l)∨(y ≠ x∧O y=some l'):=by
  unfold ins at e
  by_cases h:y=x
  · rw [if_pos h] at e;exact .inl ⟨h,(Option.some.inj e).symm⟩
  · rw [if_neg h] at e;exact .inr ⟨h,e⟩
theorem ins_ne {O:Str→Option Addr} {x y:Str} {l l':Addr} (h:y ≠ x) (e:O y=some l'):ins O x l y=some l':=(if_neg h).trans e
theorem ins_self {O:Str→Option Addr} {x:Str} {l:Addr}:ins O x l x=some l:=if_pos rfl
theorem badO_ins {bad:Addr→Prop} {O:Str→Option Addr} {x:Str} {l a:Addr} (h:aN bad (ins O x l) a):aN bad O a∨a=l:=by
  rcases h with h | ⟨y,e⟩
  · exact .inl (.inl h)
  · exact (ins_some e).elim (fun h=>.inr h.2) fun h=>.inl (.inr ⟨y,h.2⟩)
theorem Rel.joins {bad:Addr→Prop} {O:Str→Option Addr} {s s':Shared} {x:Str} {l:Addr} {b:B} (r:Rel X bad O env ρ s) (base:∀ b o,X.h₀.get? b=some o→s'.heap.get? b=some o) (gens:s'.gens=s.gens) (os:s'.os=s.os) (frm:FrameOk X.h₀ env s'.heap) (low:∀ b o,s.heap.get? b=some o→∃ o',s'.heap.get? b=some o')
    (hl:¬ aN bad O l) (h0:X.h₀.get? l=none) (hp:¬ Place env l) (hb:b.owns) (hold:Holds bad (ins O x l) env s' x b) (mv:∀ y c,y ≠ x→Holds bad O env s y c→Holds bad (ins O x l) env s' y c):Rel X bad (ins O x l) env (aH ρ x b) s' where
  wf:=r.wf
  base:=base
  gens:=gens.trans r.gens
  os:=os.trans r.os
  ok:=r.ok
  frm:=frm
  holds:=fun y c e=>by
    rcases put_some e with ⟨h,h'⟩ | ⟨hy,e⟩
    · rw [h,h'];exact hold
    · exact mv y c hy (r.holds y c e)
  inj:=fun y z l' e e'=>by
    rcases ins_some e with ⟨h,q⟩ | ⟨_,e⟩
    · rcases ins_some e' with ⟨h',_⟩ | ⟨_,e'⟩
      · exact h.trans h'.symm
      · exact absurd (.inr ⟨z,q ▸ e'⟩) hl
    · rcases ins_some e' with ⟨_,q⟩ | ⟨_,e'⟩
      · exact absurd (.inr ⟨y,q ▸ e⟩) hl
      · exact r.inj y z l' e e'
  low:=fun a e=>let ⟨o,ho⟩:=r.low a e;low a o ho
  good:=fun y l' e=>by
    rcases ins_some e with ⟨h,q⟩ | ⟨h,e⟩
    · subst h q;exact ⟨fun h=>hl (.inl h),h0,hp,b,hs,hb⟩
    · exact GoodAt.pt (r.good y l' e) h
  dat:=r.dat
theorem store_b {A:Around} {bad:Addr→Prop} {O:Str→Option Addr} {s:Shared} {x:Str} {v:Value} {b:B} {Q:Unit→Shared→Prop} {E:Value→Shared→Prop} {M:Model} (r:Rel X bad O env ρ s) (hx:Own env x)
    (hb:∀ s',Lk s'.heap env x v→(∀ {d u},Rep (aN bad O) s.heap d u→Rep (aN bad (del O x)) s'.heap d u)→Holds bad (del O x) env s' x b)
    (hq:∀ s',Step env O (del O x) s s'→Rel X bad (del O x) env (aH ρ x b) s'→(env.kindOf x=some .local→(∀ b o,b ≠ env.locals→s.heap.get? b=some o→s'.heap.get? b=some o))→Q () s'):wpAny M A (storeName env x v) Q E s:=by
  refine store_at r.ok r.frm hx fun h' t p hp hpl hs hl hk f'=>?_
  have nb:∀ b o,b ≠ p→s.heap.get? b=some o→h'.get? b=some o:=fun b o n e=>(hs.2 b n).trans e
  obtain ⟨op,hop⟩:=place_alive f' hp
  have al:=same_alive hs hop
  have km:∀ a o vs n,¬ aN bad O a→s.heap.get? a=some o→o.data=.seq vs n→¬ aN bad (del O x) a∧h'.get? a=some o:=fun a o vs n h e ed=>⟨fun h'=>h (badO_del h'),place_noseq r.frm hp hs (aN bad O) a o vs n h e ed⟩
  exact hq _ ⟨fun b o hb _ e=>nb b o (fun q=>hb (q ▸ hp)) e,al,fun y l e=>.inl ⟨y,(del_some e).2⟩⟩
    (r.drops (fun b o e=>nb b o (fun q=>by rw [q,place_new r.frm hp] at e;cases e) (r.base b o e)) rfl rfl f' al (hb _ hl fun q=>q.map km) fun y c hy h =>
      h.move (fun u=>hk y u hy) (fun l=>del_ne hy) (fun l o h=>nb l o fun q=>(r.good y l h).2.2.1 (q ▸ hp)) km) (fun q b o hb e=>nb b o (fun z=>hb (z.trans (hpl q))) e)
theorem store_val' {A:Around} {bad:Addr→Prop} {O:Str→Option Addr} {s:Shared} {x:Str} {v:Value} {d:PyData} {Q:Unit→Shared→Prop} {E:Value→Shared→Prop} {M:Model} (r:Rel X bad O env ρ s) (hx:Own env x) (q:Rep (aN bad O) s.heap d v)
    (hq:∀ s',Step env O (del O x) s s'→Rel X bad (del O x) env (aH ρ x (.val d)) s'→(env.kindOf x=some .local→(∀ b o,b ≠ env.locals→s.heap.get? b=some o→s'.heap.get? b=some o))→Q () s'):wpAny M A (storeName env x v) Q E s:=store_b r hx (fun _ l k=>.val l (k q)) hq
theorem store_raw {A:Around} {bad:Addr→Prop} {O:Str→Option Addr} {s:Shared} {x:Str} {v:Value} {Q:Unit→Shared→Prop} {E:Value→Shared→Prop} {M:Model} (r:Rel X bad O env ρ s) (hx:Own env x)
    (hq:∀ s',Step env O (del O x) s s'→Rel X bad (del O x) env (aH ρ x (.raw v)) s'→(env.kindOf x=some .local→(∀ b o,b ≠ env.locals→s.heap.get? b=some o→s'.heap.get? b=some o))→Q () s'):wpAny M A (storeName env x v) Q E s:=store_b r hx (fun _ l _=>.raw l) hq
theorem store_val {A:Around} {bad:Addr→Prop} {O:Str→Option Addr} {s:Shared} {x:Str} {v:Value} {d:PyData} {Q:Unit→Shared→Prop} {E:Value→Shared→Prop} {M:Model} (r:Rel X bad O env ρ s) (hx:Own env x) (q:Rep (aN bad O) s.heap d v)
    (hq:∀ s',Step env O (del O x) s s'→Rel X bad (del O x) env (aH ρ x (.val d)) s'→Q () s'):wpAny M A (storeName env x v) Q E s:=store_val' r hx q fun s' a b _=>hq s' a b
end
end Mine
local macro_rules | `(tactic| k_mem)=>`(tactic| ((repeat (first | with_reducible exact Mine.hs | refine Mine.hn ?_ rfl)) <;> first | assumption | exact Mine.hs | rfl))
namespace Mine
inductive Fl where
  | next | brk | cont
  | ret (d:PyData)
noncomputable def FlIs (bad:Addr→Prop) (h:Heap):Fl→Flow→Prop
  | .next,f=>f=.next
  | .brk,f=>f=.brk
  | .cont,f=>f=.cont
  | .ret d,f=>∃ v,f=.ret v∧Rep bad h d v
noncomputable def Post (X:Cx) (env:Env) (bad:Addr→Prop) (O:Str→Option Addr) (s:Shared) (Q:Fl→List (Str×B)→Prop) (fl:Flow) (s':Shared):Prop :=
  ∃ f ρ' O',Q f ρ'∧FlIs bad s'.heap f fl∧Step env O O' s s'∧Rel X bad O' env ρ' s'
noncomputable def Exs (X:Cx) (k:Nat) (env:Env) (ρ:List (Str×B)) (ss:List Stmt) (Q:Fl→List (Str×B)→Prop):Prop :=
  ∀ (A:Around) (bad:Addr→Prop) (O:Str→Option Addr) (s:Shared),Room k A→Rel X bad O env ρ s→wpAny (model X.prog X.w) A (execs ss env) (Post X env bad O s Q) noE s
noncomputable def Ex1 (X:Cx) (k:Nat) (env:Env) (ρ:List (Str×B)) (st:Stmt) (Q:Fl→List (Str×B)→Prop):Prop :=
  ∀ (A:Around) (bad:Addr→Prop) (O:Str→Option Addr) (s:Shared),Room k A→Rel X bad O env ρ s→wpAny (model X.prog X.w) A (exec st env) (Post X env bad O s Q) noE s
section
variable {X:Cx} {k:Nat} {env:Env} {ρ:List (Str×B)} {Q:Fl→List (Str×B)→Prop}
theorem Post.from {bad:Addr→Prop} {O O':Str→Option Addr} {s s' s'':Shared} {fl:Flow} (a:Step env O O' s s') (p:Post X env bad O' s' Q fl s''):Post X env bad O s Q fl s'' :=
  let ⟨f,ρ',O'',q,i,b,r⟩:=p;⟨f,ρ',O'',q,i,a.trans b,r⟩
theorem Exs.from {ss:List Stmt} (h:Exs X k env ρ ss Q) {A:Around} {bad:Addr→Prop} {O O':Str→Option Addr} {s s':Shared} (R:Room k A) (a:Step env O O' s s') (r:Rel X bad O' env ρ s') :
    wpAny (model X.prog X.w) A (execs ss env) (Post X env bad O s Q) noE s':=wpAny_mono (h A bad O' s' R r) (fun _ _ p=>p.from a) fun _ _ x=>x
theorem aE (h:Q .next ρ):Exs X k env ρ [] Q:=fun A bad O s R r=>wpAny_execs_nil ⟨.next,ρ,O,h,rfl,Step.refl _ _ _,r⟩
noncomputable def Nx (X:Cx) (k:Nat) (env:Env) (ss:List Stmt) (Q:Fl→List (Str×B)→Prop) (f:Fl) (ρ':List (Str×B)):Prop:=match f with | .next=>Exs X k env ρ' ss Q | f=>Q f ρ'
theorem aB {st:Stmt} {ss:List Stmt} (h:Ex1 X k env ρ st (Nx X k env ss Q)):Exs X k env ρ (st :: ss) Q:=fun A bad O s R r =>
  wpAny_execs_cons (wpAny_mono (h A bad O s R r) (fun fl s' p=>by
    obtain ⟨f,ρ',O',q,i,b,r'⟩:=p
    cases f with
    | next=>cases i;exact q.from R b r'
    | brk=>cases i;exact ⟨.brk,ρ',O',q,rfl,b,r'⟩
    | cont=>cases i;exact ⟨.cont,ρ',O',q,rfl,b,r'⟩
    | ret d=>obtain ⟨v,rfl,rv⟩:=i;exact ⟨.ret d,ρ',O',q,⟨v,rfl,rv⟩,b,r'⟩) fun _ _ x=>x)
theorem aR {x:Str} {p pos:Pos} {e:Expr} {d:PyData} (he:Ev X k env ρ e d) (hx:Own env x) (hq:Q .next (aH ρ x (.val d))) (hs:swapsWith e (some (.Name x p)) pos.line env=pure false:=by rfl) :
    Ex1 X k env ρ (.Assign [.Name x p] e pos) Q:=fun A bad O s R r =>
  wpAny_Assign_Name (he.use R r fun v s1 x1 r1 q1=>store_val r1 hx q1 fun s2 st r2=>⟨.next,_,_,hq,rfl,(Step.of_ext x1).trans st,r2⟩) hs
theorem ex_if {test:Expr} {body orelse:List Stmt} {pos:Pos} {b:Bool} (ht:Tst X k env ρ test b) (h1:b=true→Exs X k env ρ body Q) (h2:b=false→Exs X k env ρ orelse Q):Ex1 X k env ρ (.If test body orelse pos) Q:=fun A bad O s R r =>
  wpAny_If (ht.use R r fun s1 x1 r1=>by
    cases b with
    | true=>exact (h1 rfl).from R (Step.of_ext x1) r1
    | false=>exact (h2 rfl).from R (Step.of_ext x1) r1)
theorem Rep.weak {bad:Addr→Prop} {O:Str→Option Addr} {h:Heap} {d:PyData} {v:Value} (r:Rep (aN bad O) h d v):Rep bad h d v:=r.imp fun _ _ _ h=>.inl h
theorem ex_return {e:Expr} {pos:Pos} {d:PyData} (he:Ev X k env ρ e d) (hq:Q (.ret d) ρ):Ex1 X k env ρ (.Return (some e) pos) Q:=fun A bad O s R r =>
  wpAny_Return_some (he.use R r fun v s1 x1 r1 q1=>⟨.ret d,ρ,O,hq,⟨v,rfl,q1.weak⟩,Step.of_ext x1,r1⟩)
theorem ex_returnOwn {x:Str} {p pos:Pos} {ds:List PyData} (hx:ρ.lookup x=some (.own ds)) (hq:Q (.ret (.list ds)) ρ) (hd:(x == ("__debug__":Str))=false:=by decide):Ex1 X k env ρ (.Return (some (.Name x p)) pos) Q:=fun A bad O s R r=>by
  obtain ⟨l,vs,n,o,lk,g,q⟩:=r.own x ds hx
  refine wpAny_Return_some (wpAny_Name (Lk.load r.ok.kind lk ⟨.ret (.list ds),ρ,O,hq,⟨_,rfl,.list (r.good x l o).1 g ?_⟩,Step.refl _ _ _,r⟩) hd)
  exact q.imp fun _ _ _ h=>.inl h
theorem ex_continue {pos:Pos} (hq:Q .cont ρ):Ex1 X k env ρ (.Continue pos) Q:=fun A bad O s R r=>wpAny_Continue ⟨.cont,ρ,O,hq,rfl,Step.refl _ _ _,r⟩
theorem ex_break {pos:Pos} (hq:Q .brk ρ):Ex1 X k env ρ (.Break pos) Q:=fun A bad O s R r=>wpAny_Break ⟨.brk,ρ,O,hq,rfl,Step.refl _ _ _,r⟩
structure Loop (J:List (Str×B)→Prop) (Q Q':Fl→List (Str×B)→Prop):Prop where
  next:∀ {ρ},J ρ→Q' .next ρ
  cont:∀ {ρ},J ρ→Q' .cont ρ
  brk:∀ {ρ},Q .next ρ→Q' .brk ρ
  ret:∀ {ρ d},Q (.ret d) ρ→Q' (.ret d) ρ
noncomputable def LoopQ (J:List (Str×B)→Prop) (Q:Fl→List (Str×B)→Prop) (f:Fl) (ρ:List (Str×B)):Prop:=match f with
  | .next | .cont=>J ρ
  | .brk=>Q .next ρ
  | .ret d=>Q (.ret d) ρ
theorem loopQ {J:List (Str×B)→Prop} {Q:Fl→List (Str×B)→Prop}:Loop J Q (LoopQ J Q):=⟨id,id,id,id⟩
theorem ex_while {test:Expr} {body:List Stmt} {pos:Pos} (I:Nat→List (Str×B)→Prop) {n:Nat} (h0:I n ρ)
    (turn:∀ n ρ',I n ρ'→∀ Q',Loop (fun ρ=>∃ m,m < n∧I m ρ) Q Q'→∃ b,Tst X k env ρ' test b∧(b=true→Exs X k env ρ' body Q')∧(b=false→Q .next ρ')):Ex1 X k env ρ (.While test body [] pos) Q:=fun A bad O s R r=>by
  refine wpAny_While (codeAny_whileLoop (fun n s'=>∃ ρ' O',I n ρ'∧Step env O O' s s'∧Rel X bad O' env ρ' s') ?_ n ⟨ρ,O,h0,Step.refl _ _ _,r⟩)
  rintro n s' ⟨ρ',O',hI,st,r'⟩
  obtain ⟨b,ht,h1,h2⟩:=turn n ρ' hI _ loopQ
  refine wpAny_mono (ht.use R r' (Q:=fun b' s₂=>if b' then wpAny (model X.prog X.w) A (execs body env) (fun f s₃=>match f with
            | .next | .cont=>∃ m,m < n∧∃ ρ' O',I m ρ'∧Step env O O' s s₃∧Rel X bad O' env ρ' s₃
            | .brk=>Post X env bad O s Q .next s₃
            | .ret v=>Post X env bad O s Q (.ret v) s₃) noE s₂
        else wpAny (model X.prog X.w) A (execs [] env) (fun f s₃=>Post X env bad O s Q f s₃) noE s₂) fun s1 x1 r1=>?_) (fun b' s₂ h=>?_) fun _ _ x=>x.elim
  · cases b with
    | false=>exact wpAny_execs_nil ⟨.next,ρ',O',h2 rfl,rfl,st.trans (Step.of_ext x1),r1⟩
    | true =>
      refine wpAny_mono (h1 rfl A bad O' s1 R r1) (fun fl s2 p=>?_) fun _ _ x=>x
      obtain ⟨f,ρ'',O'',q,i,b,r2⟩:=p
      have st2:=(st.trans (Step.of_ext x1)).trans b
      cases f with
      | next=>cases i;obtain ⟨m,hm,hI⟩:=q;exact ⟨m,hm,ρ'',O'',hI,st2,r2⟩
      | cont=>cases i;obtain ⟨m,hm,hI⟩:=q;exact ⟨m,hm,ρ'',O'',hI,st2,r2⟩
      | brk=>cases i;exact ⟨.next,ρ'',O'',q,rfl,st2,r2⟩
      | ret d=>obtain ⟨v,rfl,rv⟩:=i;exact ⟨.ret d,ρ'',O'',q,⟨v,rfl,rv⟩,st2,r2⟩
  · cases b' with
    | true=>exact wpAny_mono h (fun f _ x=>by cases f <;> exact x) fun _ _ x=>x.elim
    | false=>exact wpAny_mono h (fun _ _ x=>x) fun _ _ x=>x.elim
end
theorem bindL_keep {kindOf:Str→Option NameKind} {x:Str}:∀ (binds:List (Str×Value)) (m:Str→Option Value),(∀ v,(x,v) ∉ binds)→bindL kindOf binds m x=m x
  | [],_,_=>rfl
  | (n,v) :: r,m,h=>by
    unfold bindL
    rw [bindL_keep r _ fun u hu=>h u (.tail _ hu)]
    have hn:x ≠ n:=fun e=>h v (e ▸ .head _)
    split
    · exact if_neg hn
    · rfl
theorem bindL_get {kindOf:Str→Option NameKind} {x:Str} {v:Value} (hk:kindOf x=some .local):∀ (binds:List (Str×Value)) (m:Str→Option Value),(binds.map (·.1)).Nodup→(x,v)∈binds→bindL kindOf binds m x=some v
  | (n,u) :: r,m,nd,h=>by
    unfold bindL
    rw [List.map_cons,List.nodup_cons] at nd
    cases h with
    | head=>rw [bindL_keep r _ fun u hu=>nd.1 (List.mem_map.mpr ⟨_,hu,rfl⟩),if_pos hk];simp
    | tail _ h=>exact bindL_get hk r _ nd.2 h
theorem bindC_keep {kindOf:Str→Option NameKind} {x:Str}:∀ (binds:List (Str×Value)) (m:Str→Option Value),(∀ v,(x,v) ∉ binds)→bindC kindOf binds m x=m x
  | [],_,_=>rfl
  | (n,v) :: r,m,h=>by
    unfold bindC
    rw [bindC_keep r _ fun u hu=>h u (.tail _ hu)]
    have hn:x ≠ n:=fun e=>h v (e ▸ .head _)
    split
    · rfl
    · exact if_neg hn
theorem bindC_get {kindOf:Str→Option NameKind} {x:Str} {v:Value} (hk:kindOf x ≠ some .local):∀ (binds:List (Str×Value)) (m:Str→Option Value),(binds.map (·.1)).Nodup→(x,v)∈binds→bindC kindOf binds m x=some v
  | (n,u) :: r,m,nd,h=>by
    unfold bindC
    rw [List.map_cons,List.nodup_cons] at nd
    cases h with
    | head=>rw [bindC_keep r _ fun u hu=>nd.1 (List.mem_map.mpr ⟨_,hu,rfl⟩),if_neg hk];simp
    | tail _ h=>exact bindC_get hk r _ nd.2 h

structure At (X:Cx) (s:Shared):Prop where
  wf:Wf X
  base:∀ b o,X.h₀.get? b=some o→s.heap.get? b=some o
  gens:s.gens=#[]
  os:s.os=X.os₀
theorem Rel.at {X:Cx} {bad:Addr→Prop} {O:Str→Option Addr} {env:Env} {ρ:List (Str×B)} {s:Shared} (r:Rel X bad O env ρ s):At X s:=⟨r.wf,r.base,r.gens,r.os⟩
theorem At.ext {X:Cx} {s s':Shared} (a:At X s) (x:Ext s s'):At X s':=⟨a.wf,fun b o e=>x.keep _ _ (a.base b o e),x.gens.trans a.gens,x.os.trans a.os⟩

noncomputable def Fun (X:Cx) (k:Nat) (f:Addr) (F:List PyData→PyData→Prop):Prop :=
  ∀ (A:Around) (bad:Addr→Prop) (s:Shared) (vs:List Value) (ds:List PyData) (d:PyData),Room k A→At X s→(∀ a,bad a→∃ o,s.heap.get? a=some o)→(∀ d v,X.dat d v→Rep bad X.h₀ d v)→RepL bad s.heap ds vs→F ds d →
    codeAny (model X.prog X.w) A (.call (.ref f) ⟨vs,[]⟩) (fun r s'=>∃ v,r=.ok (.ret v)∧Ext s s'∧Rep bad s'.heap d v) s

theorem lookup_zip_vals:∀ {names:List Str} {ds:List PyData} {vs:List Value} {bad:Addr→Prop} {h:Heap} {x:Str} {b:B},RepL bad h ds vs→(names.zip (ds.map B.val)).lookup x=some b →
    ∃ v d,(x,v)∈names.zip vs∧b=.val d∧Rep bad h d v
  | [],_,_,_,_,_,_,_,e=>by simp at e
  | n :: names,[],_,_,_,_,_,_,e=>by simp at e
  | n :: names,d :: ds,_,bad,h,x,b,.cons (v:=v) (vs:=vs) r q,e=>by
    simp only [List.map_cons,List.zip_cons_cons,List.lookup_cons] at e
    split at e
    · rename_i hx
      cases e
      have:=beq_iff_eq.mp hx
      subst this
      exact ⟨v,d,.head _,rfl,r⟩
    · obtain ⟨v',d',m,e',q'⟩:=lookup_zip_vals q e
      exact ⟨v',d',.tail _ m,e',q'⟩
theorem zip_fst_nodup:∀ {names:List Str} {vs:List Value},names.Nodup→((names.zip vs).map (·.1)).Nodup
  | [],_,_=>by simp
  | n :: names,[],_=>by simp
  | n :: names,v :: vs,h=>by
    rw [List.nodup_cons] at h
    simp only [List.zip_cons_cons,List.map_cons,List.nodup_cons]
    refine ⟨fun hm=>?_,zip_fst_nodup h.2⟩
    obtain ⟨⟨a,b⟩,hp,rfl⟩:=List.mem_map.mp hm
    exact h.1 (List.of_mem_zip hp).1

theorem Step.ext {env:Env} {O O':Str→Option Addr} {s s₁ s':Shared} (st:Step env O O' s₁ s') (hk:∀ b o,s.heap.get? b=some o→s₁.heap.get? b=some o) (hp:∀ b o,s.heap.get? b=some o→¬ Place env b) (hO:∀ x,O x=none) :
    ∀ b o,s.heap.get? b=some o→s'.heap.get? b=some o:=fun b o e=>st.keep b o (hp b o e) (fun x h=>by rw [hO x] at h;cases h) (hk b o e)

theorem fun_of_body {X:Cx} {k:Nat} {f:Addr} {o:Obj} {fd:FuncData} {body:List Stmt} {names:List Str} {F:List PyData→PyData→Prop}
    (ho:X.h₀.get? f=some o) (hdata:o.data=.func fd) (hcd:X.h₀.CodeRec fd.code fd.qualname) (hbody:fd.body=.stmts body) (hclo:fd.closure=[]) (hg:fd.globals=mainGlobals) (hb:fd.builtins=builtinsNs)
    (hbind:∀ vs:List Value,vs.length=names.length→bindArgs fd ⟨vs,[]⟩=pure (names.zip vs)) (hnd:names.Nodup) (hpar:∀ x∈names,fd.scope.names.lookup x=some .local∨(fd.scope.names.lookup x=some .cell∧∀ n,((cellsFrom n fd.scope.names []).lookup x).isSome=true))
    (hlen:∀ ds d,F ds d→ds.length=names.length)
    (hco:fd.scope.isCoroutine=false) (hgen:fd.scope.isGenerator=false) (hk:fd.scope.kind=.function)
    (h:∀ L ds d,F ds d→Exs X k (callEnvC fd L f) (names.zip (ds.map B.val)) body fun fl _=>fl=.ret d):Fun X (k+1) f F:=fun A bad s vs ds d R a low hdat q hF=>by
  have hl:=hlen ds d hF
  have hv:vs.length=names.length:=by rw [← q.length];exact hl
  refine codeAny_call_cells (o:=o) (fd:=fd) (body:=body) (binds:=names.zip vs) (by have:=R.depth;show A.depth < 1000;exact aQ 0xf113e81901f38419181a0ab0a0f rfl this) (a.base _ _ ho) hdata (a.wf.nolimit.keeps a.base) (hcd.keeps a.base) hbody (hbind vs hv) hclo (fun x hx=>?_) (fun s₁ I=>?_) hco hgen hk
  · rcases hpar x.1 (List.of_mem_zip (a:=x.1) (b:=x.2) hx).1 with e | ⟨e,e'⟩
    · exact .inl e
    · exact .inr ⟨e,e' _⟩
  · obtain ⟨⟨⟨h',tk,rfl⟩,ns,keep,fresh⟩,cell,apart,above⟩:=I
    have nodup:=zip_fst_nodup (vs:=vs) hnd
    have hnone:∀ c,s.heap.objs.size≤c→X.h₀.get? c=none:=fun c hc=>by
      cases e:X.h₀.get? c with
      | none=>rfl
      | some o=>exact absurd (Heap.lt_size (a.base _ _ e)) (Nat.not_lt.mpr hc)
    have hcs:∀ n c,(callEnvC fd s.heap.objs.size f).cells.lookup n=some c→s.heap.objs.size < c:=fun n c e=>above n c (mem_of_lookup e)
    have hpl:∀ b o,s.heap.get? b=some o→¬ Place (callEnvC fd s.heap.objs.size f) b:=fun b o e hp=>by
      have:=Heap.lt_size e
      rcases hp with rfl | ⟨n,hn⟩
      · exact Nat.lt_irrefl _ this
      · exact Nat.lt_irrefl _ (Nat.lt_trans this (hcs n b hn))
    have hlk:∀ x v,(x,v)∈names.zip vs→Lk h' (callEnvC fd s.heap.objs.size f) x v:=fun x v hm=>by
      rcases hpar x (List.of_mem_zip hm).1 with e | ⟨e,e'⟩
      · exact .inl ⟨e,_,ns,bindL_get (kindOf:=(callEnvC fd s.heap.objs.size f).kindOf) e _ _ nodup hm⟩
      · obtain ⟨c,hc⟩:=Option.isSome_iff_exists.mp (e' (s.heap.objs.size+1))
        refine .inr (.inl ⟨e,c,hc,?_⟩)
        have:=cell x c hc
        rwa [bindC_get (kindOf:=(callEnvC fd s.heap.objs.size f).kindOf) (by show fd.scope.names.lookup x ≠ _;rw [e];exact fun q=>by cases q) _ _ nodup hm] at this
    have r:Rel X bad (fun _=>none) (callEnvC fd s.heap.objs.size f) (names.zip (ds.map B.val)) { s with heap:=h',toks:=tk }:={
      wf:=a.wf
      base:=fun b o e=>keep _ _ (a.base b o e)
      gens:=a.gens
      os:=a.os
      ok:=⟨hk,hg,hb⟩
      frm:=⟨⟨_,ns⟩,fun n c e=>⟨_,cell n c e⟩,fun n c e=>Nat.ne_of_gt (hcs n c e),fun n n' c e e'=>name_of_addr apart (mem_of_lookup e) (mem_of_lookup e'),hnone _ (Nat.le_refl _),fun n c e=>hnone _ (Nat.le_of_lt (hcs n c e))⟩
      holds:=fun x b e=>by
        obtain ⟨v,d'',hm,e',rv⟩:=lookup_zip_vals q e
        subst e'
        exact .val (hlk x v hm) (rv.map fun a o _ _ hb e _=>⟨fun h=>h.elim hb fun ⟨_,e⟩=>(by cases e),keep _ _ e⟩)
      inj:=fun x y l e=>by cases e
      low:=fun b e=>let ⟨o,ho⟩:=low b e;⟨o,keep _ _ ho⟩
      good:=fun x l e=>by cases e
      dat:=hdat }
    refine wpAny_mono (h s.heap.objs.size ds d hF _ bad _ _ ⟨R.handled,?_,?_⟩ r) (fun fl s' p=>?_) fun _ _ x=>x.elim
    · have:=R.depth;show A.depth+1+_≤_;exact aQ 0xf113841910ab180aa0f38419181a0ab0a0f rfl this
    · have:=R.units;show A.units+3+_≤_;exact aQ 0xf11232829164b380aa0f232829181a64b0a0f rfl this
    · obtain ⟨f',ρ',O',rfl,⟨v,rfl,rv⟩,st,r'⟩:=p
      exact ⟨v,rfl,⟨st.ext keep hpl fun _=>rfl,r'.gens.trans a.gens.symm,r'.os.trans a.os.symm⟩,rv⟩
section
variable {X:Cx} {k:Nat} {env:Env} {ρ:List (Str×B)} {Q:Fl→List (Str×B)→Prop}
theorem ev_call {x:Str} {p pos:Pos} {e:Expr} {es:List Expr} {ds:List PyData} {d:PyData} {f:Addr} {o:Obj} {fd:FuncData} {F:List PyData→PyData→Prop} (hx:X.gl x=some (.ref f)) (hk:env.kindOf x=some .globalImplicit)
    (ho:X.h₀.get? f=some o) (hdat:o.data=.func fd) (hf:Fun X k f F) (ha:EvL X k env ρ pos (e :: es) ds) (hF:F ds d) (hd:(x == ("__debug__":Str))=false:=by decide)
    (he:starEach (e :: es) env=(false,eval e env) :: starEach es env:=by rfl):Ev X k env ρ (.Call (.Name x p) (e :: es) [] pos) d:=fun A bad O s R r=>by
  refine wpAny_Call_Name_kw (glob_use r hx hk ?_ hd)
  refine Calls.callWith_function (o:=o) (fd:=fd) (ha.args he R r fun vs s1 x1 r1 q1=>⟨⟨r1.base _ _ ho,hdat⟩,?_⟩)
  refine wpAny_call (codeAny_mono (hf A (aN bad O) s1 vs ds d R r1.at (badO_alive r1) r1.datO q1 hF) fun res s2 h=>?_)
  obtain ⟨v,rfl,x2,q2⟩:=h
  exact ⟨x1.trans x2,q2⟩
theorem ev_len {p pos:Pos} {e:Expr} {ds:List PyData} (hx:X.gl ("len":Str)=some (.builtin "len")) (hk:env.kindOf ("len":Str)=some .globalImplicit) (he:EvS X k env ρ e ds) (hz:ds.length≤sizeLine)
    (hs:starEach [e] env=[(false,eval e env)]:=by rfl):Ev X k env ρ (.Call (.Name "len" p) [e] [] pos) (.int ds.length):=fun A bad O s R r=>by
  refine wpAny_Call_Name_kw (glob_use r hx hk ?_)
  refine callWith_method1 (wpAny_items_cons (he.use R r fun a vs s1 x1 r1 l1 q1=>wpAny_items_nil ?_) hs) hs
  have hz':(sizeLine:Int) < 2 ^ 63:=by decide
  have hzz:(ds.length:Int)≤(sizeLine:Int):=by exact_mod_cast hz
  have hl:vs.size=ds.length:=by rw [← Array.length_toList,q1.length]
  refine len_list (PL_is l1) (by rw [hl];exact aQ 0xf1118000000000000000e90c4f8000000000000000e91c4100f rfl hz hz') ⟨x1.trans (Ext.toks _ _),?_⟩
  rw [hl];exact .int _ _
noncomputable def EvF (X:Cx) (k:Nat) (env:Env) (ρ:List (Str×B)) (e:Expr) (ds:List PyData):Prop :=
  ∀ (A:Around) (bad:Addr→Prop) (O:Str→Option Addr) (s:Shared),Room k A→Rel X bad O env ρ s →
    wpAny (model X.prog X.w) A (eval e env) (fun v s'=>Ext s s'∧∃ l vs n,v=.ref l∧s.heap.get? l=none∧s'.heap.get? l=some { cls:=.type "list",data:=.seq vs n }∧RepL (fun a=>aN bad O a∨a=l) s'.heap ds vs.toList) noE s
theorem repL_push {bad:Addr→Prop} {s:Shared} {ob:Obj} {ds:List PyData} {vs:List Value} (q:RepL bad s.heap ds vs):RepL (fun a=>bad a∨a=s.heap.objs.size) (s.heap.push ob) ds vs:=by
  refine RepL.keep (h:=s.heap) (fun b o _ _ _ e _=>Heap.get?_push_of_some _ e) (q.imp fun a o e h=>h.elim id fun h=>?_)
  subst h;exact absurd (Heap.lt_size e) (Nat.lt_irrefl _)
theorem evf_list {es:List Expr} {pos:Pos} {ds:List PyData} (h:EvL X k env ρ pos es ds) (hz:ds.length≤sizeLine):EvF X k env ρ (.List es pos) ds:=fun A bad O s R r =>
  wpAny_List (wpAny_mono (h A bad O s R r) (fun vs s1 q=>⟨by rw [← q.2.length];exact hz,q.1.trans (Ext.push _ _),_,_,_,rfl,q.1.none (get_size _),Heap.get?_push_size _ rfl,by simpa using repL_push q.2⟩) fun _ _ x=>x)
theorem EvF.ev {e:Expr} {ds:List PyData} (h:EvF X k env ρ e ds):Ev X k env ρ e (.list ds):=fun A bad O s R r =>
  wpAny_mono (h A bad O s R r) (fun v s1 q=>by
    obtain ⟨x,l,vs,n,rfl,hl,hg,q⟩:=q
    exact ⟨x,.list (new_good r hl) hg (q.imp fun _ _ _ h=>.inl h)⟩) fun _ _ x=>x
theorem Rel.none0 {bad:Addr→Prop} {O:Str→Option Addr} {s:Shared} {l:Addr} (r:Rel X bad O env ρ s) (h:s.heap.get? l=none):X.h₀.get? l=none:=by
  cases e:X.h₀.get? l with
  | none=>rfl
  | some o=>rw [r.base _ _ e] at h;cases h
theorem store_own' {A:Around} {bad:Addr→Prop} {O:Str→Option Addr} {s s1:Shared} {x:Str} {l:Addr} {vs:Array Value} {n:Nat} {ds:List PyData} {P:Unit→Shared→Prop} {E:Value→Shared→Prop} {M:Model} (r:Rel X bad O env ρ s) (x1:Ext s s1) (hx:Own env x)
    (hl:s.heap.get? l=none) (hg:s1.heap.get? l=some { cls:=.type "list",data:=.seq vs n }) (q:RepL (fun a=>aN bad O a∨a=l) s1.heap ds vs.toList)
    (hq:∀ s',Step env O (ins O x l) s s'→Rel X bad (ins O x l) env (aH ρ x (.own ds)) s'→(∃ p,Place env p∧Heap.SameBut p s1.heap s'.heap)→P () s'):wpAny M A (storeName env x (.ref l)) P E s1:=by
  have r1:=r.ext x1
  refine store_at r1.ok r1.frm hx fun h' t p hp _ hs hlk hk f'=>?_
  have kq:=place_noseq r1.frm hp hs
  have nb:∀ b o,b ≠ p→s1.heap.get? b=some o→h'.get? b=some o:=fun b o n e=>(hs.2 b n).trans e
  have hbl:¬ aN bad O l:=new_good r hl
  have hpl:¬ Place env l:=fun h=>by obtain ⟨o,ho⟩:=place_alive r.frm h;rw [hl] at ho;cases ho
  obtain ⟨op,hop⟩:=place_alive f' hp
  have al:∀ b o,s.heap.get? b=some o→∃ o',h'.get? b=some o':=fun b o e=>same_alive hs hop b o (x1.keep _ _ e)
  exact hq _ ⟨fun b o hb ho e=>nb b o (fun q=>hb (q ▸ hp)) (x1.keep _ _ e),al,fun y l' e=>(ins_some e).elim (fun h=>.inr (h.2 ▸ hl)) fun h=>.inl ⟨y,h.2⟩⟩
    (r.joins (fun b o e=>nb b o (fun q=>by rw [q,place_new r1.frm hp] at e;cases e) (r1.base b o e)) x1.gens x1.os f' al hbl (r.none0 hl) hpl trivial
      (.own ins_self hlk (kq (fun _=>False) _ _ _ _ (fun h=>h) hg rfl) ((q.imp fun a o e h=>badO_ins h).keep (kq _))) fun y c hy h =>
      h.move (fun u lu=>hk y u hy (lu.keep x1.keep)) (fun l'=>ins_ne hy) (fun l' o h e=>nb l' o (fun q=>(r.good y l' h).2.2.1 (q ▸ hp)) (x1.keep _ _ e)) fun a o vs n hb e ed =>
        ⟨fun h=>(badO_ins h).elim hb fun z=>(by rw [z,hl] at e;cases e),kq (aN bad O) a o vs n hb (x1.keep _ _ e) ed⟩) ⟨p,hp,hs⟩
theorem store_own {A:Around} {bad:Addr→Prop} {O:Str→Option Addr} {s s1:Shared} {x:Str} {l:Addr} {vs:Array Value} {n:Nat} {ds:List PyData} {P:Unit→Shared→Prop} {E:Value→Shared→Prop} {M:Model} (r:Rel X bad O env ρ s) (x1:Ext s s1) (hx:Own env x)
    (hl:s.heap.get? l=none) (hg:s1.heap.get? l=some { cls:=.type "list",data:=.seq vs n }) (q:RepL (fun a=>aN bad O a∨a=l) s1.heap ds vs.toList)
    (hq:∀ s',Step env O (ins O x l) s s'→Rel X bad (ins O x l) env (aH ρ x (.own ds)) s'→P () s'):wpAny M A (storeName env x (.ref l)) P E s1:=store_own' r x1 hx hl hg q fun s' a b _=>hq s' a b
theorem ex_assignF {x:Str} {p pos:Pos} {e:Expr} {ds:List PyData} (he:EvF X k env ρ e ds) (hx:Own env x) (hq:Q .next (aH ρ x (.own ds))) (hs:swapsWith e (some (.Name x p)) pos.line env=pure false:=by rfl) :
    Ex1 X k env ρ (.Assign [.Name x p] e pos) Q:=fun A bad O s R r =>
  wpAny_Assign_Name (wpAny_mono (he A bad O s R r) (fun v s1 h=>by
    obtain ⟨x1,l,vs,n,rfl,hl,hg,q⟩:=h
    exact store_own r x1 hx hl hg q fun s2 st r2=>⟨.next,_,_,hq,rfl,st,r2⟩) fun _ _ x=>x) hs
end
section
variable {X:Cx} {k:Nat} {env:Env} {ρ:List (Str×B)} {Q:Fl→List (Str×B)→Prop}
theorem Rel.turn {bad:Addr→Prop} {O:Str→Option Addr} {s:Shared} {x:Str} {l:Addr} {ds ds':List PyData} {vs':Array Value} {n':Nat} {h':Heap} {t:Nat} (r:Rel X bad O env ρ s) (hx:ρ.lookup x=some (.own ds)) (ho:O x=some l)
    (hs:Heap.SameBut l s.heap h') (hg:h'.get? l=some { cls:=.type "list",data:=.seq vs' n' }) (q:RepL (aN bad O) s.heap ds' vs'.toList) :
    Step env O O s { s with heap:=h',toks:=t }∧Rel X bad O env (aH ρ x (.own ds')) { s with heap:=h',toks:=t }:=by
  have kq:KeepSeq (aN bad O) s.heap h':=fun b o _ _ hb e _=>(hs.2 b fun q=>hb (q ▸ .inr ⟨x,ho⟩)).trans e
  have nb:∀ b o,b ≠ l→s.heap.get? b=some o→h'.get? b=some o:=fun b o n e=>(hs.2 b n).trans e
  obtain ⟨l₀,vs,n,ho',lk,g,_⟩:=r.own x ds hx
  obtain rfl:l₀=l:=Option.some.inj (ho'.symm.trans ho)
  have np:∀ p,Place env p→p ≠ l₀:=fun p hp e=>by
    subst e
    rcases hp with rfl | ⟨n,hn⟩
    · obtain ⟨m,o',es,ep,ho,hd,_⟩:=r.frm.ns
      rw [g] at ho;cases ho;cases hd
    · obtain ⟨v,o',ho,hd⟩:=r.frm.cell n p hn
      rw [g] at ho;cases ho;cases hd
  have hlk:∀ y u,Lk s.heap env y u→Lk h' env y u:=fun y u lk=>by
    rcases lk with ⟨a,m',b,e⟩ | ⟨a,d,b,e⟩ | ⟨a,n,d,b,e⟩
    · exact .inl ⟨a,m',b.sameBut hs (np _ (.inl rfl)),e⟩
    · exact .inr (.inl ⟨a,d,b,e.sameBut hs (np _ (.inr ⟨y,b⟩))⟩)
    · exact .inr (.inr ⟨a,n,d,b,e.sameBut hs (np _ (.inr ⟨y,b⟩))⟩)
  have al:=same_alive hs hg
  exact ⟨⟨fun b o hb hO e=>nb b o (fun q=>hO x (q ▸ ho)) e,al,fun y l e=>.inl ⟨y,e⟩⟩,
    r.turns (fun b o e=>nb b o (fun q=>by have:=(r.good x l₀ ho).2.1;rw [← q,e] at this;cases this) (r.base b o e)) rfl rfl
      ⟨let ⟨m,a⟩:=r.frm.ns;⟨m,a.sameBut hs (np _ (.inl rfl))⟩,fun n c e=>let ⟨v,a⟩:=r.frm.cell n c e;⟨v,a.sameBut hs (np _ (.inr ⟨n,e⟩))⟩,r.frm.ne,r.frm.inj,r.frm.new,r.frm.newc⟩ al ho trivial
      (.own ho (hlk _ _ lk) hg (q.keep kq)) fun y c hy h=>h.move (hlk y) (fun _ e=>e) (fun l o h=>nb l o fun q=>hy (r.inj y x l₀ (q ▸ h) ho)) kq.map⟩
theorem own_at {bad:Addr→Prop} {O:Str→Option Addr} {s:Shared} {x:Str} {ds:List PyData} (r:Rel X bad O env ρ s) (hx:ρ.lookup x=some (.own ds)) :
    ∃ l vs n,O x=some l∧Lk s.heap env x (.ref l)∧s.heap.get? l=some { cls:=.type "list",data:=.seq vs n }∧RepL (aN bad O) s.heap ds vs.toList:=r.own x ds hx
theorem ex_method {pl:Sem Bool} {x:Str} {name:Str} {id:String} {px apos cpos pos:Pos} {e:Expr} {es:List Expr} {ds as ds':List PyData} (hx:ρ.lookup x=some (.own ds)) (slot:Slot "list" name id) (hty:typeOf (.builtin id)=pure (.type "method_descriptor"))
    (ha:EvL X k env ρ cpos (e :: es) as)
    (hcall:∀ (A:Around) (bad:Addr→Prop) (s:Shared) (l:Addr) (vs:Array Value) (n:Nat) (us:List Value) (P:Value→Shared→Prop),Room k A→s.heap.get? l=some { cls:=.type "list",data:=.seq vs n }→¬ bad l→RepL (fun a=>bad a∨a=l) s.heap ds vs.toList→RepL (fun a=>bad a∨a=l) s.heap as us →
      (∀ h' t vs' n',Heap.SameBut l s.heap h'→h'.get? l=some { cls:=.type "list",data:=.seq vs' n' }→RepL (fun a=>bad a∨a=l) s.heap ds' vs'.toList→P .none { s with heap:=h',toks:=t })→wpAny (model X.prog X.w) A (call (.builtin id) (.ref l :: us)) P noE s)
    (hq:Q .next (aH ρ x (.own ds'))) (hd:(x == ("__debug__":Str))=false:=by decide)
    (he:eval (.Call (.Attribute (.Name x px) name apos) (e :: es) [] cpos) env=(do
      let ov ← eval (.Name x px) env
      standAt apos.atName
      let (f,first) ← holding [ov] (getMethod ov name pl)
      callWith cpos f first (backTo cpos (starEach (e :: es) env)) []):=by rfl)
    (hst:starEach (e :: es) env=(false,eval e env) :: starEach es env:=by rfl) (hplain:(backTo cpos (starEach es env)).any (·.1)=false:=by rfl)
    (hi:interactive env=false:=by rfl) (hs:swapsWith (.Call (.Attribute (.Name x px) name apos) (e :: es) [] cpos) none pos.line env=pure false:=by rfl) :
    Ex1 X k env ρ (.Expr (.Call (.Attribute (.Name x px) name apos) (e :: es) [] cpos) pos) Q:=fun A bad O s R r=>by
  obtain ⟨l,vs,n,ho,lk,g,q⟩:=own_at r hx
  refine wpAny_Expr (MethodCall_ (wpAny_Name (Lk.load r.ok.kind lk ?_) hd) he) hi hs
  refine getMethod_list_of slot hty ⟨_,g,rfl,_,rfl⟩ ⟨_,g,rfl⟩ (callWith_method1 (wpAny_mono (ha A bad O s R r) (fun us s1 h1=>?_) fun _ _ x=>x) hst hplain)
  have r1:=r.ext h1.1
  have g1:=h1.1.keep _ _ g
  have bl:∀ a,(aN bad (del O x) a∨a=l)→aN bad O a:=fun a h=>by
    rcases h with h | h
    · exact badO_del h
    · exact .inr ⟨x,h ▸ ho⟩
  have lb:∀ a,aN bad O a→(aN bad (del O x) a∨a=l):=fun a h=>by
    rcases h with h | ⟨y,e⟩
    · exact .inl (.inl h)
    · by_cases hy:y=x
      · subst hy;rw [ho] at e;exact .inr (Option.some.inj e).symm
      · exact .inl (.inr ⟨y,by unfold del;rw [if_neg hy];exact e⟩)
  refine hcall A (aN bad (del O x)) s1 l vs n us _ R g1 (fun h=>?_) ((q.ext h1.1).imp fun a _ _ h=>bl a h) (h1.2.imp fun a _ _ h=>bl a h) fun h' t vs' n' hs' hg' q'=>?_
  · rcases h with h | ⟨y,e⟩
    · exact (r.good x l ho).1 h
    · unfold del at e
      split at e
      · cases e
      · rename_i hy;exact hy (r.inj y x l e ho)
  · obtain ⟨st,r2⟩:=r1.turn (t:=t) hx ho hs' hg' (q'.imp fun a _ _ h=>lb a h)
    exact ⟨.next,_,O,hq,rfl,(Step.of_ext h1.1).trans st,r2⟩
end
section
variable {X:Cx} {k:Nat} {env:Env} {ρ:List (Str×B)} {Q:Fl→List (Str×B)→Prop}
theorem RepL.push {bad:Addr→Prop} {h:Heap} {ds:List PyData} {vs:Array Value} {d:PyData} {v:Value} (q:RepL bad h ds vs.toList) (r:Rep bad h d v):RepL bad h (ds++[d]) (vs.push v).toList:=by
  rw [Array.toList_push];exact q.append (.cons r .nil)
theorem bF {pl:Sem Bool} {x:Str} {px apos cpos pos:Pos} {e:Expr} {ds:List PyData} {d:PyData} (hx:ρ.lookup x=some (.own ds)) (he:Ev X k env ρ e d) (hz:ds.length≤sizeLine) (hq:Q .next (aH ρ x (.own (ds++[d])))) (hd:(x == ("__debug__":Str))=false:=by decide)
    (hm:eval (.Call (.Attribute (.Name x px) "append" apos) [e] [] cpos) env=(do
      let ov ← eval (.Name x px) env
      standAt apos.atName
      let (f,first) ← holding [ov] (getMethod ov "append" pl)
      callWith cpos f first (backTo cpos (starEach [e] env)) []):=by rfl)
    (hst:starEach [e] env=[(false,eval e env)]:=by rfl) (hi:interactive env=false:=by rfl) (hs:swapsWith (.Call (.Attribute (.Name x px) "append" apos) [e] [] cpos) none pos.line env=pure false:=by rfl) :
    Ex1 X k env ρ (.Expr (.Call (.Attribute (.Name x px) "append" apos) [e] [] cpos) pos) Q :=
  ex_method hx PySem.F.slot_list_append PySem.F.type_list_append (aC he aG hst) (fun A bad s l vs n us P R g hb q qu hP=>by
    refine qu.oneE fun v qv=>?_
    have hl:vs.size=ds.length:=by rw [← Array.length_toList,q.length]
    refine wpAny_list_append_plain ⟨n,g⟩ (fun h' hp hs'=>?_) (by rw [hl];exact hz)
    obtain ⟨n',g'⟩:=hp
    exact hP h' s.toks _ n' hs' g' (q.push qv)) hq hd hm hst rfl hi hs
theorem ex_extend {pl:Sem Bool} {x:Str} {px apos cpos pos:Pos} {e:Expr} {ds es:List PyData} (hx:ρ.lookup x=some (.own ds)) (he:Ev X k env ρ e (.list es)) (hz:ds.length+es.length≤sizeLine) (hq:Q .next (aH ρ x (.own (ds++es)))) (hd:(x == ("__debug__":Str))=false:=by decide)
    (hm:eval (.Call (.Attribute (.Name x px) "extend" apos) [e] [] cpos) env=(do
      let ov ← eval (.Name x px) env
      standAt apos.atName
      let (f,first) ← holding [ov] (getMethod ov "extend" pl)
      callWith cpos f first (backTo cpos (starEach [e] env)) []):=by rfl)
    (hst:starEach [e] env=[(false,eval e env)]:=by rfl) (hi:interactive env=false:=by rfl) (hs:swapsWith (.Call (.Attribute (.Name x px) "extend" apos) [e] [] cpos) none pos.line env=pure false:=by rfl) :
    Ex1 X k env ρ (.Expr (.Call (.Attribute (.Name x px) "extend" apos) [e] [] cpos) pos) Q :=
  ex_method hx PySem.F.slot_list_extend PySem.F.type_list_extend (aC he aG hst) (fun A bad s l vs n us P R g hb q qu hP=>by
    refine qu.oneE fun v qv=>?_
    refine qv.listE fun b ws m hb' g' qw=>?_
    have hl:vs.size=ds.length:=by rw [← Array.length_toList,q.length]
    have hl':ws.size=es.length:=by rw [← Array.length_toList,qw.length]
    have hz':vs.size+ws.size≤sizeLine:=by rw [hl,hl'];exact hz
    refine call_meets PySem.F.slot_list_extend ⟨_,g,rfl⟩ PySem.F.entry_list_extend (PySem.F.args_list_extend_2 _ _) (PySem.AutoSeq1.list_extend_list_list_0 l vs n b ws m (extend_door hz') (by exact aZ 0xf11200f210a0f rfl hz') (by exact aZ 0xf11182a10a0f210a0f rfl hz')) ⟨g,g',?_⟩
    refine hP _ _ (vs++ws) (if (vs++ws).size == vs.size then n else n+1) (Heap.SameBut.update ..) ?_ (by simpa using q.append qw)
    exact Heap.get?_update_self _ g rfl) hq hd hm hst rfl hi hs
end
section
variable {X:Cx} {k:Nat} {env:Env} {ρ:List (Str×B)} {Q:Fl→List (Str×B)→Prop}
theorem Rel.keepZ {bad:Addr→Prop} {O:Str→Option Addr} {s:Shared} {h':Heap} {t:Nat} {Z:Addr→Prop} (r:Rel X bad O env ρ s) (hk:∀ b o,¬ Z b→s.heap.get? b=some o→h'.get? b=some o)
    (hp:∀ b,Z b→¬ Place env b) (hO:∀ b,Z b→∀ x,O x ≠ some b) (hb:∀ b,Z b→¬ bad b) (h0:∀ b,Z b→X.h₀.get? b=none) (hs:∀ b o vs n,Z b→s.heap.get? b=some o→o.data ≠ .seq vs n):Rel X bad O env ρ { s with heap:=h',toks:=t }:=by
  have kq:∀ bad,KeepSeq bad s.heap h':=fun bad b o vs n _ e ed=>hk b o (fun z=>hs b o vs n z e ed) e
  have hlk:∀ y u,Lk s.heap env y u→Lk h' env y u:=fun y u lk=>by
    rcases lk with ⟨a,m',b,e⟩ | ⟨a,d,b,e⟩ | ⟨a,n,d,b,e⟩
    · exact .inl ⟨a,m',b.at' fun o ho=>hk _ o (fun z=>hp _ z (.inl rfl)) ho,e⟩
    · obtain ⟨o,ho,hd⟩:=e;exact .inr (.inl ⟨a,d,b,o,hk _ o (fun z=>hp _ z (.inr ⟨y,b⟩)) ho,hd⟩)
    · obtain ⟨o,ho,hd⟩:=e;exact .inr (.inr ⟨a,n,d,b,o,hk _ o (fun z=>hp _ z (.inr ⟨y,b⟩)) ho,hd⟩)
  exact {
    wf:=r.wf
    base:=fun b o e=>hk b o (fun z=>by rw [h0 b z] at e;cases e) (r.base b o e)
    gens:=r.gens
    os:=r.os
    ok:=r.ok
    frm:=⟨let ⟨m,a⟩:=r.frm.ns;⟨m,a.at' fun o ho=>hk _ o (fun z=>hp _ z (.inl rfl)) ho⟩,fun n c e=>let ⟨v,o,ho,hd⟩:=r.frm.cell n c e;⟨v,o,hk _ o (fun z=>hp _ z (.inr ⟨n,e⟩)) ho,hd⟩,r.frm.ne,r.frm.inj,r.frm.new,r.frm.newc⟩
    holds:=fun y c e=>(r.holds y c e).move (hlk y) (fun _ e=>e) (fun l o h e=>hk l o (fun z=>hO _ z y h) e) (kq _).map
    inj:=r.inj
    low:=fun a e=>let ⟨o,ho⟩:=r.low a e;⟨o,hk a o (fun z=>hb a z e) ho⟩
    good:=r.good
    dat:=r.dat }
theorem Rep.step {bad:Addr→Prop} {O O':Str→Option Addr} {s s':Shared} {h₀:Heap} {d:PyData} {v:Value} (q:Rep (aN bad O) s.heap d v) (f:FrameOk h₀ env s.heap) (st:Step env O O' s s'):Rep (aN bad O') s'.heap d v:=by
  have q':Rep (fun a=>aN bad O a∨aN bad O' a) s.heap d v:=q.imp fun a o e h=>h.elim id fun h=>h.imp id fun ⟨x,hx⟩=>by
    rcases st.new x a hx with h | h
    · exact h
    · rw [e] at h;cases h
  refine (q'.keep (h':=s'.heap) fun b o vs n hb e ed=>st.keep b o (fun hp=>?_) (fun x hx=>hb (.inl (.inr ⟨x,hx⟩))) e).imp fun _ _ _ h=>.inr h
  rcases hp with rfl | ⟨n',hn⟩
  · obtain ⟨m,o',es,ep,ho,hd,_⟩:=f.ns
    rw [ho] at e;cases e;rw [hd] at ed;cases ed
  · obtain ⟨v,o',ho,hd⟩:=f.cell n' b hn
    rw [ho] at e;cases e;rw [hd] at ed;cases ed
noncomputable def Asg (X:Cx) (k:Nat) (env:Env) (ρ:List (Str×B)) (target:Expr) (d:PyData) (ρ':List (Str×B)):Prop :=
  ∀ (A:Around) (bad:Addr→Prop) (O:Str→Option Addr) (s:Shared) (v:Value),Room k A→Rel X bad O env ρ s→Rep (aN bad O) s.heap d v →
    wpAny (model X.prog X.w) A (assign target env v) (fun _ s'=>∃ O',Step env O O' s s'∧Rel X bad O' env ρ' s') noE s
theorem aL {x:Str} {p:Pos} {d:PyData} (hx:Own env x):Asg X k env ρ (.Name x p) d (aH ρ x (.val d)):=fun A bad O s v R r q =>
  wpAny_assign_Name (store_val r hx q fun s' st r'=>⟨_,st,r'⟩)
noncomputable def AsgL (X:Cx) (k:Nat) (env:Env) (ρ:List (Str×B)) (ts:List Expr) (ds:List PyData) (ρ':List (Str×B)):Prop :=
  ∀ (A:Around) (bad:Addr→Prop) (O:Str→Option Addr) (s:Shared) (vs:List Value),Room k A→Rel X bad O env ρ s→RepL (aN bad O) s.heap ds vs →
    wpAny (model X.prog X.w) A (assignInOrder ((assignEach ts env).map (·.2)) vs) (fun _ s'=>∃ O',Step env O O' s s'∧Rel X bad O' env ρ' s') noE s
theorem asgl_nil:AsgL X k env ρ [] [] ρ:=fun A bad O s vs R r q=>by cases q;exact wpAny_pure ⟨O,Step.refl _ _ _,r⟩
theorem RepL.step {bad:Addr→Prop} {O O':Str→Option Addr} {s s':Shared} {h₀:Heap} (f:FrameOk h₀ env s.heap) (st:Step env O O' s s') {ds:List PyData} {vs:List Value} (q:RepL (aN bad O) s.heap ds vs):RepL (aN bad O') s'.heap ds vs:=q.ind .nil fun a _ ih=>.cons (a.step f st) ih
theorem aV {t:Expr} {ts:List Expr} {d:PyData} {ds:List PyData} {ρ₁ ρ':List (Str×B)} (h:Asg X k env ρ t d ρ₁) (hs:AsgL X k env ρ₁ ts ds ρ') (he:assignEach (t :: ts) env=(false,assign t env) :: assignEach ts env:=by rfl):AsgL X k env ρ (t :: ts) (d :: ds) ρ':=fun A bad O s vs R r q=>by
  cases q with
  | cons qv qs =>
    rw [he]
    rw [List.map_cons]
    unfold assignInOrder
    refine wpAny_bind (wpAny_holding (wpAny_mono (h A bad O s _ R r qv) (fun _ s1 p=>?_) fun _ _ x=>x))
    obtain ⟨O1,st,r1⟩:=p
    refine wpAny_mono (hs A bad O1 s1 _ R r1 (qs.step r.frm st)) (fun _ s2 p=>?_) fun _ _ x=>x
    obtain ⟨O2,st2,r2⟩:=p
    exact ⟨O2,st.trans st2,r2⟩
theorem asg_tuple {ts:List Expr} {n:Nat} {p:Pos} {ds:List PyData} {ρ':List (Str×B)} (h:AsgL X k env ρ ts ds ρ') (hn:(assignEach ts env).length=ds.length) (hstar:(assignEach ts env).findIdx? (·.1)=none):Asg X k env ρ (.Tuple ts n p) (.tuple ds) ρ':=fun A bad O s v R r q=>by
  obtain ⟨a,vs,rfl,l,qs⟩:=q.isTup
  have hl:vs.size=ds.length:=by rw [← Array.length_toList,qs.length]
  refine wpAny_assign_Tuple R.handled l (by rw [hl];exact hn) hstar fun h' he=>?_
  have x1:Ext s { s with heap:=h' }:=⟨fun b o e=>he b o (Nat.ne_of_lt (Heap.lt_size e)) e,rfl,rfl⟩
  refine wpAny_mono (h A bad O { s with heap:=h' } vs.toList R (r.ext x1) (qs.ext x1)) (fun _ s2 p=>?_) fun _ _ x=>x
  obtain ⟨O2,st2,r2⟩:=p
  exact ⟨O2,(Step.of_ext x1).trans st2,r2⟩
end
structure It (X:Cx) (A:Around) (bad:Addr→Prop) (O:Str→Option Addr) (s s2:Shared) (items:List PyData) (I:Addr) (fp wr:List Addr) (P:Nat→Value→Prop) (St:Nat→Heap→Prop):Prop where
  walks:Walks X.prog X.w A I fp wr items.length P St
  start:St 0 s2.heap
  new:∀ b∈wr,s.heap.get? b=none
  live:∀ i h,St i h→∀ b∈fp,∃ o,h.get? b=some o
  noseq:∀ i h,St i h→∀ b∈wr,∀ o vs n,h.get? b=some o→o.data ≠ .seq vs n
  item:∀ i v,P i v→∃ d,items[i]?=some d∧Rep (aN bad O) s2.heap d v
  lets:∀ i (s:Shared) (target:Expr) (v:Value) (Q:Unit→Shared→Prop) (E:Value→Shared→Prop),St i s.heap→Q () s→wpAny (model X.prog X.w) A (letOwnedTupleGo target (.ref I) v) Q E s
noncomputable def Apart (O:Str→Option Addr) (env:Env) (fp wr:List Addr):Prop:=∀ b∈fp,b∈wr∨(¬ Place env b∧∀ x,O x ≠ some b)
noncomputable def EvW (X:Cx) (k:Nat) (env:Env) (ρ:List (Str×B)) (e:Expr) (items:List PyData):Prop :=
  ∀ (A:Around) (bad:Addr→Prop) (O:Str→Option Addr) (s:Shared),Room k A→Rel X bad O env ρ s →
    wpAny (model X.prog X.w) A (eval e env) (fun v s1=>wpAny (model X.prog X.w) A (pyIter v) (fun it s2=>Ext s s2∧∃ I fp wr P St,it=.ref I∧It X A bad O s s2 items I fp wr P St) noE s1) noE s
noncomputable def EvI (X:Cx) (k:Nat) (env:Env) (ρ:List (Str×B)) (e:Expr) (items:List PyData):Prop :=
  ∀ (A:Around) (bad:Addr→Prop) (O:Str→Option Addr) (s:Shared),Room k A→Rel X bad O env ρ s →
    wpAny (model X.prog X.w) A (eval e env) (fun v s1=>wpAny (model X.prog X.w) A (pyIter v) (fun it s2=>Ext s s2∧∃ I fp wr P St,it=.ref I∧It X A bad O s s2 items I fp wr P St∧Apart O env fp wr) noE s1) noE s
theorem EvI.weak {X:Cx} {k:Nat} {env:Env} {ρ:List (Str×B)} {e:Expr} {items:List PyData} (h:EvI X k env ρ e items):EvW X k env ρ e items:=fun A bad O s R r =>
  wpAny_mono (h A bad O s R r) (fun v s1 h1=>wpAny_mono h1 (fun it s2 h2=>let ⟨x,I,fp,wr,P,St,e,t,_⟩:=h2;⟨x,I,fp,wr,P,St,e,t⟩) fun _ _ x=>x) fun _ _ x=>x
structure StZ (wr:List Addr) (env:Env) (O O':Str→Option Addr) (s s':Shared):Prop where
  keep:∀ b o,b ∉ wr→¬ Place env b→(∀ x,O x ≠ some b)→s.heap.get? b=some o→s'.heap.get? b=some o
  alive:∀ b o,s.heap.get? b=some o→∃ o',s'.heap.get? b=some o'
  new:∀ x l,O' x=some l→(∃ y,O y=some l)∨s.heap.get? l=none
theorem StZ.then {wr:List Addr} {env:Env} {O O' O'':Str→Option Addr} {s s' s'':Shared} (a:StZ wr env O O' s s') (b:Step env O' O'' s' s''):StZ wr env O O'' s s'' where
  keep:=fun c o hw hp ho e=>b.keep c o hp (fun x hx=>by
    rcases a.new x c hx with ⟨y,hy⟩ | h
    · exact ho y hy
    · rw [e] at h;cases h) (a.keep c o hw hp ho e)
  alive:=fun c o e=>let ⟨o',e'⟩:=a.alive c o e;b.alive c o' e'
  new:=fun x l e=>by
    rcases b.new x l e with ⟨y,hy⟩ | h
    · exact a.new y l hy
    · refine .inr ?_
      cases q:s.heap.get? l with
      | none=>rfl
      | some o=>obtain ⟨o',e'⟩:=a.alive l o q;rw [e'] at h;cases h
theorem StZ.step {wr:List Addr} {env:Env} {O O':Str→Option Addr} {s s2 s':Shared} (x:Ext s s2) (hw:∀ b∈wr,s.heap.get? b=none) (a:StZ wr env O O' s2 s'):Step env O O' s s' where
  keep:=fun b o hp ho e=>a.keep b o (fun h=>by rw [hw b h] at e;cases e) hp ho (x.keep _ _ e)
  alive:=fun b o e=>a.alive b o (x.keep _ _ e)
  new:=fun y l e=>(a.new y l e).imp id x.none
section
variable {X:Cx} {k:Nat} {env:Env} {ρ:List (Str×B)} {Q:Fl→List (Str×B)→Prop}
theorem Rep.stz {wr:List Addr} {bad:Addr→Prop} {O O':Str→Option Addr} {s s':Shared} {h₀:Heap} {d:PyData} {v:Value} (q:Rep (aN bad O) s.heap d v) (f:FrameOk h₀ env s.heap) (hns:∀ b∈wr,∀ o vs n,s.heap.get? b=some o→o.data ≠ .seq vs n) (st:StZ wr env O O' s s'):Rep (aN bad O') s'.heap d v:=by
  have q':Rep (fun a=>aN bad O a∨aN bad O' a) s.heap d v:=q.imp fun a o e h=>h.elim id fun h=>h.imp id fun ⟨x,hx⟩=>by
    rcases st.new x a hx with h | h
    · exact h
    · rw [e] at h;cases h
  refine (q'.keep (h':=s'.heap) fun b o vs n hb e ed=>st.keep b o (fun hw=>hns b hw o vs n e ed) (fun hp=>?_) (fun x hx=>hb (.inl (.inr ⟨x,hx⟩))) e).imp fun _ _ _ h=>.inr h
  rcases hp with rfl | ⟨n',hn⟩
  · obtain ⟨m,o',es,ep,ho,hd,_⟩:=f.ns
    rw [ho] at e;cases e;rw [hd] at ed;cases ed
  · obtain ⟨v,o',ho,hd⟩:=f.cell n' b hn
    rw [ho] at e;cases e;rw [hd] at ed;cases ed
structure Dr (X:Cx) (A:Around) (bad:Addr→Prop) (O:Str→Option Addr) (env:Env) (s s2:Shared) (target:Expr) (items:List PyData) (I:Addr) (fp wr:List Addr) (St:Nat→Heap→Prop):Prop where
  sub:∀ b∈wr,b∈fp
  frame:∀ i h h',St i h→(∀ b∈fp,∀ o,h.get? b=some o→h'.get? b=some o)→St i h'
  start:St 0 s2.heap
  new:∀ b∈wr,s.heap.get? b=none
  live:∀ i h,St i h→∀ b∈fp,∃ o,h.get? b=some o
  noseq:∀ i h,St i h→∀ b∈wr,∀ o vs n,h.get? b=some o→o.data ≠ .seq vs n
  apart:Apart O env fp wr
  item:∀ i d (s':Shared) (N:Shared→Prop) (K:Value→Shared→Prop) (E E':Value→Shared→Prop),items[i]?=some d→St i s'.heap →
    (∀ v h' tk,St (i+1) h'→(∀ b o,b ∉ wr→s'.heap.get? b=some o→h'.get? b=some o) →
      (∀ bd:Addr→Prop,(∀ a,s'.heap.get? a=none→¬ bd a)→(∀ d v,Rep (aN bad O) s2.heap d v→Rep bd h' d v)→Rep bd h' d v)→K v { s' with heap:=h',toks:=tk }) →
    wpAny (model X.prog X.w) A (pyNext (.ref I)) (fun r s1=>match r with
      | none=>N s1
      | some v=>wpAny (model X.prog X.w) A (letOwnedTupleGo target (.ref I) v) (fun _ s2=>K v s2) E s1) E' s'
  done:∀ (s':Shared) (Q:Option Value→Shared→Prop) (E:Value→Shared→Prop),St items.length s'.heap →
    (∀ h' tk,(∀ b o,b ∉ wr→s'.heap.get? b=some o→h'.get? b=some o)→Q none { s' with heap:=h',toks:=tk })→wpAny (model X.prog X.w) A (pyNext (.ref I)) Q E s'
theorem It.dr {A:Around} {bad:Addr→Prop} {O:Str→Option Addr} {s s2:Shared} {items:List PyData} {I:Addr} {fp wr:List Addr} {P:Nat→Value→Prop} {St:Nat→Heap→Prop} {target:Expr} (T:It X A bad O s s2 items I fp wr P St) (ap:Apart O env fp wr):Dr X A bad O env s s2 target items I fp wr St where
  sub:=T.walks.sub
  frame:=T.walks.frame
  start:=T.start
  new:=T.new
  live:=T.live
  noseq:=T.noseq
  apart:=ap
  item:=fun i d s' N K E E' hd hSt hK=>T.walks.item i s' _ _ (List.getElem?_eq_some_iff.mp hd).1 hSt fun v h' tk hP hSt' hk=>T.lets (i+1) _ _ _ _ _ hSt' (hK v h' tk hSt' hk fun bd _ tr=>by
    obtain ⟨d',hd',q⟩:=T.item i v hP
    cases hd.symm.trans hd'
    exact tr _ _ q)
  done:=T.walks.done
theorem new_place {h₀ h:Heap} {b:Addr} (f:FrameOk h₀ env h) (e:h.get? b=none):¬ Place env b:=fun p=>by
  obtain ⟨o,ho⟩:=place_alive f p
  cases e.symm.trans ho
theorem keep_new {h h':Heap} {b:Addr} (k:∀ b o,h.get? b=some o→∃ o',h'.get? b=some o') (e:h'.get? b=none):h.get? b=none:=by
  cases q:h.get? b with
  | none=>rfl
  | some o=>obtain ⟨o',e'⟩:=k b o q;cases e.symm.trans e'
theorem StZ.refl {wr:List Addr} {O:Str→Option Addr} {s:Shared}:StZ wr env O O s s:=⟨fun _ _ _ _ _ e=>e,fun b o e=>⟨o,e⟩,fun x l e=>.inl ⟨x,e⟩⟩
section
variable {A:Around} {bad:Addr→Prop} {O O':Str→Option Addr} {s s2 s':Shared} {target:Expr} {items:List PyData} {I:Addr} {fp wr:List Addr} {St:Nat→Heap→Prop}
theorem Dr.out (T:Dr X A bad O env s s2 target items I fp wr St) (r:Rel X bad O env ρ s) (st:StZ wr env O O' s2 s'):Apart O' env fp []:=fun b hb=>.inr (by
  have key:¬ Place env b∧∀ x,O x ≠ some b:=(T.apart b hb).elim (fun h=>⟨new_place r.frm (T.new b h),fun x hx=>new_good r (T.new b h) (.inr ⟨x,hx⟩)⟩) id
  refine ⟨key.1,fun x hx=>?_⟩
  obtain ⟨o,ho⟩:=T.live 0 _ T.start b hb
  rcases st.new x b hx with ⟨y,hy⟩ | h
  · exact key.2 y hy
  · cases h.symm.trans ho)
theorem Apart.keep (a:Apart O env fp []) (st:Step env O O' s s') {b:Addr} (hb:b∈fp) {o:Obj} (e:s.heap.get? b=some o):s'.heap.get? b=some o :=
  (a b hb).elim (fun h=>nomatch h) fun h=>st.keep b o h.1 h.2 e
theorem Dr.drawn (T:Dr X A bad O env s s2 target items I fp wr St) (r:Rel X bad O env ρ s) (st:StZ wr env O O' s2 s') {ρ':List (Str×B)} (r':Rel X bad O' env ρ' s') {i:Nat} (hSt:St i s'.heap) {h':Heap} {tk:Nat} (hk:∀ b o,b ∉ wr→s'.heap.get? b=some o→h'.get? b=some o):Rel X bad O' env ρ' { s' with heap:=h',toks:=tk } :=
  r'.keepZ (Z:=fun b=>b∈wr) hk (fun b hb=>new_place r.frm (T.new b hb)) (fun b hb=>(T.out r st b (T.sub b hb)).elim (fun h=>nomatch h) And.right) (fun b hb h=>new_good r (T.new b hb) (.inl h)) (fun b hb=>keep_new (fun b o e=>⟨o,r.base b o e⟩) (T.new b hb)) (fun b o vs n hb e=>T.noseq i _ hSt b hb o vs n e)
theorem Dr.turned (T:Dr X A bad O env s s2 target items I fp wr St) (st:StZ wr env O O' s2 s') {i:Nat} {h':Heap} {tk:Nat} (hSt:St i h') (hk:∀ b o,b ∉ wr→s'.heap.get? b=some o→h'.get? b=some o):StZ wr env O O' s2 { s' with heap:=h',toks:=tk } :=
  ⟨fun b o hw hp ho e=>hk b o hw (st.keep b o hw hp ho e),fun b o e=>by
    obtain ⟨o',e'⟩:=st.alive b o e
    by_cases hw:b∈wr
    · exact T.live i _ hSt b (T.sub b hw)
    · exact ⟨o',hk b o' hw e'⟩,st.new⟩
end
theorem turn_lt {n i:Nat} (h:i < n):n+1 - (i+1) < n+1 - i:=Nat.sub_lt_sub_left (Nat.lt_succ_of_lt h) (Nat.lt_succ_self i)
theorem for_draw {target:Expr} {body:List Stmt} {items:List PyData} {A:Around} {bad:Addr→Prop} {O:Str→Option Addr} {s s2:Shared} {I:Addr} {fp wr:List Addr} {St:Nat→Heap→Prop} (R:Room k A) (r:Rel X bad O env ρ s)
    (x2:Ext s s2) (T:Dr X A bad O env s s2 target items I fp wr St) (J:Nat→List (Str×B)→Prop) (h0:J 0 ρ)
    (turn:∀ i d ρ',items[i]?=some d→J i ρ'→∀ Q',Loop (J (i+1)) Q Q'→∃ ρ₁,Asg X k env ρ' target d ρ₁∧Exs X k env ρ₁ body Q')
    (hend:∀ ρ',J items.length ρ'→Q .next ρ'):codeAny (model X.prog X.w) A (.forLoop target (.ref I) body [] env) (fun r s'=>match r with | .ok f=>Post X env bad O s Q f s' | .error e=>cameBackBy (model X.prog X.w) A env noE e s') s2:=by
  refine codeAny_forLoop_any (fun n s'=>∃ i ρ' O',n=items.length+1 - i∧i≤items.length∧J i ρ'∧StZ wr env O O' s2 s'∧St i s'.heap∧Rel X bad O' env ρ' s') ?_ (items.length+1)
    ⟨0,ρ,O,rfl,Nat.zero_le _,h0,.refl,T.start,r.ext x2⟩
  rintro n s' ⟨i,ρ',O',rfl,hi,hJ,st,hSt,r'⟩
  rcases Nat.lt_or_eq_of_le hi with hlt | rfl
  · obtain ⟨d,hd⟩:∃ d,items[i]?=some d:=⟨_,List.getElem?_eq_getElem hlt⟩
    refine T.item i d s' _ _ _ _ hd hSt fun v h' tk hSt' hk hv=>?_
    have st1:=T.turned (tk:=tk) st hSt' hk
    have qv:=hv _ (fun a e=>new_good r' e) fun d v q=>q.stz (r.ext x2).frm (T.noseq 0 _ T.start) st1
    obtain ⟨ρ₁,ha,hb⟩:=turn i d ρ' hd hJ _ loopQ
    refine wpAny_mono (ha A bad O' _ v R (T.drawn r st r' hSt hk) qv) (fun _ s3 p=>?_) fun _ _ x=>x.elim
    obtain ⟨O3,st3,r3⟩:=p
    have hSt3:St (i+1) s3.heap:=T.frame _ _ _ hSt' fun b hb o=>(T.out r st1).keep st3 hb
    replace st1:=st1.then st3
    clear hv qv ha st3 hSt' hk r' st hJ hd hSt
    refine wpAny_mono (hb A bad O3 s3 R r3) (fun fl s4 p=>?_) fun _ _ x=>x.elim
    obtain ⟨f,ρ₂,O4,q,fi,st4,r4⟩:=p
    have st14:=st1.then st4
    have hSt4:St (i+1) s4.heap:=T.frame _ _ _ hSt3 fun b hb o=>(T.out r st1).keep st4 hb
    clear st1 hSt3 hb
    have hs:=st14.step x2 T.new
    cases f with
    | next=>cases fi;exact ⟨_,turn_lt hlt,i+1,ρ₂,O4,rfl,hlt,q,st14,hSt4,r4⟩
    | cont=>cases fi;exact ⟨_,turn_lt hlt,i+1,ρ₂,O4,rfl,hlt,q,st14,hSt4,r4⟩
    | brk=>cases fi;exact ⟨.next,ρ₂,O4,q,rfl,hs,r4⟩
    | ret d=>obtain ⟨v,rfl,rv⟩:=fi;exact ⟨.ret d,ρ₂,O4,q,⟨v,rfl,rv⟩,hs,r4⟩
  · refine T.done s' _ _ hSt fun h' tk hk=>wpAny_execs_nil ⟨.next,ρ',O',hend ρ' hJ,rfl,?_,T.drawn r st r' hSt hk⟩
    have s0:=st.step x2 T.new
    have out:∀ b o,s.heap.get? b=some o→b ∉ wr:=fun b o e hw=>by rw [T.new b hw] at e;cases e
    exact ⟨fun b o hp ho e=>hk b o (out b o e) (s0.keep b o hp ho e),fun b o e=>let ⟨o',e'⟩:=s0.alive b o e;⟨o',hk b o' (out b o e) e'⟩,s0.new⟩
theorem for_core {target:Expr} {body:List Stmt} {items:List PyData} {A:Around} {bad:Addr→Prop} {O:Str→Option Addr} {s s2:Shared} {it:Value} (R:Room k A) (r:Rel X bad O env ρ s)
    (h2:Ext s s2∧∃ I fp wr P St,it=.ref I∧It X A bad O s s2 items I fp wr P St∧Apart O env fp wr) (J:Nat→List (Str×B)→Prop) (h0:J 0 ρ)
    (turn:∀ i d ρ',items[i]?=some d→J i ρ'→∀ Q',Loop (J (i+1)) Q Q'→∃ ρ₁,Asg X k env ρ' target d ρ₁∧Exs X k env ρ₁ body Q')
    (hend:∀ ρ',J items.length ρ'→Q .next ρ'):codeAny (model X.prog X.w) A (.forLoop target it body [] env) (fun r s'=>match r with | .ok f=>Post X env bad O s Q f s' | .error e=>cameBackBy (model X.prog X.w) A env noE e s') s2:=by
  obtain ⟨x2,I,fp,wr,P,St,rfl,T,Tap⟩:=h2
  exact for_draw R r x2 (T.dr Tap) J h0 turn hend
theorem ex_for {target iter:Expr} {body:List Stmt} {pos:Pos} {items:List PyData} (hit:EvI X k env ρ iter items) (J:Nat→List (Str×B)→Prop) (h0:J 0 ρ)
    (turn:∀ i d ρ',items[i]?=some d→J i ρ'→∀ Q',Loop (J (i+1)) Q Q'→∃ ρ₁,Asg X k env ρ' target d ρ₁∧Exs X k env ρ₁ body Q')
    (hend:∀ ρ',J items.length ρ'→Q .next ρ') (hs:∀ x,foldedSetIterable iter env x=pure x:=by intro _;rfl):Ex1 X k env ρ (.For target iter body [] pos) Q:=fun A bad O s R r=>by
  exact wpAny_For (wpAny_mono (hit A bad O s R r) (fun v s1 h1=>wpAny_mono h1 (fun it s2 h2=>for_core R r h2 J h0 turn hend) fun _ _ x=>x) fun _ _ x=>x) hs
end
theorem lets_plain {M:Model} {A:Around} {s:Shared} {I:Addr} {o:Obj} {T:String} {target:Expr} {v:Value} {Q:Unit→Shared→Prop} {E:Value→Shared→Prop} (ho:s.heap.get? I=some o) (hc:o.cls=.type T)
    (hT:["enumerate","zip","dict_itemiterator","dict_reverseitemiterator","odict_iterator","itertools.zip_longest","itertools.pairwise"].contains T=false) (h:Q () s):wpAny M A (letOwnedTupleGo target (.ref I) v) Q E s:=by
  unfold letOwnedTupleGo
  split
  all_goals first
    | exact wpAny_pure h
    | skip
  all_goals
    cases v <;> first
      | exact wpAny_pure h
      | (refine wpAny_bind (wpAny_load ho ?_)
         rw [hc]
         cases o.data <;> first
           | exact wpAny_pure h
           | (dsimp only;rw [hT];exact wpAny_pure h))
section
variable {X:Cx} {k:Nat} {env:Env} {ρ:List (Str×B)} {Q:Fl→List (Str×B)→Prop}
theorem it_list {A:Around} {bad:Addr→Prop} {O:Str→Option Addr} {s s1:Shared} {a:Addr} {vs:Array Value} {n:Nat} {items:List PyData} {P:Value→Shared→Prop} (R:Room k A) (x1:Ext s s1) (g:s1.heap.get? a=some { cls:=.type "list",data:=.seq vs n }) (qs:RepL (aN bad O) s1.heap items vs.toList)
    (hP:∀ s2 I,Ext s s2→(∃ P St,It X A bad O s s2 items I [I,a] [I] P St)→P (.ref I) s2):wpAny (model X.prog X.w) A (pyIter (.ref a)) P noE s1:=by
  have il:s1.heap.IsList a vs:=⟨_,g,rfl,_,rfl⟩
  have hl:vs.size=items.length:=by rw [← Array.length_toList,qs.length]
  have hne:a ≠ s1.heap.objs.size:=Nat.ne_of_lt (Heap.lt_size g)
  refine wpAny_pyIter_list il (hP _ _ (x1.trans (Ext.push _ _)) ⟨fun i v=>vs[i]?=some v,fun i h=>h.IsListIter s1.heap.objs.size a i∧h.IsList a vs,?_⟩)
  exact {
    walks:=hl ▸ Walks.list R.handled _ _ hne vs
    start:=⟨⟨_,Heap.get?_push_size _ rfl,rfl,rfl⟩,⟨_,Heap.get?_push_of_some _ g,rfl,_,rfl⟩⟩
    new:=fun b hb=>by simp at hb;subst hb;exact x1.none (get_size _)
    live:=fun i h st b hb=>by
      simp at hb
      rcases hb with rfl | rfl
      · obtain ⟨o,ho,_⟩:=st.1;exact ⟨o,ho⟩
      · obtain ⟨o,ho,_⟩:=st.2;exact ⟨o,ho⟩
    noseq:=fun i h st b hb o vs n e ed=>by
      simp at hb;subst hb
      obtain ⟨o',ho,hc,hd⟩:=st.1
      rw [ho] at e;cases e;rw [hd] at ed;cases ed
    item:=fun i v hv=>by
      obtain ⟨d,hd,q⟩:=qs.getV (by rw [Array.getElem?_toList];exact hv)
      exact ⟨d,hd,q.keep fun b o _ _ _ e _=>Heap.get?_push_of_some _ e⟩
    lets:=fun i s target v Q E st hq=>by
      obtain ⟨o',ho,hc,hd⟩:=st.1
      exact lets_plain ho hc (by decide) hq }
theorem noplace_seq {h₀ h:Heap} {a:Addr} {o:Obj} {vs:Array Value} {n:Nat} (f:FrameOk h₀ env h) (g:h.get? a=some o) (ed:o.data=.seq vs n):¬ Place env a:=fun hp=>by
  rcases hp with rfl | ⟨n',hn⟩
  · obtain ⟨m,o',es,ep,ho,hd,_⟩:=f.ns
    rw [g] at ho;cases ho;rw [hd] at ed;cases ed
  · obtain ⟨v,o',ho,hd⟩:=f.cell n' _ hn
    rw [g] at ho;cases ho;rw [hd] at ed;cases ed
theorem evi_list {e:Expr} {items:List PyData} (h:Ev X k env ρ e (.list items)):EvI X k env ρ e items:=fun A bad O s R r=>h.use R r fun v s1 x1 r1 q1=>by
  refine q1.listE fun a vs n hb g qs=>?_
  refine it_list R x1 g qs fun s2 I x2 t=>?_
  obtain ⟨P,St,t⟩:=t
  refine ⟨x2,I,_,_,P,St,rfl,t,fun b hb'=>?_⟩
  simp at hb'
  rcases hb' with rfl | rfl
  · exact .inl (by simp)
  · exact .inr ⟨noplace_seq r1.frm g rfl,fun x hx=>hb (.inr ⟨x,hx⟩)⟩
theorem Rel.freeze {bad:Addr→Prop} {O:Str→Option Addr} {s:Shared} {x:Str} {ds:List PyData} (r:Rel X bad O env ρ s) (hx:ρ.lookup x=some (.own ds)):Rel X bad (del O x) env (aH ρ x (.val (.list ds))) s:=by
  obtain ⟨l,vs,n,ho,lk,g,q⟩:=r.own x ds hx
  have hb:¬ aN bad (del O x) l:=fun h=>by
    rcases h with h | ⟨y,e⟩
    · exact (r.good x l ho).1 h
    · exact (del_some e).1 (r.inj y x l (del_some e).2 ho)
  have km:∀ a o vs n,¬ aN bad O a→s.heap.get? a=some o→o.data=.seq vs n→¬ aN bad (del O x) a∧s.heap.get? a=some o:=fun a o vs n h e ed=>⟨fun h'=>h (badO_del h'),e⟩
  exact r.drops r.base rfl rfl r.frm (fun b o e=>⟨o,e⟩) (.val lk (.list hb g (q.map km))) fun y c hy h=>h.move (fun _ l=>l) (fun l=>del_ne hy) (fun _ _ _ e=>e) km
theorem exs_freeze {x:Str} {ds:List PyData} {ss:List Stmt} (hx:ρ.lookup x=some (.own ds)) (h:Exs X k env (aH ρ x (.val (.list ds))) ss Q):Exs X k env ρ ss Q:=fun A bad O s R r =>
  h.from R (O':=del O x) ⟨fun _ _ _ _ e=>e,fun b o e=>⟨o,e⟩,fun y l e=>.inl ⟨y,by unfold del at e;split at e;cases e;exact e⟩⟩ (r.freeze hx)
end
noncomputable def intsBy (a c:Int) (n:Nat):List PyData:=(List.range n).map fun (i:Nat)=>PyData.int (a+(i:Int) * c)
theorem intsBy_length (a c:Int) (n:Nat):(intsBy a c n).length=n:=by simp [intsBy]
theorem intsBy_get {a c:Int} {n i:Nat} (h:i < n):(intsBy a c n)[i]?=some (.int (a+(i:Int) * c)):=by simp [intsBy,h]
section
variable {X:Cx} {k:Nat} {env:Env} {ρ:List (Str×B)} {Q:Fl→List (Str×B)→Prop}
theorem it_range {A:Around} {bad:Addr→Prop} {O:Str→Option Addr} {s s1:Shared} {r:Addr} {a b c:Int} {t u v:Tok} (R:Room k A) (x1:Ext s s1) (hr:IsRange s1.heap r a b c t u v) (hs:Builtin.Range.small a b c=true) (m:Nat) (h0:Builtin.Range.rangeSize a b c=m) :
    wpAny (model X.prog X.w) A (pyIter (.ref r)) (fun it s2=>Ext s s2∧∃ I fp wr P St,it=.ref I∧It X A bad O s s2 (intsBy a c m) I fp wr P St∧Apart O env fp wr) noE s1:=by
  refine wpAny_pyIter_range hr hs ⟨x1.trans (Ext.push _ _),s1.heap.objs.size,[s1.heap.objs.size],[s1.heap.objs.size],fun i v=>i < m∧∃ t,v=.int (a+i * c) t,fun i h=>IsRangeIter h s1.heap.objs.size (a+(i:Nat) * c) ((m:Int) - (i:Nat)) c,rfl,?_,fun b hb=>.inl hb⟩
  exact {
    walks:=by
      have W:=Walks.range (prog:=X.prog) (w:=X.w) (A:=A) R.handled s1.heap.objs.size a c m
      rw [intsBy_length]
      exact { sub:=W.sub,frame:=W.frame,done:=W.done,self:=W.self,item:=fun i s Q E hi st hQ=>W.item i s Q E hi st fun v h' tk hP=>hQ v h' tk ⟨hi,hP⟩ }
    start:=by
      show Heap.get? _ _=_
      rw [Heap.get?_push_size _ rfl]
      simp [h0]
    new:=fun b hb=>by simp at hb;subst hb;exact x1.none (get_size _)
    live:=fun i h st b hb=>by simp at hb;subst hb;exact ⟨_,st⟩
    noseq:=fun i h st b hb o vs n e ed=>by
      simp at hb;subst hb
      have:=st.symm.trans e;cases this;cases ed
    item:=fun i v hv=>by
      obtain ⟨hi,t,rfl⟩:=hv
      exact ⟨_,intsBy_get hi,.int _ _⟩
    lets:=fun i s target v Q E st hq=>lets_plain st rfl (by decide) hq }
theorem rangeSize_up {a b:Int}:Builtin.Range.rangeSize a b 1=((b - a).toNat:Int):=by
  unfold Builtin.Range.rangeSize
  simp only [show ((1:Int) > 0)=True by simp,if_true,Int.ediv_one]
  split <;> lia
theorem small_up {a b:Int} (ha:-(2 ^ 40)≤a∧a≤2 ^ 40) (hb:-(2 ^ 40)≤b∧b≤2 ^ 40):Builtin.Range.small a b 1=true:=by
  unfold Builtin.Range.small
  rw [rangeSize_up]
  simp only [Builtin.Range.rangeFitsLong,Bool.and_eq_true,decide_eq_true_eq,Bool.or_eq_true,beq_iff_eq]
  simp only [show ((1:Int) > 0)=True by simp,if_true,Bool.and_eq_true,decide_eq_true_eq]
  exact lqx [] [_,_] 0xf1f1f100010f10010f108f100118ff1f1f1f10001f1001f101f11f8000000000000000e91818d1a41818d1a8000000000000000e9e37080c588000000000000000e90c40c8000000000000000e9e378000000000000000e9184188000000000000000e9e378000000000000000e91418000000000000000e9e378000000000000000e90408000000000000000e9e377777f10000000000991311000000000099e310000000000990301000000000099e3f0801d5 rfl ha.1 ha.2 hb.1 hb.2
theorem type_use {A:Around} {bad:Addr→Prop} {O:Str→Option Addr} {s:Shared} {x:Str} {T:String} {p pos:Pos} {e:Expr} {es:List Expr} {ds:List PyData} {P:Value→Shared→Prop} (R:Room k A) (r:Rel X bad O env ρ s)
    (hx:X.gl x=some (.type T)) (hk:env.kindOf x=some .globalImplicit) (ha:EvL X k env ρ pos (e :: es) ds)
    (hq:∀ vs s',Ext s s'→Rel X bad O env ρ s'→RepL (aN bad O) s'.heap ds vs→wpAny (model X.prog X.w) A (call (.type T) vs) P noE s')
    (hd:(x == ("__debug__":Str))=false:=by decide) (he:starEach (e :: es) env=(false,eval e env) :: starEach es env:=by rfl) (hplain:(backTo pos (starEach (e :: es) env)).any (·.1)=false:=by rfl) :
    wpAny (model X.prog X.w) A (eval (.Call (.Name x p) (e :: es) [] pos) env) P noE s:=by
  refine wpAny_Call_Name_kw (glob_use r hx hk ?_ hd)
  exact PySem.callWith_type hplain (ha.args he R r fun vs s1 x1 r1 q1=>hq vs s1 x1 r1 q1)
theorem evi_range1 {p pos:Pos} {e:Expr} {n:Int} (hx:X.gl ("range":Str)=some (.type "range")) (hk:env.kindOf ("range":Str)=some .globalImplicit) (h:Ev X k env ρ e (.int n)) (hn:-(2 ^ 40)≤n∧n≤2 ^ 40)
    (he:starEach [e] env=[(false,eval e env)]:=by rfl):EvI X k env ρ (.Call (.Name "range" p) [e] [] pos) (intsBy 0 1 n.toNat):=fun A bad O s R r =>
  type_use R r hx hk (aC h aG he) (fun vs s1 x1 r1 q1=>by
    refine q1.oneE fun v qa=>qa.intE fun t=>?_
    refine call_range_1 ?_
    refine it_range (a:=0) (b:=n) (c:=1) R ?_ (Heap.get?_push_size _ rfl) (small_up (by exact lqx [] [] 0xf1f1f1000000000099083081000000000099e37ff rfl) hn) _ (by rw [rangeSize_up,Int.sub_zero])
    exact x1.trans ⟨fun b o e=>Heap.get?_push_of_some _ e,rfl,rfl⟩) (by decide) he (by rw [he];rfl)
theorem evi_range2 {p pos:Pos} {e e':Expr} {a b:Int} (hx:X.gl ("range":Str)=some (.type "range")) (hk:env.kindOf ("range":Str)=some .globalImplicit) (h:Ev X k env ρ e (.int a)) (h':Ev X k env ρ e' (.int b)) (ha:-(2 ^ 40)≤a∧a≤2 ^ 40) (hb:-(2 ^ 40)≤b∧b≤2 ^ 40)
    (he:starEach [e,e'] env=[(false,eval e env),(false,eval e' env)]:=by rfl) (he':starEach [e'] env=[(false,eval e' env)]:=by rfl):EvI X k env ρ (.Call (.Name "range" p) [e,e'] [] pos) (intsBy a 1 (b - a).toNat):=fun A bad O s R r =>
  type_use R r hx hk (aC h (aC h' aG he') (by rw [he,he'])) (fun vs s1 x1 r1 q1=>by
    refine q1.twoE fun v w qa qb=>qa.intE fun t=>qb.intE fun u=>?_
    refine call_range_2 ?_
    refine it_range (a:=a) (b:=b) (c:=1) R ?_ (Heap.get?_push_size _ rfl) (small_up ha hb) _ rangeSize_up
    exact x1.trans ⟨fun b o e=>Heap.get?_push_of_some _ e,rfl,rfl⟩) (by decide) (by rw [he,he']) (by rw [he];rfl)
end
theorem compTurn_last {elt t i:Expr} {ifs:List Expr} {gens:List Comprehension} {sc:Scope} {p:Pos} {d:Nat} {it acc:Value} {env:Env} (hg:gens[d]?=some ⟨t,i,ifs,0⟩) (hn:gens[d+1]?=none) :
    compTurn (.ListComp elt gens sc p) d it acc env=(do
      standAt i.pos
      match ← pyNext it with
      | none=>pure (.done .next)
      | some v =>
        letOwnedTupleGo t it v
        assign t env v
        let mut ok:=true
        for c in ifs do
          if ok then ok ← isTrue c env (eval c env)
        if ok then
          (do let _ ← call (.builtin "list.append") [acc,← eval elt env])
        again (.compLoop (.ListComp elt gens sc p) d it acc env)):=by
  unfold compTurn
  dsimp only
  rw [hg,hn]
  rfl
theorem compTurn_mid {elt t i t' i':Expr} {ifs ifs':List Expr} {gens:List Comprehension} {sc:Scope} {p:Pos} {d:Nat} {it acc:Value} {env:Env} (hg:gens[d]?=some ⟨t,i,ifs,0⟩) (hn:gens[d+1]?=some ⟨t',i',ifs',0⟩) :
    compTurn (.ListComp elt gens sc p) d it acc env=(do
      standAt i.pos
      match ← pyNext it with
      | none=>pure (.done .next)
      | some v =>
        letOwnedTupleGo t it v
        assign t env v
        let mut ok:=true
        for c in ifs do
          if ok then ok ← isTrue c env (eval c env)
        if ok then
          let x ← eval i' env
          standAt i'.pos
          let x ← foldedSetIterable i' env x
          let it' ← holding [x] (pyIter x)
          let _ ← runOwn (.compStart (.ListComp elt gens sc p) (d+1) it' acc env) env
        again (.compLoop (.ListComp elt gens sc p) d it acc env)):=by
  unfold compTurn
  dsimp only
  rw [hg,hn]
  rfl
theorem compStart_gen {prog:Program} {w:World} {A:Around} {R:Result→Shared→Prop} {s:Shared} {elt t i:Expr} {ifs:List Expr} {gens:List Comprehension} {sc:Scope} {p:Pos} {d:Nat} {it acc:Value} {env:Env} (hg:gens[d]?=some ⟨t,i,ifs,0⟩)
    (h0:codeAny (model prog w) A (.compLoop (.ListComp elt gens sc p) d it acc env) R s)
    (h:wpAny (model prog w) A (pyIter it) (fun it' s'=>codeAny (model prog w) A (.compLoop (.ListComp elt gens sc p) d it' acc env) R s') noE s) :
    codeAny (model prog w) A (.compStart (.ListComp elt gens sc p) d it acc env) R s:=by
  refine codeAny_of_tree ?_
  show wpAny _ _ ((compStart (.ListComp elt gens sc p) d it acc env).onRaise (fun x=>do noteFrame x env;standAt theWindowsPlace)) _ _ s
  refine wpAny_notedAt ?_
  unfold compStart
  have e1:(clausesOf (.ListComp elt gens sc p))[d]?=some ⟨t,i,ifs,0⟩:=hg
  rw [e1]
  show wpAny _ _ (ask >>= _) _ _ s
  refine wpAny_bind (wpAny_askSetting (wpAny_ite ?_))
  split
  · first
      | exact wpAny_bind (wpAny_pure (wpAny_pure (And.intro rfl h0)))
      | exact wpAny_pure (And.intro rfl h0)
  · first
      | exact wpAny_bind (wpAny_rule (wpAny_bind (wpAny_standAt (wpAny_bind (wpAny_mono h (fun it' s' h'=>wpAny_pure (And.intro rfl h')) fun _ _ x=>x.elim)))))
      | exact wpAny_rule (wpAny_bind (wpAny_standAt (wpAny_bind (wpAny_mono h (fun it' s' h'=>wpAny_pure (And.intro rfl h')) fun _ _ x=>x.elim))))
noncomputable abbrev nO:Str→Option Addr:=fun _=>none
theorem badO_nO {bad:Addr→Prop} {a:Addr} (h:aN bad nO a):bad a:=h.elim id fun ⟨_,e⟩=>by cases e
structure CAt (X:Cx) (bad:Addr→Prop) (env:Env) (ρ:List (Str×B)) (D:Addr) (outs:List PyData) (s:Shared):Prop where
  rel:Rel X bad nO env ρ s
  acc:∃ vs n,s.heap.get? D=some { cls:=.type "list",data:=.seq vs n }∧RepL bad s.heap outs vs.toList
  new:X.h₀.get? D=none
noncomputable def CKeep (env:Env) (D:Addr) (s s':Shared):Prop:=∀ b o,b ≠ env.locals→b ≠ D→s.heap.get? b=some o→s'.heap.get? b=some o
theorem CAt.ext {X:Cx} {bad:Addr→Prop} {env:Env} {ρ:List (Str×B)} {D:Addr} {outs:List PyData} {s s':Shared} (c:CAt X bad env ρ D outs s) (x:Ext s s'):CAt X bad env ρ D outs s' :=
  ⟨c.rel.ext x,let ⟨vs,n,g,q⟩:=c.acc;⟨vs,n,x.keep _ _ g,q.ext x⟩,c.new⟩
theorem Rel.sub {X:Cx} {bad:Addr→Prop} {env:Env} {ρ ρ':List (Str×B)} {s:Shared} (r:Rel X bad nO env ρ' s) (h:∀ y b,ρ.lookup y=some b→ρ'.lookup y=some b):Rel X bad nO env ρ s :=
  ⟨r.wf,r.base,r.gens,r.os,r.ok,r.frm,fun y c e=>r.holds y c (h y _ e),r.inj,r.low,fun y l e=>(by cases e),r.dat⟩
section
variable {X:Cx} {k:Nat} {env:Env} {ρ:List (Str×B)}
theorem Rel.turnB {bad:Addr→Prop} {s:Shared} {D:Addr} {h':Heap} {t:Nat} {o':Obj} (r:Rel X bad nO env ρ s) (hD:bad D) (h0:X.h₀.get? D=none) (hp:¬ Place env D) (hs:Heap.SameBut D s.heap h') (ha:h'.get? D=some o'):Rel X bad nO env ρ { s with heap:=h',toks:=t }:=by
  have nb:∀ b o,b ≠ D→s.heap.get? b=some o→h'.get? b=some o:=fun b o n e=>(hs.2 b n).trans e
  have kq:KeepSeq (aN bad nO) s.heap h':=fun b o vs n hb e ed=>nb b o (fun q=>hb (.inl (q ▸ hD))) e
  have hlk:∀ y u,Lk s.heap env y u→Lk h' env y u:=fun y u lk=>by
    rcases lk with ⟨a,m',b,e⟩ | ⟨a,d,b,e⟩ | ⟨a,n,d,b,e⟩
    · exact .inl ⟨a,m',b.at' fun o ho=>nb _ o (fun z=>hp (z ▸ .inl rfl)) ho,e⟩
    · obtain ⟨o,ho,hd⟩:=e;exact .inr (.inl ⟨a,d,b,o,nb _ o (fun z=>hp (z ▸ .inr ⟨y,b⟩)) ho,hd⟩)
    · obtain ⟨o,ho,hd⟩:=e;exact .inr (.inr ⟨a,n,d,b,o,nb _ o (fun z=>hp (z ▸ .inr ⟨y,b⟩)) ho,hd⟩)
  exact {
    wf:=r.wf
    base:=fun b o e=>nb b o (fun z=>by rw [z,h0] at e;cases e) (r.base b o e)
    gens:=r.gens
    os:=r.os
    ok:=r.ok
    frm:=⟨let ⟨m,a⟩:=r.frm.ns;⟨m,a.at' fun o ho=>nb _ o (fun z=>hp (z ▸ .inl rfl)) ho⟩,fun n c e=>let ⟨v,o,ho,hd⟩:=r.frm.cell n c e;⟨v,o,nb _ o (fun z=>hp (z ▸ .inr ⟨n,e⟩)) ho,hd⟩,r.frm.ne,r.frm.inj,r.frm.new,r.frm.newc⟩
    holds:=fun y c e=>(r.holds y c e).move (hlk y) (fun _ e=>e) (fun _ _ h=>by cases h) kq.map
    inj:=r.inj
    low:=fun a e=>let ⟨o,ho⟩:=r.low a e;same_alive hs ha a o ho
    good:=fun _ _ e=>by cases e
    dat:=r.dat }
noncomputable def AsgC (X:Cx) (k:Nat) (env:Env) (ρ:List (Str×B)) (target:Expr) (d:PyData) (ρ':List (Str×B)):Prop :=
  ∀ (A:Around) (bad:Addr→Prop) (s:Shared) (v:Value),Room k A→Rel X bad nO env ρ s→Rep (aN bad nO) s.heap d v →
    wpAny (model X.prog X.w) A (assign target env v) (fun _ s'=>(∀ b o,b ≠ env.locals→s.heap.get? b=some o→s'.heap.get? b=some o)∧Rel X bad nO env ρ' s') noE s
theorem del_nO (x:Str):del nO x=nO:=by funext y;unfold del;split <;> rfl
theorem asgc_name {x:Str} {p:Pos} {d:PyData} (hx:env.kindOf x=some .local):AsgC X k env ρ (.Name x p) d (aH ρ x (.val d)):=fun A bad s v R r q =>
  wpAny_assign_Name (store_val' r (.inl hx) q fun s' st r' hk=>by rw [del_nO] at r';exact ⟨hk hx,r'⟩)
noncomputable def AsgCL (X:Cx) (k:Nat) (env:Env) (ρ:List (Str×B)) (ts:List Expr) (ds:List PyData) (ρ':List (Str×B)):Prop :=
  ∀ (A:Around) (bad:Addr→Prop) (s:Shared) (vs:List Value),Room k A→Rel X bad nO env ρ s→RepL (aN bad nO) s.heap ds vs →
    wpAny (model X.prog X.w) A (assignInOrder ((assignEach ts env).map (·.2)) vs) (fun _ s'=>(∀ b o,b ≠ env.locals→s.heap.get? b=some o→s'.heap.get? b=some o)∧Rel X bad nO env ρ' s') noE s
theorem asgcl_nil:AsgCL X k env ρ [] [] ρ:=fun A bad s vs R r q=>by cases q;exact wpAny_pure ⟨fun _ _ _ e=>e,r⟩
theorem locals_noseq {h₀ h h':Heap} (f:FrameOk h₀ env h) (hk:∀ b o,b ≠ env.locals→h.get? b=some o→h'.get? b=some o) (bad:Addr→Prop):KeepSeq bad h h':=fun b o vs n _ e ed=>hk b o (fun q=>by
  subst q
  obtain ⟨m,o',es,ep,ho,hd,_⟩:=f.ns
  rw [ho] at e;cases e;rw [hd] at ed;cases ed) e
theorem asgcl_cons {t:Expr} {ts:List Expr} {d:PyData} {ds:List PyData} {ρ₁ ρ':List (Str×B)} (h:AsgC X k env ρ t d ρ₁) (hs:AsgCL X k env ρ₁ ts ds ρ') (he:assignEach (t :: ts) env=(false,assign t env) :: assignEach ts env:=by rfl):AsgCL X k env ρ (t :: ts) (d :: ds) ρ':=fun A bad s vs R r q=>by
  cases q with
  | cons qv qs =>
    rw [he,List.map_cons]
    unfold assignInOrder
    refine wpAny_bind (wpAny_holding (wpAny_mono (h A bad s _ R r qv) (fun _ s1 p=>?_) fun _ _ x=>x))
    refine wpAny_mono (hs A bad s1 _ R p.2 (qs.keep (locals_noseq r.frm p.1 _))) (fun _ s2 p2=>⟨fun b o hb e=>p2.1 b o hb (p.1 b o hb e),p2.2⟩) fun _ _ x=>x
theorem asgc_tuple {ts:List Expr} {n:Nat} {p:Pos} {ds:List PyData} {ρ':List (Str×B)} (h:AsgCL X k env ρ ts ds ρ') (hn:(assignEach ts env).length=ds.length) (hstar:(assignEach ts env).findIdx? (·.1)=none):AsgC X k env ρ (.Tuple ts n p) (.tuple ds) ρ':=fun A bad s v R r q=>by
  obtain ⟨a,vs,rfl,l,qs⟩:=q.isTup
  have hl:vs.size=ds.length:=by rw [← Array.length_toList,qs.length]
  refine wpAny_assign_Tuple R.handled l (by rw [hl];exact hn) hstar fun h' he=>?_
  have x1:Ext s { s with heap:=h' }:=⟨fun b o e=>he b o (Nat.ne_of_lt (Heap.lt_size e)) e,rfl,rfl⟩
  exact wpAny_mono (h A bad { s with heap:=h' } vs.toList R (r.ext x1) (qs.ext x1)) (fun _ s2 p2=>⟨fun b o hb e=>p2.1 b o hb (x1.keep _ _ e),p2.2⟩) fun _ _ x=>x
noncomputable def TstL (X:Cx) (k:Nat) (env:Env) (ρ:List (Str×B)) (ifs:List Expr) (b:Bool):Prop :=
  ∀ (A:Around) (bad:Addr→Prop) (s:Shared),Room k A→Rel X bad nO env ρ s →
    wpAny (model X.prog X.w) A (forIn ifs true fun c r=>if r=true then do let ok ← isTrue c env (eval c env);pure (ForInStep.yield ok) else pure (ForInStep.yield r)) (fun ok s'=>Ext s s'∧ok=b) noE s
theorem tstl_nil:TstL X k env ρ [] true:=fun A bad s R r=>wpAny_tests_nil ⟨Ext.refl s,rfl⟩
noncomputable def CmB (X:Cx) (k:Nat) (env:Env) (ρ:List (Str×B)) (tree:Value→Sem PUnit) (o:List PyData):Prop :=
  ∀ (A:Around) (bad:Addr→Prop) (D:Addr) (s:Shared) (outs:List PyData),Room k A→bad D→outs.length+o.length≤sizeLine→CAt X bad env ρ D outs s →
    wpAny (model X.prog X.w) A (tree (.ref D)) (fun _ s'=>CKeep env D s s'∧CAt X bad env ρ D (outs++o) s') noE s
theorem cmb_item {elt:Expr} {d:PyData} (h:Ev X k env ρ elt d):CmB X k env ρ (fun acc=>do let _ ← call (.builtin "list.append") [acc,← eval elt env]) [d]:=fun A bad D s outs R hD hz c =>
  wpAny_bind (h.use R c.rel fun v s1 x1 r1 q1=>by
    have c1:=c.ext x1
    obtain ⟨vs,n,g,q⟩:=c1.acc
    have hl:vs.size=outs.length:=by rw [← Array.length_toList,q.length]
    simp at hz
    refine wpAny_bind (wpAny_list_append_plain ⟨n,g⟩ (fun h' hp hs=>wpAny_pure ?_) (by exact aZ 0xf181200f2181a0102f rfl hl hz))
    obtain ⟨n',g'⟩:=hp
    refine ⟨fun b o _ hb e=>(hs.2 b hb).trans (x1.keep _ _ e),r1.turnB hD c.new (noplace_seq r1.frm g rfl) hs g',⟨_,n',g',?_⟩,c.new⟩
    refine RepL.push (q.keep fun b o _ _ hb e _=>(hs.2 b fun z=>hb (z ▸ hD)).trans e) ?_
    exact (q1.imp fun a _ _ h=>.inl h).keep fun b o _ _ hb e _=>(hs.2 b fun z=>hb (z ▸ hD)).trans e)
end
noncomputable abbrev testsOf (ifs:List Expr) (env:Env):Sem Bool:=forIn ifs true fun c r=>if r=true then do let ok ← isTrue c env (eval c env);pure (ForInStep.yield ok) else pure (ForInStep.yield r)
theorem turn_last {X:Cx} {A:Around} {env:Env} {elt t i:Expr} {ifs:List Expr} {gens:List Comprehension} {sc:Scope} {p:Pos} {d:Nat} {acc:Value} (hg:gens[d]?=some ⟨t,i,ifs,0⟩) (hn:gens[d+1]?=none) {it:Value} {P:Fin→Shared→Prop} {s:Shared}
    (h:wpAny (model X.prog X.w) A (pyNext it) (fun r s1=>match r with
    | none=>P (.done .next) s1
    | some v=>wpAny (model X.prog X.w) A (letOwnedTupleGo t it v) (fun _ s2=>wpAny (model X.prog X.w) A (assign t env v) (fun _ s3=>wpAny (model X.prog X.w) A (testsOf ifs env) (fun ok s4 =>
        if ok=true then wpAny (model X.prog X.w) A (do let _ ← call (.builtin "list.append") [acc,← eval elt env]) (fun (_:PUnit) s5=>P (.again (.compLoop (.ListComp elt gens sc p) d it acc env)) s5) noE s4 else P (.again (.compLoop (.ListComp elt gens sc p) d it acc env)) s4) noE s3) noE s2) noE s1) noE s) :
    wpAny (model X.prog X.w) A (compTurn (.ListComp elt gens sc p) d it acc env) P noE s:=by
  rw [compTurn_last hg hn]
  refine wpAny_bind (wpAny_standAt (wpAny_bind (wpAny_mono h (fun r s₁ h₁=>?_) fun _ _ h'=>h')))
  cases r with
  | none=>exact wpAny_pure h₁
  | some v =>
    refine wpAny_bind (wpAny_mono h₁ (fun _ s₂ h₂=>wpAny_bind (wpAny_mono h₂ (fun _ s₃ h₃=>wpAny_bind (wpAny_mono h₃ (fun ok s₄ h₄=>?_) fun _ _ h'=>h')) fun _ _ h'=>h')) fun _ _ h'=>h')
    cases ok with
    | false=>exact wpAny_pure h₄
    | true=>exact wpAny_bind (wpAny_mono h₄ (fun _ s₅ h₅=>wpAny_pure h₅) fun _ _ h'=>h')
theorem turn_mid {X:Cx} {A:Around} {env:Env} {elt t i t' i':Expr} {ifs ifs':List Expr} {gens:List Comprehension} {sc:Scope} {p:Pos} {d:Nat} {acc:Value} (hg:gens[d]?=some ⟨t,i,ifs,0⟩) (hn:gens[d+1]?=some ⟨t',i',ifs',0⟩) {it:Value} {P:Fin→Shared→Prop} {s:Shared}
    (h:wpAny (model X.prog X.w) A (pyNext it) (fun r s1=>match r with
    | none=>P (.done .next) s1
    | some v=>wpAny (model X.prog X.w) A (letOwnedTupleGo t it v) (fun _ s2=>wpAny (model X.prog X.w) A (assign t env v) (fun _ s3=>wpAny (model X.prog X.w) A (testsOf ifs env) (fun ok s4 =>
        if ok=true then wpAny (model X.prog X.w) A (do
          let x ← eval i' env
          standAt i'.pos
          let x ← foldedSetIterable i' env x
          let it' ← holding [x] (pyIter x)
          let _ ← runOwn (.compStart (.ListComp elt gens sc p) (d+1) it' acc env) env) (fun (_:PUnit) s5=>P (.again (.compLoop (.ListComp elt gens sc p) d it acc env)) s5) noE s4 else P (.again (.compLoop (.ListComp elt gens sc p) d it acc env)) s4) noE s3) noE s2) noE s1) noE s) :
    wpAny (model X.prog X.w) A (compTurn (.ListComp elt gens sc p) d it acc env) P noE s:=by
  rw [compTurn_mid hg hn]
  refine wpAny_bind (wpAny_standAt (wpAny_bind (wpAny_mono h (fun r s₁ h₁=>?_) fun _ _ h'=>h')))
  cases r with
  | none=>exact wpAny_pure h₁
  | some v =>
    refine wpAny_bind (wpAny_mono h₁ (fun _ s₂ h₂=>wpAny_bind (wpAny_mono h₂ (fun _ s₃ h₃=>wpAny_bind (wpAny_mono h₃ (fun ok s₄ h₄=>?_) fun _ _ h'=>h')) fun _ _ h'=>h')) fun _ _ h'=>h')
    cases ok with
    | false=>exact wpAny_pure h₄
    | true =>
      have e:=wpAny_bind (f:=fun (_:PUnit)=>again (.compLoop (.ListComp elt gens sc p) d it acc env)) (wpAny_mono h₄ (fun _ s₅ h₅=>wpAny_pure (a:=Fin.again (.compLoop (.ListComp elt gens sc p) d it acc env)) (M:=model X.prog X.w) (A:=A) (E:=noE) (Q:=P) h₅) fun _ _ h'=>h')
      simpa [bind_assoc] using e
section
variable {X:Cx} {k:Nat} {env:Env} {ρ:List (Str×B)}
noncomputable def ClB (X:Cx) (k:Nat) (env:Env) (ρ:List (Str×B)) (t:Expr) (ifs:List Expr) (tree:Value→Sem PUnit) (x:PyData) (o:List PyData):Prop :=
  ∃ ρ₁ b,AsgC X k env ρ t x ρ₁∧(∀ y c,ρ.lookup y=some c→ρ₁.lookup y=some c)∧TstL X k env ρ₁ ifs b∧(b=true→CmB X k env ρ₁ tree o)∧(b=false→o=[])
noncomputable def LoopPost (c:Code) (P I:Shared→Prop):Fin→Shared→Prop
  | .done f,s=>f=.next∧P s
  | .again c',s=>c'=c∧I s
noncomputable def Trn (X:Cx) (c:Expr) (d:Nat) (t:Expr) (ifs:List Expr) (tree:Value→Sem PUnit) (env:Env):Prop :=
  ∀ {A:Around} {D I:Addr} {P:Fin→Shared→Prop} {s:Shared},wpAny (model X.prog X.w) A (pyNext (.ref I)) (fun r s1=>match r with
      | none=>P (.done .next) s1
      | some v=>wpAny (model X.prog X.w) A (letOwnedTupleGo t (.ref I) v) (fun _ s2=>wpAny (model X.prog X.w) A (assign t env v) (fun _ s3=>wpAny (model X.prog X.w) A (testsOf ifs env) (fun ok s4 =>
          if ok=true then wpAny (model X.prog X.w) A (tree (.ref D)) (fun _ s5=>P (.again (.compLoop c d (.ref I) (.ref D) env)) s5) noE s4 else P (.again (.compLoop c d (.ref I) (.ref D) env)) s4) noE s3) noE s2) noE s1) noE s →
      wpAny (model X.prog X.w) A (compTurn c d (.ref I) (.ref D) env) P noE s
noncomputable abbrev itemTree (elt:Expr) (env:Env):Value→Sem PUnit:=fun acc=>do let _ ← call (.builtin "list.append") [acc,← eval elt env]
theorem trn_last {elt t i:Expr} {ifs:List Expr} {gens:List Comprehension} {sc:Scope} {p:Pos} {d:Nat} (hg:gens[d]?=some ⟨t,i,ifs,0⟩) (hn:gens[d+1]?=none):Trn X (.ListComp elt gens sc p) d t ifs (itemTree elt env) env:=by
  intro A D I P s h;exact turn_last hg hn h
theorem comp_loop {A:Around} {bad:Addr→Prop} {D I:Addr} {s:Shared} {elt t:Expr} {gens:List Comprehension} {sc:Scope} {p:Pos} {d:Nat} {ifs:List Expr} {tree:Value→Sem PUnit} {items outs:List PyData} {g:PyData→List PyData} {fp wr:List Addr} {P:Nat→Value→Prop} {St:Nat→Heap→Prop}
    (hturn:Trn X (.ListComp elt gens sc p) d t ifs tree env)
    (hb:∀ x∈items,ClB X k env ρ t ifs tree x (g x)) (R:Room k A) (hD:bad D) (hz:outs.length+(items.flatMap g).length≤sizeLine)
    (W:Walks X.prog X.w A I fp wr items.length P St) (hfD:D ∉ fp) (hfL:env.locals ∉ fp) (hfc:∀ n c,env.cells.lookup n=some c→c ∉ wr) (hwb:∀ b∈wr,¬ bad b) (hw0:∀ b∈wr,X.h₀.get? b=none)
    (hns:∀ i h,St i h→∀ b∈wr,∀ o vs n,h.get? b=some o→o.data ≠ .seq vs n) (hit:∀ i v,P i v→∃ d,items[i]?=some d∧Rep bad s.heap d v)
    (lets:∀ i (s:Shared) (target:Expr) (v:Value) (Q:Unit→Shared→Prop) (E:Value→Shared→Prop),St i s.heap→Q () s→wpAny (model X.prog X.w) A (letOwnedTupleGo target (.ref I) v) Q E s)
    (c:CAt X bad env ρ D outs s) (h0:St 0 s.heap) :
    codeAny (model X.prog X.w) A (.compLoop (.ListComp elt gens sc p) d (.ref I) (.ref D) env) (fun r s'=>r=.ok .next∧CAt X bad env ρ D (outs++items.flatMap g) s'∧∀ b o,b ∉ wr→b ≠ env.locals→b ≠ D→s.heap.get? b=some o→s'.heap.get? b=some o) s:=by
  have wrfp:=W.sub
  have hwp:∀ b∈wr,¬ Place env b:=fun b hb hp=>by
    rcases hp with rfl | ⟨n,hn⟩
    · exact hfL (wrfp _ hb)
    · exact hfc n b hn hb
  refine codeAny_loop rfl (fun n s'=>∃ i,n=items.length+1 - i∧i≤items.length∧CAt X bad env ρ D (outs++(items.take i).flatMap g) s'∧St i s'.heap∧∀ b o,b ∉ wr→b ≠ env.locals→b ≠ D→s.heap.get? b=some o→s'.heap.get? b=some o) ?_ (items.length+1)
    ⟨0,rfl,Nat.zero_le _,by simpa using c,h0,fun _ _ _ _ _ e=>e⟩
  rintro n s' ⟨i,rfl,hi,c',hSt,hk'⟩
  show wpAny _ A ((compTurn (.ListComp elt gens sc p) d (.ref I) (.ref D) env).onRaise (fun x=>do noteFrame x env;theTreesLotGoes x)) _ _ s'
  refine wpAny_noted ?_
  refine wpAny_mono (Q:=LoopPost (.compLoop (.ListComp elt gens sc p) d (.ref I) (.ref D) env) (fun s'=>CAt X bad env ρ D (outs++items.flatMap g) s'∧∀ b o,b ∉ wr→b ≠ env.locals→b ≠ D→s.heap.get? b=some o→s'.heap.get? b=some o) (fun s'=>∃ m,m < items.length+1 - i∧∃ i,m=items.length+1 - i∧i≤items.length∧CAt X bad env ρ D (outs++(items.take i).flatMap g) s'∧St i s'.heap∧∀ b o,b ∉ wr→b ≠ env.locals→b ≠ D→s.heap.get? b=some o→s'.heap.get? b=some o)) (E:=noE) ?_ (fun fin s' h=>?_) fun _ _ x=>x.elim
  rotate_left
  · cases fin with
    | done f=>obtain ⟨rfl,h⟩:=h;exact ⟨rfl,h⟩
    | again c=>exact h
  have drawn:∀ (h':Heap) (tk:Nat),(∀ b o,b ∉ wr→s'.heap.get? b=some o→h'.get? b=some o)→CAt X bad env ρ D (outs++(items.take i).flatMap g) { s' with heap:=h',toks:=tk }:=fun h' tk hk =>
    ⟨c'.rel.keepZ (Z:=fun b=>b∈wr) hk hwp (fun b hb x hx=>by cases hx) hwb hw0 (fun b o vs n hb e=>hns i _ hSt b hb o vs n e),by
      obtain ⟨vs,n,e,q⟩:=c'.acc
      exact ⟨vs,n,hk D _ (fun h=>hfD (wrfp _ h)) e,q.keep fun b o vs n _ e ed=>hk b o (fun z=>hns i _ hSt b z o vs n e ed) e⟩,c'.new⟩
  refine hturn ?_
  rcases Nat.lt_or_ge i items.length with hlt | hge
  · refine W.item i s' _ _ hlt hSt fun v h' tk hP hSt' hk=>?_
    have c1:=drawn h' tk hk
    have k1:∀ b o,b ∉ wr→b ≠ env.locals→b ≠ D→s.heap.get? b=some o→h'.get? b=some o:=fun b o a1 a2 a3 e=>hk b o a1 (hk' b o a1 a2 a3 e)
    obtain ⟨x,hx,qx⟩:=hit i v hP
    have qv:Rep bad h' x v:=qx.keep fun b o vs n hb e ed=>k1 b o (fun z=>hns 0 _ h0 b z o vs n e ed) (fun z=>by
      subst z
      obtain ⟨m,o',es,ep,ho,hd,_⟩:=c.rel.frm.ns
      rw [ho] at e;cases e;rw [hd] at ed;cases ed) (fun z=>hb (z ▸ hD)) e
    obtain ⟨ρ₁,b,ha,hsub,ht,hB,hN⟩:=hb x (List.mem_of_getElem? hx)
    have hxs:items.take (i+1)=items.take i++[x]:=by rw [List.take_add_one,hx];rfl
    have fold:(items.take (i+1)).flatMap g=(items.take i).flatMap g++g x:=by rw [hxs,List.flatMap_append];simp
    have hlen:(outs++(items.take i).flatMap g).length+(g x).length≤sizeLine:=by
      have e1:(items.flatMap g).length=((items.take (i+1)).flatMap g).length+((items.drop (i+1)).flatMap g).length:=by rw [← List.length_append,← List.flatMap_append,List.take_append_drop]
      rw [fold,List.length_append] at e1
      rw [List.length_append]
      exact lq6 0xf1112430aa0f543aa12210a0f rfl hz e1
    refine lets (i+1) _ _ _ _ _ hSt' (wpAny_mono (ha A bad _ v R c1.rel (qv.imp fun a _ _ h=>badO_nO h)) (fun _ s3 p3=>?_) fun _ _ x=>x)
    have hSt3:St (i+1) s3.heap:=W.frame _ _ _ hSt' fun b hb o e=>p3.1 b o (fun z=>hfL (z ▸ hb)) e
    refine wpAny_mono (ht A bad s3 R p3.2) (fun ok s4 p4=>?_) fun _ _ x=>x
    obtain ⟨x4,rfl⟩:=p4
    have DL:D ≠ env.locals:=fun z=>by
      obtain ⟨vs,n,e,q⟩:=c1.acc
      obtain ⟨m,o',es,ep,ho,hd,_⟩:=c1.rel.frm.ns
      rw [z,ho] at e;cases e;cases hd
    have c4:CAt X bad env ρ₁ D (outs++(items.take i).flatMap g) s4:=⟨p3.2.ext x4,by
      obtain ⟨vs,n,e,q⟩:=c1.acc
      refine ⟨vs,n,x4.keep _ _ (p3.1 _ _ DL e),(q.keep (locals_noseq c1.rel.frm p3.1 _)).ext x4⟩,c1.new⟩
    have hSt4:St (i+1) s4.heap:=W.frame _ _ _ hSt3 fun b hb o e=>x4.keep _ _ e
    have k4:∀ b o,b ∉ wr→b ≠ env.locals→b ≠ D→s.heap.get? b=some o→s4.heap.get? b=some o:=fun b o a1 a2 a3 e=>x4.keep _ _ (p3.1 b o a2 (k1 b o a1 a2 a3 e))
    cases ok with
    | false =>
      rw [if_neg (by simp)]
      refine ⟨rfl,items.length+1 - (i+1),by exact aQ 0xf1018f110108f321f101f0181a1180a181a0 rfl hlt,i+1,rfl,hlt,?_,hSt4,k4⟩
      rw [fold,hN rfl,List.append_nil]
      exact ⟨c4.rel.sub hsub,c4.acc,c4.new⟩
    | true =>
      rw [if_pos rfl]
      refine wpAny_mono (hB rfl A bad D s4 _ R hD hlen c4) (fun _ s5 p5=>?_) fun _ _ x=>x
      refine ⟨rfl,items.length+1 - (i+1),by exact aQ 0xf1018f110108f321f101f0181a1180a181a0 rfl hlt,i+1,rfl,hlt,?_,?_,?_⟩
      · rw [fold,← List.append_assoc]
        exact ⟨p5.2.rel.sub hsub,p5.2.acc,p5.2.new⟩
      · exact W.frame _ _ _ hSt4 fun b hb o e=>p5.1 b o (fun z=>hfL (z ▸ hb)) (fun z=>hfD (z ▸ hb)) e
      · exact fun b o a1 a2 a3 e=>p5.1 b o a2 a3 (k4 b o a1 a2 a3 e)
  · have e:i=items.length:=Nat.le_antisymm hi hge
    subst e
    refine W.done s' _ _ hSt fun h' tk hk=>⟨rfl,?_,fun b o a1 a2 a3 e=>hk b o a1 (hk' b o a1 a2 a3 e)⟩
    have:=drawn h' tk hk
    rwa [List.take_length] at this
end
section
variable {X:Cx} {k:Nat} {env:Env} {ρ ρc:List (Str×B)}
structure CapOk (env:Env) (ρ ρc:List (Str×B)) (sc:Scope) (cl:List (Str×Addr)):Prop where
  clos:closureFor sc env=pure cl
  nocell:∀ x∈sc.names,x.2 ≠ .cell
  kind:sc.kind=.function
  names:∀ x∈sc.names,x.2=.local→sc.names.lookup x.1=some .local
  sub:∀ n c,cl.lookup n=some c→env.cells.lookup n=some c
  cap:∀ y b,ρc.lookup y=some b→¬ b.owns∧ρ.lookup y=some b∧env.kindOf y=some .cell∧(relabel sc env).names.lookup y=some .cell∧∃ c,cl.lookup y=some c
theorem comp_block {A:Around} {bad:Addr→Prop} {O:Str→Option Addr} {s s2:Shared} {I:Addr} {fp wr:List Addr} {P:Nat→Value→Prop} {St:Nat→Heap→Prop} {elt t iter:Expr} {gs:List Comprehension} {tree:Env→Value→Sem PUnit} {ifs:List Expr} {sc:Scope} {p:Pos} {cl:List (Str×Addr)} {items:List PyData} {g:PyData→List PyData} {RR:Value→Addr→Result→Shared→Prop}
    (R:Room k A) (r:Rel X bad O env ρ s) (x2:Ext s s2) (T:It X A bad O s s2 items I fp wr P St) (hc:CapOk env ρ ρc sc cl)
    (hturn:∀ C,Trn X (.ListComp elt (⟨t,iter,ifs,0⟩ :: gs) sc p) 0 t ifs (tree (compEnvC sc cl C env)) (compEnvC sc cl C env))
    (hb:∀ C,∀ x∈items,ClB X k (compEnvC sc cl C env) ρc t ifs (tree (compEnvC sc cl C env)) x (g x)) (hz:(items.flatMap g).length≤sizeLine)
    (hRR:∀ D C s' vs n m',s2.heap.get? D=none→s2.heap.get? C=none→D ≠ C→s'.heap.Ns C m'→s'.heap.get? D=some { cls:=.type "list",data:=.seq vs n }→RepL (fun a=>aN bad O a∨a=D) s'.heap (items.flatMap g) vs.toList →
      (∀ b o,b ∉ wr→s2.heap.get? b=some o→s'.heap.get? b=some o)→s'.gens=s2.gens→s'.os=s2.os→RR (.ref D) C (.ok .next) s') :
    wpAny (model X.prog X.w) A (newList []) (fun acc s3=>wpAny (model X.prog X.w) A (newFunctionEnv sc env.globals cl [] env.qual none .none (some env)) (fun cenv s4 =>
      codeAny (model X.prog X.w) A (.compStart (.ListComp elt (⟨t,iter,ifs,0⟩ :: gs) sc p) 0 (.ref I) acc { cenv with scope:=relabel sc env }) (RR acc cenv.locals) s4) noE s3) noE s2:=by
  have r2:=r.ext x2
  refine wpAny_newObj_type (wpAny_newFunctionEnv hc.nocell (by intro y hy;simp at hy) (fun h₁ hns₁ hsb₁=>?_) hc.kind)
  dsimp only at hns₁ hsb₁ ⊢
  generalize hH2:s2.heap.push { cls:=.type "list",dict:=none,data:=.seq ([]:List Value).toArray }=H2 at hns₁ hsb₁ ⊢
  have hC:H2.objs.size=s2.heap.objs.size+1:=by rw [← hH2,Heap.size_push]
  have hDC:s2.heap.objs.size ≠ H2.objs.size:=by rw [hC];exact Nat.ne_of_lt (Nat.lt_succ_self _)
  have old:∀ b o,s2.heap.get? b=some o→h₁.get? b=some o:=fun b o e=>hsb₁.extBut b o (by rw [hC];exact Nat.ne_of_lt (Nat.lt_succ_of_lt (Heap.lt_size e))) (Heap.get?_push_of_some _ (hH2 ▸ Heap.get?_push_of_some _ e))
  have hacc:h₁.get? s2.heap.objs.size=some { cls:=.type "list",data:=.seq #[] }:=hsb₁.extBut _ _ hDC (Heap.get?_push_of_some _ (hH2 ▸ Heap.get?_push_size _ rfl))
  have fresh:∀ a,s2.heap.objs.size≤a→s2.heap.get? a=none:=fun a ha=>by
    cases e:s2.heap.get? a with
    | none=>rfl
    | some o'=>exact absurd (Heap.lt_size e) (Nat.not_lt.mpr ha)
  have fresh0:∀ a,s2.heap.get? a=none→X.h₀.get? a=none:=fun a ha=>by
    cases e:X.h₀.get? a with
    | none=>rfl
    | some o'=>rw [r2.base _ _ e] at ha;cases ha
  have fD:=fresh _ (Nat.le_refl s2.heap.objs.size)
  have fC:=fresh H2.objs.size (by rw [hC];exact lq1 0xf1180a00ff rfl)
  generalize s2.heap.objs.size=D at *
  generalize H2.objs.size=C at *
  have live:=T.live 0 _ T.start
  have hDf:D ∉ fp:=fun h=>by obtain ⟨o,ho⟩:=live _ h;rw [fD] at ho;cases ho
  have hCf:C ∉ fp:=fun h=>by obtain ⟨o,ho⟩:=live _ h;rw [fC] at ho;cases ho
  have celA:∀ n c,cl.lookup n=some c→∃ v,s2.heap.IsCell c v:=fun n c e=>r2.frm.cell n c (hc.sub n c e)
  have up:∀ {d v},Rep (aN bad O) s2.heap d v→Rep (fun a=>aN bad O a∨a=D) h₁ d v:=fun q =>
    (q.imp fun a o e h=>h.elim id fun z=>by rw [z,fD] at e;cases e).keep fun b o _ _ _ e _=>old b o e
  have rel:∀ tk,Rel X (fun a=>aN bad O a∨a=D) nO (compEnvC sc cl C env) ρc { s2 with heap:=h₁,toks:=tk }:=fun tk=>{
    wf:=r.wf
    base:=fun b o e=>old _ _ (r2.base b o e)
    gens:=r2.gens
    os:=r2.os
    ok:=⟨hc.kind,r.ok.globals,r.ok.builtins⟩
    frm:=⟨⟨_,hns₁⟩,fun n c e=>let ⟨v,o,ho,hd⟩:=celA n c e;⟨v,o,old _ _ ho,hd⟩,fun n c e z=>(by
        obtain ⟨v,o,ho,hd⟩:=celA n c e
        have z':c=C:=z
        rw [z',fC] at ho;cases ho),fun n n' c e e'=>r2.frm.inj n n' c (hc.sub n c e) (hc.sub n' c e'),fresh0 _ fC,fun n c e=>r2.frm.newc n c (hc.sub n c e)⟩
    holds:=fun y b e=>by
      obtain ⟨e1,e2,e3,e4,c,e5⟩:=hc.cap y _ e
      have lkc:∀ v,Lk s2.heap env y v→Lk h₁ (compEnvC sc cl C env) y v:=fun v lk=>by
        refine .inr (.inl ⟨e4,c,e5,?_⟩)
        rcases lk with ⟨a,_⟩ | ⟨a,c',b,o,ho,hd⟩ | ⟨a,_⟩
        · rw [e3] at a;cases a
        · rw [hc.sub y c e5] at b;cases b;exact ⟨o,old _ _ ho,hd⟩
        · rw [e3] at a;cases a
      cases r2.holds y b e2 with
      | val lk q=>exact .val (lkc _ lk) ((up q).imp fun a _ _ h=>badO_nO h)
      | raw lk=>exact .raw (lkc _ lk)
      | free=>exact .free
      | own _ _ _ _=>exact (e1 trivial).elim
      | «at» _ _=>exact (e1 trivial).elim
    dat:=fun d v e=>(r.dat d v e).imp fun a o e' h=>by
      rcases h with (h | ⟨y,hy⟩) | h
      · exact h
      · rw [(r.good y a hy).2.1] at e';cases e'
      · rw [h,fresh0 _ fD] at e';cases e'
    inj:=fun x y l e=>by cases e
    low:=fun a e=>e.elim (fun e=>let ⟨o,ho⟩:=badO_alive r2 a e;⟨o,old _ _ ho⟩) fun e=>e ▸ ⟨_,hacc⟩
    good:=fun x l e=>by cases e }
  have loop:codeAny (model X.prog X.w) A (.compLoop (.ListComp elt (⟨t,iter,ifs,0⟩ :: gs) sc p) 0 (.ref I) (.ref D) (compEnvC sc cl C env)) (RR (.ref D) C) { s2 with heap:=h₁,toks:=s2.toks+([]:List (Str×Value)).length }:=by
    refine codeAny_mono (comp_loop (g:=g) (bad:=fun a=>aN bad O a∨a=D) (tree:=tree (compEnvC sc cl C env)) (hturn C) (hb C) R (.inr rfl) (by simpa using hz) T.walks hDf hCf (fun n c e hw=>?_) (fun b hw h=>?_) (fun b hw=>?_) T.noseq (fun i v hP=>?_) T.lets ⟨rel _,⟨#[],_,hacc,.nil⟩,fresh0 _ fD⟩ (T.walks.frame _ _ _ T.start fun b _ o e=>old b o e)) fun res s' hr=>?_
    · obtain ⟨v,o,ho,hd⟩:=r.frm.cell n c (hc.sub n c e)
      rw [T.new c hw] at ho;cases ho
    · rcases h with h | h
      · obtain ⟨o,ho⟩:=badO_alive r b h
        rw [T.new b hw] at ho;cases ho
      · exact hDf (h ▸ T.walks.sub b hw)
    · cases e:X.h₀.get? b with
      | none=>rfl
      | some o=>have:=r.base _ _ e;rw [T.new b hw] at this;cases this
    · obtain ⟨d,hd,q⟩:=T.item i v hP
      exact ⟨d,hd,up q⟩
    · obtain ⟨rfl,c',kp⟩:=hr
      obtain ⟨vs,n,hg,q⟩:=c'.acc
      obtain ⟨m,hm⟩:=c'.rel.frm.ns
      exact hRR D C s' vs n m fD fC hDC hm hg q (fun b o hw e=>kp b o hw (fun z=>by
        have z':b=C:=z
        rw [z',fC] at e;cases e) (fun z=>by rw [z,fD] at e;cases e) (old b o e)) (c'.rel.gens.trans r2.gens.symm) (c'.rel.os.trans r2.os.symm)
  exact compStart_gen (gens:=⟨t,iter,ifs,0⟩ :: gs) rfl loop (T.walks.self 0 _ _ _ (T.walks.frame _ _ _ T.start fun b _ o e=>old b o e) loop)
theorem evf_compX {elt t iter:Expr} {gs:List Comprehension} {tree:Env→Value→Sem PUnit} {ifs:List Expr} {sc:Scope} {p:Pos} {cl:List (Str×Addr)} {items:List PyData} (g:PyData→List PyData) (hit:EvW X k env ρ iter items) (hc:CapOk env ρ ρc sc cl)
    (hturn:∀ C,Trn X (.ListComp elt (⟨t,iter,ifs,0⟩ :: gs) sc p) 0 t ifs (tree (compEnvC sc cl C env)) (compEnvC sc cl C env))
    (hb:∀ C,∀ x∈items,ClB X k (compEnvC sc cl C env) ρc t ifs (tree (compEnvC sc cl C env)) x (g x)) (hz:(items.flatMap g).length≤sizeLine) (hs:∀ x,foldedSetIterable iter env x=pure x:=by intro _;rfl) :
    EvF X k env ρ (.ListComp elt (⟨t,iter,ifs,0⟩ :: gs) sc p) (items.flatMap g):=fun A bad O s R r=>by
  rw [eval_ListComp]
  refine wpAny_comprehension_free (use:=none) (g:=⟨t,iter,ifs,0⟩) (gs:=gs) rfl hs hc.clos hc.kind hc.names (wpAny_mono (hit A bad O s R r) (fun xv s1 h1=>wpAny_mono h1 (fun it s2 h2=>?_) fun _ _ e=>e) fun _ _ e=>e)
  obtain ⟨x2,I,fp,wr,P,St,rfl,T⟩:=h2
  refine comp_block (RR:=fun acc C=>compPost (model X.prog X.w) A noE none _ acc C) R r x2 T hc hturn hb hz ?_
  intro D C s' vs n m' fD fC hDC hn hg q kp eg eo
  refine ⟨m',hn,fun h'' hs''=>?_⟩
  have kp':∀ b o,s.heap.get? b=some o→h''.get? b=some o:=fun b o e=>hs''.extBut b o (fun z=>by rw [z] at e;rw [x2.keep _ _ e] at fC;cases fC) (kp b o (fun hw=>by rw [T.new b hw] at e;cases e) (x2.keep _ _ e))
  refine ⟨⟨kp',eg.trans x2.gens,eo.trans x2.os⟩,D,vs,n,rfl,?_,hs''.extBut _ _ hDC hg,q.keep fun b o vs n _ e ed=>hs''.extBut b o (fun z=>?_) e⟩
  · cases e:s.heap.get? D with
    | none=>rfl
    | some o=>rw [x2.keep _ _ e] at fD;cases fD
  · obtain ⟨o',es,ep,ho,hd,_⟩:=hn
    rw [z,ho] at e;cases e;rw [hd] at ed;cases ed
theorem evf_comp {elt t iter:Expr} {ifs:List Expr} {sc:Scope} {p:Pos} {cl:List (Str×Addr)} {items:List PyData} (g:PyData→List PyData) (hit:EvW X k env ρ iter items) (hc:CapOk env ρ ρc sc cl)
    (hb:∀ C,∀ x∈items,ClB X k (compEnvC sc cl C env) ρc t ifs (itemTree elt (compEnvC sc cl C env)) x (g x)) (hz:(items.flatMap g).length≤sizeLine) (hs:∀ x,foldedSetIterable iter env x=pure x:=by intro _;rfl) :
    EvF X k env ρ (.ListComp elt [⟨t,iter,ifs,0⟩] sc p) (items.flatMap g):=evf_compX (tree:=itemTree elt) g hit hc (fun _=>trn_last rfl rfl) hb hz hs
end
section
variable {X:Cx} {k:Nat} {env:Env} {ρ ρc:List (Str×B)} {Q:Fl→List (Str×B)→Prop}
theorem ex_assignCX {y:Str} {py spos:Pos} {elt t iter:Expr} {gs:List Comprehension} {tree:Env→Value→Sem PUnit} {ifs:List Expr} {sc:Scope} {p:Pos} {cl:List (Str×Addr)} {items:List PyData} (g:PyData→List PyData) (hit:EvW X k env ρ iter items) (hc:CapOk env ρ ρc sc cl)
    (hturn:∀ C,Trn X (.ListComp elt (⟨t,iter,ifs,0⟩ :: gs) sc p) 0 t ifs (tree (compEnvC sc cl C env)) (compEnvC sc cl C env))
    (hb:∀ C,∀ x∈items,ClB X k (compEnvC sc cl C env) ρc t ifs (tree (compEnvC sc cl C env)) x (g x)) (hz:(items.flatMap g).length≤sizeLine) (hy:Own env y) (hq:Q .next (aH ρ y (.own (items.flatMap g))))
    (hsw:swapsWith (.ListComp elt (⟨t,iter,ifs,0⟩ :: gs) sc p) (some (.Name y py)) spos.line env=pure true:=by rfl) (hs:∀ x,foldedSetIterable iter env x=pure x:=by intro _;rfl) :
    Ex1 X k env ρ (.Assign [.Name y py] (.ListComp elt (⟨t,iter,ifs,0⟩ :: gs) sc p) spos) Q:=fun A bad O s R r=>by
  rw [exec_Assign_Name_used _ _ _ _ hsw]
  refine wpAny_bind (wpAny_standAt (wpAny_bind ?_))
  show wpAny _ A (do let _ ← comprehension (.ListComp elt (⟨t,iter,ifs,0⟩ :: gs) sc p) sc env _ (newList []) false (eval iter env) (some (assign (.Name y py) env))) _ _ s
  refine wpAny_bind (wpAny_mono (wpAny_comprehension_free (use:=some (assign (.Name y py) env)) (Q:=fun _ s'=>Post X env bad O s Q .next s') (g:=⟨t,iter,ifs,0⟩) (gs:=gs) rfl hs hc.clos hc.kind hc.names
    (wpAny_mono (hit A bad O s R r) (fun xv s1 h1=>wpAny_mono h1 (fun it s2 h2=>?_) fun _ _ e=>e) fun _ _ e=>e)) (fun _ s' hq=>wpAny_pure (wpAny_pure hq)) fun _ _ e=>e)
  obtain ⟨x2,I,fp,wr,P,St,rfl,T⟩:=h2
  refine comp_block (RR:=fun acc C=>compPost (model X.prog X.w) A noE (some (assign (.Name y py) env)) _ acc C) R r x2 T hc hturn hb hz ?_
  intro D C s' vs n m' fD fC hDC hn hg q kp eg eo
  have x1:Ext s s':=⟨fun b o e=>kp b o (fun hw=>by rw [T.new b hw] at e;cases e) (x2.keep _ _ e),eg.trans x2.gens,eo.trans x2.os⟩
  have none':∀ b,s2.heap.get? b=none→s.heap.get? b=none:=fun b f=>by
    cases e:s.heap.get? b with
    | none=>rfl
    | some o=>rw [x2.keep _ _ e] at f;cases f
  have gC:=none' _ fC
  have hCp:¬ Place env C:=fun hp=>by obtain ⟨o,ho⟩:=place_alive r.frm hp;rw [gC] at ho;cases ho
  show wpAny _ A (assign (.Name y py) env (.ref D)) _ _ s'
  refine wpAny_assign_Name (store_own' r x1 hy (none' _ fD) hg q fun s3 st r3 hpl=>?_)
  obtain ⟨pl,hpl,hsb⟩:=hpl
  have hn3:s3.heap.Ns C m':=hn.sameBut hsb fun z=>hCp (z ▸ hpl)
  refine ⟨m',hn3,fun h' hs'=>⟨.next,_,ins O y D,hq,rfl,?_,?_⟩⟩
  · have ne:∀ b o,s.heap.get? b=some o→b ≠ C:=fun b o e z=>by rw [z,gC] at e;cases e
    exact ⟨fun b o hp ho e=>hs'.extBut b o (ne b o e) (st.keep b o hp ho e),fun b o e=>let ⟨o',e'⟩:=st.alive b o e;⟨o',hs'.extBut b o' (ne b o e) e'⟩,st.new⟩
  · refine r3.keepZ (t:=s3.toks) (Z:=fun b=>b=C) (fun b o hz e=>hs'.extBut b o hz e) (fun b z=>z ▸ hCp) (fun b z x hx=>?_) (fun b z h=>?_) (fun b z=>?_) (fun b o vs n z e ed=>?_)
    · subst z
      unfold ins at hx
      split at hx
      · exact hDC (Option.some.inj hx)
      · obtain ⟨o,ho⟩:=badO_alive r b (.inr ⟨x,hx⟩);rw [gC] at ho;cases ho
    · subst z;obtain ⟨o,ho⟩:=r.low b h;rw [gC] at ho;cases ho
    · subst z
      cases e:X.h₀.get? b with
      | none=>rfl
      | some o=>rw [r.base _ _ e] at gC;cases gC
    · subst z
      obtain ⟨o',es,ep,ho,hd,_⟩:=hn3
      rw [ho] at e;cases e;rw [hd] at ed;cases ed
theorem ex_assignC {y:Str} {py spos:Pos} {elt t iter:Expr} {ifs:List Expr} {sc:Scope} {p:Pos} {cl:List (Str×Addr)} {items:List PyData} (g:PyData→List PyData) (hit:EvW X k env ρ iter items) (hc:CapOk env ρ ρc sc cl)
    (hb:∀ C,∀ x∈items,ClB X k (compEnvC sc cl C env) ρc t ifs (itemTree elt (compEnvC sc cl C env)) x (g x)) (hz:(items.flatMap g).length≤sizeLine) (hy:Own env y) (hq:Q .next (aH ρ y (.own (items.flatMap g))))
    (hsw:swapsWith (.ListComp elt [⟨t,iter,ifs,0⟩] sc p) (some (.Name y py)) spos.line env=pure true:=by rfl) (hs:∀ x,foldedSetIterable iter env x=pure x:=by intro _;rfl) :
    Ex1 X k env ρ (.Assign [.Name y py] (.ListComp elt [⟨t,iter,ifs,0⟩] sc p) spos) Q:=ex_assignCX (tree:=itemTree elt) g hit hc (fun _=>trn_last rfl rfl) hb hz hy hq hsw hs
end
section
variable {X:Cx} {k:Nat} {env:Env} {ρ ρ₁ ρ':List (Str×B)} {Q:Fl→List (Str×B)→Prop}
theorem ex_iadd {x:Str} {p pos:Pos} {e:Expr} {a b:Int} (ha:ρ.lookup x=some (.val (.int a))) (he:Ev X k env ρ e (.int b)) (hx:Own env x) (hq:Q .next (aH ρ x (.val (.int (a+b))))):Ex1 X k env ρ (.AugAssign (.Name x p) .Add e pos) Q:=fun A bad O s R r=>by
  obtain ⟨v,lk,q⟩:=r.val x _ ha
  refine wpAny_AugAssign_Name (lk.load r.ok.kind (he.use R r fun u s1 x1 r1 q1=>?_))
  refine q.intE fun t=>q1.intE fun t'=>?_
  have x2:=x1.trans (Ext.toks s1 (s1.toks+1))
  exact iadd_int (store_val (r.ext x2) hx (.int _ _) fun s3 st r3=>⟨.next,_,_,hq,rfl,(Step.of_ext x2).trans st,r3⟩)
theorem ex_assign2 {t₁ t₂ e:Expr} {pos:Pos} {d:PyData} (he:Ev X k env ρ e d) (h1:Asg X k env ρ t₁ d ρ₁) (h2:Asg X k env ρ₁ t₂ d ρ') (hq:Q .next ρ') (hm:(assignEach [t₁,t₂] env).map (·.2)=[assign t₁ env,assign t₂ env]:=by rfl)
    (hw:swappedStores [t₁,t₂] e env=pure none:=by rfl):Ex1 X k env ρ (.Assign [t₁,t₂] e pos) Q:=fun A bad O s R r =>
  wpAny_Assign_two (he.use R r fun v s1 x1 r1 q1=>wpAny_mono (h1 A bad O s1 v R r1 q1) (fun _ s2 p2=>by
    obtain ⟨O2,st2,r2⟩:=p2
    refine wpAny_mono (h2 A bad O2 s2 v R r2 (q1.step r1.frm st2)) (fun _ s3 p3=>?_) fun _ _ x=>x
    obtain ⟨O3,st3,r3⟩:=p3
    exact ⟨.next,_,_,hq,rfl,(Step.of_ext x1).trans (st2.trans st3),r3⟩) fun _ _ x=>x) hm hw
theorem ex_assign3 {t₁ t₂ t₃ e:Expr} {pos:Pos} {d:PyData} {ρ₂:List (Str×B)} (he:Ev X k env ρ e d) (h1:Asg X k env ρ t₁ d ρ₁) (h2:Asg X k env ρ₁ t₂ d ρ₂) (h3:Asg X k env ρ₂ t₃ d ρ') (hq:Q .next ρ') (hm:(assignEach [t₁,t₂,t₃] env).map (·.2)=[assign t₁ env,assign t₂ env,assign t₃ env]:=by rfl)
    (hw:swappedStores [t₁,t₂,t₃] e env=pure none:=by rfl):Ex1 X k env ρ (.Assign [t₁,t₂,t₃] e pos) Q:=fun A bad O s R r =>
  wpAny_Assign_three (he.use R r fun v s1 x1 r1 q1=>wpAny_mono (h1 A bad O s1 v R r1 q1) (fun _ s2 p2=>by
    obtain ⟨O2,st2,r2⟩:=p2
    have q2:=q1.step r1.frm st2
    refine wpAny_mono (h2 A bad O2 s2 v R r2 q2) (fun _ s3 p3=>?_) fun _ _ x=>x
    obtain ⟨O3,st3,r3⟩:=p3
    refine wpAny_mono (h3 A bad O3 s3 v R r3 (q2.step r2.frm st3)) (fun _ s4 p4=>?_) fun _ _ x=>x
    obtain ⟨O4,st4,r4⟩:=p4
    exact ⟨.next,_,_,hq,rfl,(Step.of_ext x1).trans (st2.trans (st3.trans st4)),r4⟩) fun _ _ x=>x) hm hw
noncomputable def AsgN (X:Cx) (k:Nat) (env:Env) (ρ:List (Str×B)) (xs:List Str) (ds:List PyData) (ρ':List (Str×B)):Prop :=
  ∀ (A:Around) (bad:Addr→Prop) (O:Str→Option Addr) (s:Shared) (vs:List Value),Room k A→Rel X bad O env ρ s→RepL (aN bad O) s.heap ds vs →
    wpAny (model X.prog X.w) A (assignInOrder (xs.map fun n=>bindName env n) vs) (fun _ s'=>∃ O',Step env O O' s s'∧Rel X bad O' env ρ' s') noE s
theorem asgn_nil:AsgN X k env ρ [] [] ρ:=fun A bad O s vs R r q=>by cases q;exact wpAny_pure ⟨O,Step.refl _ _ _,r⟩
theorem aS {x:Str} {xs:List Str} {d:PyData} {ds:List PyData} (hx:Own env x) (h:AsgN X k env (aH ρ x (.val d)) xs ds ρ'):AsgN X k env ρ (x :: xs) (d :: ds) ρ':=fun A bad O s vs R r q=>by
  cases q with
  | cons qv qs =>
    rw [List.map_cons]
    unfold assignInOrder
    refine wpAny_bind (wpAny_holding (wpAny_bindName (store_val r hx qv fun s1 st r1=>?_)))
    refine wpAny_mono (h A bad _ s1 _ R r1 (qs.step r.frm st)) (fun _ s2 p=>?_) fun _ _ x=>x
    obtain ⟨O2,st2,r2⟩:=p
    exact ⟨O2,st.trans st2,r2⟩
theorem RepL.rev {bad:Addr→Prop} {h:Heap} {ds:List PyData} {vs:List Value} (q:RepL bad h ds vs):RepL bad h ds.reverse vs.reverse :=
  q.ind (P:=fun ds vs=>RepL bad h ds.reverse vs.reverse) .nil fun a _ ih=>by rw [List.reverse_cons,List.reverse_cons];exact ih.append (.cons a .nil)
theorem ex_swap {t e:Expr} {pos:Pos} {ds:List PyData} {xs:List Str} (he:Ev X k env ρ e (.tuple ds)) (h1:AsgN X k env ρ xs.reverse ds.reverse ρ') (hq:Q .next ρ') (hl:xs.length=ds.length) (hs:swapsWithSole [t] e pos.line env=pure false) (hw:swappedStores [t] e env=pure (some xs)) :
    Ex1 X k env ρ (.Assign [t] e pos) Q:=fun A bad O s R r=>by
  rw [exec_Assign_arm]
  refine wpAny_bind (wpAny_standAt ?_)
  rw [hs]
  refine wpAny_bind (wpAny_pure ?_)
  rw [if_neg (by decide)]
  refine wpAny_bind (he.use R r fun v s1 x1 r1 q1=>?_)
  rw [hw]
  refine wpAny_bind (wpAny_pure ?_)
  obtain ⟨a,vs,rfl,l,qs⟩:=q1.isTup
  have hz:xs.length=vs.size:=by rw [← Array.length_toList,← qs.length];exact hl
  unfold assignStores
  dsimp only
  rw [hz]
  refine wpAny_bind (wpAny_rule (wpAny_bind (wpAny_unpackItems_tuple R.handled l fun h' he'=>?_)))
  have x2:Ext s1 { s1 with heap:=h' }:=⟨fun b o e=>he' b o (Nat.ne_of_lt (Heap.lt_size e)) e,rfl,rfl⟩
  refine wpAny_bind (wpAny_mono (h1 A bad O { s1 with heap:=h' } vs.toList.reverse R (r1.ext x2) (qs.ext x2).rev) (fun _ s2 p=>wpAny_pure ?_) fun _ _ x=>x)
  obtain ⟨O2,st2,r2⟩:=p
  exact ⟨.next,_,_,hq,rfl,(Step.of_ext (x1.trans x2)).trans st2,r2⟩
end
section
variable {X:Cx} {k:Nat} {env:Env} {ρ ρ₁ ρ':List (Str×B)} {Q:Fl→List (Str×B)→Prop}
end
theorem lookIn_ns {o:Obj} {es:Array DictEntry} {ep:Nat} {name:Str} (hd:o.data=.dict es ep) (hk:StrKeys es):lookIn name o=some (nsFind es name):=by
  unfold lookIn nsFind findBy
  rw [hd]
  dsimp only
  have hr:es.toList.any (·.refKey)=false:=by
    rw [List.any_eq_false]
    intro e he
    obtain ⟨n,t,e'⟩:=hk e (Array.mem_toList_iff.mp he)
    simp [DictEntry.refKey,e']
  rw [← Array.find?_toList]
  cases e:es.toList.find? (·.key.isStr name) with
  | none=>simp [hr]
  | some en=>simp
noncomputable def NsB (h:Heap) (a:Addr) (m:Str→Option Value) (N:Nat):Prop:=∃ o es ep,h.get? a=some o∧o.data=.dict es ep∧StrKeys es∧(∀ name,nsFind es name=m name)∧es.size≤N
theorem NsB.ns {h:Heap} {a:Addr} {m:Str→Option Value} {N:Nat} (n:NsB h a m N):h.Ns a m:=let ⟨o,es,ep,a,b,c,d,_⟩:=n;⟨o,es,ep,a,b,c,d⟩
theorem nsB_set {M:Model} {A:Around} {E:Value→Shared→Prop} {s:Shared} {a:Addr} {m:Str→Option Value} {N:Nat} {name:Str} {v:Value} {Q:Unit→Shared→Prop} (hn:NsB s.heap a m N)
    (h:∀ h',NsB h' a (fun x=>if x=name then some v else m x) (if (m name).isSome then N else N+1)→Heap.SameBut a s.heap h'→Q () { s with heap:=h',toks:=s.toks+1 }):wpAny M A (nsSet a name v) Q E s:=fun Γ p hΓ=>by
  obtain ⟨o,es,ep,ho,hd,hk,hm,hN⟩:=hn
  simp only [nsSet,strHash,Sem.wp_bind',Sem.wp_cmd_ask,Sem.wp_pure',Sem.wp_cmd_mkText]
  rw [Sem.wp_loadPart_of M Γ _ p { s with toks:=s.toks+1 } (o:=o) _ ho]
  have hany:es.any (·.refKey)=false:=by
    rw [Array.any_eq_false'];intro e he;obtain ⟨n,t,h⟩:=hk e he;simp [DictEntry.refKey,h]
  simp only [hd,aRefKeyMayBeTheName_eq,aRefKeyMayBeTheNameByArray,hany,Bool.and_false,Bool.false_eq_true,if_false,Sem.wp_cmd_updatePart]
  refine ⟨by rw [ho];rfl,h _ ?_ (Heap.SameBut.update ..)⟩
  obtain ⟨c,d,dt,sl⟩:=o
  subst hd
  cases hi:es.findIdx? (·.key.isStr name) with
  | some i =>
    refine ⟨_,_,ep,Heap.get?_update_self _ ho (by simp only [Obj.putName_eq,Obj.putNameByArray,hi];rfl),by simp only [Obj.putName_eq,Obj.putNameByArray,hi];rfl,hk.modify _ _,fun x=>?_,?_⟩
    · show _=if x=name then some v else m x
      rw [← hm];exact findBy_modify (fun n v=>v.isStr n) Value.isStr_inj es name x v i hi
    · rw [Array.size_modify];split <;> lia
  | none =>
    refine ⟨_,_,ep+1,Heap.get?_update_self _ ho (by simp only [Obj.putName_eq,Obj.putNameByArray,hi];rfl),by simp only [Obj.putName_eq,Obj.putNameByArray,hi];rfl,hk.push _ _ _ _,fun x=>?_,?_⟩
    · show _=if x=name then some v else m x
      rw [← hm]
      exact findBy_push (fun n v=>v.isStr n) es name x _ _ v (fun y=>by
        show (name == y)=decide (y=name)
        by_cases h:y=name
        · subst h;simp
        · simp [h,Ne.symm h]) hi
    · rw [Array.size_push]
      have:m name=none:=by
        rw [← hm]
        unfold nsFind findBy
        have:es.find? (·.key.isStr name)=none:=by
          rw [Array.findIdx?_eq_none_iff] at hi
          rw [Array.find?_eq_none]
          intro e he;simp [hi e he]
        rw [this];rfl
      rw [this];simp;exact hN
structure Inst (h:Heap) (C x dx:Addr) (m:Str→Option Value) (N:Nat):Prop where
  obj:h.get? x=some (instObj C dx)
  nsb:NsB h dx m N
theorem Inst.ns {h:Heap} {C x dx:Addr} {m:Str→Option Value} {N:Nat} (I:Inst h C x dx m N):h.Ns dx m:=I.nsb.ns
theorem Inst.at {h:Heap} {C x dx:Addr} {m:Str→Option Value} {N:Nat} (I:Inst h C x dx m N):∃ od,InstAt h x (instObj C dx) C (some od)∧∀ name,lookIn name od=some (m name):=by
  obtain ⟨o,es,ep,ho,hd,hk,hf⟩:=I.ns
  exact ⟨o,⟨I.obj,rfl,rfl,ho⟩,fun name=>by rw [lookIn_ns hd hk,hf]⟩
structure ClsOk (K:Frag) (C:Addr) (cd:ClassData):Prop where
  cls:clsIn K C=some cd
  dict:cd.hasDict=true
  ga:findIn K (.ref C) "__getattribute__"=some (some (.builtin "object.__getattribute__"))
  gt:findIn K (.ref C) "__getattr__"=some none
  sa:findIn K (.ref C) "__setattr__"=some (some (.builtin "object.__setattr__"))
  plain:plainOver K C=true
section
variable {prog:Program} {w:World} {A:Around} {E:Value→Shared→Prop} {s:Shared} {K:Frag} {C x dx:Addr} {cd:ClassData} {m:Str→Option Value} {name:Str} {N:Nat}
theorem attr_get {expr:Bool} {v:Value} {Q:Value→Shared→Prop} (X:K.In s.heap) (I:Inst s.heap C x dx m N) (hC:ClsOk K C cd) (hn:findIn K (.ref C) name=some none) (hm:m name=some v) (hv:handedIn v=true) (h:Q v { s with toks:=s.toks+1 }) :
    wpAny (model prog w) A (getAttr (.ref x) name expr) Q E s:=by
  obtain ⟨od,J,hl⟩:=I.at
  refine get_value X J hC.ga (v:=v) ?_ hv h
  unfold findObj
  rw [hC.cls,Option.bind_some,hn,Option.bind_some]
  unfold W.ownOf
  rw [hC.dict,if_pos rfl]
  dsimp only
  rw [Option.bind_some,Option.bind_some,hl,hm,Option.bind_some]
theorem attr_method {pl:Sem Bool} {f:Addr} {Q:Value×List Value→Shared→Prop} (X:K.In s.heap) (I:Inst s.heap C x dx m N) (hC:ClsOk K C cd) (hf:findIn K (.ref C) name=some (some (.ref f))) (ht:typeIn K (.ref f)=some (.type "function")) (hm:m name=none) (h:Q (.ref f,[.ref x]) s) :
    wpAny (model prog w) A (getMethod (.ref x) name pl) Q E s:=by
  obtain ⟨od,J,hl⟩:=I.at
  exact method_fn X J hC.ga hC.gt hf ht (by show (lookIn name od).map (·.isSome)=_;rw [hl,hm];rfl) h
theorem attr_set {v:Value} {Q:Unit→Shared→Prop} (X:K.In s.heap) (I:Inst s.heap C x dx m N) (hC:ClsOk K C cd) (hn:takerIn K C name=some none) (hN:N < 1000)
    (h:∀ h' t,Inst h' C x dx (fun y=>if y=name then some v else m y) (if (m name).isSome then N else N+1)→Heap.SameBut dx s.heap h'→Q () { s with heap:=h',toks:=t }) :
    wpAny (model prog w) A (setAttr (.ref x) name v) Q E s:=by
  obtain ⟨od,J,hl⟩:=I.at
  have hxd:x ≠ dx:=fun e=>by
    obtain ⟨o,es,ep,ho,hd,_⟩:=I.ns
    rw [← e,I.obj] at ho;cases ho;cases hd
  refine set_plain X J hC.sa (osa_open (s:={ s with toks:=s.toks+1 }) X J hC.plain hn fun b=>?_)
  dsimp only
  refine wpAny_bind (wpAny_pure (wpAny_bind (wpAny_bind (wpAny_loadPart I.obj (wpAny_bind ((looks_clsIn (h:=s.heap) X hC.cls) _ _ _ _ (fun _ _ e=>e) ?_))))))
  rw [hC.dict]
  refine wpAny_pure (a:=some dx) (wpAny_bind (wpAny_pure (wpAny_bind ?_)))
  refine nsB_set (s:={ s with toks:=s.toks+1 }) I.nsb fun h' hn' hs'=>?_
  have hn2:=hn'
  obtain ⟨o,es,ep,ho,hd,_,_,hz⟩:=hn2
  refine wpAny_bind (wpAny_lookBehind ho (by rw [hd];exact pastItsLine_dict (by rw [sizeLine_eq];split at hz <;> lia)) ?_)
  exact wpAny_pure (h h' _ ⟨(hs'.2 x hxd).trans I.obj,hn'⟩ hs')
end
inductive BindOk (bad:Addr→Prop) (h:Heap):B→Value→Prop
  | val {d:PyData} {v:Value}:Rep bad h d v→BindOk bad h (.val d) v
  | raw (v:Value):BindOk bad h (.raw v) v
inductive BindsOk (bad:Addr→Prop) (h:Heap):List B→List Value→Prop
  | nil:BindsOk bad h [] []
  | cons {b:B} {bs:List B} {v:Value} {vs:List Value}:BindOk bad h b v→BindsOk bad h bs vs→BindsOk bad h (b :: bs) (v :: vs)
theorem lookup_zip_b:∀ {names:List Str} {bs:List B} {vs:List Value} {bad:Addr→Prop} {h:Heap} {x:Str} {b:B},BindsOk bad h bs vs→(names.zip bs).lookup x=some b →
    ∃ v,(x,v)∈names.zip vs∧BindOk bad h b v
  | [],_,_,_,_,_,_,_,e=>by simp at e
  | n :: names,[],_,_,_,_,_,_,e=>by simp at e
  | n :: names,c :: bs,_,bad,h,x,b,.cons (v:=v) (vs:=vs) r q,e=>by
    simp only [List.zip_cons_cons,List.lookup_cons] at e
    split at e
    · rename_i hx
      cases e
      have:=beq_iff_eq.mp hx
      subst this
      exact ⟨v,.head _,r⟩
    · obtain ⟨v',m,q'⟩:=lookup_zip_b q e
      exact ⟨v',.tail _ m,q'⟩
structure DefAt (X:Cx) (f:Addr) (fd:FuncData) (body:List Stmt) (names:List Str):Prop where
  obj:∃ o,X.h₀.get? f=some o∧o.data=.func fd
  code:X.h₀.CodeRec fd.code fd.qualname
  body:fd.body=.stmts body
  clo:fd.closure=[]
  g:fd.globals=mainGlobals
  b:fd.builtins=builtinsNs
  bind:∀ (s:Shared) (vs:List Value),(∀ b o,X.h₀.get? b=some o→s.heap.get? b=some o)→vs.length=names.length→BindsTo s fd ⟨vs,[]⟩ (names.zip vs)
  nodup:names.Nodup
  par:∀ x∈names,fd.scope.names.lookup x=some .local∨(fd.scope.names.lookup x=some .cell∧∀ n,((cellsFrom n fd.scope.names []).lookup x).isSome=true)
  co:fd.scope.isCoroutine=false
  gen:fd.scope.isGenerator=false
  kind:fd.scope.kind=.function
theorem call_cellsB {prog:Program} {w:World} {A:Around} {s:Shared} {R:Result→Shared→Prop} {a:Addr} {o:Obj} {fd:FuncData} {body:List Stmt} {vals:List Value} {binds:List (Str×Value)}
    (hroom:A.depth < recursionLimit) (ho:s.heap.get? a=some o) (hdata:o.data=.func fd) (hlim:s.heap.NoLimit) (hcd:s.heap.CodeRec fd.code fd.qualname)
    (hbody:fd.body=.stmts body) (hbind:BindsTo s fd ⟨vals,[]⟩ binds) (hclo:fd.closure=[])
    (hkind:∀ x∈binds,fd.scope.names.lookup x.1=some .local∨(fd.scope.names.lookup x.1=some .cell∧((cellsFrom (s.heap.objs.size+1) fd.scope.names []).lookup x.1).isSome=true))
    (h:∀ s₁,InCallC s (callEnvC fd s.heap.objs.size a).locals (bindL (callEnvC fd s.heap.objs.size a).kindOf binds fun _=>none) (callEnvC fd s.heap.objs.size a).cells
        (bindC (callEnvC fd s.heap.objs.size a).kindOf binds fun _=>none) s₁ →
      wpAny (model prog w) (A.deeper (callEnvC fd s.heap.objs.size a)) (execs body (callEnvC fd s.heap.objs.size a)) (fun f s'=>R (.ok (.ret (match f with | .ret v=>v | _=>.none))) s')
        (fun e s'=>wpAny (model prog w) (A.deeper (callEnvC fd s.heap.objs.size a)) (leaving (callEnvC fd s.heap.objs.size a) e) (fun _ s''=>R (.error e) s'') (fun e' s''=>R (.error e') s'') s') s₁)
    (hco:fd.scope.isCoroutine=false) (hgen:fd.scope.isGenerator=false) (hk:fd.scope.kind=.function) :
    codeAny (model prog w) A (.call (.ref a) ⟨vals,[]⟩) R s:=by
  refine codeAny_call_function hroom ho hdata hco hgen hbody hcd (hbind _ _ _ _ ?_)
  rw [hclo]
  refine wpAny_newFunctionEnv_cells hk hkind fun env he s' x=>?_
  subst he
  exact ⟨hlim.keeps x.toInCall.keep,codeAny_func (h s' x)⟩
noncomputable def Back (R:Result→Shared→Prop) (f:Flow) (s':Shared):Prop:=R (.ok (.ret (match f with | .ret v=>v | _=>.none))) s'
theorem call_body {X:Cx} {k:Nat} {f:Addr} {fd:FuncData} {body:List Stmt} {names:List Str} (D:DefAt X f fd body names) {A:Around} {bad:Addr→Prop} {s:Shared} {vs:List Value} {bs:List B} {R:Result→Shared→Prop} (Rm:Room (k+1) A) (a:At X s)
    (low:∀ a,bad a→∃ o,s.heap.get? a=some o) (hdat:∀ d v,X.dat d v→Rep bad X.h₀ d v) (q:BindsOk bad s.heap bs vs) (hl:vs.length=names.length)
    (h:∀ L A' s₁,Room k A'→Rel X bad nO (callEnvC fd L f) (names.zip bs) s₁→(∀ b o,s.heap.get? b=some o→s₁.heap.get? b=some o)→(∀ b o,s.heap.get? b=some o→¬ Place (callEnvC fd L f) b)→s₁.gens=s.gens→s₁.os=s.os →
      wpAny (model X.prog X.w) A' (execs body (callEnvC fd L f)) (Back R) noE s₁) :
    codeAny (model X.prog X.w) A (.call (.ref f) ⟨vs,[]⟩) R s:=by
  obtain ⟨o,ho,hdata⟩:=D.obj
  refine call_cellsB (o:=o) (fd:=fd) (body:=body) (binds:=names.zip vs) (by have:=Rm.depth;show A.depth < 1000;exact aQ 0xf113e81901f38419181a0ab0a0f rfl this) (a.base _ _ ho) hdata (a.wf.nolimit.keeps a.base) (D.code.keeps a.base) D.body (D.bind s vs a.base hl) D.clo (fun x hx=>?_) (fun s₁ I=>?_) D.co D.gen D.kind
  · rcases D.par x.1 (List.of_mem_zip (a:=x.1) (b:=x.2) hx).1 with e | ⟨e,e'⟩
    · exact .inl e
    · exact .inr ⟨e,e' _⟩
  · obtain ⟨⟨⟨h',tk,rfl⟩,ns,keep,fresh⟩,cell,apart,above⟩:=I
    have nodup:=zip_fst_nodup (vs:=vs) D.nodup
    have hnone:∀ c,s.heap.objs.size≤c→X.h₀.get? c=none:=fun c hc=>by
      cases e:X.h₀.get? c with
      | none=>rfl
      | some o=>exact absurd (Heap.lt_size (a.base _ _ e)) (Nat.not_lt.mpr hc)
    have hcs:∀ n c,(callEnvC fd s.heap.objs.size f).cells.lookup n=some c→s.heap.objs.size < c:=fun n c e=>above n c (mem_of_lookup e)
    have hpl:∀ b o,s.heap.get? b=some o→¬ Place (callEnvC fd s.heap.objs.size f) b:=fun b o e hp=>by
      have:=Heap.lt_size e
      rcases hp with rfl | ⟨n,hn⟩
      · exact Nat.lt_irrefl _ this
      · exact Nat.lt_irrefl _ (Nat.lt_trans this (hcs n b hn))
    have hlk:∀ x v,(x,v)∈names.zip vs→Lk h' (callEnvC fd s.heap.objs.size f) x v:=fun x v hm=>by
      rcases D.par x (List.of_mem_zip hm).1 with e | ⟨e,e'⟩
      · exact .inl ⟨e,_,ns,bindL_get (kindOf:=(callEnvC fd s.heap.objs.size f).kindOf) e _ _ nodup hm⟩
      · obtain ⟨c,hc⟩:=Option.isSome_iff_exists.mp (e' (s.heap.objs.size+1))
        refine .inr (.inl ⟨e,c,hc,?_⟩)
        have:=cell x c hc
        rwa [bindC_get (kindOf:=(callEnvC fd s.heap.objs.size f).kindOf) (by show fd.scope.names.lookup x ≠ _;rw [e];exact fun q=>by cases q) _ _ nodup hm] at this
    have r:Rel X bad nO (callEnvC fd s.heap.objs.size f) (names.zip bs) { s with heap:=h',toks:=tk }:={
      wf:=a.wf
      base:=fun b o e=>keep _ _ (a.base b o e)
      gens:=a.gens
      os:=a.os
      ok:=⟨D.kind,D.g,D.b⟩
      frm:=⟨⟨_,ns⟩,fun n c e=>⟨_,cell n c e⟩,fun n c e=>Nat.ne_of_gt (hcs n c e),fun n n' c e e'=>name_of_addr apart (mem_of_lookup e) (mem_of_lookup e'),hnone _ (Nat.le_refl _),fun n c e=>hnone _ (Nat.le_of_lt (hcs n c e))⟩
      holds:=fun x b e=>by
        obtain ⟨v,hm,bo⟩:=lookup_zip_b q e
        cases bo with
        | val rv=>exact .val (hlk x v hm) (rv.map fun a o _ _ hb e _=>⟨fun h=>hb (badO_nO h),keep _ _ e⟩)
        | raw=>exact .raw (hlk x v hm)
      inj:=fun x y l e=>by cases e
      low:=fun b e=>let ⟨o,ho⟩:=low b e;⟨o,keep _ _ ho⟩
      good:=fun x l e=>by cases e
      dat:=hdat }
    refine wpAny_mono (h s.heap.objs.size _ _ ⟨Rm.handled,?_,?_⟩ r keep hpl rfl rfl) (fun fl s' p=>p) fun _ _ x=>x.elim
    · have:=Rm.depth;show A.depth+1+_≤_;exact aQ 0xf113841910ab180aa0f38419181a0ab0a0f rfl this
    · have:=Rm.units;show A.units+3+_≤_;exact aQ 0xf11232829164b380aa0f232829181a64b0a0f rfl this
noncomputable abbrev aI (ρ:List (Str×B)) (x:Str) (b:B):Prop:=ρ.lookup x=some b
section
variable {X:Cx} {k:Nat} {env:Env} {ρ:List (Str×B)} {Q:Fl→List (Str×B)→Prop}
theorem Lk.keepP {h h':Heap} {x:Str} {v:Value} (l:Lk h env x v) (k:∀ b o,Place env b→h.get? b=some o→h'.get? b=some o):Lk h' env x v:=by
  rcases l with ⟨a,m',b,e⟩ | ⟨a,d,b,e⟩ | ⟨a,n,d,b,e⟩
  · exact .inl ⟨a,m',b.at' fun o ho=>k _ o (.inl rfl) ho,e⟩
  · obtain ⟨o,ho,hd⟩:=e;exact .inr (.inl ⟨a,d,b,o,k _ o (.inr ⟨x,b⟩) ho,hd⟩)
  · obtain ⟨o,ho,hd⟩:=e;exact .inr (.inr ⟨a,n,d,b,o,k _ o (.inr ⟨x,b⟩) ho,hd⟩)
theorem FrameOk.keepP {h₀ h h':Heap} (f:FrameOk h₀ env h) (k:∀ b o,Place env b→h.get? b=some o→h'.get? b=some o):FrameOk h₀ env h' :=
  ⟨let ⟨m,a⟩:=f.ns;⟨m,a.at' fun o ho=>k _ o (.inl rfl) ho⟩,fun n c e=>let ⟨v,o,ho,hd⟩:=f.cell n c e;⟨v,o,k _ o (.inr ⟨n,e⟩) ho,hd⟩,f.ne,f.inj,f.new,f.newc⟩
theorem Rel.at_change {bad:Addr→Prop} {O:Str→Option Addr} {s s':Shared} {x:Str} {a:Addr} {o o':Obj} (r:Rel X bad O env ρ s) (hx:ρ.lookup x=some (.at a o))
    (hk:∀ b o,b ≠ a→s.heap.get? b=some o→s'.heap.get? b=some o) (ha:s'.heap.get? a=some o') (hg:s'.gens=s.gens) (hos:s'.os=s.os) :
    Step env O O s s'∧Rel X bad O env (aH ρ x (.at a o')) s':=by
  obtain ⟨hO,hcur⟩:=r.pt x a o hx
  obtain ⟨nbad,n0,np,_⟩:=r.good x a hO
  have kq:KeepSeq (aN bad O) s.heap s'.heap:=fun b o _ _ hb e _=>hk b o (fun q=>hb (q ▸ .inr ⟨x,hO⟩)) e
  have al:∀ b o,s.heap.get? b=some o→∃ o',s'.heap.get? b=some o':=fun b o e=>by
    by_cases q:b=a
    · exact ⟨o',q ▸ ha⟩
    · exact ⟨o,hk b o q e⟩
  have kp:∀ b o,Place env b→s.heap.get? b=some o→s'.heap.get? b=some o:=fun b o hp e=>hk b o (fun q=>np (q ▸ hp)) e
  exact ⟨⟨fun b o hb hO' e=>hk b o (fun q=>hO' x (q ▸ hO)) e,al,fun y l e=>.inl ⟨y,e⟩⟩,r.turns (fun b o e=>hk b o (fun q=>by rw [q,n0] at e;cases e) (r.base b o e)) hg hos (r.frm.keepP kp) al hO trivial (.at hO ha) fun y c hy h =>
    h.move (fun _ l=>l.keepP kp) (fun _ e=>e) (fun l ob h=>hk l ob fun z=>hy (r.inj y x a (z ▸ h) hO)) kq.map⟩
theorem Rel.at_take {bad:Addr→Prop} {O:Str→Option Addr} {s:Shared} {x:Str} {a:Addr} {o:Obj} (r:Rel X bad O env ρ s) (ho:s.heap.get? a=some o) (hn:∀ vs n,o.data ≠ .seq vs n) (h0:X.h₀.get? a=none) (hp:¬ Place env a) (hb:¬ aN bad O a) :
    Rel X bad (ins O x a) env (aH ρ x (.at a o)) s:=by
  exact r.joins r.base rfl rfl r.frm (fun b o e=>⟨o,e⟩) hb h0 hp trivial (.at ins_self ho) fun y c hy h=>h.move (fun _ l=>l) (fun _=>ins_ne hy) (fun _ _ _ e=>e) fun b ob vs n hb e ed=>⟨fun h=>(badO_ins h).elim hb fun q=>(by subst q;rw [ho] at e;cases e;exact hn vs n ed),e⟩
theorem Rel.at_new {bad:Addr→Prop} {O:Str→Option Addr} {s s1:Shared} (x:Str) {a:Addr} {o:Obj} (r:Rel X bad O env ρ s) (x1:Ext s s1) (hl:s.heap.get? a=none) (ho:s1.heap.get? a=some o) :
    Step env O (ins O x a) s s1∧Rel X bad (ins O x a) env (aH ρ x (.at a o)) s1:=by
  have hb:¬ aN bad O a:=new_good r hl
  have hp:¬ Place env a:=fun h=>by obtain ⟨o,ho⟩:=place_alive r.frm h;rw [hl] at ho;cases ho
  exact ⟨⟨fun b o _ _ e=>x1.keep _ _ e,fun b o e=>⟨o,x1.keep _ _ e⟩,fun y l e=>(ins_some e).elim (fun h=>.inr (h.2 ▸ hl)) fun h=>.inl ⟨y,h.2⟩⟩,
    r.joins (fun b o e=>x1.keep _ _ (r.base b o e)) x1.gens x1.os (r.frm.keep x1.keep) (fun b o e=>⟨o,x1.keep _ _ e⟩) hb (r.none0 hl) hp trivial (.at ins_self ho) fun y c hy h =>
      h.move (fun _ l=>l.keep x1.keep) (fun _=>ins_ne hy) (fun _ _ _ e=>x1.keep _ _ e) fun b ob _ _ hb e _=>⟨fun h=>(badO_ins h).elim hb fun q=>(by rw [q,hl] at e;cases e),x1.keep _ _ e⟩⟩
theorem badO_moved {bad:Addr→Prop} {O:Str→Option Addr} {x y:Str} {l a:Addr} (hO:O x=some l) (h:aN bad (ins (del O x) y l) a):aN bad O a:=(badO_ins h).elim badO_del fun e=>.inr ⟨x,e ▸ hO⟩
theorem Rel.moved {bad:Addr→Prop} {O:Str→Option Addr} {s:Shared} {x y:Str} {l:Addr} {b:B} (r:Rel X bad O env ρ s) (hO:O x=some l) (hb:b.owns) (hold:Holds bad (ins (del O x) y l) env s y b) :
    Step env O (ins (del O x) y l) s s∧Rel X bad (ins (del O x) y l) env (aH (aH ρ x .free) y b) s :=
  have g:=r.good x l hO
  ⟨⟨fun _ _ _ _ e=>e,fun b o e=>⟨o,e⟩,fun z l' e=>(ins_some e).elim (fun h=>.inl ⟨x,h.2 ▸ hO⟩) fun h=>.inl ⟨z,(del_some h.2).2⟩⟩,{
    wf:=r.wf
    base:=r.base
    gens:=r.gens
    os:=r.os
    ok:=r.ok
    frm:=r.frm
    holds:=fun z c e=>by
      rcases put_some e with ⟨h,h'⟩ | ⟨hz,e⟩
      · rw [h,h'];exact hold
      · rcases put_some e with ⟨_,h'⟩ | ⟨hx,e⟩
        · rw [h'];exact .free
        · exact (r.holds z c e).move (fun _ l=>l) (fun _ h=>ins_ne hz (del_ne hx h)) (fun _ _ _ e=>e) fun a o _ _ h e _=>⟨fun h'=>h (badO_moved hO h'),e⟩
    inj:=fun z z' l' e e'=>by
      rcases ins_some e with ⟨h,q⟩ | ⟨_,e⟩
      · rcases ins_some e' with ⟨h',_⟩ | ⟨_,e'⟩
        · exact h.trans h'.symm
        · obtain ⟨n,e'⟩:=del_some e';exact absurd (r.inj z' x l' e' (q ▸ hO)) n
      · obtain ⟨n,e⟩:=del_some e
        rcases ins_some e' with ⟨_,q⟩ | ⟨_,e'⟩
        · exact absurd (r.inj z x l' e (q ▸ hO)) n
        · exact r.inj z z' l' e (del_some e').2
    low:=r.low
    good:=fun z l' e=>by
      rcases ins_some e with ⟨h,q⟩ | ⟨h,e⟩
      · subst h q;exact ⟨g.1,g.2.1,g.2.2.1,b,hs,hb⟩
      · obtain ⟨n,e⟩:=del_some e;exact GoodAt.pt (GoodAt.pt (r.good z l' e) n) h
    dat:=r.dat }⟩
theorem exs_rekey {x y:Str} {a:Addr} {o:Obj} {ss:List Stmt} (hx:ρ.lookup x=some (.at a o)) (hne:x ≠ y) (h:Exs X k env (aH (aH ρ x .free) y (.at a o)) ss Q):Exs X k env ρ ss Q:=fun A bad O s R r=>by
  obtain ⟨hO,hcur⟩:=r.pt x a o hx
  obtain ⟨st,r'⟩:=r.moved (y:=y) (b:=.at a o) hO trivial (.at ins_self hcur)
  exact h.from R st r'
end
noncomputable def Cx.on (X:Cx) (h:Heap) (D:PyData→Value→Prop):Cx:={ X with h₀:=h,dat:=D }
theorem Wf.on {X:Cx} (w:Wf X) {h:Heap} {D:PyData→Value→Prop} (k:∀ b o,X.h₀.get? b=some o→h.get? b=some o):Wf (X.on h D):=⟨w.nolimit.keeps k,w.g.keeps k,w.b.keeps k,w.gl,w.kin.keeps k⟩
theorem DefAt.on {X:Cx} {f:Addr} {fd:FuncData} {body:List Stmt} {names:List Str} (D:DefAt X f fd body names) {h:Heap} {D':PyData→Value→Prop} (k:∀ b o,X.h₀.get? b=some o→h.get? b=some o):DefAt (X.on h D') f fd body names :=
  ⟨let ⟨o,a,b⟩:=D.obj;⟨o,k _ _ a,b⟩,D.code.keeps k,D.body,D.clo,D.g,D.b,fun s vs kb hl=>D.bind s vs (fun b o e=>kb b o (k b o e)) hl,D.nodup,D.par,D.co,D.gen,D.kind⟩
section
variable {X:Cx} {k:Nat} {env:Env} {ρ:List (Str×B)} {Q:Fl→List (Str×B)→Prop}
noncomputable def EvV (X:Cx) (k:Nat) (env:Env) (ρ:List (Str×B)) (e:Expr) (v:Value):Prop :=
  ∀ (A:Around) (bad:Addr→Prop) (O:Str→Option Addr) (s:Shared),Room k A→Rel X bad O env ρ s →
    wpAny (model X.prog X.w) A (eval e env) (fun u s'=>Ext s s'∧u=v) noE s
theorem EvV.use {e:Expr} {v:Value} (h:EvV X k env ρ e v) {A:Around} {bad:Addr→Prop} {O:Str→Option Addr} {s:Shared} {P:Value→Shared→Prop} (R:Room k A) (r:Rel X bad O env ρ s)
    (hq:∀ s',Ext s s'→Rel X bad O env ρ s'→P v s'):wpAny (model X.prog X.w) A (eval e env) P noE s :=
  wpAny_mono (h A bad O s R r) (fun u s' q=>q.2 ▸ hq s' q.1 (r.ext q.1)) fun _ _ x=>x
theorem bB {x:Str} {pos:Pos} {v:Value} (h:ρ.lookup x=some (.raw v)) (hd:(x == ("__debug__":Str))=false:=by decide):EvV X k env ρ (.Name x pos) v:=fun A bad O s R r =>
  wpAny_Name (Lk.load r.ok.kind (r.raw x v h) ⟨Ext.refl s,rfl⟩) hd
theorem evv_none {n:Nat} {pos:Pos}:EvV X k env ρ (.Constant .none n pos) .none:=fun _ _ _ s _ _=>wpAny_pure (a:=Value.none) ⟨Ext.refl s,rfl⟩
theorem ev_ofV {e:Expr} {v:Value} {d:PyData} (h:EvV X k env ρ e v) (hd:X.dat d v):Ev X k env ρ e d:=fun A bad O s R r=>h.use R r fun s1 x1 r1=>⟨x1,r1.datR hd⟩
theorem ev_ofBool {e:Expr} {b:Bool} (h:EvV X k env ρ e (.bool b)):Ev X k env ρ e (.bool b):=fun A bad O s R r=>h.use R r fun s1 x1 r1=>⟨x1,.bool _⟩
noncomputable def EvVL (X:Cx) (k:Nat) (env:Env) (ρ:List (Str×B)) (pos:Pos) (es:List Expr) (vs:List Value):Prop :=
  ∀ (A:Around) (bad:Addr→Prop) (O:Str→Option Addr) (s:Shared),Room k A→Rel X bad O env ρ s →
    wpAny (model X.prog X.w) A (spliced (backTo pos (starEach es env))) (fun us s'=>Ext s s'∧us=vs) noE s
theorem evvl_nil {pos:Pos}:EvVL X k env ρ pos [] []:=fun A bad O s R r=>wpAny_items_nil ⟨Ext.refl s,rfl⟩
theorem evvl_cons {pos:Pos} {e:Expr} {es:List Expr} {v:Value} {vs:List Value} (h:EvV X k env ρ e v) (hs:EvVL X k env ρ pos es vs)
    (he:starEach (e :: es) env=(false,eval e env) :: starEach es env:=by rfl):EvVL X k env ρ pos (e :: es) (v :: vs):=fun A bad O s R r =>
  wpAny_items_cons (h.use R r fun s1 x1 r1=>wpAny_mono (hs A bad O s1 R r1) (fun us s2 q2=>⟨x1.trans q2.1,by rw [q2.2]⟩) fun _ _ x=>x) he
noncomputable def AObj (o:Obj) (m:Str→Option Value) (N:Nat):Prop:=∃ es ep,o.data=.dict es ep∧StrKeys es∧(∀ name,nsFind es name=m name)∧es.size≤N
theorem AObj.noseq {o:Obj} {m:Str→Option Value} {N:Nat} (h:AObj o m N):∀ vs n,o.data ≠ .seq vs n:=fun vs n e=>by obtain ⟨es,ep,hd,_⟩:=h;rw [hd] at e;cases e
theorem AObj.nsb {h:Heap} {a:Addr} {o:Obj} {m:Str→Option Value} {N:Nat} (q:AObj o m N) (ho:h.get? a=some o):NsB h a m N:=let ⟨es,ep,hd,hk,hm,hz⟩:=q;⟨o,es,ep,ho,hd,hk,hm,hz⟩
theorem NsB.aobj {h:Heap} {a:Addr} {m:Str→Option Value} {N:Nat} (q:NsB h a m N):∃ o,h.get? a=some o∧AObj o m N:=let ⟨o,es,ep,ho,hd,hk,hm,hz⟩:=q;⟨o,ho,es,ep,hd,hk,hm,hz⟩
theorem AObj.mono {o:Obj} {m:Str→Option Value} {N N':Nat} (q:AObj o m N) (h:N≤N'):AObj o m N':=let ⟨es,ep,hd,hk,hm,hz⟩:=q;⟨es,ep,hd,hk,hm,Nat.le_trans hz h⟩
structure SelfD (X:Cx) (ρ:List (Str×B)) (C x dx:Addr) (key:Str) (m:Str→Option Value) (N:Nat):Prop where
  obj:X.h₀.get? x=some (instObj C dx)
  dict:(∃ o,ρ.lookup key=some (.at dx o)∧AObj o m N)∨(∃ o,X.h₀.get? dx=some o∧AObj o m N)
theorem SelfD.inst {C x dx:Addr} {key:Str} {m:Str→Option Value} {N:Nat} (S:SelfD X ρ C x dx key m N) {bad:Addr→Prop} {O:Str→Option Addr} {s:Shared} (r:Rel X bad O env ρ s):Inst s.heap C x dx m N :=
  ⟨r.base _ _ S.obj,by
    rcases S.dict with ⟨o,ho,q⟩ | ⟨o,ho,q⟩
    · exact q.nsb (r.pt _ _ _ ho).2
    · exact q.nsb (r.base _ _ ho)⟩
theorem evv_attr {C x dx:Addr} {cd:ClassData} {key:Str} {m:Str→Option Value} {N:Nat} {y name:Str} {yp pos:Pos} {v:Value} (hy:ρ.lookup y=some (.raw (.ref x))) (S:SelfD X ρ C x dx key m N) (hC:ClsOk X.K C cd)
    (hn:findIn X.K (.ref C) name=some none) (hm:m name=some v) (hv:handedIn v=true:=by rfl) (hd:(y == ("__debug__":Str))=false:=by decide):EvV X k env ρ (.Attribute (.Name y yp) name pos) v:=fun A bad O s R r =>
  Attribute_name ((bB hy hd).use R r fun s1 x1 r1=>attr_get (r1.wf.kin.keeps r1.base) (S.inst r1) hC hn hm hv ⟨x1.trans (Ext.toks _ _),rfl⟩)
noncomputable def AsgV (X:Cx) (k:Nat) (env:Env) (ρ:List (Str×B)) (t:Expr) (v:Value) (P:List (Str×B)→Prop):Prop :=
  ∀ (A:Around) (bad:Addr→Prop) (O:Str→Option Addr) (s:Shared),Room k A→Rel X bad O env ρ s →
    wpAny (model X.prog X.w) A (assign t env v) (fun _ s'=>∃ O' ρ',P ρ'∧Step env O O' s s'∧Rel X bad O' env ρ' s') noE s
theorem bI {x:Str} {p:Pos} {v:Value} {P:List (Str×B)→Prop} (hx:Own env x) (h:P (aH ρ x (.raw v))):AsgV X k env ρ (.Name x p) v P:=fun A bad O s R r =>
  wpAny_assign_Name (store_raw r hx fun s' st r' _=>⟨_,_,h,st,r'⟩)
noncomputable def upd (m:Str→Option Value) (name:Str) (v:Value):Str→Option Value:=fun y=>if y=name then some v else m y
theorem bJ {C x dx:Addr} {cd:ClassData} {key:Str} {m:Str→Option Value} {N:Nat} {o:Obj} {y name:Str} {yp pos:Pos} {v:Value} {P:List (Str×B)→Prop} (hy:ρ.lookup y=some (.raw (.ref x))) (hx:X.h₀.get? x=some (instObj C dx)) (hk:ρ.lookup key=some (.at dx o)) (ha:AObj o m N) (hC:ClsOk X.K C cd)
    (hn:takerIn X.K C name=some none) (hN:N < 1000) (h:∀ o',AObj o' (upd m name v) (N+1)→P (aH ρ key (.at dx o'))) (hd:(y == ("__debug__":Str))=false:=by decide):AsgV X k env ρ (.Attribute (.Name y yp) name pos) v P:=fun A bad O s R r=>by
  rw [assign_Attribute]
  refine wpAny_bind (wpAny_holding ((bB hy hd).use R r fun s1 x1 r1=>wpAny_bind (wpAny_standAt (wpAny_bind (wpAny_holding ?_)))))
  refine attr_set (r1.wf.kin.keeps r1.base) (SelfD.inst ⟨hx,.inl ⟨o,hk,ha⟩⟩ r1) hC hn hN fun h' t I hs=>?_
  obtain ⟨o',ho',hao⟩:=I.nsb.aobj
  obtain ⟨st,r2⟩:=r1.at_change (s':={ s1 with heap:=h',toks:=t }) hk (fun b ob hb e=>(hs.2 b hb).trans e) ho' rfl rfl
  exact wpAny_releaseD ⟨_,_,h o' (hao.mono (by split <;> lia)),(Step.of_ext x1).trans st,r2⟩
theorem ex_assignV {t e:Expr} {pos:Pos} {v:Value} (he:EvV X k env ρ e v) (h1:AsgV X k env ρ t v (Q .next)) (hs:swapsWithSole [t] e pos.line env=pure false:=by rfl) (hw:swappedStores [t] e env=pure none:=by rfl) (hm:(assignEach [t] env).map (·.2)=[assign t env]:=by rfl) :
    Ex1 X k env ρ (.Assign [t] e pos) Q:=fun A bad O s R r=>by
  refine wpAny_Assign_stores (he.use R r fun s1 x1 r1=>?_) hs hw
  rw [hm]
  refine wpAny_mono (h1 A bad O s1 R r1) (fun _ s2 p2=>?_) fun _ _ x=>x
  obtain ⟨O2,ρ2,q,st2,r2⟩:=p2
  exact ⟨.next,ρ2,O2,q,rfl,(Step.of_ext x1).trans st2,r2⟩
theorem ex_assignV2 {t₁ t₂ e:Expr} {pos:Pos} {v:Value} (he:EvV X k env ρ e v) (h1:AsgV X k env ρ t₁ v fun ρ₁=>AsgV X k env ρ₁ t₂ v (Q .next)) (hm:(assignEach [t₁,t₂] env).map (·.2)=[assign t₁ env,assign t₂ env]:=by rfl)
    (hw:swappedStores [t₁,t₂] e env=pure none:=by rfl):Ex1 X k env ρ (.Assign [t₁,t₂] e pos) Q:=fun A bad O s R r =>
  wpAny_Assign_two (he.use R r fun s1 x1 r1=>wpAny_mono (h1 A bad O s1 R r1) (fun _ s2 p2=>by
    obtain ⟨O2,ρ2,q2,st2,r2⟩:=p2
    refine wpAny_mono (q2 A bad O2 s2 R r2) (fun _ s3 p3=>?_) fun _ _ x=>x
    obtain ⟨O3,ρ3,q3,st3,r3⟩:=p3
    exact ⟨.next,_,_,q3,rfl,(Step.of_ext x1).trans (st2.trans st3),r3⟩) fun _ _ x=>x) hm hw
theorem new_low {bad:Addr→Prop} {O:Str→Option Addr} {s:Shared} (r:Rel X bad O env ρ s) {l:Addr} (h:s.heap.objs.size≤l):(l == sysModules)=false:=by
  have:=(r.wf.g.keeps r.base).lt
  have h1:mainGlobals=3:=by first | rfl | decide
  have h2:sysModules=1:=rfl
  rw [beq_eq_false_iff_ne]
  intro e
  rw [h1] at this
  have h':s.heap.objs.size≤l:=h
  have h3:(3:Nat) < s.heap.objs.size:=this
  have h4:l=1:=e.trans h2
  have h5:s.heap.objs.size≤1:=h4 ▸ h'
  exact lq1 0xf119f18000381f rfl this h5
noncomputable def EvN (X:Cx) (k:Nat) (env:Env) (ρ:List (Str×B)) (e:Expr) (Po:Obj→Prop):Prop :=
  ∀ (A:Around) (bad:Addr→Prop) (O:Str→Option Addr) (s:Shared),Room k A→Rel X bad O env ρ s →
    wpAny (model X.prog X.w) A (eval e env) (fun u s'=>Ext s s'∧∃ l o,u=.ref l∧s.heap.get? l=none∧s'.heap.get? l=some o∧(l == sysModules)=false∧Po o) noE s
theorem evn_dict {pos:Pos}:EvN X k env ρ (.Dict [] [] pos) (fun o=>o={ cls:=.type "dict",data:=.dict #[] }):=fun A bad O s R r =>
  wpAny_Dict_empty ⟨Ext.push _ _,_,_,rfl,get_size _,Heap.get?_push_size _ rfl,new_low r (Nat.le_refl _),rfl⟩
theorem evn_list {pos:Pos}:EvN X k env ρ (.List [] pos) (fun o=>o={ cls:=.type "list",data:=.seq #[] }):=fun A bad O s R r =>
  wpAny_List (wpAny_items_nil ⟨by simp,Ext.push _ _,_,_,rfl,get_size _,Heap.get?_push_size _ rfl,new_low r (Nat.le_refl _),rfl⟩)
theorem ex_assignN {t e:Expr} {pos:Pos} {Po:Obj→Prop} (key:Str) (he:EvN X k env ρ e Po) (h1:∀ l o,(l == sysModules)=false→Po o→AsgV X k env (aH ρ key (.at l o)) t (.ref l) (Q .next)) (hs:swapsWithSole [t] e pos.line env=pure false:=by rfl) (hw:swappedStores [t] e env=pure none:=by rfl) (hm:(assignEach [t] env).map (·.2)=[assign t env]:=by rfl) :
    Ex1 X k env ρ (.Assign [t] e pos) Q:=fun A bad O s R r=>by
  refine wpAny_Assign_stores (wpAny_mono (he A bad O s R r) (fun u s1 h=>?_) fun _ _ x=>x) hs hw
  obtain ⟨x1,l,o,rfl,hl,ho,hw',hP⟩:=h
  obtain ⟨st1,r1⟩:=r.at_new key x1 hl ho
  rw [hm]
  refine wpAny_mono (h1 l o hw' hP A bad _ s1 R r1) (fun _ s2 p2=>?_) fun _ _ x=>x
  obtain ⟨O2,ρ2,q,st2,r2⟩:=p2
  exact ⟨.next,ρ2,O2,q,rfl,st1.trans st2,r2⟩
theorem ex_assignN2 {t₁ t₂ e:Expr} {pos:Pos} {Po:Obj→Prop} (key:Str) (he:EvN X k env ρ e Po) (h1:∀ l o,(l == sysModules)=false→Po o→AsgV X k env (aH ρ key (.at l o)) t₁ (.ref l) fun ρ₁=>AsgV X k env ρ₁ t₂ (.ref l) (Q .next)) (hm:(assignEach [t₁,t₂] env).map (·.2)=[assign t₁ env,assign t₂ env]:=by rfl)
    (hw:swappedStores [t₁,t₂] e env=pure none:=by rfl):Ex1 X k env ρ (.Assign [t₁,t₂] e pos) Q:=fun A bad O s R r =>
  wpAny_Assign_two (wpAny_mono (he A bad O s R r) (fun u s1 h=>by
    obtain ⟨x1,l,o,rfl,hl,ho,hw',hP⟩:=h
    obtain ⟨st1,r1⟩:=r.at_new key x1 hl ho
    refine wpAny_mono (h1 l o hw' hP A bad _ s1 R r1) (fun _ s2 p2=>?_) fun _ _ x=>x
    obtain ⟨O2,ρ2,q2,st2,r2⟩:=p2
    refine wpAny_mono (q2 A bad O2 s2 R r2) (fun _ s3 p3=>?_) fun _ _ x=>x
    obtain ⟨O3,ρ3,q3,st3,r3⟩:=p3
    exact ⟨.next,_,_,q3,rfl,st1.trans (st2.trans st3),r3⟩) fun _ _ x=>x) hm hw
theorem tst_isNotNone {l r:Expr} {pos:Pos} {v:Value} (hl:EvV X k env ρ l v) (hr:EvV X k env ρ r .none) (hm:behindInMarks .IsNot r=false:=by with_unfolding_all rfl):Tst X k env ρ (.Compare l [.IsNot] [r] pos) (!(v == .none)):=fun A bad O s R q =>
  wpAny_isTrue_Compare1 (hl.use R q fun s1 x1 r1=>hr.use R r1 fun s2 x2 r2=>isnot_none_gen (wpAny_truthy_bool ⟨x1.trans x2,rfl⟩)) hm
theorem tst_isNoneI {l r:Expr} {pos:Pos} {a:Int} (hl:Ev X k env ρ l (.int a)) (hr:EvV X k env ρ r .none) (hm:behindInMarks .Is r=false:=by with_unfolding_all rfl):Tst X k env ρ (.Compare l [.Is] [r] pos) false:=fun A bad O s R q =>
  wpAny_isTrue_Compare1 (hl.use R q fun v s1 x1 r1 q1=>hr.use R r1 fun s2 x2 r2=>by cases q1;exact is_int_none (wpAny_truthy_bool ⟨x1.trans x2,rfl⟩)) hm
theorem tst_none {e:Expr} (h:EvV X k env ρ e .none) (he:∀ whole,isTrue e env whole=(do let v ← whole;standAt e.pos;holding [v] (truthy v)):=by intro _;rfl):Tst X k env ρ e false:=fun A bad O s R r =>
  isTrue_plain (h.use R r fun s1 x1 r1=>wpAny_pure ⟨x1,rfl⟩) (he _)
theorem ex_doc {c:Str} {n:Nat} {p pos:Pos} (hq:Q .next ρ) (hi:interactive env=false:=by rfl) (hs:swapsWith (.Constant (.str c) n p) none pos.line env=pure false:=by rfl):Ex1 X k env ρ (.Expr (.Constant (.str c) n p) pos) Q:=fun A bad O s R r =>
  wpAny_Expr (ev_str.use R r fun v s1 x1 r1 q1=>by cases q1;exact ⟨.next,ρ,O,hq,rfl,Step.of_ext x1,r1⟩) hi hs
theorem mcall_use {C x dx f:Addr} {cd:ClassData} {key:Str} {m:Str→Option Value} {N:Nat} {y name:Str} {yp apos pos:Pos} {pl:Sem Bool} {e:Expr} {es:List Expr} {o:Obj} {fd:FuncData} {A:Around} {bad:Addr→Prop} {O:Str→Option Addr} {s:Shared} {P:Value→Shared→Prop} {Pa:List Value→Shared→Prop}
    (R:Room k A) (r:Rel X bad O env ρ s) (hy:ρ.lookup y=some (.raw (.ref x))) (S:SelfD X ρ C x dx key m N) (hC:ClsOk X.K C cd) (hf:findIn X.K (.ref C) name=some (some (.ref f))) (ht:typeIn X.K (.ref f)=some (.type "function")) (hm:m name=none)
    (ho:X.h₀.get? f=some o) (hdat:o.data=.func fd)
    (ha:wpAny (model X.prog X.w) A (spliced (backTo pos (starEach (e :: es) env))) (fun vs s'=>Ext s s'∧Pa vs s') noE s)
    (h:∀ vs s',Ext s s'→Rel X bad O env ρ s'→Pa vs s'→wpAny (model X.prog X.w) A (call (.ref f) (.ref x :: vs)) P noE s')
    (he:eval (.Call (.Attribute (.Name y yp) name apos) (e :: es) [] pos) env=(do
      let ov ← eval (.Name y yp) env
      standAt apos.atName
      let (f,first) ← holding [ov] (getMethod ov name pl)
      callWith pos f first (backTo pos (starEach (e :: es) env)) []):=by rfl)
    (hst:starEach (e :: es) env=(false,eval e env) :: starEach es env:=by rfl)
    (hd:(y == ("__debug__":Str))=false:=by decide):wpAny (model X.prog X.w) A (eval (.Call (.Attribute (.Name y yp) name apos) (e :: es) [] pos) env) P noE s:=by
  refine MethodCall_ (wpAny_Name (Lk.load r.ok.kind (r.raw y _ hy) ?_) hd) he
  refine attr_method (r.wf.kin.keeps r.base) (S.inst r) hC hf ht hm ?_
  refine Calls.callWith_function (o:=o) (fd:=fd) ?_
  rw [hst] at ha ⊢
  refine Calls.evalArgs_plain (wpAny_mono ha (fun vs s1 q=>?_) fun _ _ x=>x)
  have r1:=r.ext q.1
  exact ⟨⟨r1.base _ _ ho,hdat⟩,h vs s1 q.1 r1 q.2⟩
theorem mcall_use0 {C x dx f:Addr} {cd:ClassData} {key:Str} {m:Str→Option Value} {N:Nat} {y name:Str} {yp apos pos:Pos} {pl:Sem Bool} {o:Obj} {fd:FuncData} {A:Around} {bad:Addr→Prop} {O:Str→Option Addr} {s:Shared} {P:Value→Shared→Prop}
    (R:Room k A) (r:Rel X bad O env ρ s) (hy:ρ.lookup y=some (.raw (.ref x))) (S:SelfD X ρ C x dx key m N) (hC:ClsOk X.K C cd) (hf:findIn X.K (.ref C) name=some (some (.ref f))) (ht:typeIn X.K (.ref f)=some (.type "function")) (hm:m name=none)
    (ho:X.h₀.get? f=some o) (hdat:o.data=.func fd)
    (h:wpAny (model X.prog X.w) A (call (.ref f) [.ref x]) P noE s)
    (he:eval (.Call (.Attribute (.Name y yp) name apos) [] [] pos) env=(do
      let ov ← eval (.Name y yp) env
      standAt apos.atName
      let (f,first) ← holding [ov] (getMethod ov name pl)
      callWith pos f first (backTo pos (starEach [] env)) []):=by rfl)
    (hd:(y == ("__debug__":Str))=false:=by decide):wpAny (model X.prog X.w) A (eval (.Call (.Attribute (.Name y yp) name apos) [] [] pos) env) P noE s:=by
  refine MethodCall_ (wpAny_Name (Lk.load r.ok.kind (r.raw y _ hy) ?_) hd) he
  refine attr_method (r.wf.kin.keeps r.base) (S.inst r) hC hf ht hm ?_
  refine Calls.callWith_function (o:=o) (fd:=fd) ?_
  exact wpAny_pure (a:=(⟨[],[]⟩:Args)) ⟨⟨r.base _ _ ho,hdat⟩,h⟩
end
structure KeepBut (a:Addr) (s s':Shared):Prop where
  keep:∀ b o,b ≠ a→s.heap.get? b=some o→s'.heap.get? b=some o
  gens:s'.gens=s.gens
  os:s'.os=s.os
noncomputable def RetIs (bad:Addr→Prop) (h:Heap):Fl→Value→Prop
  | .ret d,v=>Rep bad h d v
  | _,v=>v=.none
theorem hide_on {X:Cx} {s:Shared} (a:At X s) {dx:Addr} (hX:X.h₀.get? dx=none):∀ b o,X.h₀.get? b=some o→(s.heap.hide dx).get? b=some o:=fun b o e=>by
  rw [Heap.hide_ne _ (fun q=>by rw [q,hX] at e;cases e)];exact a.base b o e
theorem method_frame {X:Cx} {k:Nat} {f:Addr} {fd:FuncData} {body:List Stmt} {names:List Str} (D:DefAt X f fd body names) {A:Around} {bad:Addr→Prop} {s:Shared} {dx:Addr} {o:Obj} {vs:List Value} {bs:List B} {Dt:PyData→Value→Prop} {P:Fl→List (Str×B)→Prop}
    (R:Room (k+1) A) (a:At X s) (ho:s.heap.get? dx=some o) (hns:∀ vs n,o.data ≠ .seq vs n) (hX:X.h₀.get? dx=none) (hb:¬ bad dx) (low:∀ a,bad a→∃ o,s.heap.get? a=some o) (hdat:∀ d v,Dt d v→Rep bad (s.heap.hide dx) d v) (q:BindsOk bad s.heap bs vs) (hl:vs.length=names.length)
    (h:∀ L,Exs (X.on (s.heap.hide dx) Dt) k (callEnvC fd L f) (aH (names.zip bs) "#d" (.at dx o)) body fun fl ρ'=>P fl ρ'∧(∃ o',aI ρ' "#d" (.at dx o'))∧(fl=.next∨∃ d,fl=.ret d)) :
    codeAny (model X.prog X.w) A (.call (.ref f) ⟨vs,[]⟩) (fun r s'=>∃ v fl ρ' O' L,r=.ok (.ret v)∧P fl ρ'∧RetIs bad s'.heap fl v∧KeepBut dx s s'∧Rel (X.on (s.heap.hide dx) Dt) bad O' (callEnvC fd L f) ρ' s') s:=by
  have ho':=hide_on a hX
  have aX:At (X.on (s.heap.hide dx) Dt) s:=⟨a.wf.on ho',fun b o e=>Heap.of_hide e,a.gens,a.os⟩
  refine call_body (X:=X.on (s.heap.hide dx) Dt) (D.on ho') (bad:=bad) R aX low hdat q hl fun L A' s₁ R' r keep hpl hg hos=>?_
  have r1:=r.at_take (x:="#d") (a:=dx) (o:=o) (keep _ _ ho) hns (Heap.hide_self _ _) (hpl _ _ ho) (fun h=>hb (badO_nO h))
  refine wpAny_mono (h L A' bad _ s₁ R' r1) (fun fl s' p=>?_) fun _ _ x=>x
  obtain ⟨f',ρ',O',⟨hP,⟨o',ho''⟩,hfl⟩,hfi,st,r'⟩:=p
  have kb:KeepBut dx s s':=⟨fun b o hb e=>r'.base b o (by show (s.heap.hide dx).get? b=_;rw [Heap.hide_ne _ hb];exact e),r'.gens.trans a.gens.symm,r'.os.trans a.os.symm⟩
  rcases hfl with rfl | ⟨d,rfl⟩
  · cases hfi;exact ⟨.none,.next,ρ',O',L,rfl,hP,rfl,kb,r'⟩
  · obtain ⟨v,rfl,rv⟩:=hfi;exact ⟨v,.ret d,ρ',O',L,rfl,hP,rv,kb,r'⟩
theorem still_frame {X:Cx} {k:Nat} {f:Addr} {fd:FuncData} {body:List Stmt} {names:List Str} (D:DefAt X f fd body names) {A:Around} {bad:Addr→Prop} {s:Shared} {vs:List Value} {bs:List B} {Dt:PyData→Value→Prop} {P:Fl→List (Str×B)→Prop}
    (R:Room (k+1) A) (a:At X s) (low:∀ a,bad a→∃ o,s.heap.get? a=some o) (hdat:∀ d v,Dt d v→Rep bad s.heap d v) (q:BindsOk bad s.heap bs vs) (hl:vs.length=names.length)
    (h:∀ L,Exs (X.on s.heap Dt) k (callEnvC fd L f) (names.zip bs) body fun fl ρ'=>P fl ρ'∧(fl=.next∨∃ d,fl=.ret d)) :
    codeAny (model X.prog X.w) A (.call (.ref f) ⟨vs,[]⟩) (fun r s'=>∃ v fl ρ' O' L,r=.ok (.ret v)∧P fl ρ'∧RetIs bad s'.heap fl v∧Ext s s'∧Rel (X.on s.heap Dt) bad O' (callEnvC fd L f) ρ' s') s:=by
  have aX:At (X.on s.heap Dt) s:=⟨a.wf.on a.base,fun b o e=>e,a.gens,a.os⟩
  refine call_body (X:=X.on s.heap Dt) (D.on a.base) (bad:=bad) R aX low hdat q hl fun L A' s₁ R' r keep hpl hg hos=>?_
  refine wpAny_mono (h L A' bad _ s₁ R' r) (fun fl s' p=>?_) fun _ _ x=>x
  obtain ⟨f',ρ',O',⟨hP,hfl⟩,hfi,st,r'⟩:=p
  have kb:Ext s s':=⟨fun b o e=>r'.base b o e,r'.gens.trans a.gens.symm,r'.os.trans a.os.symm⟩
  rcases hfl with rfl | ⟨d,rfl⟩
  · cases hfi;exact ⟨.none,.next,ρ',O',L,rfl,hP,rfl,kb,r'⟩
  · obtain ⟨v,rfl,rv⟩:=hfi;exact ⟨v,.ret d,ρ',O',L,rfl,hP,rv,kb,r'⟩
noncomputable abbrev pw:Program:=PySem.Challenge.pw_mt0008_02
noncomputable def topBody:List Stmt:=pw.main.body
noncomputable abbrev toldIx:Nat:=10
noncomputable def aD (l:List Stmt) (i:Nat):Stmt:=l.getD i (.Pass ⟨0,0,0,0⟩)
noncomputable def aK:Stmt→List Stmt
  | .ClassDef _ _ _ b _ _ _ _ _ _ _=>b
  | _=>[]
noncomputable def bN:Stmt→Arguments
  | .FunctionDef _ a _ _ _ _ _ _ _ _=>a
  | _=>default
noncomputable def aF:Stmt→List Stmt
  | .FunctionDef _ _ b _ _ _ _ _ _ _=>b
  | _=>[]
noncomputable def bD:Stmt→Scope
  | .FunctionDef _ _ _ _ _ _ sc _ _ _=>sc
  | _=>default
noncomputable def defPos:Stmt→Pos
  | .FunctionDef _ _ _ _ _ _ _ _ _ p=>p
  | _=>default
noncomputable def forBody:Stmt→List Stmt
  | .For _ _ b _ _=>b
  | _=>[]
noncomputable def whileBody:Stmt→List Stmt
  | .While _ b _ _=>b
  | _=>[]
noncomputable def ifBody:Stmt→List Stmt
  | .If _ b _ _=>b
  | _=>[]
noncomputable def ifElse:Stmt→List Stmt
  | .If _ _ e _=>e
  | _=>[]
noncomputable def docV (b:List Stmt) (t:Tok):Value:=match docOf b with
  | some x=>.str x t
  | none=>.none

noncomputable abbrev Blk:=Nat×Nat×Nat
inductive Good (la lb:Nat):Bool→Nat→Nat→List Blk→Prop
  | nil {b:Bool} {i j:Nat}:i≤la→j≤lb→Good la lb b i j []
  | cons {b:Bool} {i j ai bj n:Nat} {r:List Blk}:i≤ai→j≤bj→0 < n→(b=false→¬ (i=ai∧j=bj))→Good la lb false (ai+n) (bj+n) r→Good la lb b i j ((ai,bj,n) :: r)
theorem Good.inv {la lb:Nat} {b:Bool} {i j ai bj n:Nat} {r:List Blk} (g:Good la lb b i j ((ai,bj,n) :: r)):i≤ai∧j≤bj∧0 < n∧(b=false→¬ (i=ai∧j=bj))∧Good la lb false (ai+n) (bj+n) r:=by
  cases g with | cons h1 h2 h3 h4 h5=>exact ⟨h1,h2,h3,h4,h5⟩
theorem Good.le {la lb:Nat} {b:Bool} {i j:Nat} {r:List Blk} (g:Good la lb b i j r):i≤la∧j≤lb:=by
  induction g with
  | nil h1 h2=>exact ⟨h1,h2⟩
  | cons h1 h2 h3 h4 h5 ih=>exact lq7 0xf10101f1011f6205007f643a0541a0320100f rfl h1 h2 ih.1 ih.2
theorem Good.any {la lb:Nat} {b:Bool} {i j:Nat} {r:List Blk} (g:Good la lb b i j r):Good la lb true i j r:=by
  cases g with
  | nil h1 h2=>exact .nil h1 h2
  | cons h1 h2 h3 h4 h5=>exact .cons h1 h2 h3 (fun e=>by cases e) h5
noncomputable def code (t:Str) (i1 i2 j1 j2:Nat):PyData:=.tuple [.str t,.int i1,.int i2,.int j1,.int j2]
noncomputable def gap (i ai j bj:Nat):List PyData:=if i=ai∧j=bj then [] else [code (if ai=i then "insert" else if j=bj then "delete" else "replace") i ai j bj]
noncomputable def opc (la lb:Nat):Nat→Nat→List Blk→List PyData
  | i,j,[]=>gap i la j lb
  | i,j,(ai,bj,n) :: r=>gap i ai j bj++code "equal" ai (ai+n) bj (bj+n) :: opc la lb (ai+n) (bj+n) r
noncomputable def bA (ed:List Int):Nat→List Blk→Prop
  | j,[]=>∀ t,j≤t→t < ed.length→∃ v:Int,ed[t]?=some v∧v < 0
  | j,(ai,bj,n) :: r=>(∀ t,j≤t→t < bj→∃ v:Int,ed[t]?=some v∧v < 0)∧(∀ d,d < n→ed[bj+d]?=some ((ai+d:Nat):Int))∧bA ed (bj+n) r
theorem put_put (x:Str) (a b:B):∀ ρ:List (Str×B),aH (aH ρ x a) x b=aH ρ x b
  | []=>by simp [aH]
  | (y,c) :: r=>by
    by_cases h:x=y
    · have e1:∀ z,aH ((y,c) :: r) x z=(y,z) :: r:=fun z=>by unfold aH;rw [if_pos h]
      rw [e1,e1];unfold aH;rw [if_pos h]
    · have e1:∀ q z,aH ((y,c) :: q) x z=(y,c) :: aH q x z:=fun q z=>by rw [aH,if_neg h]
      rw [e1,e1,e1,put_put x a b r]
noncomputable abbrev Mt:=Nat→Nat→Bool
noncomputable def Run (m:Mt) (x y n:Nat):Prop:=∀ t,t < n→m (x+t) (y+t)=true
noncomputable def InW (alo ahi blo bhi x y n:Nat):Prop:=alo≤x∧x+n≤ahi∧blo≤y∧y+n≤bhi
structure Best (m:Mt) (alo ahi blo bhi i j k:Nat):Prop where
  win:InW alo ahi blo bhi i j k
  run:Run m i j k
  zero:k=0→i=alo∧j=blo
  best:∀ x y n,0 < n→InW alo ahi blo bhi x y n→Run m x y n→n < k∨(n=k∧(i < x∨(i=x∧j≤y)))
theorem Best.unique {m:Mt} {alo ahi blo bhi i j k i' j' k':Nat} (h:Best m alo ahi blo bhi i j k) (h':Best m alo ahi blo bhi i' j' k'):i=i'∧j=j'∧k=k':=by
  rcases Nat.eq_zero_or_pos k with hk | hk
  · rcases Nat.eq_zero_or_pos k' with hk' | hk'
    · obtain ⟨a,b⟩:=h.zero hk;obtain ⟨c,d⟩:=h'.zero hk';exact lq8 0xf801f81f8010001f1080001f801001f108001f102074276227f507236254232208120802f rfl hk hk' a b c d
    · have:=h.best i' j' k' hk' h'.win h'.run;exact lq6 0xf1008f108f11ff181f180008f18008f1801ff1100f18008f1801ff1010f18008f1801ff1080f110f1801ff10254273227f540322732180127011810810802f rfl hk hk' this
  · rcases Nat.eq_zero_or_pos k' with hk' | hk'
    · have:=h'.best i j k hk h.win h.run;exact lq6 0xf811f1008f108f11ff1100f81008f8101ff810008f81008f8101ff1080f110f8101ff1010f81008f8101ff10245272327f540322732181027101808120081f rfl hk hk' this
    · have a:=h.best i' j' k' hk' h'.win h'.run
      have b:=h'.best i j k hk h.win h.run
      exact lq6 0xf1008f108f11ff1001f101f1008f108f11fff1000100f8010f81ff10080f1010f81ff1008f108f11fff1100f10080f1010f81ff1008f108f11fff1010f10080f1010f81ff1008f1010f11fff1080f110f1008f108f11fff01254273227f45023272318012701185403227321810271018f rfl a b
noncomputable def rl (m:Mt) (alo blo:Nat):Nat→Nat→Nat
  | 0,j=>if m 0 j then 1 else 0
  | i+1,j=>if m (i+1) j then (if alo≤i∧blo < j then rl m alo blo i (j - 1) else 0)+1 else 0
theorem rl_no {m:Mt} {alo blo i j:Nat} (h:m i j=false):rl m alo blo i j=0:=by cases i <;> simp [rl,h]
theorem rl_pos {m:Mt} {alo blo i j:Nat} (h:m i j=true):0 < rl m alo blo i j:=by cases i <;> simp [rl,h]
theorem rl_le {m:Mt} {alo blo:Nat}:∀ {i j:Nat},alo≤i→blo≤j→alo+rl m alo blo i j≤i+1∧blo+rl m alo blo i j≤j+1
  | 0,j,h1,h2=>by unfold rl;split <;> lia
  | i+1,j,h1,h2=>by
    unfold rl
    split
    · split
      · rename_i h
        have:=rl_le (m:=m) (alo:=alo) (blo:=blo) (i:=i) (j:=j - 1) h.1 (by exact aQ 0xf1101200f101f1811 rfl h.2)
        exact lq5 0xf10018f101108ff101f181a183a0a018184aa183a2a07f185a30a0184a32a0101f1810 rfl h.2 this.1 this.2
      · exact lq4 0xf101f11f183a1808a2a018181aa1808a0a07f320181a00f rfl h1 h2
    · exact lq4 0xf101f11f183a082a018181aa080a07f320181a00f rfl h1 h2
theorem rl_run {m:Mt} {alo blo:Nat}:∀ {i j t:Nat},alo≤i→blo≤j→t < rl m alo blo i j→m (i - t) (j - t)=true
  | 0,j,t,h1,h2,h=>by
    unfold rl at h
    split at h
    · rename_i hm
      have:t=0:=by exact lq1 0xf1f11f0802f1801f rfl h
      subst this;exact hm
    · exact (lq1 0xf19f0801f rfl h).elim
  | i+1,j,t,h1,h2,h=>by
    unfold rl at h
    split at h
    · rename_i hm
      cases t with
      | zero=>exact hm
      | succ t =>
        split at h
        · rename_i hb
          have:=rl_run (m:=m) (alo:=alo) (blo:=blo) (i:=i) (j:=j - 1) (t:=t) hb.1 (by exact aQ 0xf1101200f101f1811 rfl hb.2) (by exact aQ 0xf11101f181a180a1f rfl h)
          have e1:i+1 - (t+1)=i - t:=by exact aQ 0xf118f1008ff1108f10008fff181f1810ff108ff322ff100181a180a0 rfl
          have e2:j - (t+1)=j - 1 - t:=by exact aQ 0xf1188f10008ff10088f100008fff11088f100008ff100088f1000008ffff1811f18110ff1810ff108ff422ff1301800181a00 rfl
          rw [e1,e2];exact this
        · exact (lq1 0xf19f1808a180a1f rfl h).elim
    · exact (lq1 0xf19f0801f rfl h).elim
theorem rl_max {m:Mt} {alo blo:Nat}:∀ {i j x y n:Nat},alo≤x→blo≤y→Run m x y n→0 < n→x+n=i+1→y+n=j+1→n≤rl m alo blo i j
  | 0,j,x,y,n,h1,h2,hr,hn,e1,e2=>by
    have:n=1:=by exact aQ 0xf11f801f1802f1808a01a20081f rfl hn e1
    subst this
    have:=hr 0 (by exact lqx [] [] 0xf118081ff rfl)
    have hx:x=0:=by exact lq1 0xf1f81f0802f1808a180a2f rfl e1
    have hy:y=j:=by exact aQ 0xf11f81f102f181a180a2f rfl e2
    subst hx hy
    have:=rl_pos (alo:=alo) (blo:=blo) this
    simp only [Nat.add_zero] at this
    exact lq1 0xf110180f0081f rfl this
  | i+1,j,x,y,n,h1,h2,hr,hn,e1,e2=>by
    have hm:m (i+1) j=true:=by
      have:=hr (n - 1) (by exact lq1 0xf18f1108f011f0081f1800 rfl hn)
      rwa [show x+(n - 1)=i+1 by exact aZ 0xf1011f10110ff8018f81108ff182a31a2f18182aa01a20081f1800 rfl hn e1,show y+(n - 1)=j by exact aZ 0xf1011f10110ff8018f81108ff231a2f182a01a20081f1800 rfl hn e2] at this
    unfold rl
    rw [if_pos hm]
    rcases Nat.lt_or_ge 1 n with hn1 | hn1
    · rw [if_pos (by exact lq7 0xf180101f108011f6215007f4181186a43a218185aa41a2320100f rfl h1 h2 e1 e2 hn1)]
      have:=rl_max (m:=m) (alo:=alo) (blo:=blo) (i:=i) (j:=j - 1) (x:=x) (y:=y) (n:=n - 1) h1 h2 (fun t ht=>hr t (by exact aQ 0xf1011101f201f1811 rfl ht)) (by exact lq1 0xf11011081f0181f1801 rfl hn1) (by exact aZ 0xf111f10010ff818f18108ff182a30a2f118118182aa10a2f1810 rfl e1 hn1) (by exact aZ 0xf1118f101108ff10010ff8181f81810ff10010ff184a30a2f1181182a10a2f18201810 rfl e2 hn1)
      exact aQ 0xf1101181a00f120f1801 rfl this
    · exact aQ 0xf11181a00f1800f rfl hn1
structure FInv (m:Mt) (alo ahi blo bhi:Nat) (P:Nat→Nat→Prop) (bi bj bk:Nat):Prop where
  win:InW alo ahi blo bhi bi bj bk
  run:Run m bi bj bk
  zero:bk=0→bi=alo∧bj=blo
  done:0 < bk→P (bi+bk - 1) (bj+bk - 1)
  best:∀ x y n,0 < n→alo≤x→blo≤y→Run m x y n→P (x+n - 1) (y+n - 1)→n < bk∨(n=bk∧(bi < x∨(bi=x∧bj≤y)))
theorem FInv.start {m:Mt} {alo ahi blo bhi:Nat} (h1:alo≤ahi) (h2:blo≤bhi):FInv m alo ahi blo bhi (fun _ _=>False) alo blo 0 :=
  ⟨⟨Nat.le_refl _,h1,Nat.le_refl _,h2⟩,fun t h=>absurd h (Nat.not_lt_zero _),fun _=>⟨rfl,rfl⟩,fun h=>absurd h (Nat.lt_irrefl _),fun _ _ _ _ _ _ _ h=>h.elim⟩
theorem FInv.skip {m:Mt} {alo ahi blo bhi:Nat} {P P':Nat→Nat→Prop} {bi bj bk:Nat} (h:FInv m alo ahi blo bhi P bi bj bk) (h1:∀ x y,P x y→P' x y) (h2:∀ x y,P' x y→P x y∨m x y=false):FInv m alo ahi blo bhi P' bi bj bk :=
  ⟨h.win,h.run,h.zero,fun hk=>h1 _ _ (h.done hk),fun x y n hn hx hy hr hp=>by
    rcases h2 _ _ hp with hp | hm
    · exact h.best x y n hn hx hy hr hp
    · have:=hr (n - 1) (by exact lq1 0xf18f1108f011f0081f1800 rfl hn)
      rw [show x+(n - 1)=x+n - 1 by exact aQ 0xf118f1008ff1108f10008fff181f1810ff11081f110810fff321a2f0081f1801a01800 rfl hn,show y+(n - 1)=y+n - 1 by exact aQ 0xf118f1008ff1108f10008fff181f1810ff11081f110810fff321a2f0081f1801a01800 rfl hn,hm] at this
      cases this⟩
theorem FInv.step {m:Mt} {alo ahi blo bhi:Nat} {P:Nat→Nat→Prop} {bi bj bk i j:Nat} (h:FInv m alo ahi blo bhi P bi bj bk) (hi:alo≤i) (hi':i < ahi) (hj:blo≤j) (hj':j < bhi) (hP:∀ x y,P x y→x < i∨(x=i∧y < j)) :
    if bk < rl m alo blo i j then FInv m alo ahi blo bhi (fun x y=>P x y∨(x=i∧y=j)) (i+1 - rl m alo blo i j) (j+1 - rl m alo blo i j) (rl m alo blo i j) else FInv m alo ahi blo bhi (fun x y=>P x y∨(x=i∧y=j)) bi bj bk:=by
  have hle:=rl_le (m:=m) hi hj
  split
  · rename_i hk
    refine ⟨⟨by exact aZ 0xf1101300f182a10a0f1182a1 rfl hle.1,by exact lq4 0xf118f11108f134a0f180a32a0101f3180a0 rfl hi' hle.1,by exact aZ 0xf1101300f182a10a0f1182a1 rfl hle.2,by exact lq4 0xf118f11108f134a0f180a32a0101f3180a0 rfl hj' hle.2⟩,fun t ht=>?_,fun e=>by exact lq6 0xf81000050723627f0812101f1184a11182a1 rfl hk e,fun _=>.inr ⟨by exact aZ 0xf111f1110ff1101f11010fff188f1008ff11088f10008fff242f182a10a0f1813a01182a0 rfl hle.1,by exact aZ 0xf111f1110ff1101f11010fff188f1008ff11088f10008fff242f182a10a0f1813a01182a0 rfl hle.2⟩,fun x y n hn hx hy hr hp=>?_⟩
    · have:=rl_run (m:=m) (t:=rl m alo blo i j - 1 - t) hi hj (by exact aZ 0xf118f101108f141f101f2311810 rfl hk)
      rwa [show i - (rl m alo blo i j - 1 - t)=i+1 - rl m alo blo i j+t by exact lq4 0xf18818f1188108ff188108f11881008fff10100818f111008108ff101008108f1110081008ffff10108818f101100008ff101088108f1011000008fff101000818f1011000008ff1010008108f10110000008fffff11181f111810ff10008ff111081f1110810ff100008fff110081f1100810ff100008ff1100081f11000810ff1000008ffff307a62f131182a10a0f1182a05203401810 rfl hle.1 ht,show j - (rl m alo blo i j - 1 - t)=j+1 - rl m alo blo i j+t by exact lq4 0xf18818f1188108ff188108f11881008fff10100818f111008108ff101008108f1110081008ffff10108818f101100008ff101088108f1011000008fff101000818f1011000008ff1010008108f10110000008fffff11181f111810ff10008ff111081f1110810ff100008fff110081f1100810ff100008ff1100081f11000810ff1000008ffff307a62f131182a10a0f1182a05203401810 rfl hle.2 ht] at this
    · rcases hp with hp | ⟨e1,e2⟩
      · have:=h.best x y n hn hx hy hr hp;exact lqx [_,_,_,_,_,_,_,_,_] [] 0xf10000100008f1000010008f100001001ff11f10000100008f1000010008f100001001ff11f1000001008f100000108f10000011ff6370427274271812271218f6504327431802270218101f11817a111807a1 rfl hk this
      · have:=rl_max (m:=m) (i:=i) (j:=j) hx hy hr hn (by exact aZ 0xf1018f11108ff8011f110ff182a01a2f2320081f1801a0 rfl hn e1) (by exact aZ 0xf1018f11108ff8011f110ff182a01a2f2320081f1801a0 rfl hn e2)
        rcases Nat.lt_or_ge n (rl m alo blo i j) with h' | h'
        · exact .inl h'
        · refine .inr ⟨by exact aQ 0xf101f11f102f010100f rfl this h',.inr ⟨by exact lq4 0xf1080111f11010ff10801101f110010fff110188f1111808ff108ff142f0303002520081f1801a03182a0 rfl hn e1 this h',by exact lq5 0xf110188f111808ff108f250f130462101f1832a01184a0 rfl hk e2 this⟩⟩
  · rename_i hk
    refine ⟨h.win,h.run,h.zero,fun hk=>.inl (h.done hk),fun x y n hn hx hy hr hp=>?_⟩
    rcases hp with hp | ⟨e1,e2⟩
    · exact h.best x y n hn hx hy hr hp
    · have:=rl_max (m:=m) (i:=i) (j:=j) hx hy hr hn (by exact aZ 0xf1018f11108ff8011f110ff182a01a2f2320081f1801a0 rfl hn e1) (by exact aZ 0xf1018f11108ff8011f110ff182a01a2f2320081f1801a0 rfl hn e2)
      rcases Nat.lt_or_ge n bk with h' | h'
      · exact .inl h'
      · have hd:=hP _ _ (h.done (by exact aZ 0xf11110081f12020811016f rfl hk hn this))
        refine .inr ⟨by exact aZ 0xf1001f111f022f2001201016f rfl hk this h',?_⟩
        exact lqx [_,_,_,_,_,_,_,_,_] [] 0xf1100110000101010f101010010001081ff11001100001010010f10000000000081fff11f1010100100001808f101010010000181ff10111001000010808f10000000000081fff51703072730718f657144727447181206372427220811016f18017a118007a11825a11823a0 rfl hk hn e1 e2 this hd
theorem FInv.finish {m:Mt} {alo ahi blo bhi:Nat} {bi bj bk:Nat} (h:FInv m alo ahi blo bhi (fun x y=>alo≤x∧x < ahi∧blo≤y∧y < bhi) bi bj bk):Best m alo ahi blo bhi bi bj bk :=
  ⟨h.win,h.run,h.zero,fun x y n hn hw hr=>h.best x y n hn hw.1 hw.2.2.1 hr (by obtain ⟨a,b,c,d⟩:=hw;exact lq7 0xf10000108f100011008ff100001008f1000110008fff1001101f10011010ff10011001f100110010fff10018f101108ff1111f11110ff6171174073071707107f605a0540302a02100081f1805a01802a0 rfl hn a b c d)⟩
theorem Best.left {m:Mt} {alo ahi blo bhi i j k:Nat} (h:Best m alo ahi blo bhi i j k) (hi:alo < i) (hj:blo < j):m (i - 1) (j - 1)=false:=by
  obtain ⟨⟨h1,h2,h3,h4⟩,hr,hz,hb⟩:=h
  cases e:m (i - 1) (j - 1) with
  | false=>rfl
  | true =>
    have hk:k ≠ 0:=fun e=>by have:=hz e;exact aQ 0xf819f012101f rfl hi this.1
    have:=hb (i - 1) (j - 1) (k+1) (by exact lq1 0xf1180a081ff rfl) ⟨by exact aQ 0xf1101200f101f1811 rfl hi,by exact lq4 0xf1018f11108f3182a4a0f321a0101f1810 rfl hi h2,by exact aQ 0xf1101200f101f1811 rfl hj,by exact lq4 0xf1018f11108f3182a4a0f321a0101f1810 rfl hj h4⟩ (fun t ht=>by
      cases t with
      | zero=>exact e
      | succ t =>
        have:=hr t (by exact aQ 0xf11101f181a180a1f rfl ht)
        rwa [show i - 1+(t+1)=i+t by exact aZ 0xf11f110ff18f1108ff21a182a3a2f101f1810 rfl hi,show j - 1+(t+1)=j+t by exact aZ 0xf11f110ff18f1108ff21a182a3a2f101f1810 rfl hj])
    exact (aZ 0xf8f8f1f9f420312731180180a270180a18f18211811 rfl this).elim
theorem Best.right {m:Mt} {alo ahi blo bhi i j k:Nat} (h:Best m alo ahi blo bhi i j k) (hi:i+k < ahi) (hj:j+k < bhi):m (i+k) (j+k)=false:=by
  obtain ⟨⟨h1,h2,h3,h4⟩,hr,hz,hb⟩:=h
  cases e:m (i+k) (j+k) with
  | false=>rfl
  | true =>
    have:=hb i j (k+1) (by exact lq1 0xf1180a081ff rfl) ⟨by exact aQ 0xf11100f100f rfl h1,by exact aZ 0xf112181a0a0f210a1f rfl hi,by exact aQ 0xf11100f100f rfl h3,by exact aZ 0xf112181a0a0f210a1f rfl hj⟩ (fun t ht=>by
      rcases Nat.lt_or_ge t k with h | h
      · exact hr t h
      · have:t=k:=by exact aQ 0xf101f11f102f010181a01f rfl ht h
        subst this;exact e)
    exact (aZ 0xf8f8f1f9f220112711180180a270180a18f rfl this).elim
noncomputable abbrev toldSt:Stmt:=aD topBody toldIx
noncomputable def fdTold (a b c:Value):FuncData:=fnOf "_law_told" "_law_told" (bN toldSt) (aF toldSt) (bD toldSt) (.none) (.none) (.none) a none b c
structure TI (la:Nat) (ed:List Int) (i j:Nat) (cs:List PyData) (ρ:List (Str×B)):Prop where
  size:aI ρ "size" (.val (.int la))
  edit:aI ρ "edit" (.val (.list (ed.map .int)))
  codes:aI ρ "codes" (.own cs)
  i:aI ρ "i" (.val (.int i))
  j:aI ρ "j" (.val (.int j))
theorem TI.pt {la:Nat} {ed:List Int} {i j:Nat} {cs:List PyData} {ρ:List (Str×B)} (T:TI la ed i j cs ρ) {z:Str} {b:B} (h:(neS "size" z && (neS "edit" z && (neS "codes" z && (neS "i" z && neS "j" z))))=true):TI la ed i j cs (aH ρ z b):=by
  simp only [Bool.and_eq_true] at h
  exact ⟨hn T.size h.1,hn T.edit h.2.1,hn T.codes h.2.2.1,hn T.i h.2.2.2.1,hn T.j h.2.2.2.2⟩
theorem bG {X:Cx} {k:Nat} {env:Env} {ρ:List (Str×B)} {e:Expr} {d d':PyData} (h:Ev X k env ρ e d) (q:d=d'):Ev X k env ρ e d':=q ▸ h
theorem item_int {ed:List Int} {t:Nat} (h:t < ed.length):(ed.map PyData.int)[placeOf ((t:Nat):Int) (ed.map PyData.int).length]?=some (.int (ed.getD t 0)):=by
  unfold placeOf
  rw [if_neg (by exact lq1 0xf1080c46ff rfl),Int.toNat_natCast,List.getElem?_map,List.getElem?_eq_getElem h,List.getD_eq_getElem?_getD,List.getElem?_eq_getElem h]
  rfl
noncomputable def NotHere (i j:Nat) (rest:List Blk):Prop:=∀ n r,rest ≠ (i,j,n) :: r
theorem stop_at {la lb:Nat} {b:Bool} {i j:Nat} {rest:List Blk} {ed:List Int} (g:Good la lb b i j rest) (e:bA ed j rest) (hn:NotHere i j rest):∀ v:Int,ed[j]?=some v→v ≠ i:=by
  intro v hv hvi
  cases rest with
  | nil =>
    obtain ⟨u,hu,hlt⟩:=e j (Nat.le_refl _) (List.getElem?_eq_some_iff.mp hv).1
    rw [hv] at hu;cases hu;exact lqx [_] [_] 0xf119f08040c05f rfl hvi hlt
  | cons p r =>
    obtain ⟨ai,bj,n⟩:=p
    obtain ⟨h1,h2,h3,h4,h5⟩:=g.inv
    obtain ⟨e1,e2,e3⟩:=e
    rcases Nat.lt_or_ge j bj with h | h
    · obtain ⟨u,hu,hlt⟩:=e1 j (Nat.le_refl _) h
      rw [hv] at hu;cases hu;exact lqx [_] [_] 0xf119f08040c05f rfl hvi hlt
    · have hj:bj=j:=by exact aQ 0xf11f101f012f010100f rfl h2 h
      subst hj
      have:=e2 0 h3
      rw [Nat.add_zero,hv] at this
      cases this
      have:ai=i:=by exact aQ 0xf11f81f102f1c080ac5f rfl hvi
      exact hn n r (by rw [this])
theorem eq_run {la lb:Nat} {b:Bool} {i j:Nat} {rest:List Blk} {ed:List Int} (g:Good la lb b i j rest) (e:bA ed j rest) :
    ∃ N,(∀ d,d < N→ed[j+d]?=some ((i+d:Nat):Int))∧(∀ v:Int,ed[j+N]?=some v→v ≠ ((i+N:Nat):Int))∧((N=0∧NotHere i j rest)∨(0 < N∧∃ r,rest=(i,j,N) :: r)):=by
  by_cases hn:NotHere i j rest
  · exact ⟨0,fun d h=>absurd h (Nat.not_lt_zero _),stop_at g e hn,.inl ⟨rfl,hn⟩⟩
  · simp only [NotHere,Classical.not_forall,Classical.not_not] at hn
    obtain ⟨n,r,rfl⟩:=hn
    obtain ⟨h1,h2,h3,h4,h5⟩:=g.inv
    obtain ⟨e1,e2,e3⟩:=e
    refine ⟨n,e2,stop_at h5 e3 (fun n' r' q=>?_),.inr ⟨h3,r,rfl⟩⟩
    subst q
    cases h5 with
    | cons _ _ _ h4' _=>exact h4' rfl ⟨rfl,rfl⟩
noncomputable def bM (la lb:Nat):List Blk→Nat×Nat
  | []=>(la,lb)
  | (ai,bj,_) :: _=>(ai,bj)
theorem gap_run {la:Nat} {b:Bool} {i j:Nat} {rest:List Blk} {ed:List Int} (g:Good la ed.length b i j rest) (e:bA ed j rest) :
    ∃ N,j+N=(bM la ed.length rest).2∧(∀ d,d < N→∃ v:Int,ed[j+d]?=some v∧v < 0)∧(∀ v:Int,ed[j+N]?=some v→v=(bM la ed.length rest).1)∧(j+N=ed.length→(bM la ed.length rest).1=la):=by
  cases rest with
  | nil =>
    refine ⟨ed.length - j,?_,fun d h=>e _ (by exact aQ 0xf110a00ff rfl) (by exact aZ 0xf118f1008f102a1f301f210 rfl h),fun v hv=>?_,fun _=>rfl⟩
    · have:=g.le;simp [bM];exact aQ 0xf11f110ff18f1108ff120a2f100f010 rfl this.2
    · have hv':=(List.getElem?_eq_some_iff.mp hv).1;have hg:=g.le;exact lqx [_,_,_] [_] 0xf1102c05f130a1f011 rfl hv'
  | cons p r =>
    obtain ⟨ai,bj,n⟩:=p
    obtain ⟨h1,h2,h3,h4,h5⟩:=g.inv
    obtain ⟨e1,e2,e3⟩:=e
    have:=h5.le
    refine ⟨bj - j,by simp [bM];exact aQ 0xf11f110ff18f1108ff120a2f100f010 rfl h2,fun d h=>e1 _ (by exact aQ 0xf110a00ff rfl) (by exact aZ 0xf118f1008f102a1f301f210 rfl h),fun v hv=>?_,fun h=>by exact lq6 0xf111008f1111008ff111008f1111008ff542f360a2321a02081100f010 rfl h2 h3 this.2 h⟩
    have:=e2 0 h3
    rw [show j+(bj - j)=bj+0 by exact aQ 0xf11f110ff18f1108ff081a20a2f100f010 rfl h2,this] at hv
    cases hv;simp [bM]
theorem opc_gap {la lb:Nat} {b:Bool} {i j:Nat} {rest:List Blk} (hn:NotHere i j rest) (hne:¬ (i=(bM la lb rest).1∧j=(bM la lb rest).2)) :
    opc la lb i j rest=code (if (bM la lb rest).1=i then "insert" else if j=(bM la lb rest).2 then "delete" else "replace") i (bM la lb rest).1 j (bM la lb rest).2 :: opc la lb (bM la lb rest).1 (bM la lb rest).2 rest:=by
  cases rest with
  | nil =>
    simp only [bM] at hne ⊢
    unfold opc gap
    rw [if_neg hne]
    simp
    rfl
  | cons p r =>
    obtain ⟨ai,bj,n⟩:=p
    simp only [bM] at hne ⊢
    unfold opc gap
    rw [if_neg hne]
    simp
    rfl
theorem good_next {la lb:Nat} {b:Bool} {i j:Nat} {rest:List Blk} (g:Good la lb b i j rest):Good la lb true (bM la lb rest).1 (bM la lb rest).2 rest∧i≤(bM la lb rest).1∧j≤(bM la lb rest).2:=by
  cases g with
  | nil h1 h2=>exact ⟨.nil (Nat.le_refl _) (Nat.le_refl _),h1,h2⟩
  | cons h1 h2 h3 h4 h5=>exact ⟨.cons (Nat.le_refl _) (Nat.le_refl _) h3 (fun e=>by cases e) h5,h1,h2⟩
theorem edit_next {la:Nat} {i j:Nat} {rest:List Blk} {ed:List Int} (h:j≤(bM la ed.length rest).2) (e:bA ed j rest):bA ed (bM la ed.length rest).2 rest:=by
  cases rest with
  | nil=>exact fun t h1 h2=>absurd h1 (Nat.not_le.mpr h2)
  | cons p r =>
    obtain ⟨ai,bj,n⟩:=p
    exact ⟨fun t h1 h2=>absurd h1 (Nat.not_le.mpr h2),e.2.1,e.2.2⟩
theorem tst_of_eq {X:Cx} {k:Nat} {env:Env} {ρ:List (Str×B)} {e:Expr} {b b':Bool} (h:Tst X k env ρ e b) (q:b=b'):Tst X k env ρ e b':=q ▸ h
theorem ex_scan {X:Cx} {k:Nat} {env:Env} {ρ:List (Str×B)} {Q:Fl→List (Str×B)→Prop} {x:Str} {p p' q q':Pos} {m:Nat} {test:Expr} {N:Nat} (hx:Own env x) (ht:∀ n:Nat,n≤N→Tst X k env (aH ρ x (.val (.int n))) test (decide (n < N))) (hq:Q .next (aH ρ x (.val (.int N)))) :
    Ex1 X k env (aH ρ x (.val (.int 0))) (.While test [.AugAssign (.Name x p) .Add (.Constant (.int 1) m p') q] [] q') Q :=
  ex_while (fun m ρ'=>∃ n:Nat,n≤N∧m=N - n∧ρ'=aH ρ x (.val (.int n))) (n:=N) ⟨0,Nat.zero_le _,rfl,rfl⟩ (by
    rintro m ρ' ⟨n,hn,rfl,rfl⟩ Q2 H2
    refine ⟨_,ht n hn,fun h=>?_,fun h=>?_⟩
    · have h:=of_decide_eq_true h
      exact aB (ex_iadd (a:=n) (b:=1) hs aM hx (aE (H2.next ⟨N - (n+1),by exact aQ 0xf1018f110108f321f101f011180a10 rfl h,n+1,h,rfl,by rw [put_put];rfl⟩)))
    · have h:=of_decide_eq_false h
      obtain rfl:n=N:=by exact aQ 0xf101f11f102f1016100f rfl hn h
      exact hq)
section
variable {X:Cx} {k:Nat} {L f:Addr} {a b c:Value} {la:Nat} {ed:List Int} {i j:Nat} {cs:List PyData} {ρ:List (Str×B)}
noncomputable abbrev tEnv (a b c:Value) (L f:Addr):Env:=callEnvC (fdTold a b c) L f
theorem ev_edl (hlen:X.gl ("len":Str)=some (.builtin "len")) (hz:ed.length≤sizeLine) {p p2 p3:Pos} (h:aI ρ "edit" (.val (.list (ed.map .int)))):Ev X k (tEnv a b c L f) ρ (.Call (.Name "len" p) [.Name "edit" p2] [] p3) (.int ed.length) :=
  bG (ev_len hlen rfl (bK (aA h)) (by rw [List.length_map];exact hz)) (by rw [List.length_map])
theorem ev_edat (hz:ed.length≤sizeLine) {n:Nat} {p p2 p3 p4 p5:Pos} (T:TI la ed i j cs ρ) (hn:aI ρ "n" (.val (.int n))) (h:j+n < ed.length):Ev X k (tEnv a b c L f) ρ (.Subscript (.Name "edit" p) (.BinOp (.Name "j" p2) .Add (.Name "n" p3) p4) p5) (.int (ed.getD (j+n) 0)) :=
  ev_item (n:=((j+n:Nat):Int)) (bK (aA T.edit)) (aT (aA T.j) (aA hn)) (by exact aZ 0xf121ac0ce3ff rfl) (by rw [List.length_map];exact aZ 0xf112c10ac4f210a1f rfl h) (by rw [List.length_map];exact hz) (item_int h)
theorem ed_some {t:Nat} {v:Int} (h:ed[t]?=some v):t < ed.length∧ed.getD t 0=v:=by
  obtain ⟨h1,_⟩:=List.getElem?_eq_some_iff.mp h
  exact ⟨h1,by rw [List.getD_eq_getElem?_getD,h];rfl⟩
theorem scan_eq {n N:Nat} {P:Nat→Int→Bool} (hn:n≤N) (h1:∀ d,d < N→∃ v,ed[j+d]?=some v∧P d v=true) (h2:∀ v,ed[j+N]?=some v→P N v=false):(decide ((j:Int)+(n:Int) < (ed.length:Int)) && (P n (ed.getD (j+n) 0) && true))=decide (n < N):=by
  rw [Bool.and_true]
  rcases Nat.lt_or_ge n N with h | h
  · obtain ⟨v,hv,hp⟩:=h1 n h
    obtain ⟨e1,e2⟩:=ed_some hv
    rw [e2,hp,decide_eq_true (by exact aZ 0xf112c1c0ca4f210a1f rfl e1:(j:Int)+(n:Int) < (ed.length:Int)),decide_eq_true h];rfl
  · obtain rfl:n=N:=by exact aQ 0xf101f11f102f010100f rfl hn h
    rw [decide_eq_false (by exact lq1 0xf10016ff rfl:¬ n < n)]
    cases e:decide ((j:Int)+(n:Int) < (ed.length:Int)) with
    | false=>rfl
    | true =>
      have:=of_decide_eq_true e
      have hj:j+n < ed.length:=by exact aZ 0xf11210a1f2c1c0ca4f rfl this
      rw [h2 _ (by rw [List.getElem?_eq_getElem hj,List.getD_eq_getElem?_getD,List.getElem?_eq_getElem hj];rfl)];rfl
theorem meas_lt {la lb i j i' j':Nat} (h1:i≤i') (h2:j≤j') (h3:i'≤la) (h4:j'≤lb) (h:i < i'∨j < j'):(la - i')+(lb - j') < (la - i)+(lb - j):=by exact lq6 0xf110101881f1010101881ff1001101018081f1018081fff100010881f110101010881ff10001000108081f1000010108081fff2717a076a1f3211018530410320100f251041350140 rfl h1 h2 h3 h4 h
noncomputable abbrev tBody:List Stmt:=whileBody (aD (aF toldSt) 2)
theorem told_same {bb:Bool} {n:Nat} {rest r:List Blk} {Q1:Fl→List (Str×B)→Prop} (T:TI la ed i j cs ρ) (hn0:aI ρ "n" (.val (.int n))) (g:Good la ed.length bb i j rest) (e:bA ed j rest) (hr:rest=(i,j,n) :: r) (hc:cs.length≤sizeLine)
    (hQ:∀ {ρ':List (Str×B)} {i' j':Nat} {rest':List Blk} {cs':List PyData} {bb':Bool},TI la ed i' j' cs' ρ'→Good la ed.length bb' i' j' rest'→bA ed j' rest'→cs'++opc la ed.length i' j' rest'=cs++opc la ed.length i j rest→(la - i')+(ed.length - j') < (la - i)+(ed.length - j)→Q1 .next ρ') :
    Exs X k (tEnv a b c L f) ρ (ifBody (aD tBody 2)) Q1:=by
  subst hr
  obtain ⟨g1,g2,g3,g4,g5⟩:=g.inv
  have hle:=g5.le
  refine aB (bF (ds:=cs) (d:=code "equal" i (i+n) j (j+n)) T.codes (aU (aC ev_str (aC (aA T.i) (aC (aT (aA T.i) (aA hn0)) (aC (aA T.j) (aC (aT (aA T.j) (aA hn0)) aG))))) (by simp only [List.length_cons,List.length_nil];decide)) hc ?_)
  refine aB (ex_swap (xs:=["i","j"]) (aU (aC (aT (aA (hn T.i rfl)) (aA (hn hn0 rfl))) (aC (aT (aA (hn T.j rfl)) (aA (hn hn0 rfl))) aG)) (by simp only [List.length_cons,List.length_nil];decide)) (aS (.inl rfl) (aS (.inl rfl) asgn_nil)) (aE ?_) rfl rfl rfl)
  refine hQ (i':=i+n) (j':=j+n) (cs':=cs++[code "equal" i (i+n) j (j+n)]) ⟨hn (hn (hn T.size rfl) rfl) rfl,hn (hn (hn T.edit rfl) rfl) rfl,hn (hn hs rfl) rfl,by k_mem,by k_mem⟩ g5 e.2.2 ?_ (meas_lt (Nat.le_add_right _ _) (Nat.le_add_right _ _) hle.1 hle.2 (.inl (Nat.lt_add_of_pos_right g3)))
  conv=>rhs;unfold opc gap
  simp
theorem told_gap {bb:Bool} {rest:List Blk} {Q1:Fl→List (Str×B)→Prop} (hlen:X.gl ("len":Str)=some (.builtin "len")) (hz:ed.length≤sizeLine) (T:TI la ed i j cs ρ) (g:Good la ed.length bb i j rest) (e:bA ed j rest) (hne:i < la∨j < ed.length) (hc:cs.length≤sizeLine) (hnh:NotHere i j rest)
    (hQ:∀ {ρ':List (Str×B)} {i' j':Nat} {rest':List Blk} {cs':List PyData} {bb':Bool},TI la ed i' j' cs' ρ'→Good la ed.length bb' i' j' rest'→bA ed j' rest'→cs'++opc la ed.length i' j' rest'=cs++opc la ed.length i j rest→(la - i')+(ed.length - j') < (la - i)+(ed.length - j)→Q1 .next ρ') :
    Exs X k (tEnv a b c L f) (aH ρ "n" (.val (.int 0))) (ifElse (aD tBody 2)) Q1:=by
  obtain ⟨n,hM,m1,m2,m3⟩:=gap_run g e
  refine aB (ex_scan (N:=n) (.inl rfl) (fun n hn'=>tst_of_eq (bC (aJ (aT (aA (hn T.j rfl)) (aA hs)) (ev_edl hlen hz (hn T.edit rfl)) rfl) fun ht=>bC (aJ (ev_edat hz (T.pt rfl) hs (by have:=of_decide_eq_true ht;exact aZ 0xf11210a1f2c1c0ca4f rfl this)) aM rfl) fun _=>tst_and0)
    (scan_eq (P:=fun _ v=>decide (v < 0)) hn' (fun d hd=>let ⟨v,hv,h⟩:=m1 d hd;⟨v,hv,decide_eq_true h⟩) fun v hv=>decide_eq_false (by rw [m2 v hv];exact lq1 0xf1080c46ff rfl))) ?_)
  obtain ⟨gn,gi,gj⟩:=good_next g
  have en:=edit_next (la:=la) (i:=i) gj e
  have hne:¬ (i=(bM la ed.length rest).1∧j=(bM la ed.length rest).2):=by
    rintro ⟨q1,q2⟩
    cases rest with
    | nil=>simp only [bM] at q1 q2;exact lq4 0xf101f11f9f3211018322102f rfl q1 q2 hne
    | cons p r=>obtain ⟨ai,bj,n'⟩:=p;simp only [bM] at q1 q2;exact hnh n' r (by rw [q1,q2])
  have hop:=opc_gap (la:=la) (lb:=ed.length) (b:=true) hnh hne
  rw [← hM] at gn gj en hop
  rw [hop] at hQ
  have hle:=gn.le
  generalize (bM la ed.length rest).1=G at *
  clear hop m1 g e hnh
  have T:=T.pt (z:="n") (b:=.val (.int n)) rfl
  have hN:aI (aH ρ "n" (.val (.int n))) "n" (.val (.int n)):=hs
  generalize aH ρ "n" (.val (.int n))=ρ1 at *
  refine aB (aR (d:=.int G) (bG (ev_if (aJ (aT (aA T.j) (aA hN)) (ev_edl hlen hz T.edit) rfl) (fun ht=>ev_edat hz T hN (by have:=of_decide_eq_true ht;exact aZ 0xf11210a1f2c1c0ca4f rfl this)) (fun _=>aA T.size)) ?_) (.inl rfl) ?_)
  · split
    · rename_i h
      have:=of_decide_eq_true h
      have hj:j+n < ed.length:=by exact aZ 0xf11210a1f2c1c0ca4f rfl this
      rw [m2 (ed.getD (j+n) 0) (by rw [List.getElem?_eq_getElem hj,List.getD_eq_getElem?_getD,List.getElem?_eq_getElem hj];rfl)]
    · rename_i h
      have:=of_decide_eq_false (Bool.not_eq_true _ ▸ h)
      rw [m3 (by exact aZ 0xf101f11f210a2f2c1c0ca46210a0f rfl hle.2 this)]
  have T:=T.pt (z:="goal") (b:=.val (.int G)) rfl
  have hN:=hn (x:="goal") (b:=.val (.int G)) hN rfl
  have hG:aI (aH ρ1 "goal" (.val (.int G))) "goal" (.val (.int G)):=hs
  generalize aH ρ1 "goal" (.val (.int G))=ρ2 at *
  refine aB (aR (d:=.str (if G=i then "insert" else if j=j+n then "delete" else "replace")) (bG (ev_if (aJ (aA hG) (aA T.i) rfl) (fun _=>ev_str) (fun _=>ev_if (aJ (aA hN) aM rfl) (fun _=>ev_str) (fun _=>ev_str))) ?_) (.inl rfl) ?_)
  · by_cases q1:G=i
    · subst q1;simp
    · have q3:¬ ((G:Int)=i):=by exact aQ 0xf11f81f1c0c56f1026f rfl q1
      by_cases q2:n=0
      · subst q2;simp [q1,q3]
      · have:¬ j=j+n:=by exact aQ 0xf1f11f01a126f08026f rfl q2
        simp [q1,q2,q3]
  generalize (if G=i then ("insert":Str) else if j=j+n then "delete" else "replace")=w at *
  refine aB (bF (ds:=cs) (d:=code w i G j (j+n)) (hn T.codes rfl) (aU (aC (aA hs) (aC (aA (hn T.i rfl)) (aC (aA (hn hG rfl)) (aC (aA (hn T.j rfl)) (aC (aT (aA (hn T.j rfl)) (aA (hn hN rfl))) aG))))) (by simp only [List.length_cons,List.length_nil];decide)) hc ?_)
  refine aB (ex_swap (xs:=["i","j"]) (aU (aC (aA (hn (hn hG rfl) rfl)) (aC (aT (aA (hn (hn T.j rfl) rfl)) (aA (hn (hn hN rfl) rfl))) aG)) (by simp only [List.length_cons,List.length_nil];decide)) (aS (.inl rfl) (aS (.inl rfl) asgn_nil)) (aE ?_) rfl rfl rfl)
  exact hQ (cs':=cs++[code w i G j (j+n)]) ⟨hn (hn (hn (hn T.size rfl) rfl) rfl) rfl,hn (hn (hn (hn T.edit rfl) rfl) rfl) rfl,hn (hn hs rfl) rfl,by k_mem,by k_mem⟩ gn en (by rw [List.append_assoc];rfl) (meas_lt gi gj hle.1 hle.2 (by exact lq5 0xf1101f8001f11f10001f10a014318f20243276430210a2f rfl hM gi hne))
theorem told_turn {bb:Bool} {rest:List Blk} {Q1:Fl→List (Str×B)→Prop} (hlen:X.gl ("len":Str)=some (.builtin "len")) (hz:ed.length≤sizeLine) (T:TI la ed i j cs ρ) (g:Good la ed.length bb i j rest) (e:bA ed j rest) (hne:i < la∨j < ed.length) (hc:cs.length≤sizeLine)
    (hQ:∀ {ρ':List (Str×B)} {i' j':Nat} {rest':List Blk} {cs':List PyData} {bb':Bool},TI la ed i' j' cs' ρ'→Good la ed.length bb' i' j' rest'→bA ed j' rest'→cs'++opc la ed.length i' j' rest'=cs++opc la ed.length i j rest→(la - i')+(ed.length - j') < (la - i)+(ed.length - j)→Q1 .next ρ') :
    Exs X k (tEnv a b c L f) ρ tBody Q1:=by
  obtain ⟨N,h1,h2,hN⟩:=eq_run g e
  refine aB (aR aM (.inl rfl) ?_)
  refine aB (ex_scan (N:=N) (.inl rfl) (fun n hn'=>tst_of_eq (bC (aJ (aT (aA (hn T.j rfl)) (aA hs)) (ev_edl hlen hz (hn T.edit rfl)) rfl) fun ht=>bC (aJ (ev_edat hz (T.pt rfl) hs (by have:=of_decide_eq_true ht;exact aZ 0xf11210a1f2c1c0ca4f rfl this)) (aT (aA (hn T.i rfl)) (aA hs)) rfl) fun _=>tst_and0)
    (scan_eq (P:=fun d v=>v == (i:Int)+(d:Int)) hn' (fun d hd=>⟨_,h1 d hd,by simp⟩) fun v hv=>by have:=h2 v hv;simp;exact lqx [_,_] [_] 0xf11f81f1c0ca056f10ac056f rfl this)) ?_)
  refine aB (ex_if (aJ (aA hs) aM rfl) (fun hp=>?_) (fun hp=>?_))
  · have:=of_decide_eq_true hp
    rcases hN with ⟨h0,_⟩ | ⟨_,r,hr⟩
    · exact (lq1 0xf819f08020c084f rfl this h0).elim
    · exact told_same (T.pt rfl) hs g e hr hc fun a1 a2 a3 a4 a5=>aE (hQ a1 a2 a3 a4 a5)
  · have:=of_decide_eq_false hp
    obtain rfl:N=0:=by exact lq1 0xf1f11f0802f0c0846f rfl this
    rcases hN with ⟨_,hnh⟩ | ⟨h0,_⟩
    · exact told_gap hlen hz T g e hne hc hnh fun a1 a2 a3 a4 a5=>aE (hQ a1 a2 a3 a4 a5)
    · exact (lqx [] [] 0xf19f08081f rfl h0).elim
end
theorem opc_done {la lb:Nat} {b:Bool} {i j:Nat} {rest:List Blk} (g:Good la lb b i j rest) (h1:la≤i) (h2:lb≤j):opc la lb i j rest=[]:=by
  have hle:=g.le
  cases g with
  | nil _ _=>unfold opc gap;rw [if_pos (by exact lq4 0xf101f10001f11f1001f2320127f230010320100f rfl h1 h2 hle.1 hle.2)]
  | cons h1 h2 h3 h4 h5=>have:=h5.le;exact (lq4 0xf11119f023a03102081100f rfl (by assumption) h3 h2 this.2).elim
inductive TL (la:Nat) (ed:List Int) (tot:List PyData) (m:Nat) (ρ:List (Str×B)):Prop
  | mk {i j:Nat} {rest:List Blk} {cs:List PyData} {b:Bool}:TI la ed i j cs ρ→Good la ed.length b i j rest→bA ed j rest→cs++opc la ed.length i j rest=tot→m=(la - i)+(ed.length - j)→TL la ed tot m ρ
theorem told_walk {X:Cx} {k:Nat} {L f:Addr} {a b c:Value} (hlen:X.gl ("len":Str)=some (.builtin "len")) {la:Nat} {ed:List Int} {bs:List Blk} (hg:Good la ed.length true 0 0 bs) (he:bA ed 0 bs) (hz:ed.length≤sizeLine) (hc:(opc la ed.length 0 0 bs).length≤sizeLine) :
    Exs X k (callEnvC (fdTold a b c) L f) [("size",.val (.int la)),("edit",.val (.list (ed.map .int)))] (aF toldSt) fun fl _=>fl=.ret (.list (opc la ed.length 0 0 bs)):=by
  refine aB (ex_assignF (evf_list aG (by decide)) (.inl rfl) ?_)
  refine aB (ex_assign2 aM (aL (.inl rfl)) (aL (.inl rfl)) ?_)
  generalize hT:opc la ed.length 0 0 bs=tot at *
  refine aB (ex_while (TL la ed tot) (.mk (i:=0) (j:=0) (cs:=[]) ⟨by k_mem,by k_mem,by k_mem,by k_mem,by k_mem⟩ hg he hT rfl) ?_)
  rintro m ρ ⟨T,g,e,hcs,rfl⟩ Q1 H1
  rename_i i j rest cs bb
  refine ⟨_,tst_or (aJ (aA T.i) (aA T.size) rfl) (fun _=>tst_or (aJ (aA T.j) (ev_edl hlen hz T.edit) rfl) fun _=>tst_or0),fun ht=>?_,fun hf=>?_⟩
  · simp only [Bool.or_eq_true,decide_eq_true_eq,Bool.or_false] at ht
    exact told_turn hlen hz T g e (by exact lq4 0xf101f11f3211018f3c2c41c0c48f rfl ht) (by rw [← hcs,List.length_append] at hc;exact aZ 0xf11200f210a0f rfl hc) fun a1 a2 a3 a4 a5=>H1.next ⟨_,a5,a1,a2,a3,a4.trans hcs,rfl⟩
  · simp only [Bool.or_eq_false_iff,decide_eq_false_iff_not,Bool.or_false] at hf
    rw [opc_done g (by exact aQ 0xf11010f1c0c46f rfl hf.1) (by exact aQ 0xf11010f1c0c46f rfl hf.2),List.append_nil] at hcs
    subst hcs
    exact aB (ex_returnOwn (ds:=cs) T.codes rfl)
noncomputable abbrev smSt (i:Nat):Stmt:=aD (aK (aD topBody 5)) i
noncomputable def fdSM (i:Nat) (nm:Str) (z:Value×Value×Value×Value):FuncData:=fnOf nm ("SequenceMatcher."++nm) (bN (smSt i)) (aF (smSt i)) (bD (smSt i)) z.1 .none z.2.1 z.2.2.1 none z.2.2.2 .none
noncomputable def SMeth (X:Cx) (i:Nat) (f:Addr) (nm bind:Str) (names:List Str):Prop :=
  findIn X.K (.ref 242) bind=some (some (.ref f))∧typeIn X.K (.ref f)=some (.type "function")∧∃ z,DefAt X f (fdSM i nm z) (aF (smSt i)) names
noncomputable def smAttrs:List Str:=["isjunk","a","b","autojunk","matching_blocks","opcodes","fullbcount","b2j","bjunk","bpopular"]
structure DF (X:Cx):Prop where
  cls:∃ cd,ClsOk X.K 242 cd
  own:∀ name∈smAttrs,findIn X.K (.ref 242) name=some none∧takerIn X.K 242 name=some none
  init:SMeth X 1 160 "__init__" "__init__" ["self","isjunk","a","b","autojunk"]
  seqs:SMeth X 2 167 "set_seqs" "set_seqs" ["self","a","b"]
  seq1:SMeth X 3 174 "set_seq1" "set_seq1" ["self","a"]
  seq2:SMeth X 4 181 "set_seq2" "set_seq2" ["self","b"]
  chain:SMeth X 5 188 "__chain_b" "_SequenceMatcher__chain_b" ["self"]
  find:SMeth X 6 196 "find_longest_match" "find_longest_match" ["self","alo","ahi","blo","bhi"]
  blocks:SMeth X 7 203 "get_matching_blocks" "get_matching_blocks" ["self"]
  codes:SMeth X 8 210 "get_opcodes" "get_opcodes" ["self"]
  len:X.gl ("len":Str)=some (.builtin "len")
  range:X.gl ("range":Str)=some (.type "range")
  enumerate:X.gl ("enumerate":Str)=some (.type "enumerate")
  set:X.gl ("set":Str)=some (.type "set")
  list:X.gl ("list":Str)=some (.type "list")
  map:X.gl ("map":Str)=some (.type "map")
  tuple:X.gl ("tuple":Str)=some (.type "tuple")
  mtch:X.gl ("Match":Str)=some (.ref 135)
theorem SMeth.on {X:Cx} {i:Nat} {f:Addr} {nm bind:Str} {names:List Str} (s:SMeth X i f nm bind names) {h:Heap} {D:PyData→Value→Prop} (k:∀ b o,X.h₀.get? b=some o→h.get? b=some o):SMeth (X.on h D) i f nm bind names:=⟨s.1,s.2.1,let ⟨z,d⟩:=s.2.2;⟨z,d.on k⟩⟩
theorem DF.on {X:Cx} (d:DF X) {h:Heap} {D:PyData→Value→Prop} (k:∀ b o,X.h₀.get? b=some o→h.get? b=some o):DF (X.on h D) :=
  ⟨d.cls,d.own,d.init.on k,d.seqs.on k,d.seq1.on k,d.seq2.on k,d.chain.on k,d.find.on k,d.blocks.on k,d.codes.on k,d.len,d.range,d.enumerate,d.set,d.list,d.map,d.tuple,d.mtch⟩
noncomputable def NotSame (h:Heap) (u v:Value):Prop:=(v=.none∧u ≠ .none)∨∃ p q op oq,u=.ref p∧v=.ref q∧p ≠ q∧h.get? p=some op∧h.get? q=some oq∧op.cls ≠ .type "tuple"
section
variable {X:Cx} {k:Nat} {env:Env} {ρ:List (Str×B)} {Q:Fl→List (Str×B)→Prop}
theorem tst_notSame {l r:Expr} {pos:Pos} {u v:Value} (hl:EvV X k env ρ l u) (hr:EvV X k env ρ r v) (hn:NotSame X.h₀ u v) (hm:behindInMarks .Is r=false:=by with_unfolding_all rfl):Tst X k env ρ (.Compare l [.Is] [r] pos) false:=fun A bad O s R q =>
  wpAny_isTrue_Compare1 (hl.use R q fun s1 x1 r1=>hr.use R r1 fun s2 x2 r2=>by
    rcases hn with ⟨rfl,hu⟩ | ⟨p,q,op,oq,rfl,rfl,hne,hp,hq,hc⟩
    · exact is_none_ne hu (wpAny_truthy_bool ⟨x1.trans x2,rfl⟩)
    · exact wpAny_is_ref_other hne (r2.base _ _ hp) (r2.base _ _ hq) hc (wpAny_truthy_bool ⟨x1.trans x2,rfl⟩)) hm
end
theorem low_no {h:Heap}:∀ a:Addr,(fun _:Addr=>False) a→∃ o,h.get? a=some o:=fun _ x=>x.elim
theorem Inst.xne {h:Heap} {C x dx:Addr} {m:Str→Option Value} {N:Nat} (I:Inst h C x dx m N):x ≠ dx:=fun e=>by
  obtain ⟨o,es,ep,ho,hd,_⟩:=I.ns
  rw [← e,I.obj] at ho;cases ho;cases hd
theorem set_seq1_call {X:Cx} {k:Nat} (F:DF X) {A:Around} {s:Shared} {x dx:Addr} {m:Str→Option Value} {N:Nat} {va v0:Value} (R:Room (k+1) A) (a:At X s) (I:Inst s.heap 242 x dx m N) (hX:X.h₀.get? dx=none)
    (hm:m "a"=some v0) (hn:NotSame (s.heap.hide dx) va v0) (hv0:handedIn v0=true) (hN:N+3 < 1000) :
    codeAny (model X.prog X.w) A (.call (.ref 174) ⟨[.ref x,va],[]⟩) (fun r s'=>r=.ok (.ret .none)∧KeepBut dx s s'∧Inst s'.heap 242 x dx (upd (upd (upd m "a" va) "matching_blocks" .none) "opcodes" .none) (N+3)) s:=by
  obtain ⟨cd,hC⟩:=F.cls
  obtain ⟨o,ho,hao⟩:=I.nsb.aobj
  obtain ⟨_,_,z,D⟩:=F.seq1
  have hx:(s.heap.hide dx).get? x=some (instObj 242 dx):=by rw [Heap.hide_ne _ I.xne];exact I.obj
  refine codeAny_mono (method_frame (bad:=fun _=>False) (Dt:=fun _ _=>False) (bs:=[.raw (.ref x),.raw va]) (P:=fun fl ρ'=>fl=.next∧∃ o',aI ρ' "#d" (.at dx o')∧AObj o' (upd (upd (upd m "a" va) "matching_blocks" .none) "opcodes" .none) (N+3)) D R a ho hao.noseq hX (fun h=>h) low_no (fun _ _ e=>e.elim) (.cons (.raw _) (.cons (.raw _) .nil)) rfl fun L=>?_) fun r s' h=>?_
  · refine aB (ex_doc ?_)
    refine aB (ex_if (b:=false) (tst_notSame (bB (by k_mem)) (evv_attr (key:="#d") (m:=m) (N:=N) (by k_mem) ⟨hx,.inl ⟨o,by k_mem,hao⟩⟩ hC (F.own "a" (by decide)).1 hm hv0) hn) (fun e=>by cases e) fun _=>aE ?_)
    refine aB (ex_assignV (bB (by k_mem)) (bJ (key:="#d") (by k_mem) hx (by k_mem) hao hC (F.own "a" (by decide)).2 (by exact lq1 0xf113e81901f3e819380a1f rfl hN) fun o1 ha1=>?_))
    refine aB (ex_assignV2 evv_none (bJ (key:="#d") (by k_mem) hx (by k_mem) ha1 hC (F.own "matching_blocks" (by decide)).2 (by exact lq1 0xf113e819180a1f3e819380a1f rfl hN) fun o2 ha2=>bJ (key:="#d") (by k_mem) hx (by k_mem) ha2 hC (F.own "opcodes" (by decide)).2 (by exact lq1 0xf113e81918180aa1f3e819380a1f rfl hN) fun o3 ha3=>aE ?_))
    exact ⟨⟨rfl,o3,by k_mem,ha3⟩,⟨o3,by k_mem⟩,.inl rfl⟩
  · obtain ⟨v,fl,ρ',O',L,rfl,⟨rfl,o',ho',ha'⟩,hv,kb,r'⟩:=h
    cases hv
    exact ⟨rfl,kb,kb.keep _ _ I.xne I.obj,ha'.nsb (r'.pt _ _ _ ho').2⟩
section
variable {X:Cx} {k:Nat} {env:Env} {ρ:List (Str×B)} {Q:Fl→List (Str×B)→Prop}
theorem enum_dr {bad:Addr→Prop} {O:Str→Option Addr} {A:Around} {s s1 s2:Shared} {elts:List Expr} {tk0:Nat} {tpos:Pos} {items:List PyData} {l ia:Addr} {us:Array Value} {n:Nat} (R:Room k A) (x1:Ext s s1) (r1:Rel X bad O env ρ s1) (x2:Ext s1 s2) (hb:¬ aN bad O l)
    (g:s1.heap.get? l=some { cls:=.type "list",data:=.seq us n }) (qs:RepL (aN bad O) s1.heap items us.toList) (fI:s1.heap.get? ia=none) (fE:s1.heap.get? (ia+1)=none)
    (hE:IsEnum s2.heap (ia+1) ia 0 .none) (hI:s2.heap.IsListIter ia l 0) :
    Dr X A bad O env s s2 (.Tuple elts tk0 tpos) (items.mapIdx fun i d=>.tuple [.int i,d]) (ia+1) [ia+1,ia,l] [ia+1,ia] (fun i h=>(∃ old,IsEnum h (ia+1) ia i old)∧h.IsListIter ia l i∧h.IsList l us):=by
  have hlI:l ≠ ia:=fun e=>by rw [e,fI] at g;cases g
  have hlE:l ≠ ia+1:=fun e=>by rw [e,fE] at g;cases g
  have W:=WalksT.enumerate (prog:=X.prog) (w:=X.w) R.handled (ia+1) ia l (Nat.succ_ne_self _) hlE hlI us
  have hl:us.size=items.length:=by rw [← Array.length_toList,qs.length]
  exact {
    sub:=W.sub
    frame:=W.frame
    start:=⟨⟨_,hE⟩,hI,⟨_,x2.keep _ _ g,rfl,_,rfl⟩⟩
    new:=fun b hb=>by
      rcases List.mem_cons.mp hb with rfl | hb
      · exact x1.none fE
      · rw [List.mem_singleton.mp hb];exact x1.none fI
    live:=fun i h st b hb=>by
      obtain ⟨⟨_,e⟩,⟨o,e',_⟩,⟨o2,e2,_⟩⟩:=st
      rcases List.mem_cons.mp hb with rfl | hb
      · exact ⟨_,e⟩
      · rcases List.mem_cons.mp hb with rfl | hb
        · exact ⟨_,e'⟩
        · rw [List.mem_singleton.mp hb];exact ⟨_,e2⟩
    noseq:=fun i h st b hb o vs n eo ed=>by
      obtain ⟨⟨_,e⟩,⟨o1,e',_,d1⟩,_⟩:=st
      rcases List.mem_cons.mp hb with rfl | hb
      · cases eo.symm.trans e;cases ed
      · rw [List.mem_singleton.mp hb] at eo
        cases eo.symm.trans e'
        cases d1.symm.trans ed
    apart:=fun b hb'=>by
      rcases List.mem_cons.mp hb' with rfl | hb'
      · exact .inl (.head _)
      · rcases List.mem_cons.mp hb' with rfl | hb'
        · exact .inl (.tail _ (.head _))
        · rw [List.mem_singleton.mp hb']
          exact .inr ⟨noplace_seq r1.frm g rfl,fun x hx=>hb (.inr ⟨x,hx⟩)⟩
    item:=fun i d s' N K E E' hd hSt hK=>by
      rw [List.getElem?_mapIdx] at hd
      obtain ⟨c,hc,rfl⟩:=Option.map_eq_some_iff.mp hd
      obtain ⟨⟨old,he⟩,hit,hli⟩:=hSt
      obtain ⟨v,hv,q⟩:=qs.get hc
      rw [Array.getElem?_toList] at hv
      have hT0:=get_size s'.heap
      have hne:s'.heap.objs.size ≠ ia+1:=Nat.ne_of_gt (Heap.lt_size he)
      refine wpAny_pyNext_enum_item he hit hli hv (Nat.succ_ne_self _) fun h1 ho hit1 hT _ hk=>wpAny_letOwnedTupleGo_enum (s:={ s' with heap:=h1,toks:=s'.toks+1 }) ho fun h2 he2 hs2=>?_
      generalize s'.heap.objs.size=T at *
      have k2:∀ b o,b ∉ [ia+1,ia]→s'.heap.get? b=some o→h2.get? b=some o:=fun b o hw e=>(hs2.2 b fun z=>hw (z ▸ .head _)).trans (hk b o (fun z=>hw (z ▸ .head _)) (fun z=>hw (z ▸ .tail _ (.head _))) e)
      exact hK (.ref T) h2 (s'.toks+1) ⟨⟨v,he2⟩,hit1.extBut hs2.extBut (Nat.ne_of_lt (Nat.lt_succ_self _)),hli.at fun o e=>k2 l o (fun z=>by rcases List.mem_cons.mp z with z | z;exact hlE z;exact hlI (List.mem_singleton.mp z)) e⟩ k2 fun bd fr tr =>
        .tuple (fr T hT0) ((hs2.2 T hne).trans hT) (.cons (.int _ _) (.cons (tr _ _ (q.ext x2)) .nil))
    done:=fun s' Q E hSt=>W.done s' Q E (by rw [hl];rw [List.length_mapIdx] at hSt;exact hSt) }
theorem ex_for_enum {elts:List Expr} {tk0:Nat} {tpos p ipos pos:Pos} {e:Expr} {body:List Stmt} {items:List PyData} (hx:X.gl ("enumerate":Str)=some (.type "enumerate")) (hk:env.kindOf ("enumerate":Str)=some .globalImplicit) (he:Ev X k env ρ e (.list items)) (J:Nat→List (Str×B)→Prop) (h0:J 0 ρ)
    (turn:∀ (i:Nat) d ρ',items[i]?=some d→J i ρ'→∀ Q',Loop (J (i+1)) Q Q'→∃ ρ₁,Asg X k env ρ' (.Tuple elts tk0 tpos) (.tuple [.int i,d]) ρ₁∧Exs X k env ρ₁ body Q')
    (hend:∀ ρ',J items.length ρ'→Q .next ρ') (hst:starEach [e] env=[(false,eval e env)]:=by rfl) (hs:∀ x,foldedSetIterable (.Call (.Name "enumerate" p) [e] [] ipos) env x=pure x:=by intro _;rfl) :
    Ex1 X k env ρ (.For (.Tuple elts tk0 tpos) (.Call (.Name "enumerate" p) [e] [] ipos) body [] pos) Q:=fun A bad O s R r=>by
  refine wpAny_For (type_use R r hx hk (aC he aG hst) (fun vs s1 x1 r1 q1=>?_) (by decide) hst (by rw [hst];rfl)) hs
  refine q1.oneE fun v qa=>?_
  refine qa.listE fun l us n hb g qs=>?_
  refine call_enumerate_list ⟨_,g,rfl,_,rfl⟩ fun h2 hE hI hz hkeep=>wpAny_pyIter_enum (s:={ s1 with heap:=h2 }) hE ?_
  refine for_draw R r (x1.trans ⟨hkeep,rfl,rfl⟩) (enum_dr (s2:={ s1 with heap:=h2 }) R x1 r1 ⟨hkeep,rfl,rfl⟩ hb g qs (get_size _) ?_ hE hI) J h0 (fun i d ρ' hd=>?_) fun ρ' h=>hend ρ' (by rw [List.length_mapIdx] at h;exact h)
  · cases e:s1.heap.get? (s1.heap.objs.size+1) with
    | none=>rfl
    | some o=>exact absurd (Heap.lt_size e) (Nat.not_lt.mpr (Nat.le_succ _))
  · rw [List.getElem?_mapIdx] at hd
    obtain ⟨c,hc,rfl⟩:=Option.map_eq_some_iff.mp hd
    exact turn i c ρ' hc
end
inductive IntL:List Value→List Int→Prop
  | nil:IntL [] []
  | cons {n:Int} {t:Tok} {vs:List Value} {ns:List Int}:IntL vs ns→IntL (.int n t :: vs) (n :: ns)
theorem IntL.length {vs:List Value} {ns:List Int} (h:IntL vs ns):vs.length=ns.length:=by induction h with | nil=>rfl | cons _ ih=>simp [ih]
theorem IntL.append {vs us:List Value} {ns ms:List Int} (h:IntL vs ns) (g:IntL us ms):IntL (vs++us) (ns++ms):=by induction h with | nil=>exact g | cons _ ih=>exact .cons ih
theorem IntL.rep {bad:Addr→Prop} {h:Heap} {vs:List Value} {ns:List Int} (q:IntL vs ns):RepL bad h (ns.map .int) vs:=by induction q with | nil=>exact .nil | cons _ ih=>exact .cons (.int _ _) ih
noncomputable def IObj (o:Obj) (ns:List Int):Prop:=∃ vs n,o={ cls:=.type "list",data:=.seq vs n }∧IntL vs.toList ns
theorem IObj.nil:IObj { cls:=.type "list",data:=.seq #[] } []:=⟨#[],_,rfl,.nil⟩
section
variable {X:Cx} {k:Nat} {env:Env} {ρ:List (Str×B)} {Q:Fl→List (Str×B)→Prop}
noncomputable abbrev DK (X:Cx):=intKind X.prog X.w
theorem dictOf_at {bad:Addr→Prop} {O:Str→Option Addr} {s:Shared} (r:Rel X bad O env ρ s) {key:Str} {d:Addr} {o:Obj} {kvs:List (Int×Value)} (hk:aI ρ key (.at d o)) (ho:o.IsDictOf (DK X) kvs):s.heap.DictOf (DK X) d kvs :=
  Heap.dictOf_iff.mpr ⟨o,(r.pt _ _ _ hk).2,ho⟩
theorem getMethod_dictOf {A:Around} {s:Shared} {name:Str} {id:String} {pl:Sem Bool} {d:Addr} {kvs:List (Int×Value)} {P:Value×List Value→Shared→Prop} (slot:Slot "dict" name id) (hty:typeOf (.builtin id)=pure (.type "method_descriptor")) (hd:s.heap.DictOf (DK X) d kvs) (h:P (.builtin id,[.ref d]) s) :
    wpAny (model X.prog X.w) A (getMethod (.ref d) name pl) P noE s:=getMethod_builtin hd.typeIs PySem.F.plainAttrs_dict slot hty hd.mapOf.noDict h
theorem ex_setdefault {x y key nk:Str} {px py apos cpos lpos pos:Pos} {pl:Sem Bool} {e:Expr} {d:Addr} {o:Obj} {kvs:List (Int×Value)} {i:Int} (hx:aI ρ x (.raw (.ref d))) (hk:aI ρ key (.at d o)) (ho:o.IsDictOf (DK X) kvs) (hlow:(d == sysModules)=false) (hz:kvs.length≤sizeLine) (he:Ev X k env ρ e (.int i)) (hy:Own env y) (hnk:nk ≠ key)
    (h1:∀ v,valueAt kvs i=some v→Q .next (aH ρ y (.raw v)))
    (h2:valueAt kvs i=none→∀ l o',o'.IsDictOf (DK X) (stored kvs i (.ref l))→Q .next (aH (aH (aH ρ nk (.at l { cls:=.type "list",data:=.seq #[] })) key (.at d o')) y (.raw (.ref l))))
    (hd:(x == ("__debug__":Str))=false:=by decide)
    (hev:eval (.Call (.Attribute (.Name x px) "setdefault" apos) [e,.List [] lpos] [] cpos) env=(do
      let ov ← eval (.Name x px) env
      standAt apos.atName
      let (f,first) ← holding [ov] (getMethod ov "setdefault" pl)
      callWith cpos f first (backTo cpos (starEach [e,.List [] lpos] env)) []):=by rfl)
    (hst:starEach [e,.List [] lpos] env=[(false,eval e env),(false,eval (.List [] lpos) env)]:=by rfl) (hst2:starEach [.List [] lpos] env=[(false,eval (.List [] lpos) env)]:=by rfl)
    (hs:swapsWithSole [.Name y py] (.Call (.Attribute (.Name x px) "setdefault" apos) [e,.List [] lpos] [] cpos) pos.line env=pure false:=by rfl) (hw:swappedStores [.Name y py] (.Call (.Attribute (.Name x px) "setdefault" apos) [e,.List [] lpos] [] cpos) env=pure none:=by rfl) :
    Ex1 X k env ρ (.Assign [.Name y py] (.Call (.Attribute (.Name x px) "setdefault" apos) [e,.List [] lpos] [] cpos) pos) Q:=fun A bad O s R r=>by
  refine wpAny_Assign_stores ?_ hs hw
  refine MethodCall_ (wpAny_Name (Lk.load r.ok.kind (r.raw x _ hx) ?_) hd) hev
  refine getMethod_dictOf PySem.F.slot_dict_setdefault PySem.F.type_dict_setdefault (dictOf_at r hk ho) ?_
  refine callWith_method1 ?_ (by rw [hst,hst2]) (by rw [hst2];rfl)
  refine wpAny_items_cons (he.use R r fun v s1 x1 r1 q1=>?_) (by rw [hst,hst2])
  refine wpAny_items_cons (wpAny_mono (evn_list A bad O s1 R r1) (fun u s2 h=>?_) fun _ _ x=>x) hst2
  obtain ⟨x2,l,ol,rfl,hl,hol,_,rfl⟩:=h
  refine wpAny_items_nil ?_
  refine q1.intE fun t=>?_
  have r2:=r1.ext x2
  have D2:=dictOf_at r2 hk ho
  have x12:=x1.trans x2
  refine call_meetsIn PySem.F.slot_dict_setdefault D2.typeIs PySem.F.entry_dict_setdefault (PySem.F.args_dict_setdefault_3 _ _ _) (kt_meets_setdefault (DK X) d (intKind_is _ _ i t) hlow (.ref l)) ⟨kvs,D2,hz,fun v hv=>?_,fun hn h' hD' hs'=>?_⟩
  · show wpAny _ _ (assign (.Name y py) env v) _ _ _
    have x3:=x12.trans (Ext.toks s2 (s2.toks+1))
    refine wpAny_assign_Name (store_raw (r.ext x3) hy fun s4 st r4 _=>?_)
    exact ⟨.next,_,_,h1 v hv,rfl,(Step.of_ext x3).trans st,r4⟩
  · show wpAny _ _ (assign (.Name y py) env (.ref l)) _ _ _
    obtain ⟨o',ho',hd'⟩:=Heap.dictOf_iff.mp hD'
    obtain ⟨st2,r2'⟩:=r1.at_new nk x2 hl hol
    obtain ⟨st3,r3⟩:=r2'.at_change (x:=key) (s':={ s2 with heap:=h',toks:=s2.toks+1 }) (show aI _ key (.at d o) by show List.lookup _ _=_;rw [put_ne _ hnk.symm];exact hk) (fun b ob hb e=>(hs'.2 b hb).trans e) ho' rfl rfl
    refine wpAny_assign_Name (store_raw r3 hy fun s4 st r4 _=>?_)
    exact ⟨.next,_,_,h2 hn l o' hd',rfl,((Step.of_ext x1).trans (st2.trans st3)).trans st,r4⟩
theorem ex_appendAt {x key:Str} {px apos cpos pos:Pos} {pl:Sem Bool} {e:Expr} {l:Addr} {o:Obj} {ns:List Int} {i:Int} (hx:aI ρ x (.raw (.ref l))) (hk:aI ρ key (.at l o)) (ho:IObj o ns) (hz:ns.length≤sizeLine) (he:Ev X k env ρ e (.int i))
    (hq:∀ o',IObj o' (ns++[i])→Q .next (aH ρ key (.at l o')))
    (hd:(x == ("__debug__":Str))=false:=by decide)
    (hm:eval (.Call (.Attribute (.Name x px) "append" apos) [e] [] cpos) env=(do
      let ov ← eval (.Name x px) env
      standAt apos.atName
      let (f,first) ← holding [ov] (getMethod ov "append" pl)
      callWith cpos f first (backTo cpos (starEach [e] env)) []):=by rfl)
    (hst:starEach [e] env=[(false,eval e env)]:=by rfl) (hi:interactive env=false:=by rfl) (hs:swapsWith (.Call (.Attribute (.Name x px) "append" apos) [e] [] cpos) none pos.line env=pure false:=by rfl) :
    Ex1 X k env ρ (.Expr (.Call (.Attribute (.Name x px) "append" apos) [e] [] cpos) pos) Q:=fun A bad O s R r=>by
  obtain ⟨vs,n,rfl,hil⟩:=ho
  have hg:=(r.pt _ _ _ hk).2
  refine wpAny_Expr (MethodCall_ (wpAny_Name (Lk.load r.ok.kind (r.raw x _ hx) ?_) hd) hm) hi hs
  refine getMethod_list_of PySem.F.slot_list_append PySem.F.type_list_append ⟨_,hg,rfl,_,rfl⟩ ⟨_,hg,rfl⟩ (callWith_method1 (wpAny_items_cons (he.use R r fun v s1 x1 r1 q1=>wpAny_items_nil ?_) hst) hst)
  refine q1.intE fun t=>?_
  refine wpAny_list_append_plain ⟨n,x1.keep _ _ hg⟩ (fun h' hp hs'=>?_) (by rw [← Array.length_toList,hil.length];exact hz)
  obtain ⟨n',g'⟩:=hp
  obtain ⟨st2,r2⟩:=r1.at_change (s':={ s1 with heap:=h' }) hk (fun b ob hb e=>(hs'.2 b hb).trans e) g' rfl rfl
  exact ⟨.next,_,_,hq _ ⟨_,n',rfl,by rw [Array.toList_push];exact hil.append (.cons .nil)⟩,rfl,(Step.of_ext x1).trans st2,r2⟩
theorem evn_set {p pos:Pos} (hx:X.gl ("set":Str)=some (.type "set")) (hk:env.kindOf ("set":Str)=some .globalImplicit):EvN X k env ρ (.Call (.Name "set" p) [] [] pos) (fun o=>∃ led,o={ cls:=.type "set",dict:=none,data:=.set #[] 0 (.fresh 0 0 led) }):=fun A bad O s R r =>
  wpAny_Call_Name_kw (glob_use r hx hk (PyProof.Rows.callWith_type0 (call_set_0 fun led=>⟨Ext.push _ _,_,_,rfl,get_size _,Heap.get?_push_size _ rfl,new_low r (Nat.le_refl _),led,rfl⟩)))
end
noncomputable def posTo (bs:List Int) (n:Nat) (x:Int):List Int:=((List.range n).filter fun j=>bs[j]? == some x).map fun j:Nat=>(j:Int)
theorem posTo_succ (bs:List Int) (n:Nat) (x:Int):posTo bs (n+1) x=posTo bs n x++(if bs[n]?=some x then [(n:Int)] else []):=by
  unfold posTo
  rw [List.range_succ,List.filter_append,List.map_append]
  congr 1
  by_cases h:bs[n]?=some x <;> simp [h]
theorem posTo_length (bs:List Int) (n:Nat) (x:Int):(posTo bs n x).length≤n:=by
  unfold posTo
  rw [List.length_map]
  exact Nat.le_trans (List.length_filter_le _ _) (by simp)
noncomputable def ixn (x:Int):Str:=⟨#[36,if x < 0 then 1 else 0,x.natAbs]⟩
theorem ixn_inj {x y:Int} (h:ixn x=ixn y):x=y:=by
  unfold ixn at h
  injection h with h
  simp only [Array.mk.injEq,List.cons.injEq,and_true,true_and] at h
  obtain ⟨h1,h2⟩:=h
  split at h1 <;> split at h1 <;> lia
theorem ne_ixn {s:Str} {x:Int} (h:s.cps[0]? ≠ some 36:=by decide):s ≠ ixn x:=fun e=>h (by rw [e];rfl)
noncomputable def ChainD (X:Cx) (h:Heap) (bs:List Int) (d:Addr):Prop:=∃ kvs:List (Int×Value),h.DictOf (DK X) d kvs∧(d == sysModules)=false∧kvs.length≤sizeLine ∧
  ∀ x,(∃ v l o,valueAt kvs x=some v∧v=.ref l∧h.get? l=some o∧IObj o (posTo bs bs.length x))∨(valueAt kvs x=none∧posTo bs bs.length x=[])
noncomputable def EmptySet (h:Heap) (a:Addr):Prop:=∃ led,h.get? a=some { cls:=.type "set",dict:=none,data:=.set #[] 0 (.fresh 0 0 led) }
theorem Rep.hide {bad:Addr→Prop} {h:Heap} {dx:Addr} {o:Obj} {d:PyData} {v:Value} (q:Rep bad h d v) (ho:h.get? dx=some o) (hn:∀ vs n,o.data ≠ .seq vs n):Rep bad (h.hide dx) d v :=
  q.keep fun b ob vs n _ e ed=>by
    rw [Heap.hide_ne _ fun z=>?_];exact e
    subst z;rw [ho] at e;cases e;exact hn vs n ed
local macro_rules | `(tactic| k_mem)=>`(tactic| ((repeat (first | with_reducible exact hs | refine hn ?_ rfl | refine hn2 ne_ixn ?_)) <;> first | assumption | exact hs | rfl))
theorem valueAt_stored (kvs:List (Int×Value)) (k:Int) (v:Value) (h:valueAt kvs k=none) (x:Int):valueAt (stored kvs k v) x=if x=k then some v else valueAt kvs x:=by
  have hn:(kvs.any fun kv=>decide (kv.1=k))=false:=by
    rw [List.any_eq_false]
    intro kv hkv he
    unfold valueAt at h
    rw [Option.map_eq_none_iff,List.find?_eq_none] at h
    exact h kv hkv he
  unfold stored
  rw [if_neg (by rw [hn];simp)]
  unfold valueAt
  rw [List.find?_append]
  by_cases hx:x=k
  · subst hx
    unfold valueAt at h
    rw [Option.map_eq_none_iff] at h
    rw [h];simp
  · rw [if_neg hx]
    have:List.find? (fun kv:Int×Value=>decide (kv.1=x)) [(k,v)]=none:=by simp [Ne.symm hx]
    rw [this,Option.or_none]
inductive LtrAt (ρ:List (Str×B)) (kvs:List (Int×Value)) (js:List Int) (c:Int):Prop
  | som {l:Addr} {ol:Obj}:valueAt kvs c=some (.ref l)→aI ρ (ixn c) (.at l ol)→IObj ol js→LtrAt ρ kvs js c
  | non:valueAt kvs c=none→js=[]→LtrAt ρ kvs js c
theorem LtrAt.pt {ρ:List (Str×B)} {kvs:List (Int×Value)} {js:List Int} {c:Int} (h:LtrAt ρ kvs js c) {z:Str} {b:B} (hz:z ≠ ixn c):LtrAt (aH ρ z b) kvs js c:=by
  cases h with
  | som a e d=>exact .som a (hn2 hz.symm e) d
  | non a e=>exact .non a e
structure CI (x la d dx:Addr) (o1:Obj) (ρ:List (Str×B)):Prop where
  s:aI ρ "self" (.raw (.ref x))
  b:aI ρ "b" (.raw (.ref la))
  t:aI ρ "b2j" (.raw (.ref d))
  d:aI ρ "#d" (.at dx o1)
theorem CI.pt {x la d dx:Addr} {o1:Obj} {ρ:List (Str×B)} (C:CI x la d dx o1 ρ) {z:Str} {b:B} (h:(neS "self" z && neS "b" z && neS "b2j" z && neS "#d" z)=true):CI x la d dx o1 (aH ρ z b):=by
  simp only [Bool.and_eq_true] at h
  exact ⟨hn C.s h.1.1.1,hn C.b h.1.1.2,hn C.t h.1.2,hn C.d h.2⟩
theorem CI.pti {x la d dx:Addr} {o1:Obj} {ρ:List (Str×B)} (C:CI x la d dx o1 ρ) {c:Int} {b:B}:CI x la d dx o1 (aH ρ (ixn c) b) :=
  ⟨hn2 ne_ixn C.s,hn2 ne_ixn C.b,hn2 ne_ixn C.t,hn2 ne_ixn C.d⟩
inductive CD (X:Cx) (d:Addr) (bs:List Int) (i:Nat) (ρ:List (Str×B)):Prop
  | mk {od:Obj} {kvs:List (Int×Value)}:aI ρ "#b" (.at d od)→od.IsDictOf (DK X) kvs→kvs.length≤i→(∀ c,LtrAt ρ kvs (posTo bs i c) c)→CD X d bs i ρ
theorem CD.pt {X:Cx} {d:Addr} {bs:List Int} {i:Nat} {ρ:List (Str×B)} (C:CD X d bs i ρ) {z:Str} {b:B} (h:(neS "#b" z && !decide (z.cps[0]?=some 36))=true):CD X d bs i (aH ρ z b):=by
  obtain ⟨a,b,c,e⟩:=C
  simp only [Bool.and_eq_true,Bool.not_eq_true',decide_eq_false_iff_not] at h
  exact ⟨hn a h.1,b,c,fun y=>(e y).pt (ne_ixn h.2)⟩
theorem posTo_at {bs:List Int} {i:Nat} {c:Int} (h:bs[i]?=some c):posTo bs (i+1) c=posTo bs i c++[(i:Int)]:=by rw [posTo_succ,if_pos h]
theorem posTo_off {bs:List Int} {i:Nat} {c c':Int} (h:bs[i]?=some c) (hc:¬ c'=c):posTo bs (i+1) c'=posTo bs i c':=by
  rw [posTo_succ,if_neg (by rw [h];intro e;cases e;exact hc rfl),List.append_nil]
theorem CD.old {X:Cx} {d l:Addr} {bs:List Int} {i:Nat} {c:Int} {ρ:List (Str×B)} {od ol':Obj} {kvs:List (Int×Value)} (a:aI ρ "#b" (.at d od)) (b:od.IsDictOf (DK X) kvs) (hl:kvs.length≤i) (e:∀ y,LtrAt ρ kvs (posTo bs i y) y) (h:bs[i]?=some c) (hv:valueAt kvs c=some (.ref l)) (ho:IObj ol' (posTo bs i c++[(i:Int)])) :
    CD X d bs (i+1) (aH ρ (ixn c) (.at l ol')):=by
  refine ⟨hn2 ne_ixn a,b,Nat.le_succ_of_le hl,fun y=>?_⟩
  by_cases hy:y=c
  · subst hy;rw [posTo_at h];exact .som hv hs ho
  · rw [posTo_off h hy];exact (e y).pt fun q=>hy (ixn_inj q).symm
theorem CD.fresh {X:Cx} {d l:Addr} {bs:List Int} {i:Nat} {c:Int} {ρ:List (Str×B)} {o' ol':Obj} {kvs:List (Int×Value)} {w1 w2:B} (hl:kvs.length≤i) (e:∀ y,LtrAt ρ kvs (posTo bs i y) y) (h:bs[i]?=some c) (hv:valueAt kvs c=none) (b:o'.IsDictOf (DK X) (stored kvs c (.ref l))) (ho:IObj ol' [(i:Int)]) :
    CD X d bs (i+1) (aH (aH (aH (aH ρ (ixn c) w1) "#b" (.at d o')) "indices" w2) (ixn c) (.at l ol')):=by
  refine ⟨hn2 ne_ixn (hn hs rfl),b,by have:=stored_length_le kvs c (.ref l);exact aZ 0xf111181a20f180a20100f rfl hl this,fun y=>?_⟩
  by_cases hy:y=c
  · subst hy
    have:posTo bs i y=[]:=by
      cases e y with
      | som hv' _ _=>rw [hv] at hv';cases hv'
      | non _ p=>exact p
    rw [posTo_at h,this];exact .som (by rw [valueAt_stored kvs y _ hv,if_pos rfl]) hs ho
  · rw [posTo_off h hy]
    have k:∀ {ρ':List (Str×B)},LtrAt ρ' kvs (posTo bs i y) y→LtrAt ρ' (stored kvs c (.ref l)) (posTo bs i y) y:=fun q=>by
      have:valueAt (stored kvs c (.ref l)) y=valueAt kvs y:=by rw [valueAt_stored kvs c _ hv,if_neg hy]
      cases q with
      | som a e d=>exact .som (this.trans a) e d
      | non a e=>exact .non (this.trans a) e
    have ne:ixn c ≠ ixn y:=fun q=>hy (ixn_inj q).symm
    exact k ((((e y).pt ne).pt (ne_ixn (by decide))).pt (ne_ixn (by decide)) |>.pt ne)
inductive CE (X:Cx) (dx:Addr) (m:Str→Option Value) (N:Nat) (bs:List Int) (ρ:List (Str×B)):Prop
  | mk {d js ps:Addr} {o' oj:Obj} {led:_}:aI ρ "#d" (.at dx o')→AObj o' (upd (upd (upd m "b2j" (.ref d)) "bjunk" (.ref js)) "bpopular" (.ref ps)) (N+3)→CD X d bs bs.length ρ→(d == sysModules)=false→aI ρ "#j" (.at js oj)→oj={ cls:=.type "set",dict:=none,data:=.set #[] 0 (.fresh 0 0 led) }→CE X dx m N bs ρ
theorem chain_call {X:Cx} {k:Nat} (F:DF X) {A:Around} {s:Shared} {x dx:Addr} {m:Str→Option Value} {N:Nat} {vb:Value} {bs:List Int} (R:Room (k+1) A) (a:At X s) (I:Inst s.heap 242 x dx m N) (hX:X.h₀.get? dx=none)
    (hb:m "b"=some vb) (rb:Rep (fun _=>False) s.heap (.list (bs.map .int)) vb) (hj:m "isjunk"=some .none) (haj:m "autojunk"=some (.bool false)) (hN:N+3 < 1000) (hz:bs.length≤sizeLine) :
    codeAny (model X.prog X.w) A (.call (.ref 188) ⟨[.ref x],[]⟩) (fun r s'=>r=.ok (.ret .none)∧KeepBut dx s s'∧∃ d js ps,Inst s'.heap 242 x dx (upd (upd (upd m "b2j" (.ref d)) "bjunk" (.ref js)) "bpopular" (.ref ps)) (N+3)∧ChainD X s'.heap bs d∧EmptySet s'.heap js) s:=by
  obtain ⟨cd,hC⟩:=F.cls
  obtain ⟨o,ho,hao⟩:=I.nsb.aobj
  obtain ⟨_,_,z,D⟩:=F.chain
  have hx:(s.heap.hide dx).get? x=some (instObj 242 dx):=by rw [Heap.hide_ne _ I.xne];exact I.obj
  obtain ⟨la,lvs,rfl,_,_⟩:=rb.isList
  refine codeAny_mono (method_frame (bad:=fun _=>False) (Dt:=fun d v=>d=.list (bs.map .int)∧v=.ref la) (bs:=[.raw (.ref x)]) (P:=fun fl ρ'=>fl=.next∧CE X dx m N bs ρ') D R a ho hao.noseq hX (fun h=>h) low_no (fun d v e=>by obtain ⟨rfl,rfl⟩:=e;exact rb.hide ho hao.noseq) (.cons (.raw _) .nil) rfl fun L=>?_) fun r s' h=>?_
  · generalize hQ:(fun (fl:Fl) (ρ':List (Str×B))=>(fl=.next∧CE X dx m N bs ρ')∧(∃ o',aI ρ' "#d" (.at dx o'))∧(fl=.next∨∃ d,fl=.ret d))=Q
    refine aB (ex_assignV (evv_attr (key:="#d") (m:=m) (N:=N) (by k_mem) ⟨hx,.inl ⟨o,by k_mem,hao⟩⟩ hC (F.own "b" (by decide)).1 hb) (bI (.inl rfl) ?_))
    refine aB (ex_assignN2 "#b" evn_dict fun d ob hlow hob=>bJ (key:="#d") (by k_mem) hx (by k_mem) hao hC (F.own "b2j" (by decide)).2 (by exact lq1 0xf113e81901f3e819380a1f rfl hN) fun o1 ha1=>bI (.inl rfl) ?_)
    subst hob
    refine aB (ex_for_enum (items:=bs.map .int) F.enumerate rfl (ev_ofV (bB (v:=.ref la) (by k_mem)) ⟨rfl,rfl⟩)
      (fun i ρ=>CI x la d dx o1 ρ∧CD X d bs i ρ)
      ⟨⟨by k_mem,by k_mem,by k_mem,by k_mem⟩,⟨by k_mem,⟨#[],0,⟨rfl,rfl,rfl⟩,rfl,fun _ he=>by simp at he,.nil,by simp⟩,Nat.zero_le _,fun c=>.non rfl rfl⟩⟩ ?_ ?_)
    · intro i dd ρ hi J Q1 H1
      obtain ⟨C,jk,jo,jl,jc⟩:=J
      rw [List.getElem?_map] at hi
      obtain ⟨c,hbi,rfl⟩:=Option.map_eq_some_iff.mp hi
      have hil:i < bs.length:=(List.getElem?_eq_some_iff.mp hbi).1
      refine ⟨_,asg_tuple (aV (aL (.inl rfl)) (aV (aL (.inl rfl)) asgl_nil)) rfl rfl,?_⟩
      have C1:=(C.pt (z:="i") (b:=.val (.int i)) rfl).pt (z:="elt") (b:=.val (.int c)) rfl
      have js:∀ y,LtrAt (aH (aH ρ "i" (.val (.int i))) "elt" (.val (.int c))) _ (posTo bs i y) y:=fun y=>((jc y).pt (ne_ixn (by decide))).pt (ne_ixn (by decide))
      have jk1:=hn (x:="elt") (b:=.val (.int c)) (hn (x:="i") (b:=.val (.int i)) jk rfl) rfl
      have ei:aI (aH (aH ρ "i" (.val (.int i))) "elt" (.val (.int c))) "i" (.val (.int i)):=hn hs rfl
      have ee:aI (aH (aH ρ "i" (.val (.int i))) "elt" (.val (.int c))) "elt" (.val (.int c)):=hs
      generalize aH (aH ρ "i" (.val (.int i))) "elt" (.val (.int c))=ρ1 at *
      clear C jk jc hi
      refine aB (ex_setdefault (key:="#b") (nk:=ixn c) (d:=d) (kvs:=_) (i:=c) C1.t jk1 jo hlow (by exact lq4 0xf1111120f031320100f rfl hz jl hil) (aA ee) (.inl rfl) (Ne.symm ne_ixn) (fun v hv=>?_) (fun hv l o' ho'=>?_))
      · cases js c with
        | non hv' _=>rw [hv] at hv';cases hv'
        | @som l ol hv' hl hol =>
        rw [hv] at hv';cases hv'
        exact aB (ex_appendAt (key:=ixn c) (l:=l) (o:=ol) (i:=i) hs (hn2 (Ne.symm ne_ixn) hl) hol (by have:=posTo_length bs i c;exact lq4 0xf1111130f230021100f rfl hz hil this) (aA (hn ei rfl)) fun o'' ho'' =>
          aE (H1.next ⟨(C1.pt rfl).pti,.old (hn jk1 rfl) jo jl (fun y=>(js y).pt (ne_ixn (by decide))) hbi hv ho''⟩))
      · exact aB (ex_appendAt (key:=ixn c) (l:=l) (i:=i) hs (hn2 (Ne.symm ne_ixn) (hn2 (Ne.symm ne_ixn) hs)) IObj.nil (by simp) (aA (hn (hn (hn2 ne_ixn ei) rfl) rfl)) fun o'' ho'' =>
          aE (H1.next ⟨((C1.pti.pt rfl).pt rfl).pti,.fresh jl js hbi hv ho' ho''⟩))
    · rintro ρ ⟨C,D⟩
      rw [List.length_map] at D
      refine aB (ex_assignN2 "#j" (evn_set F.set rfl) fun jn oj _ hoj=>bJ (key:="#d") (hn C.s rfl) hx (hn C.d rfl) ha1 hC (F.own "bjunk" (by decide)).2 (by exact lq1 0xf113e819180a1f3e819380a1f rfl hN) fun o2 ha2=>bI (.inl rfl) ?_)
      obtain ⟨led,rfl⟩:=hoj
      have D1:=((D.pt (z:="#j") (b:=.at jn { cls:=.type "set",dict:=none,data:=.set #[] 0 (.fresh 0 0 led) }) rfl).pt (z:="#d") (b:=.at dx o2) rfl).pt (z:="junk") (b:=.raw (.ref jn)) rfl
      have s1:aI (aH (aH (aH ρ "#j" (.at jn { cls:=.type "set",dict:=none,data:=.set #[] 0 (.fresh 0 0 led) })) "#d" (.at dx o2)) "junk" (.raw (.ref jn))) "self" (.raw (.ref x)):=hn (hn (hn C.s rfl) rfl) rfl
      have b1:aI (aH (aH (aH ρ "#j" (.at jn { cls:=.type "set",dict:=none,data:=.set #[] 0 (.fresh 0 0 led) })) "#d" (.at dx o2)) "junk" (.raw (.ref jn))) "b" (.raw (.ref la)):=hn (hn (hn C.b rfl) rfl) rfl
      have d1:aI (aH (aH (aH ρ "#j" (.at jn { cls:=.type "set",dict:=none,data:=.set #[] 0 (.fresh 0 0 led) })) "#d" (.at dx o2)) "junk" (.raw (.ref jn))) "#d" (.at dx o2):=hn hs rfl
      have j1:aI (aH (aH (aH ρ "#j" (.at jn { cls:=.type "set",dict:=none,data:=.set #[] 0 (.fresh 0 0 led) })) "#d" (.at dx o2)) "junk" (.raw (.ref jn))) "#j" (.at jn { cls:=.type "set",dict:=none,data:=.set #[] 0 (.fresh 0 0 led) }):=hn (hn hs rfl) rfl
      generalize aH (aH (aH ρ "#j" (.at jn { cls:=.type "set",dict:=none,data:=.set #[] 0 (.fresh 0 0 led) })) "#d" (.at dx o2)) "junk" (.raw (.ref jn))=ρ1 at *
      clear C D ha1
      refine aB (ex_assignV (evv_attr (key:="#d") (N:=N+2) (v:=.none) s1 ⟨hx,.inl ⟨o2,d1,ha2⟩⟩ hC (F.own "isjunk" (by decide)).1 hj) (bI (.inl rfl) ?_))
      refine aB (ex_if (b:=false) (tst_none (bB hs)) (fun e=>by cases e) fun _=>aE ?_)
      refine aB (ex_assignN2 "#p" (evn_set F.set rfl) fun pl op _ hop=>bJ (key:="#d") (hn (hn s1 rfl) rfl) hx (hn (hn d1 rfl) rfl) ha2 hC (F.own "bpopular" (by decide)).2 (by exact lq1 0xf113e81918180aa1f3e819380a1f rfl hN) fun o3 ha3=>bI (.inl rfl) ?_)
      refine aB (aR (d:=.int bs.length) (bG (ev_len F.len rfl (bK (ev_ofV (bB (v:=.ref la) (hn (hn (hn (hn b1 rfl) rfl) rfl) rfl)) ⟨rfl,rfl⟩)) (by rw [List.length_map];exact hz)) (by rw [List.length_map])) (.inl rfl) ?_)
      refine aB (ex_if (b:=false) (bC (b:=false) (c:=true) (tst_bool (ev_ofBool (evv_attr (key:="#d") (N:=N+3) (hn (hn (hn (hn (hn s1 rfl) rfl) rfl) rfl) rfl) ⟨hx,.inl ⟨o3,hn (hn hs rfl) rfl,ha3⟩⟩ hC (F.own "autojunk" (by decide)).1 haj))) fun e=>by cases e) (fun e=>by cases e) fun _=>aE (aE ?_))
      rw [← hQ]
      exact ⟨⟨rfl,hn (hn hs rfl) rfl,ha3,((((D1.pt rfl).pt rfl).pt rfl).pt rfl).pt rfl,hlow,hn (hn (hn (hn (hn j1 rfl) rfl) rfl) rfl) rfl,rfl⟩,⟨o3,hn (hn hs rfl) rfl⟩,.inl rfl⟩
  · obtain ⟨v,fl,ρ',O',L,rfl,⟨rfl,h1⟩,hv,kb,r'⟩:=h
    cases hv
    obtain ⟨g1,g2,⟨c1,c2,c3,c4⟩,g4,g5,rfl⟩:=h1
    refine ⟨rfl,kb,_,_,_,⟨kb.keep _ _ I.xne I.obj,g2.nsb (r'.pt _ _ _ g1).2⟩,⟨_,Heap.dictOf_iff.mpr ⟨_,(r'.pt _ _ _ c1).2,c2⟩,g4,by exact aZ 0xf111120f020100f rfl hz c3,fun c=>?_⟩,_,(r'.pt _ _ _ g5).2⟩
    cases c4 c with
    | som a e d=>exact .inl ⟨_,_,_,a,rfl,(r'.pt _ _ _ e).2,d⟩
    | non a e=>exact .inr ⟨a,e⟩
theorem execs_append {M:Model} {A:Around} {E:Value→Shared→Prop} {env:Env} {ss2:List Stmt} {Q:Flow→Shared→Prop}:∀ (ss1:List Stmt) {s:Shared},
    wpAny M A (execs ss1 env) (fun f s'=>match f with | .next=>wpAny M A (execs ss2 env) Q E s' | f=>Q f s') E s→wpAny M A (execs (ss1++ss2) env) Q E s:=by
  intro ss1 s h Γ p hΓ
  have key:∀ (ss1:List Stmt) (p:Pos) (s:Shared),Sem.wp M Γ (execs ss1 env) (fun f _ s'=>match f with | .next=>wpAny M A (execs ss2 env) Q E s' | f=>Q f s') (fun e _ s'=>E e s') p s→Sem.wp M Γ (execs (ss1++ss2) env) (fun a _ s'=>Q a s') (fun e _ s'=>E e s') p s:=by
    intro ss1
    induction ss1 with
    | nil=>intro p s h;exact h Γ p hΓ
    | cons st ss ih =>
      intro p s h
      rw [List.cons_append,execs_cons,Sem.wp_bind']
      rw [execs_cons,Sem.wp_bind'] at h
      refine Sem.wp_mono M Γ _ (fun f p' s' h'=>?_) (fun _ _ _ h'=>h') _ _ h
      cases f with
      | next=>exact ih p' s' h'
      | ret v=>exact h'
      | brk=>exact h'
      | cont=>exact h'
  exact key ss1 p s (h Γ p hΓ)
section
variable {X:Cx} {k:Nat} {env:Env} {ρ:List (Str×B)} {Q:Fl→List (Str×B)→Prop}
theorem Exs.then {ss1 ss2:List Stmt} {P:List (Str×B)→Prop} (h:Exs X k env ρ ss1 fun f ρ'=>f=.next∧P ρ') {A:Around} {bad:Addr→Prop} {O:Str→Option Addr} {s:Shared} {Qw:Flow→Shared→Prop} (R:Room k A) (r:Rel X bad O env ρ s)
    (h2:∀ ρ' O' s',P ρ'→Step env O O' s s'→Rel X bad O' env ρ' s'→wpAny (model X.prog X.w) A (execs ss2 env) Qw noE s'):wpAny (model X.prog X.w) A (execs (ss1++ss2) env) Qw noE s :=
  execs_append ss1 (wpAny_mono (h A bad O s R r) (fun fl s' p=>by
    obtain ⟨f,ρ',O',⟨rfl,hP⟩,hfi,st,r'⟩:=p
    cases hfi
    exact h2 ρ' O' s' hP st r') fun _ _ x=>x)
theorem ex_mcallS {C x dx f:Addr} {cd:ClassData} {key:Str} {m:Str→Option Value} {N:Nat} {y name:Str} {yp apos cpos pos:Pos} {pl:Sem Bool} {e:Expr} {es:List Expr} {od:Obj} {o:Obj} {fd:FuncData} {vs:List Value} {Po:Obj→Prop}
    (hy:aI ρ y (.raw (.ref x))) (hx:X.h₀.get? x=some (instObj C dx)) (hk:aI ρ key (.at dx od)) (had:AObj od m N) (hC:ClsOk X.K C cd) (hf:findIn X.K (.ref C) name=some (some (.ref f))) (ht:typeIn X.K (.ref f)=some (.type "function")) (hm:m name=none)
    (ho:X.h₀.get? f=some o) (hdat:o.data=.func fd) (ha:EvVL X k env ρ cpos (e :: es) vs)
    (hcall:∀ (A:Around) (bad:Addr→Prop) (O:Str→Option Addr) (s:Shared),Room k A→Rel X bad O env ρ s→codeAny (model X.prog X.w) A (.call (.ref f) ⟨.ref x :: vs,[]⟩) (fun r s'=>r=.ok (.ret .none)∧KeepBut dx s s'∧∃ o',s'.heap.get? dx=some o'∧Po o') s)
    (hq:∀ o',Po o'→Q .next (aH ρ key (.at dx o')))
    (he:eval (.Call (.Attribute (.Name y yp) name apos) (e :: es) [] cpos) env=(do
      let ov ← eval (.Name y yp) env
      standAt apos.atName
      let (f,first) ← holding [ov] (getMethod ov name pl)
      callWith cpos f first (backTo cpos (starEach (e :: es) env)) []):=by rfl)
    (hst:starEach (e :: es) env=(false,eval e env) :: starEach es env:=by rfl) (hd:(y == ("__debug__":Str))=false:=by decide)
    (hi:interactive env=false:=by rfl) (hs:swapsWith (.Call (.Attribute (.Name y yp) name apos) (e :: es) [] cpos) none pos.line env=pure false:=by rfl) :
    Ex1 X k env ρ (.Expr (.Call (.Attribute (.Name y yp) name apos) (e :: es) [] cpos) pos) Q:=fun A bad O s R r=>by
  refine wpAny_Expr (mcall_use (Pa:=fun us _=>us=vs) R r hy ⟨hx,.inl ⟨od,hk,had⟩⟩ hC hf ht hm ho hdat (ha A bad O s R r) (fun us s1 x1 r1 e=>?_) he hst hd) hi hs
  subst e
  refine wpAny_call (codeAny_mono (hcall A bad O s1 R r1) fun res s2 h=>?_)
  obtain ⟨rfl,kb,o',ho',hP⟩:=h
  obtain ⟨st,r2⟩:=r1.at_change (s':=s2) hk kb.keep ho' kb.gens kb.os
  exact ⟨.next,_,_,hq o' hP,rfl,(Step.of_ext x1).trans st,r2⟩
end
theorem Rel.dxNone {X:Cx} {env:Env} {ρ:List (Str×B)} {bad:Addr→Prop} {O:Str→Option Addr} {s:Shared} {key:Str} {a:Addr} {o:Obj} (r:Rel X bad O env ρ s) (h:aI ρ key (.at a o)):X.h₀.get? a=none:=(r.good key a (r.pt _ _ _ h).1).2.1
structure Seq2Post (X:Cx) (s':Shared) (x dx:Addr) (m:Str→Option Value) (vb:Value) (bs:List Int) (N:Nat) (d js ps:Addr):Prop where
  inst:Inst s'.heap 242 x dx (upd (upd (upd (upd (upd (upd (upd m "b" vb) "matching_blocks" .none) "opcodes" .none) "fullbcount" .none) "b2j" (.ref d)) "bjunk" (.ref js)) "bpopular" (.ref ps)) N
  chain:ChainD X s'.heap bs d
  junk:EmptySet s'.heap js
theorem method_frame_wp {X:Cx} {k:Nat} {f:Addr} {fd:FuncData} {body:List Stmt} {names:List Str} (D:DefAt X f fd body names) {A:Around} {bad:Addr→Prop} {s:Shared} {dx:Addr} {o:Obj} {vs:List Value} {bs:List B} {Dt:PyData→Value→Prop} {P:Value→Shared→Prop}
    (R:Room (k+1) A) (a:At X s) (ho:s.heap.get? dx=some o) (hns:∀ vs n,o.data ≠ .seq vs n) (hX:X.h₀.get? dx=none) (hb:¬ bad dx) (low:∀ a,bad a→∃ o,s.heap.get? a=some o) (hdat:∀ d v,Dt d v→Rep bad (s.heap.hide dx) d v) (q:BindsOk bad s.heap bs vs) (hl:vs.length=names.length)
    (h:∀ L A' O s₁,Room k A'→Rel (X.on (s.heap.hide dx) Dt) bad O (callEnvC fd L f) (aH (names.zip bs) "#d" (.at dx o)) s₁ →
      wpAny (model (X.on (s.heap.hide dx) Dt).prog (X.on (s.heap.hide dx) Dt).w) A' (execs body (callEnvC fd L f)) (fun fl s'=>∃ v,(fl=.next∧v=.none∨fl=.ret v)∧At (X.on (s.heap.hide dx) Dt) s'∧P v s') noE s₁) :
    codeAny (model X.prog X.w) A (.call (.ref f) ⟨vs,[]⟩) (fun r s'=>∃ v,r=.ok (.ret v)∧KeepBut dx s s'∧P v s') s:=by
  have ho':=hide_on a hX
  have aX:At (X.on (s.heap.hide dx) Dt) s:=⟨a.wf.on ho',fun b o e=>Heap.of_hide e,a.gens,a.os⟩
  refine call_body (X:=X.on (s.heap.hide dx) Dt) (D.on ho') (bad:=bad) R aX low hdat q hl fun L A' s₁ R' r keep hpl hg hos=>?_
  have r1:=r.at_take (x:="#d") (a:=dx) (o:=o) (keep _ _ ho) hns (Heap.hide_self _ _) (hpl _ _ ho) (fun h=>hb (badO_nO h))
  refine wpAny_mono (h L A' _ s₁ R' r1) (fun fl s' p=>?_) fun _ _ x=>x
  obtain ⟨v,hfl,a',hP⟩:=p
  have kb:KeepBut dx s s':=⟨fun b o hb e=>a'.base b o (by show (s.heap.hide dx).get? b=_;rw [Heap.hide_ne _ hb];exact e),a'.gens.trans a.gens.symm,a'.os.trans a.os.symm⟩
  rcases hfl with ⟨rfl,rfl⟩ | rfl
  · exact ⟨.none,rfl,kb,hP⟩
  · exact ⟨v,rfl,kb,hP⟩
theorem At.keepBut {X:Cx} {s s':Shared} {dx:Addr} (a:At X s) (hX:X.h₀.get? dx=none) (kb:KeepBut dx s s'):At X s':=⟨a.wf,fun b o e=>kb.keep b o (fun z=>by rw [z,hX] at e;cases e) (a.base b o e),kb.gens.trans a.gens,kb.os.trans a.os⟩
theorem set_seq2_call {X:Cx} {k:Nat} (F:DF X) {A:Around} {s:Shared} {x dx:Addr} {m:Str→Option Value} {N:Nat} {vb v0:Value} {bs:List Int} (R:Room (k+2) A) (a:At X s) (I:Inst s.heap 242 x dx m N) (hX:X.h₀.get? dx=none)
    (hm:m "b"=some v0) (hn:NotSame (s.heap.hide dx) vb v0) (hv0:handedIn v0=true) (rb:Rep (fun _=>False) s.heap (.list (bs.map .int)) vb) (hj:m "isjunk"=some .none) (haj:m "autojunk"=some (.bool false)) (hmc:m "_SequenceMatcher__chain_b"=none) (hN:N+7 < 1000) (hz:bs.length≤sizeLine) :
    codeAny (model X.prog X.w) A (.call (.ref 181) ⟨[.ref x,vb],[]⟩) (fun r s'=>∃ v,r=.ok (.ret v)∧KeepBut dx s s'∧v=.none∧∃ d js ps,Seq2Post X s' x dx m vb bs (N+7) d js ps) s:=by
  obtain ⟨cd,hC⟩:=F.cls
  obtain ⟨o,ho,hao⟩:=I.nsb.aobj
  obtain ⟨_,_,z,D⟩:=F.seq2
  have hx:(s.heap.hide dx).get? x=some (instObj 242 dx):=by rw [Heap.hide_ne _ I.xne];exact I.obj
  have F':DF (X.on (s.heap.hide dx) fun _ _=>False):=F.on (hide_on a hX)
  obtain ⟨la,lvs,rfl,_,_⟩:=rb.isList
  refine method_frame_wp (bad:=fun _=>False) (Dt:=fun _ _=>False) (bs:=[.raw (.ref x),.raw (.ref la)]) D R a ho hao.noseq hX (fun h=>h) low_no (fun _ _ e=>e.elim) (.cons (.raw _) (.cons (.raw _) .nil)) rfl fun L A' O s₁ R' r=>?_
  refine Exs.then (ss1:=(aF (smSt 4)).take 5) (ss2:=(aF (smSt 4)).drop 5) (P:=fun ρ'=>aI ρ' "self" (.raw (.ref x))∧∃ o',aI ρ' "#d" (.at dx o')∧AObj o' (upd (upd (upd (upd m "b" (.ref la)) "matching_blocks" .none) "opcodes" .none) "fullbcount" .none) (N+4)) ?_ R' r ?_
  · refine aB (ex_doc ?_)
    refine aB (ex_if (b:=false) (tst_notSame (bB (by k_mem)) (evv_attr (key:="#d") (m:=m) (N:=N) (by k_mem) ⟨hx,.inl ⟨o,by k_mem,hao⟩⟩ hC (F.own "b" (by decide)).1 hm hv0) hn) (fun e=>by cases e) fun _=>aE ?_)
    refine aB (ex_assignV (bB (by k_mem)) (bJ (key:="#d") (by k_mem) hx (by k_mem) hao hC (F.own "b" (by decide)).2 (by exact lq1 0xf113e81901f3e819780a1f rfl hN) fun o1 ha1=>?_))
    refine aB (ex_assignV2 evv_none (bJ (key:="#d") (by k_mem) hx (by k_mem) ha1 hC (F.own "matching_blocks" (by decide)).2 (by exact lq1 0xf113e819180a1f3e819780a1f rfl hN) fun o2 ha2=>bJ (key:="#d") (by k_mem) hx (by k_mem) ha2 hC (F.own "opcodes" (by decide)).2 (by exact lq1 0xf113e81918180aa1f3e819780a1f rfl hN) fun o3 ha3=>?_))
    refine aB (ex_assignV evv_none (bJ (key:="#d") (by k_mem) hx (by k_mem) ha3 hC (F.own "fullbcount" (by decide)).2 (by exact lq1 0xf113e8191818180aaa1f3e819780a1f rfl hN) fun o4 ha4=>aE ?_))
    exact ⟨rfl,by k_mem,o4,by k_mem,ha4⟩
  · rintro ρ' O' s' ⟨hself,o',hd',ha'⟩ st r'
    obtain ⟨hfc,htc,zc,Dc⟩:=F'.chain
    obtain ⟨oc,hoc,hdc⟩:=Dc.obj
    refine wpAny_execs_cons (wpAny_Expr (mcall_use0 R' r' hself ⟨hx,.inl ⟨o',hd',ha'⟩⟩ hC hfc htc (by rw [← hmc];rfl) hoc hdc ?_))
    have I':Inst s'.heap 242 x dx _ (N+4):=SelfD.inst (key:="#d") ⟨hx,.inl ⟨o',hd',ha'⟩⟩ r'
    have rb':Rep (fun _=>False) s'.heap (.list (bs.map .int)) (.ref la):=(rb.hide ho hao.noseq).keep fun b ob _ _ _ e _=>r'.base b ob e
    refine wpAny_call (codeAny_mono (chain_call F' R' r'.at I' (r'.dxNone hd') (vb:=.ref la) rfl rb' (by rw [← hj];rfl) (by rw [← haj];rfl) (by exact lq1 0xf113e81938480aa1f3e819780a1f rfl hN) hz) fun res s2 h=>?_)
    obtain ⟨rfl,kb,d,js,ps,I2,hch,hem⟩:=h
    refine wpAny_execs_nil ⟨.none,.inl ⟨rfl,rfl⟩,r'.at.keepBut (r'.dxNone hd') kb,rfl,d,js,ps,I2,hch,hem⟩
noncomputable def m1of (m:Str→Option Value) (va:Value):Str→Option Value:=upd (upd (upd m "a" va) "matching_blocks" .none) "opcodes" .none
theorem set_seqs_call {X:Cx} {k:Nat} (F:DF X) {A:Around} {s:Shared} {x dx:Addr} {m:Str→Option Value} {N:Nat} {va vb:Value} {bs:List Int} (R:Room (k+3) A) (a:At X s) (I:Inst s.heap 242 x dx m N) (hX:X.h₀.get? dx=none)
    (hma:m "a"=some .none) (hva:va ≠ .none) (hm:m "b"=some .none) (rb:Rep (fun _=>False) s.heap (.list (bs.map .int)) vb) (hj:m "isjunk"=some .none) (haj:m "autojunk"=some (.bool false)) (hmc:m "_SequenceMatcher__chain_b"=none) (hm1:m "set_seq1"=none) (hm2:m "set_seq2"=none) (hN:N+10 < 1000) (hz:bs.length≤sizeLine) :
    codeAny (model X.prog X.w) A (.call (.ref 167) ⟨[.ref x,va,vb],[]⟩) (fun r s'=>∃ v,r=.ok (.ret v)∧KeepBut dx s s'∧v=.none∧∃ d js ps,Seq2Post X s' x dx (m1of m va) vb bs (N+10) d js ps) s:=by
  obtain ⟨cd,hC⟩:=F.cls
  obtain ⟨o,ho,hao⟩:=I.nsb.aobj
  obtain ⟨_,_,z,D⟩:=F.seqs
  have hx:(s.heap.hide dx).get? x=some (instObj 242 dx):=by rw [Heap.hide_ne _ I.xne];exact I.obj
  have F':DF (X.on (s.heap.hide dx) fun _ _=>False):=F.on (hide_on a hX)
  obtain ⟨la,lvs,rfl,_,_⟩:=rb.isList
  refine method_frame_wp (bad:=fun _=>False) (Dt:=fun _ _=>False) (bs:=[.raw (.ref x),.raw va,.raw (.ref la)]) D R a ho hao.noseq hX (fun h=>h) low_no (fun _ _ e=>e.elim) (.cons (.raw _) (.cons (.raw _) (.cons (.raw _) .nil))) rfl fun L A' O s₁ R' r=>?_
  refine Exs.then (ss1:=(aF (smSt 2)).take 2) (ss2:=(aF (smSt 2)).drop 2) (P:=fun ρ'=>aI ρ' "self" (.raw (.ref x))∧aI ρ' "b" (.raw (.ref la))∧∃ o',aI ρ' "#d" (.at dx o')∧AObj o' (m1of m va) (N+3)) ?_ R' r ?_
  · refine aB (ex_doc ?_)
    obtain ⟨hf1,ht1,z1,D1⟩:=F'.seq1
    obtain ⟨oc,hoc,hdc⟩:=D1.obj
    refine aB (ex_mcallS (key:="#d") (Po:=fun o'=>AObj o' (m1of m va) (N+3)) (vs:=[va]) (by k_mem) hx (by k_mem) hao hC hf1 ht1 hm1 hoc hdc (evvl_cons (bB (by k_mem)) evvl_nil) (fun A bad O s R r=>?_) fun o' ha'=>aE ?_)
    · refine codeAny_mono (set_seq1_call F' R r.at (SelfD.inst (key:="#d") ⟨hx,.inl ⟨o,by k_mem,hao⟩⟩ r) (r.dxNone (key:="#d") (a:=dx) (o:=o) (by k_mem)) hma (.inl ⟨rfl,hva⟩) rfl (by exact lq1 0xf113e819380a1f3e819a80a1f rfl hN)) fun res s' h=>?_
      obtain ⟨rfl,kb,I'⟩:=h
      exact ⟨rfl,kb,I'.nsb.aobj⟩
    · exact ⟨rfl,by k_mem,by k_mem,o',by k_mem,ha'⟩
  · rintro ρ' O' s' ⟨hself,hb',o',hd',ha'⟩ st r'
    obtain ⟨hf2,ht2,z2,D2⟩:=F'.seq2
    obtain ⟨oc,hoc,hdc⟩:=D2.obj
    refine wpAny_execs_cons (wpAny_Expr (mcall_use (Pa:=fun us _=>us=[.ref la]) R' r' hself ⟨hx,.inl ⟨o',hd',ha'⟩⟩ hC hf2 ht2 (by rw [← hm2];rfl) hoc hdc (evvl_cons (bB hb') evvl_nil rfl A' _ O' s' R' r') (fun us s1 x1 r1 e=>?_)))
    subst e
    have I':Inst s1.heap 242 x dx _ (N+3):=SelfD.inst (key:="#d") ⟨hx,.inl ⟨o',hd',ha'⟩⟩ r1
    have rb':Rep (fun _=>False) s1.heap (.list (bs.map .int)) (.ref la):=(rb.hide ho hao.noseq).keep fun b ob _ _ _ e _=>r1.base b ob e
    refine wpAny_call (codeAny_mono (set_seq2_call F' R' r1.at I' (r1.dxNone hd') (vb:=.ref la) (v0:=.none) (by rw [← hm];rfl) (.inl ⟨rfl,fun e=>by cases e⟩) rfl rb' (by rw [← hj];rfl) (by rw [← haj];rfl) (by rw [← hmc];rfl) (by exact lq1 0xf113e81978380aa1f3e819a80a1f rfl hN) hz) fun res s2 h=>?_)
    obtain ⟨v,rfl,kb,rfl,d,js,ps,hp⟩:=h
    exact wpAny_execs_nil ⟨.none,.inl ⟨rfl,rfl⟩,r1.at.keepBut (r1.dxNone hd') kb,rfl,d,js,ps,hp.inst,hp.chain,hp.junk⟩
noncomputable def m0of:Str→Option Value:=upd (upd (upd (upd (fun _=>none) "isjunk" .none) "a" .none) "b" .none) "autojunk" (.bool false)
theorem init_call {X:Cx} {k:Nat} (F:DF X) {A:Around} {s:Shared} {x dx:Addr} {va vb:Value} {bs:List Int} (R:Room (k+4) A) (a:At X s) (I:Inst s.heap 242 x dx (fun _=>none) 0) (hX:X.h₀.get? dx=none)
    (hva:va ≠ .none) (rb:Rep (fun _=>False) s.heap (.list (bs.map .int)) vb) (hz:bs.length≤sizeLine) :
    codeAny (model X.prog X.w) A (.call (.ref 160) ⟨[.ref x,.none,va,vb,.bool false],[]⟩) (fun r s'=>∃ v,r=.ok (.ret v)∧KeepBut dx s s'∧v=.none∧∃ d js ps,Seq2Post X s' x dx (m1of m0of va) vb bs 14 d js ps) s:=by
  obtain ⟨cd,hC⟩:=F.cls
  obtain ⟨o,ho,hao⟩:=I.nsb.aobj
  obtain ⟨_,_,z,D⟩:=F.init
  have hx:(s.heap.hide dx).get? x=some (instObj 242 dx):=by rw [Heap.hide_ne _ I.xne];exact I.obj
  have F':DF (X.on (s.heap.hide dx) fun _ _=>False):=F.on (hide_on a hX)
  obtain ⟨la,lvs,rfl,_,_⟩:=rb.isList
  refine method_frame_wp (bad:=fun _=>False) (Dt:=fun _ _=>False) (bs:=[.raw (.ref x),.raw .none,.raw va,.raw (.ref la),.raw (.bool false)]) D R a ho hao.noseq hX (fun h=>h) low_no (fun _ _ e=>e.elim) (.cons (.raw _) (.cons (.raw _) (.cons (.raw _) (.cons (.raw _) (.cons (.raw _) .nil))))) rfl fun L A' O s₁ R' r=>?_
  refine Exs.then (ss1:=(aF (smSt 1)).take 4) (ss2:=(aF (smSt 1)).drop 4) (P:=fun ρ'=>aI ρ' "self" (.raw (.ref x))∧aI ρ' "a" (.raw va)∧aI ρ' "b" (.raw (.ref la))∧∃ o',aI ρ' "#d" (.at dx o')∧AObj o' m0of 4) ?_ R' r ?_
  · refine aB (ex_doc ?_)
    refine aB (ex_assignV (bB (by k_mem)) (bJ (key:="#d") (by k_mem) hx (by k_mem) hao hC (F.own "isjunk" (by decide)).2 (by exact lqx [] [] 0xf13e819081ff rfl) fun o1 ha1=>?_))
    refine aB (ex_assignV2 evv_none (bJ (key:="#d") (by k_mem) hx (by k_mem) ha1 hC (F.own "a" (by decide)).2 (by exact lqx [] [] 0xf13e8191808a1ff rfl) fun o2 ha2=>bJ (key:="#d") (by k_mem) hx (by k_mem) ha2 hC (F.own "b" (by decide)).2 (by exact lqx [] [] 0xf13e819181808aa1ff rfl) fun o3 ha3=>?_))
    refine aB (ex_assignV (bB (by k_mem)) (bJ (key:="#d") (by k_mem) hx (by k_mem) ha3 hC (F.own "autojunk" (by decide)).2 (by exact lqx [] [] 0xf13e81918181808aaa1ff rfl) fun o4 ha4=>aE ?_))
    exact ⟨rfl,by k_mem,by k_mem,by k_mem,o4,by k_mem,ha4⟩
  · rintro ρ' O' s' ⟨hself,hav,hbv,o',hd',ha'⟩ st r'
    obtain ⟨hf2,ht2,z2,D2⟩:=F'.seqs
    obtain ⟨oc,hoc,hdc⟩:=D2.obj
    refine wpAny_execs_cons (wpAny_Expr (mcall_use (Pa:=fun us _=>us=[va,.ref la]) R' r' hself ⟨hx,.inl ⟨o',hd',ha'⟩⟩ hC hf2 ht2 rfl hoc hdc (evvl_cons (bB hav) (evvl_cons (bB hbv) evvl_nil) rfl A' _ O' s' R' r') (fun us s1 x1 r1 e=>?_)))
    subst e
    have I':Inst s1.heap 242 x dx _ 4:=SelfD.inst (key:="#d") ⟨hx,.inl ⟨o',hd',ha'⟩⟩ r1
    have rb':Rep (fun _=>False) s1.heap (.list (bs.map .int)) (.ref la):=(rb.hide ho hao.noseq).keep fun b ob _ _ _ e _=>r1.base b ob e
    refine wpAny_call (codeAny_mono (set_seqs_call F' R' r1.at I' (r1.dxNone hd') rfl hva rfl rb' rfl rfl rfl rfl rfl (by exact lqx [] [] 0xf13e819a848a1ff rfl) hz) fun res s2 h=>?_)
    obtain ⟨v,rfl,kb,rfl,d,js,ps,hp⟩:=h
    exact wpAny_execs_nil ⟨.none,.inl ⟨rfl,rfl⟩,r1.at.keepBut (r1.dxNone hd') kb,rfl,d,js,ps,hp.inst,hp.chain,hp.junk⟩
theorem weight_tc (C:Addr) (rest:List Value) (kw:List (Str×Value)):Code.weight (.builtin "type.__call__" ⟨.ref C :: rest,kw⟩)=1:=by rfl
theorem Room.tc {k:Nat} {A:Around} (r:Room (k+1) A) (C:Addr) (rest:List Value) (kw:List (Str×Value)):Room k (A.under (.builtin "type.__call__" ⟨.ref C :: rest,kw⟩)):=⟨r.handled,by
  have:=r.depth
  show A.depth+Code.weight _+_≤_
  rw [weight_tc];exact aQ 0xf113841910ab180aa0f38419181a0ab0a0f rfl this,by
  have:=r.units
  have h:Code.cUnits (.builtin "type.__call__" ⟨.ref C :: rest,kw⟩)≤1:=by first | exact Nat.le_refl 1 | exact Nat.zero_le 1 | decide
  show A.units+Code.cUnits _+_≤_
  exact aZ 0xf111232829164b20aa0f1820232829181a64b0a0f rfl this h⟩
theorem make_call {X:Cx} {k:Nat} (F:DF X) (hmk:makesIn X.K 242=true) {A:Around} {s:Shared} {va vb:Value} {bs:List Int} {P:Value→Shared→Prop} (R:Room (k+5) A) (a:At X s)
    (hva:va ≠ .none) (rb:Rep (fun _=>False) s.heap (.list (bs.map .int)) vb) (hz:bs.length≤sizeLine)
    (h:∀ x dx d js ps s',Ext s s'→s.heap.get? x=none→s.heap.get? dx=none→Seq2Post X s' x dx (m1of m0of va) vb bs 14 d js ps→P (.ref x) s') :
    wpAny (model X.prog X.w) A (call (.ref 242) [.none,va,vb,.bool false]) P noE s:=by
  obtain ⟨hf,ht,_⟩:=F.init
  have Kin:=a.wf.kin.keeps a.base
  refine wpAny_call ?_
  obtain ⟨hh,g,dr,t,os⟩:=s
  have none_at:∀ c,hh.objs.size≤c→hh.get? c=none:=fun c hc=>by
    cases e:hh.get? c with
    | none=>rfl
    | some o=>exact absurd (Heap.lt_size e) (Nat.not_lt.mpr hc)
  have k2:∀ b o,hh.get? b=some o→((hh.push emptyDict).push (instObj 242 hh.objs.size)).get? b=some o:=fun b o e=>Heap.get?_push_of_some _ (Heap.get?_push_of_some _ e)
  refine make_core (makes_of Kin hmk) (looks_findIn Kin hf) (fun self=>bind_fn Kin self ht) (.inl rfl) ?_
  have hX:X.h₀.get? hh.objs.size=none:=by
    cases e:X.h₀.get? hh.objs.size with
    | none=>rfl
    | some o=>have:=a.base _ _ e;rw [none_at _ (Nat.le_refl _)] at this;cases this
  have I:Inst ((hh.push emptyDict).push (instObj 242 hh.objs.size)) 242 (hh.objs.size+1) hh.objs.size (fun _=>none) 0:=⟨by
      have:=Heap.get?_push_size (hh.push emptyDict) (o:=instObj 242 hh.objs.size) rfl
      rwa [Heap.size_push] at this,⟨emptyDict,#[],0,Heap.get?_push_of_some _ (Heap.get?_push_size _ rfl),rfl,fun e he=>by simp at he,fun _=>rfl,Nat.le_refl _⟩⟩
  refine codeAny_mono (init_call F (R.tc 242 _ _) (s:=⟨(hh.push emptyDict).push (instObj 242 hh.objs.size),g,dr,t,os⟩) ⟨a.wf,fun b o e=>k2 b o (a.base b o e),a.gens,a.os⟩ I hX hva (rb.keep fun b o _ _ _ e _=>k2 b o e) hz) fun res s' hr=>?_
  obtain ⟨v,rfl,kb,rfl,d,js,ps,hp⟩:=hr
  refine ⟨rfl,h (hh.objs.size+1) hh.objs.size d js ps s' ⟨fun b o e=>kb.keep b o (Nat.ne_of_lt (Heap.lt_size e)) (k2 b o e),kb.gens,kb.os⟩ (none_at _ (by exact lq1 0xf1180a00ff rfl)) (none_at _ (Nat.le_refl _)) hp⟩
theorem md_get:typeLookup (.type "method_descriptor") "__get__"=pure (some (.builtin "method_descriptor.__get__")):=by rw [typeLookup_type,builtinLookup_eq_fast];kernel_rfl
theorem md_set:typeLookup (.type "method_descriptor") "__set__"=pure none:=by rw [typeLookup_type,builtinLookup_eq_fast];kernel_rfl
theorem md_del:typeLookup (.type "method_descriptor") "__delete__"=pure none:=by rw [typeLookup_type,builtinLookup_eq_fast];kernel_rfl
theorem md_slot:Slot "method_descriptor" "__get__" "method_descriptor.__get__" :=
  .of (owner:="method_descriptor") (n:="__get__") (by rw [typeLookup_type,builtinLookup_eq_fast];kernel_rfl) (by decide +kernel) (by decide +kernel) (by decide +kernel)
    (by first | exact .inl (by decide +kernel) | exact .inr (by decide +kernel)) (by rw [isSubtype_type];kernel_rfl)
theorem md_entry:entryFor table "method_descriptor.__get__"=some Builtin.«method_descriptor.__get__»:=entryFor_of_tree (by kernel_rfl)
theorem md_args (a b c:Value):argsOk "method_descriptor.__get__" ⟨[a,b,c],[]⟩:=by unfold argsOk;kernel_rfl
noncomputable def boundObj (id:String) (self:Value):Obj:={ cls:=.type "builtin_function_or_method",data:=.fields #[.builtin id,self] }
section
variable {prog:Program} {w:World} {A:Around} {E:Value→Shared→Prop} {s:Shared}
theorem md_run {T id:String} {a:Addr} {name:String} {P:Fin→Shared→Prop} (hT:s.TypeIs (.ref a) T) (ht:Manifest.toldItsClass.contains id=false) (hsub:isSubtype (.type T) (.type T)=pure true) (hown:(kfb_private% "ownerAndName") id=(T,name))
    (h:P (.done (.ret (.ref s.heap.objs.size))) { s with heap:=s.heap.push (boundObj id (.ref a)) }) :
    wpAny (model prog w) A (Builtin.«method_descriptor.__get__» ⟨[.builtin id,.ref a,.type T],[]⟩) P E s:=by
  unfold Builtin.«method_descriptor.__get__»
  refine wpAny_bind (wpAny_of_eq (a:=(.builtin id,some (.ref a),some (.type T))) (by first | rfl | kernel_rfl) ?_)
  simp only [ht,Bool.false_eq_true,if_false]
  show wpAny _ _ ((do (kfb_private% "checkInstance") (.builtin id) (.ref a);ret (← newFields "builtin_function_or_method" [.builtin id,.ref a]):Sem Fin)) _ _ _
  refine wpAny_bind ?_
  have hn:(kfb_private% "nameAndClass") (.builtin id)=pure (Str.ofString name,.type T):=by
    show (match (kfb_private% "ownerAndName") id with | (owner,name)=>(pure (Str.ofString name,Value.type owner):Sem (Str×Value)))=_
    rw [hown]
  show wpAny _ _ (bind ((kfb_private% "nameAndClass") (.builtin id)) _) _ _ _
  rw [hn]
  refine wpAny_bind (wpAny_pure ?_)
  dsimp only
  refine wpAny_bind (wpAny_isInstance (T:=T) (b:=true) hT hsub ?_)
  simp only [Bool.not_true,Bool.false_eq_true,if_false]
  refine wpAny_pure ?_
  refine wpAny_bind ?_
  exact wpAny_newObj_type (wpAny_pure h)
theorem gb_find {T id:String} {name:Str} {a:Addr} {o:Obj} {u:Tok} {nm:String} {P:Fin→Shared→Prop} (ho:s.heap.get? a=some o) (hc:o.cls=.type T) (hd:o.dict=none) (hdt:∀ c,o.data ≠ .cls c) (hl:typeLookup (.type T) name=pure (some (.builtin id))) (hty:typeOf (.builtin id)=pure (.type "method_descriptor"))
    (hname:(["__module__","__name__","__qualname__","__doc__","__annotations__"]:List Str).contains name=false) (ht:Manifest.toldItsClass.contains id=false) (hsub:isSubtype (.type T) (.type T)=pure true) (hown:(kfb_private% "ownerAndName") id=(T,nm))
    (h:P (.done (.ret (.ref s.heap.objs.size))) { s with heap:=s.heap.push (boundObj id (.ref a)) }) :
    wpAny (model prog w) A (Builtin.«object.__getattribute__» ⟨[.ref a,.str name u],[]⟩) P E s:=by
  have hT:s.TypeIs (.ref a) T:=⟨_,ho,hc⟩
  have hg:=md_get
  have hs:=md_set
  have hdl:=md_del
  obtain ⟨c,dct,dat,sl⟩:=o
  simp only at hc hd hdt
  subst hc hd
  unfold Builtin.«object.__getattribute__»
  repeat (any_goals (first | assumption | wp_step))
  have fin:wpAny (model prog w) A (instanceDict a false) (fun x s'=>x=none∧s'=s) E s:=by
    unfold instanceDict
    repeat (any_goals (first | assumption | wp_step))
    exact ⟨rfl,rfl⟩
  have here:∀ {Qf:Option Addr→Shared→Prop},Qf none s→wpAny (model prog w) A (match dat with | .cls c=>pure (some c.ns) | _=>instanceDict a false) Qf E s:=fun hq=>by
    cases dat <;> first | exact absurd rfl (hdt _) | exact wpAny_mono fin (fun x s' e=>by obtain ⟨rfl,rfl⟩:=e;exact hq) fun _ _ e=>e
  refine here ?_
  repeat (any_goals (first | assumption | wp_step))
  simp only [hname,Bool.false_eq_true,if_false]
  repeat (any_goals (first | assumption | ((with_reducible show wpAny _ _ (call (Value.builtin _) _ _) _ _ _);refine wpAny_call_entry md_slot hty md_entry (md_run hT ht hsub hown ⟨_,rfl,?_⟩) (md_args _ _ _)) | wp_step))
theorem getAttr_bound {T id ga:String} {name:Str} {a:Addr} {o:Obj} {nm:String} {Q:Value→Shared→Prop} (ho:s.heap.get? a=some o) (hc:o.cls=.type T) (hd:o.dict=none) (hdt:∀ c,o.data ≠ .cls c) (hl:typeLookup (.type T) name=pure (some (.builtin id))) (hty:typeOf (.builtin id)=pure (.type "method_descriptor"))
    (hname:(["__module__","__name__","__qualname__","__doc__","__annotations__"]:List Str).contains name=false) (ht:Manifest.toldItsClass.contains id=false) (hsub:isSubtype (.type T) (.type T)=pure true) (hown:(kfb_private% "ownerAndName") id=(T,nm))
    (sga:Slot T "__getattribute__" ga) (ega:entryFor table ga=some Builtin.«object.__getattribute__») (aga:∀ x y,argsOk ga ⟨[x,y],[]⟩)
    (h:Q (.ref s.heap.objs.size) { s with heap:=s.heap.push (boundObj id (.ref a)),toks:=s.toks+1 }):wpAny (model prog w) A (getAttr (.ref a) name true) Q E s:=by
  have hT:∀ tk,({ s with toks:=tk }:Shared).TypeIs (.ref a) T:=fun _=>⟨_,ho,hc⟩
  obtain ⟨c,dct,dat,sl⟩:=o
  simp only at hc hd hdt
  subst hc hd
  have f3:=sga.lookup
  have f4:=sga.bind (.ref a)
  unfold getAttr getAttrBy
  repeat (any_goals (first | assumption | exact hT _ | ((with_reducible show wpAny _ _ (call (Value.builtin _) _ _) _ _ _);refine wpAny_call_entry sga (hT _) ega (gb_find (s:={ s with toks:=s.toks+1 }) ho rfl rfl hdt hl hty hname ht hsub hown ⟨_,rfl,?_⟩) (aga _ _)) | wp_step))
end
theorem dget_type:Manifest.toldItsClass.contains "dict.get"=false:=by decide +kernel
theorem dget_own:(kfb_private% "ownerAndName") "dict.get"=("dict","get"):=by first | decide +kernel | kernel_rfl
theorem scon_type:Manifest.toldItsClass.contains "set.__contains__"=false:=by decide +kernel
theorem scon_own:(kfb_private% "ownerAndName") "set.__contains__"=("set","__contains__"):=by first | decide +kernel | kernel_rfl
theorem dget_sig:Manifest.signature? "dict.get"=some ⟨.positional,"dict.get","get",.self,[⟨"key",.posOnly,true⟩,⟨"default",.posOnly,false⟩]⟩:=by kernel_rfl
theorem scon_sig:Manifest.signature? "set.__contains__"=some ⟨.oneArg,"set.__contains__","__contains__",.self,[⟨"object",.posOnly,true⟩]⟩:=by kernel_rfl
theorem sub_dict_module:isSubtype (.type "dict") (.type "module")=pure false:=by rw [isSubtype_type];kernel_rfl
theorem sub_set_module:isSubtype (.type "set") (.type "module")=pure false:=by rw [isSubtype_type];kernel_rfl
theorem sub_dict_dict:isSubtype (.type "dict") (.type "dict")=pure true:=by rw [isSubtype_type];kernel_rfl
theorem sub_set_set:isSubtype (.type "set") (.type "set")=pure true:=by rw [isSubtype_type];kernel_rfl
section
variable {prog:Program} {w:World} {A:Around} {E:Value→Shared→Prop} {s:Shared}
theorem isType_no {a:Addr} {o:Obj} {Q:Bool→Shared→Prop} (ho:s.heap.get? a=some o) (hdt:∀ c,o.data ≠ .cls c) (h:Q false s):wpAny (model prog w) A (isType (.ref a)) Q E s:=by
  obtain ⟨c,dct,dat,sl⟩:=o
  unfold isType
  refine wpAny_bind (wpAny_loadPart ho (wpAny_pure ?_))
  cases dat <;> first | exact h | exact absurd rfl (hdt _)
theorem check_bound {T id:String} {a:Addr} {o:Obj} {rest:List Value} {sig:Manifest.Signature} {Q:Unit→Shared→Prop} (ho:s.heap.get? a=some o) (hc:o.cls=.type T) (hdt:∀ c,o.data ≠ .cls c) (hsig:Manifest.signature? id=some sig) (hkind:builtinKind id=some .method) (hv:Manifest.varargsMethods.contains id=false)
    (hmod:isSubtype (.type T) (.type "module")=pure false) (harg:Bind.checkArgs id { sig with full:=s!"{Bind.lastOf T}.{Bind.lastOf id}" } ⟨.ref a :: rest,[]⟩=pure ()) (h:Q () s):wpAny (model prog w) A (checkBoundCall id ⟨.ref a :: rest,[]⟩) Q E s:=by
  have hT:s.TypeIs (.ref a) T:=⟨_,ho,hc⟩
  unfold checkBoundCall
  rw [hsig]
  dsimp only
  rw [hkind]
  dsimp only
  rw [if_neg (by decide)]
  refine wpAny_bind (wpAny_isInstance (T:=T) (b:=false) hT hmod ?_)
  rw [hv]
  simp only [Bool.or_false,Bool.false_eq_true,if_false]
  refine wpAny_bind (isType_no ho hdt ?_)
  simp only [Bool.false_eq_true,if_false]
  refine wpAny_bind (wpAny_typeOf hT ?_)
  dsimp only
  exact wpAny_of_eq harg h
theorem call_bound {id:String} {B:Builtin} {g a:Addr} {rest:List Value} {Q:Value→Shared→Prop} (ho:s.heap.get? g=some (boundObj id (.ref a))) (hp:plainId id=true) (hb:entryFor table id=some B)
    (hchk:∀ {A':Around} {E':Value→Shared→Prop} {Q':Unit→Shared→Prop},Q' () s→wpAny (model prog w) A' (checkBoundCall id ⟨.ref a :: rest,[]⟩) Q' E' s)
    (h:wpAny (model prog w) A.in1 (B ⟨.ref a :: rest,[]⟩) (fun fin s'=>∃ v,fin=.done (.ret v)∧Q v s') E s):wpAny (model prog w) A (call (.ref g) rest) Q E s:=by
  refine wpAny_call (codeAny_of_tree ?_)
  show wpAny _ A.in1 (callAny (.ref g) ⟨rest,[]⟩) _ _ s
  simp only [callAny]
  refine wpAny_bind (wpAny_load ho ?_)
  simp only [boundObj,show (Value.type "builtin_function_or_method" == Value.type "method" || Value.type "builtin_function_or_method" == Value.type "builtin_function_or_method" || Value.type "builtin_function_or_method" == Value.type "method-wrapper")=true by decide,if_true]
  refine KFB.if_so (by decide) ?_
  refine wpAny_bind (hchk ?_)
  refine wpAny_bind (wpAny_pure (wpAny_pure ?_))
  refine ⟨plainId_quiet hp _,codeAny_builtin hb ?_⟩
  rw [Around.under_plainId hp]
  refine wpAny_mono h (fun fin s' hf=>?_) fun _ _ e=>e
  obtain ⟨v,rfl,hv⟩:=hf
  exact hv
theorem call_boundC {id T:String} {B:Builtin} {g a:Addr} {o:Obj} {rest:List Value} {sig:Manifest.Signature} {Q:Value→Shared→Prop} (ho:s.heap.get? g=some (boundObj id (.ref a))) (hp:plainId id=true) (hb:entryFor table id=some B) (hoa:s.heap.get? a=some o) (hc:o.cls=.type T) (hdt:∀ c,o.data ≠ .cls c) (hsig:Manifest.signature? id=some sig) (hkind:builtinKind id=some .method) (hv:Manifest.varargsMethods.contains id=false)
    (hmod:isSubtype (.type T) (.type "module")=pure false) (harg:Bind.checkArgs id { sig with full:=s!"{Bind.lastOf T}.{Bind.lastOf id}" } ⟨.ref a :: rest,[]⟩=pure ())
    (h:wpAny (model prog w) A.in1 (B ⟨.ref a :: rest,[]⟩) (fun fin s'=>∃ v,fin=.done (.ret v)∧Q v s') E s):wpAny (model prog w) A (call (.ref g) rest) Q E s :=
  call_bound ho hp hb (fun q=>check_bound hoa hc hdt hsig hkind hv hmod harg q) h
end
theorem dget_plain:plainId "dict.get"=true:=by decide +kernel
theorem dget_kind:builtinKind "dict.get"=some .method:=by decide +kernel
theorem dget_var:Manifest.varargsMethods.contains "dict.get"=false:=by decide +kernel
theorem scon_plain:plainId "set.__contains__"=true:=by decide +kernel
theorem scon_kind:builtinKind "set.__contains__"=some .method:=by decide +kernel
theorem scon_var:Manifest.varargsMethods.contains "set.__contains__"=false:=by decide +kernel
theorem dget_arg (a:Addr) (x y:Value):Bind.checkArgs "dict.get" ⟨.positional,s!"{Bind.lastOf "dict"}.{Bind.lastOf "dict.get"}","get",.self,[⟨"key",.posOnly,true⟩,⟨"default",.posOnly,false⟩]⟩ ⟨[.ref a,x,y],[]⟩=pure ():=by kernel_rfl
theorem scon_arg (a:Addr) (x:Value):Bind.checkArgs "set.__contains__" ⟨.oneArg,s!"{Bind.lastOf "set"}.{Bind.lastOf "set.__contains__"}","__contains__",.self,[⟨"object",.posOnly,true⟩]⟩ ⟨[.ref a,x],[]⟩=pure ():=by kernel_rfl
section
variable {X:Cx} {k:Nat} {env:Env} {ρ:List (Str×B)} {Q:Fl→List (Str×B)→Prop}
noncomputable def AtO (X:Cx) (ρ:List (Str×B)) (a:Addr) (o:Obj):Prop:=(∃ key,aI ρ key (.at a o))∨X.h₀.get? a=some o
theorem AtO.get {a:Addr} {o:Obj} (h:AtO X ρ a o) {bad:Addr→Prop} {O:Str→Option Addr} {s:Shared} (r:Rel X bad O env ρ s):s.heap.get? a=some o:=by
  rcases h with ⟨key,h⟩ | h
  · exact (r.pt _ _ _ h).2
  · exact r.base _ _ h
theorem keeper_bound {M:Model} {h:Heap} {g:Addr} {id:String} {self:Value} (ho:h.get? g=some (boundObj id self)):∃ k,(k=Keeper.frame∨k=Keeper.machine∨k=Keeper.boundFrame)∧Looks M h (keeperOf (.ref g)) k :=
  ⟨.machine,.inr (.inl rfl),(Looks.ld (part:=none) ho).andThen .now⟩
theorem bound_use {x:Str} {p pos:Pos} {e:Expr} {es:List Expr} {ds:List PyData} {g:Addr} {id:String} {self:Value} {A:Around} {bad:Addr→Prop} {O:Str→Option Addr} {s:Shared} {P:Value→Shared→Prop} (R:Room k A) (r:Rel X bad O env ρ s) (hx:aI ρ x (.raw (.ref g))) (hg:AtO X ρ g (boundObj id self)) (ha:EvL X k env ρ pos (e :: es) ds)
    (h:∀ vs s',Ext s s'→Rel X bad O env ρ s'→RepL (aN bad O) s'.heap ds vs→wpAny (model X.prog X.w) A (call (.ref g) vs) P noE s')
    (hd:(x == ("__debug__":Str))=false:=by decide) (he:starEach (e :: es) env=(false,eval e env) :: starEach es env:=by rfl) (hplain:(backTo pos (starEach es env)).any (·.1)=false:=by rfl) :
    wpAny (model X.prog X.w) A (eval (.Call (.Name x p) (e :: es) [] pos) env) P noE s:=by
  refine wpAny_Call_Name_kw (wpAny_Name (Lk.load r.ok.kind (r.raw x _ hx) ?_) hd)
  refine callWith_of (P:=fun h=>h.get? g=some (boundObj id self)) (by rw [he];show ((false || (backTo pos (starEach es env)).any (·.1)) || false)=false;rw [hplain];rfl) (fun h e=>keeper_bound e) ?_
  refine ha.args he R r fun vs s1 x1 r1 q1=>⟨hg.get r1,h vs s1 x1 r1 q1⟩
theorem ev_getBound {x:Str} {p pos:Pos} {e e':Expr} {g d:Addr} {o:Obj} {kvs:List (Int×Value)} {i j z:Int} (hx:aI ρ x (.raw (.ref g))) (hg:AtO X ρ g (boundObj "dict.get" (.ref d))) (hd:AtO X ρ d o) (ho:o.IsDictOf (DK X) kvs) (hlow:(d == sysModules)=false)
    (h1:Ev X k env ρ e (.int i)) (h2:Ev X k env ρ e' (.int j)) (hs:∀ v,valueAt kvs i=some v→∃ t,v=.int z t) (hn:valueAt kvs i=none→z=j)
    (hdb:(x == ("__debug__":Str))=false:=by decide) (he:starEach [e,e'] env=[(false,eval e env),(false,eval e' env)]:=by rfl) (he':starEach [e'] env=[(false,eval e' env)]:=by rfl):Ev X k env ρ (.Call (.Name x p) [e,e'] [] pos) (.int z):=fun A bad O s R r=>by
  refine bound_use R r hx hg (aC h1 (aC h2 aG he') (by rw [he,he'])) (fun vs s1 x1 r1 q1=>?_) hdb (by rw [he,he']) (by rw [he'];rfl)
  refine q1.twoE fun v w qa qb=>qa.intE fun t=>qb.intE fun u=>?_
  have D1:s1.heap.DictOf (DK X) d kvs:=Heap.dictOf_iff.mpr ⟨o,hd.get r1,ho⟩
  have hc:o.cls=.type "dict"∧∀ c,o.data ≠ .cls c:=by
    obtain ⟨es,ep,hE,hdt,_⟩:=ho
    exact ⟨hE.1,fun c e=>by rw [hdt] at e;cases e⟩
  refine call_boundC (hg.get r1) dget_plain PySem.F.entry_dict_get (hd.get r1) hc.1 hc.2 dget_sig dget_kind dget_var sub_dict_module (dget_arg _ _ _) ?_
  show wpAny _ _ (dictGet d (.int i t) >>= _) _ _ s1
  refine wpAny_bind (wpAny_dictGet_of (intKind_is _ _ i t) D1.mapOf ?_)
  have x2:=x1.trans (Ext.toks s1 (s1.toks+1))
  cases hv:valueAt kvs i with
  | some v =>
    obtain ⟨tt,rfl⟩:=hs v hv
    exact wpAny_pure ⟨_,rfl,x2,.int _ _⟩
  | none =>
    show wpAny _ _ (Builtin.Dict.missed d (.int i t) >>= _) _ _ _
    refine wpAny_bind (wpAny_missed_other hlow (wpAny_pure ⟨_,rfl,x2,?_⟩))
    rw [hn hv];exact .int _ _
theorem ev_notin {x:Str} {p pos:Pos} {e:Expr} {g js:Addr} {led:Bool} {i:Int} (hx:aI ρ x (.raw (.ref g))) (hg:AtO X ρ g (boundObj "set.__contains__" (.ref js))) (hj:AtO X ρ js { cls:=.type "set",dict:=none,data:=.set #[] 0 (.fresh 0 0 led) }) (h1:Ev X k env ρ e (.int i))
    (hdb:(x == ("__debug__":Str))=false:=by decide) (he:starEach [e] env=[(false,eval e env)]:=by rfl):Ev X k env ρ (.Call (.Name x p) [e] [] pos) (.bool false):=fun A bad O s R r=>by
  refine bound_use R r hx hg (aC h1 aG he) (fun vs s1 x1 r1 q1=>?_) hdb he rfl
  refine q1.oneE fun v qa=>qa.intE fun t=>?_
  have hS:s1.heap.SetOf (DK X) js (fun _=>false) 0:=(setObjOf_fresh (knd:=DK X) led).setOf (hj.get r1) (by unfold scanBound;decide)
  refine call_boundC (hg.get r1) scon_plain entry_set_contains (hj.get r1) rfl (fun c e=>by cases e) scon_sig scon_kind scon_var sub_set_module (scon_arg _ _) ?_
  have x2:=x1.trans (Ext.toks s1 (s1.toks+1))
  unfold Builtin.«frozenset.__contains__» Builtin.Frozenset.oneOther
  simp only [List.isEmpty_nil,bind_assoc]
  unfold Builtin.Frozenset.addrOf Builtin.Frozenset.withSetAsKey setContains
  refine wpAny_bind (wpAny_pure ?_)
  try dsimp only
  refine wpAny_bind (wpAny_pure ?_)
  try dsimp only
  refine wpAny_bind (wpAny_tryCatch ?_)
  refine wpAny_holding ?_
  refine wpAny_bind ((DK X).pyHash (intKind_is _ _ i t) ?_)
  refine wpAny_bind (wpAny_setFind_of (s:={ s1 with toks:=s1.toks+1 }) (intKind_is _ _ i t) rfl hS fun r hr=>?_)
  refine wpAny_pure ?_
  show wpAny _ _ (ret (Value.bool r.isSome)) _ _ _
  rw [hr]
  exact wpAny_pure ⟨_,rfl,x2,.bool _⟩
theorem evn_get {x:Str} {p pos:Pos} {d:Addr} {o:Obj} {kvs:List (Int×Value)} (hx:aI ρ x (.raw (.ref d))) (hd:AtO X ρ d o) (ho:o.IsDictOf (DK X) kvs) (hdb:(x == ("__debug__":Str))=false:=by decide):EvN X k env ρ (.Attribute (.Name x p) "get" pos) (fun o'=>o'=boundObj "dict.get" (.ref d)):=fun A bad O s R r=>by
  obtain ⟨es,ep,hE,hdt,_⟩:=ho
  refine Attribute_name (wpAny_Name (Lk.load r.ok.kind (r.raw x _ hx) ?_) hdb)
  refine getAttr_bound (hd.get r) hE.1 hE.2.1 (fun c e=>by rw [hdt] at e;cases e) PySem.F.slot_dict_get.lookup PySem.F.type_dict_get (by decide) dget_type sub_dict_dict dget_own PySem.F.slot_dict_getattribute am_entry_dict_getattribute PySem.F.args_dict_getattribute_2 ?_
  exact ⟨⟨fun b o e=>Heap.get?_push_of_some _ e,rfl,rfl⟩,_,_,rfl,get_size _,Heap.get?_push_size _ rfl,new_low r (Nat.le_refl _),rfl⟩
end
theorem set_ga:Slot "set" "__getattribute__" "set.__getattribute__" :=
  .of (owner:="set") (n:="__getattribute__") (by rw [typeLookup_type,builtinLookup_eq_fast];kernel_rfl) (by decide +kernel) (by decide +kernel) (by decide +kernel)
    (by first | exact .inl (by decide +kernel) | exact .inr (by decide +kernel)) (by rw [isSubtype_type];kernel_rfl)
theorem set_ga_entry:entryFor table "set.__getattribute__"=some Builtin.«object.__getattribute__» :=
  entryFor_alias (id':="object.__getattribute__") (by kernel_rfl) (by decide +kernel) (by decide +kernel) (by kernel_rfl)
theorem set_ga_args (a b:Value):argsOk "set.__getattribute__" ⟨[a,b],[]⟩:=by unfold argsOk;kernel_rfl
noncomputable abbrev mtSt (i:Nat):Stmt:=aD (aK (aD topBody 3)) i
noncomputable def fdMT (i:Nat) (nm:Str) (z:Value×Value×Option Addr×Value):FuncData:=fnOf nm ("Match."++nm) (bN (mtSt i)) (aF (mtSt i)) (bD (mtSt i)) .none .none z.1 z.2.1 z.2.2.1 z.2.2.2 .none
structure MF (X:Cx):Prop where
  obj:∃ od cd sl,X.K.lookup 135=some ⟨.type "type",od,.cls cd,sl⟩∧cd.mro=[.ref 135,.type "tuple",.type "object"]∧cd.bases=[.type "tuple"]∧(sl.toList[4]?).join=some .none∧cd.hasDel=false
  reads:readsIn X.K 135 (.type "type")=true
  new:findCls X.K (.ref 135) (.type "type") "__new__"=some (.get (.builtin "staticmethod.__get__") (.ref 136) .none (.ref 135))
  srec:recIn X.K 136 "staticmethod"=some [.ref 82]
  call:specialIn X.K (.ref 135) "__call__"=some (some (.builtin "type.__call__"))
  typ:instIn X.K (.ref 135) (.type "type")=some true
  init:findIn X.K (.ref 135) "__init__"=some (some (.builtin "object.__init__"))
  tnew:findCls X.K (.type "tuple") (.type "type") "__new__"=some (.val (.builtin "tuple.__new__"))
  keep:keepIn X.K (.ref 135)=true
  iter:findIn X.K (.ref 135) "__iter__"=some (some (.builtin "tuple.__iter__"))
  ltm:findIn X.K (.ref 135) "__lt__"=some (some (.builtin "tuple.__lt__"))
  dnew:∃ z,DefAt X 82 (fdMT 4 "__new__" z) (aF (mtSt 4)) ["_cls","a","b","size"]
theorem MF.on {X:Cx} (F:MF X) {h:Heap} {D:PyData→Value→Prop} (k:∀ b o,X.h₀.get? b=some o→h.get? b=some o):MF (X.on h D) :=
  ⟨F.obj,F.reads,F.new,F.srec,F.call,F.typ,F.init,F.tnew,F.keep,F.iter,F.ltm,let ⟨z,d⟩:=F.dnew;⟨z,d.on k⟩⟩
theorem tn_plain:plainId "tuple.__new__"=true:=by decide +kernel
theorem tn_kind:builtinKind "tuple.__new__"=some .builtinFn:=by decide +kernel
theorem tn_split:splitId "tuple.__new__"=some ("tuple","__new__"):=by decide +kernel
theorem made_tuple:Bind.madeBy (.type "tuple")=pure (some "tuple.__new__"):=PySem.F.called_tuple.made
theorem best_tuple:Builtin.Slots.bestBase [.type "tuple"]=pure (.type "tuple"):=by first | rfl | kernel_rfl
structure ML (M:Model) (h:Heap):Prop where
  obj:∃ od cd sl,h.get? 135=some ⟨.type "type",od,.cls cd,sl⟩∧cd.mro=[.ref 135,.type "tuple",.type "object"]∧cd.hasDel=false
  mro:Looks M h (mroOf (.ref 135)) [.ref 135,.type "tuple",.type "object"]
  made:Looks M h (Bind.madeBy (.ref 135)) none
  base:Looks M h (Bind.staticBase (.ref 135)) (.type "tuple")
  self:Looks M h (isSubtype (.ref 135) (.ref 135)) true
  tup:Looks M h (isSubtype (.ref 135) (.type "tuple")) true
  top:Looks M h (isSubtype (.ref 135) (.type "object")) true
  call:Looks M h (specialOf (.ref 135) "__call__") (some (.builtin "type.__call__"))
  typ:Looks M h (isInstance (.ref 135) (.type "type")) true
  init:Looks M h (typeLookup (.ref 135) "__init__") (some (.builtin "object.__init__"))
  isT:Looks M h (isType (.ref 135)) true
  iter:Looks M h (typeLookup (.ref 135) "__iter__") (some (.builtin "tuple.__iter__"))
  ltm:Looks M h (typeLookup (.ref 135) "__lt__") (some (.builtin "tuple.__lt__"))
theorem MF.looks {X:Cx} (F:MF X) {M:Model} {h:Heap} (Kin:X.K.In h):ML M h:=by
  obtain ⟨od,cd,sl,ho,e1,e2,e3,e4⟩:=F.obj
  have hc:clsIn X.K 135=some cd:=by unfold clsIn;rw [ho]
  have hm:Looks M h (mroOf (.ref 135)) [.ref 135,.type "tuple",.type "object"]:=e1 ▸ ((looks_clsIn Kin hc).andThen .now)
  have made:Looks M h (Bind.madeBy (.ref 135)) none:=by
    intro A Q E s k q
    unfold Bind.madeBy
    refine wpAny_bind (hm A _ E s k ?_)
    rw [List.forIn_cons]
    refine wpAny_bind (wpAny_bind (wpAny_bind (wpAny_bind (wpAny_loadPart (k _ _ (Kin _ _ ho)) (wpAny_pure ?_)))))
    dsimp only
    rw [← Array.getElem?_toList,e3]
    exact wpAny_pure (wpAny_pure (wpAny_pure q))
  have mi:∀ v,[.ref 135,.type "tuple",.type "object"].contains v=true→mroIn X.K 135 v=some true:=fun v hv=>by unfold mroIn;rw [hc,Option.bind_some,e1,if_neg (by decide),hv]
  refine ⟨⟨od,cd,sl,Kin _ _ ho,e1,e4⟩,hm,made,?_,looks_mroIn Kin (mi _ (by decide)),looks_mroIn Kin (mi _ (by decide)),looks_mroIn Kin (mi _ (by decide)),looks_specialIn Kin F.call,looks_instIn Kin F.typ,looks_findIn Kin F.init,(Looks.ld (Kin _ _ ho)).andThen .now,looks_findIn Kin F.iter,looks_findIn Kin F.ltm⟩
  intro A Q E s k q
  unfold Bind.staticBase
  refine wpAny_bind (hm A _ E s k ?_)
  rw [List.forIn_cons]
  refine wpAny_bind (wpAny_bind (wpAny_bind (made A _ E s k ?_)))
  simp only [Option.isSome_none,Bool.false_eq_true,if_false]
  have ld:Looks M h (classData 135) cd:=looks_clsIn Kin hc
  refine wpAny_bind (ld A _ E s k ?_)
  rw [e2,best_tuple]
  refine wpAny_bind (wpAny_pure (wpAny_pure ?_))
  dsimp only
  rw [List.forIn_cons]
  refine wpAny_bind (wpAny_bind ?_)
  rw [made_tuple]
  refine wpAny_pure ?_
  simp only [Option.isSome_some,if_true]
  exact wpAny_pure (wpAny_pure (wpAny_pure q))
theorem ML.keeps {M:Model} {h h':Heap} (L:ML M h) (k:∀ b o,h.get? b=some o→h'.get? b=some o):ML M h' :=
  ⟨let ⟨od,cd,sl,a,b⟩:=L.obj;⟨od,cd,sl,k _ _ a,b⟩,L.mro.keeps k,L.made.keeps k,L.base.keeps k,L.self.keeps k,L.tup.keeps k,L.top.keeps k,L.call.keeps k,L.typ.keeps k,L.init.keeps k,L.isT.keeps k,L.iter.keeps k,L.ltm.keeps k⟩
section
variable {prog:Program} {w:World} {A:Around} {E:Value→Shared→Prop}
theorem call_bi {s:Shared} {id:String} {args:List Value} {b:Builtin} {Q:Value→Shared→Prop} (hp:plainId id=true) (he:PySem.entryFor PySem.table id=some b)
    (h1:∀ (P:Unit→Shared→Prop) (E':Value→Shared→Prop),P () s→wpAny (model prog w) A.in1 (checkBuiltinCall id ⟨args,[]⟩) P E' s)
    (h2:∀ (P:PySem.Fin→Shared→Prop) (E':Value→Shared→Prop),(∀ v s',Q v s'→P (.done (.ret v)) s')→wpAny (model prog w) A.in1 (b ⟨args,[]⟩) P E' s):wpAny (model prog w) A (call (.builtin id) args) Q E s :=
  wpAny_call (codeAny_call_builtin hp he (h1 _ _ (h2 _ _ fun _ _ h=>h)))
theorem tn_check (v:Value):checkBuiltinCall "tuple.__new__" ⟨[.ref 135,v],[]⟩=checkBuiltinCall "tuple.__new__" ⟨[.ref 135,.none],[]⟩:=by kernel_rfl
theorem tnew_call {s:Shared} {T:Addr} {o:Obj} {vs:Array Value} {n:Nat} {Q:Value→Shared→Prop} (L:ML (model prog w) s.heap) (ho:s.heap.get? T=some o) (hc:o.cls=.type "tuple") (hd:o.data=.seq vs n) (hz:vs.size≤sizeLine)
    (h:∀ h' l dd,(∀ b ob,s.heap.get? b=some ob→h'.get? b=some ob)→s.heap.get? l=none→h'.get? l=some { cls:=.ref 135,dict:=dd,data:=.seq vs }→Q (.ref l) { s with heap:=h' }) :
    wpAny (model prog w) A (call (.builtin "tuple.__new__") [.ref 135,.ref T]) Q E s:=by
  refine call_bi tn_plain PySem.F.entry_tuple_new (fun P E' hP=>?_) fun P E' hP=>?_
  · rw [tn_check]
    simp only [checkBuiltinCall,tn_kind,tn_split]
    have hT:=L.isT
    have h1:=L.tup
    have h2:=L.base
    have h3:=L.made
    have h4:=L.init
    repeat (first | exact hP | simp only [made_tuple,bne_self_eq_false,Bool.false_eq_true,if_false,if_true,Bool.not_true,beq_self_eq_true] | lk)
  unfold Builtin.«tuple.__new__»
  refine wpAny_bind (L.isT.at ?_)
  rw [if_neg (by decide)]
  refine wpAny_bind (L.tup.at ?_)
  rw [if_neg (by decide)]
  have here:Looks (model prog w) s.heap (Bind.madeHere "tuple.__new__" (.ref 135)) ():=L.base.andThen (Looks.andThen (a:=some "tuple.__new__") (Looks.of_pure made_tuple) (Looks.of_pure (by rfl)))
  refine wpAny_bind (here.at ?_)
  refine wpAny_bind (L.init.at ?_)
  rw [if_pos (by rfl)]
  refine wpAny_bind (wpAny_of_eq (a:=()) (by first | rfl | kernel_rfl) ?_)
  refine wpAny_bind (wpAny_of_eq (a:=()) (by first | rfl | kernel_rfl) ?_)
  dsimp only
  rw [if_neg (by decide)]
  refine wpAny_bind (wpAny_collect_seq (hsz:=hz) T (.inr rfl) ho hc hd fun h' hk=>?_)
  obtain ⟨od,cd,sl,hC,_,hdel⟩:=L.obj
  rw [Array.toArray_toList]
  refine wpAny_bind (wpAny_pure (wpAny_bind (wpAny_alloc (wpAny_bind ?_))))
  unfold newObj
  dsimp only
  rw [if_neg (by exact aQ 0xf110116f100f rfl hz:¬ vs.size > sizeLine)]
  unfold newObjAsIs classHasDel
  refine wpAny_bind (wpAny_alloc (wpAny_bind (wpAny_bind (wpAny_load (Heap.get?_push_of_some _ (Heap.get?_push_of_some _ (hk _ _ hC))) (wpAny_pure ?_)))))
  rw [hdel]
  refine wpAny_pure (wpAny_pure (hP _ _ (h _ _ (some h'.objs.size) (fun b ob e=>Heap.get?_push_of_some _ (Heap.get?_push_of_some _ (hk b ob e))) ?_ (Heap.get?_push_size _ rfl))))
  cases e:s.heap.get? (h'.push { cls:=.type "dict",data:=.dict #[] }).objs.size with
  | none=>rfl
  | some o' =>
    have:=Heap.lt_size (hk _ _ e)
    rw [Heap.size_push] at this
    exact absurd this (Nat.not_lt.mpr (Nat.le_succ _))
end
noncomputable def mtd (i j n:Nat):PyData:=.dict [(.none,.tuple [.int i,.int j,.int n])]
section
variable {X:Cx} {k:Nat} {env:Env} {ρ:List (Str×B)} {Q:Fl→List (Str×B)→Prop}
theorem getm_tnew (F:MF X) {A:Around} {s:Shared} {pl:Sem Bool} {P:Value×List Value→Shared→Prop} (Kin:X.K.In s.heap) (h:P (.builtin "tuple.__new__",[]) { s with toks:=s.toks+1 }) :
    wpAny (model X.prog X.w) A (getMethod (.type "tuple") "__new__" pl) P noE s:=by
  have hstub:opaqueClassAbove (.type "tuple")=pure none:=by unfold opaqueClassAbove;dsimp only;rw [show Manifest.isStub "tuple"=false by decide +kernel];rfl
  have ht:typeOf (.type "tuple")=pure (.type "type"):=by first | rfl | kernel_rfl
  have L0:Looks (model X.prog X.w) s.heap (typeOf (.type "tuple")) (.type "type"):=Looks.of_pure ht
  have hg:findIn X.K (.type "type") "__getattribute__"=some (some (.builtin "type.__getattribute__")):=type_tga
  unfold getMethod specialOf
  refine wpAny_bind (wpAny_bind (L0.here ((looks_findIn Kin hg).here ?_)))
  dsimp only
  rw [if_pos canon_tga]
  refine wpAny_bind (wpAny_mono (Q:=fun v=>P (v,[])) (E:=noE) ?_ (fun _ _ z=>wpAny_pure z) fun _ _ z=>z)
  have LO:Looks (model X.prog X.w) s.heap (opaqueClassAbove (.type "tuple")) none:=Looks.of_pure hstub
  refine cls_open Kin LO L0 hg (looks_hook Kin (r:=none) (by rfl)) (by show subIn X.K _ _=_;rfl) F.tnew ?_
  exact wpAny_pure (by show wpAny _ _ (handedOut (.builtin "tuple.__new__")) _ _ _;rw [handedOut_of (by decide +kernel)];exact wpAny_pure h)
theorem ev_tnew (F:MF X) (ht:X.gl ("tuple":Str)=some (.type "tuple")) {p apos pos:Pos} {pl:Sem Bool} {e e':Expr} {ds:List PyData} (hk:env.kindOf ("tuple":Str)=some .globalImplicit) (he:EvV X k env ρ e (.ref 135)) (he':Ev X k env ρ e' (.tuple ds)) (hz:ds.length≤sizeLine)
    (hev:eval (.Call (.Attribute (.Name "tuple" p) "__new__" apos) [e,e'] [] pos) env=(do
      let ov ← eval (.Name "tuple" p) env
      standAt apos.atName
      let (f,first) ← holding [ov] (getMethod ov "__new__" pl)
      callWith pos f first (backTo pos (starEach [e,e'] env)) []):=by rfl)
    (hst:starEach [e,e'] env=[(false,eval e env),(false,eval e' env)]:=by rfl) (hst2:starEach [e'] env=[(false,eval e' env)]:=by rfl) :
    Ev X k env ρ (.Call (.Attribute (.Name "tuple" p) "__new__" apos) [e,e'] [] pos) (.dict [(.none,.tuple ds)]):=fun A bad O s R r=>by
  refine MethodCall_ (glob_use r ht hk ?_) hev
  refine getm_tnew F (r.wf.kin.keeps r.base) ?_
  have x0:=Ext.toks s (s.toks+1)
  have r0:=r.ext x0
  refine callWith_method1 ?_ (by rw [hst,hst2]) (by rw [hst2];rfl)
  refine wpAny_items_cons (he.use R r0 fun s1 x1 r1=>?_) (by rw [hst,hst2])
  refine wpAny_items_cons (he'.use R r1 fun v s2 x2 r2 q2=>?_) hst2
  refine wpAny_items_nil ?_
  refine q2.tupE fun T vs n hb ho qs=>?_
  have hl:vs.size=ds.length:=by rw [← Array.length_toList,qs.length]
  refine tnew_call (F.looks (r2.wf.kin.keeps r2.base)) ho rfl rfl (by rw [hl];exact hz) fun h' l dd hk hl hnew=>?_
  have x3:Ext s2 { s2 with heap:=h' }:=⟨hk,rfl,rfl⟩
  exact ⟨x0.trans (x1.trans (x2.trans x3)),.mt (new_good r2 hl) hnew (qs.ext x3)⟩
end
theorem new_call {X:Cx} {k:Nat} (F:DF X) (G:MF X) {A:Around} {bad:Addr→Prop} {s:Shared} {us:List Value} {i j n:Nat} (R:Room (k+1) A) (a:At X s) (low:∀ a,bad a→∃ o,s.heap.get? a=some o) (q:RepL bad s.heap [.int i,.int j,.int n] us) :
    codeAny (model X.prog X.w) A (.call (.ref 82) ⟨.ref 135 :: us,[]⟩) (fun r s'=>∃ v,r=.ok (.ret v)∧Ext s s'∧Rep bad s'.heap (mtd i j n) v) s:=by
  obtain ⟨z,D⟩:=G.dnew
  have F':DF (X.on s.heap fun _ _=>False):=F.on a.base
  have G':MF (X.on s.heap fun _ _=>False):=G.on a.base
  cases q with
  | cons q1 q =>
    cases q with
    | cons q2 q =>
      refine q.oneE fun v q3=>?_
      refine codeAny_mono (still_frame (bad:=bad) (Dt:=fun _ _=>False) (bs:=[.raw (.ref 135),.val (.int i),.val (.int j),.val (.int n)]) (P:=fun fl _=>fl=.ret (mtd i j n)) D R a low (fun _ _ e=>e.elim) (.cons (.raw _) (.cons (.val q1) (.cons (.val q2) (.cons (.val q3) .nil)))) rfl fun L=>?_) fun r s' h=>?_
      · refine aB (ex_doc ?_)
        refine aB (ex_return (d:=mtd i j n) (ev_tnew G' F'.tuple rfl (bB (by k_mem)) (aU (aC (aA (d:=.int i) (by k_mem)) (aC (aA (d:=.int j) (by k_mem)) (aC (aA (d:=.int n) (by k_mem)) aG))) (by simp only [List.length_cons,List.length_nil];decide)) (by simp only [List.length_cons,List.length_nil];decide)) ⟨rfl,.inr ⟨_,rfl⟩⟩)
      · obtain ⟨v,fl,ρ',O',L,rfl,rfl,hv,x,r'⟩:=h
        exact ⟨v,rfl,x,hv⟩
theorem slot_callA {prog:Program} {w:World} {A:Around} {s:Shared} {R:Result→Shared→Prop} {id owner n:String} {self:Value} {rest:List Value} {kw:List (Str×Value)} {b:Builtin} (hq:(Code.builtin id ⟨self :: rest,kw⟩).quiet=true) (hb:entryFor table id=some b) (hk:builtinKind id=some .slot) (hs:splitId id=some (owner,n)) (hi:Looks (model prog w) s.heap (isInstance self (.type owner)) true) (ha:argsOk id ⟨self :: rest,kw⟩)
    (h:wpAny (model prog w) (A.under (.builtin id ⟨self :: rest,kw⟩)) (b ⟨self :: rest,kw⟩) (fun fin s'=>match fin with | .done f=>R (.ok f) s' | .again c'=>c'.quiet=true∧codeAny (model prog w) A c' R s') (fun e s'=>R (.error e) s') s):codeAny (model prog w) A (.call (.builtin id) ⟨self :: rest,kw⟩) R s :=
  codeAny_call_builtin_at hq hb (check_slot hk hs hi ha h)
theorem slot_callB {prog:Program} {w:World} {A:Around} {s:Shared} {R:Result→Shared→Prop} {id owner n:String} {self:Value} {rest:List Value} {b:Builtin} (hp:plainId id=true) (hb:entryFor table id=some b) (hk:builtinKind id=some .slot) (hs:splitId id=some (owner,n)) (hi:Looks (model prog w) s.heap (isInstance self (.type owner)) true) (ha:argsOk id ⟨self :: rest,[]⟩)
    (h:wpAny (model prog w) A.in1 (b ⟨self :: rest,[]⟩) (fun fin s'=>match fin with | .done f=>R (.ok f) s' | .again c'=>c'.quiet=true∧codeAny (model prog w) A c' R s') (fun e s'=>R (.error e) s') s):codeAny (model prog w) A (.call (.builtin id) ⟨self :: rest,[]⟩) R s :=
  codeAny_call_builtin hp hb (check_slot hk hs hi ha h)
theorem oi_args4 (a b c d:Value):argsOk "object.__init__" ⟨[a,b,c,d],[]⟩:=by unfold argsOk;kernel_rfl
theorem match_call {X:Cx} {k:Nat} (F:DF X) (G:MF X) {A:Around} {bad:Addr→Prop} {s:Shared} {us:List Value} {i j n:Nat} {Q:Value→Shared→Prop} (R:Room (k+2) A) (a:At X s) (low:∀ a,bad a→∃ o,s.heap.get? a=some o) (q:RepL bad s.heap [.int i,.int j,.int n] us)
    (h:∀ v s',Ext s s'→Rep bad s'.heap (mtd i j n) v→Q v s'):wpAny (model X.prog X.w) A (call (.ref 135) us) Q noE s:=by
  have Kin:=a.wf.kin.keeps a.base
  have L:=G.looks (M:=model X.prog X.w) Kin
  obtain ⟨od,cd,sl,hC,hmro,_⟩:=L.obj
  have h82:∀ {h':Heap},(∀ b o,s.heap.get? b=some o→h'.get? b=some o)→X.K.In h':=fun hk=>Kin.keeps hk
  refine wpAny_call (codeAny_of_tree ?_)
  show wpAny _ _ (callAny (.ref 135) _) _ _ _
  refine nd_load hC ?_
  show wpAny _ _ (callAny.viaDunder (.ref 135) _) _ _ _
  unfold callAny.viaDunder
  refine wpAny_bind (L.call.here ?_)
  dsimp only
  rw [tc_bind]
  refine wpAny_bind (wpAny_pure (wpAny_bind (wpAny_pure ?_)))
  refine wpAny_pure (a:=Fin.again (.call (.builtin "type.__call__") ⟨.ref 135 :: us,[]⟩)) (And.intro rfl ?_)
  refine slot_callA (Code.quiet_builtin _ (by decide +kernel)) entry_typeCall tc_kind tc_split L.typ (tc_args _ _ _) ?_
  have R':Room (k+1) (A.under (.builtin "type.__call__" ⟨.ref 135 :: us,[]⟩)):=R.tc 135 us []
  generalize A.under (.builtin "type.__call__" ⟨.ref 135 :: us,[]⟩)=A' at R' ⊢
  unfold Builtin.«type.__call__»
  dsimp only
  rw [if_neg (by decide)]
  refine wpAny_bind (L.mro.here ?_)
  rw [if_neg (by decide)]
  refine wpAny_bind (L.made.here ?_)
  dsimp only
  refine wpAny_bind ?_
  refine cls_bind Kin G.reads G.new (wpAny_call (sm_get (s:={ s with toks:=s.toks+1 }) Kin G.srec (handed_on rfl ?_)))
  refine wpAny_bind (wpAny_holding (wpAny_call ?_))
  have x0:=Ext.toks s (s.toks+1)
  refine codeAny_mono (new_call F G (s:={ s with toks:=s.toks+1 }) R' (a.ext x0) low q) fun res s1 hr=>?_
  obtain ⟨v,rfl,x1,rv⟩:=hr
  have rv':=rv
  cases rv with
  | @mt l dd vs m _ hb ho qs =>
    have x01:=x0.trans x1
    have L1:=L.keeps x01.keep
    obtain ⟨h1,g1,d1,t1,o1⟩:=s1
    have t1':Looks (model X.prog X.w) h1 (typeOf (.ref l)) (.ref 135):=(Looks.ld ho).andThen .now
    have ii:Looks (model X.prog X.w) h1 (isInstance (.ref l) (.ref 135)) true:=t1'.andThen L1.self
    have io:Looks (model X.prog X.w) h1 (isInstance (.ref l) (.type "object")) true:=t1'.andThen L1.top
    refine wpAny_bind (ii.here ?_)
    simp only [Bool.not_true,Bool.false_eq_true,if_false]
    refine wpAny_bind (wpAny_holding ?_)
    have fin:Q (.ref l) ⟨h1,g1,d1,t1,o1⟩:=h _ _ x01 rv'
    unfold callSpecial? specialOf
    refine wpAny_bind (wpAny_bind (t1'.here (L1.init.here ?_)))
    dsimp only
    refine wpAny_holding ?_
    rw [oi_bind]
    refine wpAny_bind (wpAny_pure ?_)
    dsimp only
    obtain ⟨u1,u2,u3,rfl⟩:∃ u1 u2 u3,us=[u1,u2,u3]:=by
      cases q with
      | cons _ q=>cases q with
        | cons _ q=>cases q with
          | cons _ q=>cases q;exact ⟨_,_,_,rfl⟩
    refine wpAny_bind (wpAny_call (slot_callB oi_plain entry_oi oi_kind oi_split io (oi_args4 _ _ _ _) ?_))
    unfold Builtin.«object.__init__»
    have m1:=L1.made
    have i1:=L1.init
    dsimp only
    repeat (first | exact fin | simp only [bne_self_eq_false,Bool.false_eq_true,if_false,if_true,Bool.not_true,beq_self_eq_true,Bool.not_false,List.isEmpty_cons,List.isEmpty_nil,Bool.or_false,Bool.or_true,Bool.true_or,Bool.false_or] | lk)
theorem ev_match {X:Cx} {k:Nat} {env:Env} {ρ:List (Str×B)} (F:DF X) (G:MF X) {p pos:Pos} {e e' e'':Expr} {i j n:Nat} (hk:env.kindOf ("Match":Str)=some .globalImplicit) (h:EvL X (k+2) env ρ pos [e,e',e''] [.int i,.int j,.int n])
    (he:starEach [e,e',e''] env=(false,eval e env) :: starEach [e',e''] env:=by rfl) (hplain:(backTo pos (starEach [e',e''] env)).any (·.1)=false:=by rfl):Ev X (k+2) env ρ (.Call (.Name "Match" p) [e,e',e''] [] pos) (mtd i j n):=fun A bad O s R r=>by
  refine wpAny_Call_Name_kw (glob_use r F.mtch hk ?_)
  have h':=h A bad O s R r
  refine callWith_K (r.wf.kin.keeps r.base) G.keep (wpAny_mono h' (fun vs s1 q=>?_) fun _ _ x=>x) he hplain
  have r1:=r.ext q.1
  exact ⟨r1.wf.kin.keeps r1.base,match_call F G R r1.at (badO_alive r1) q.2 fun v s2 x2 rv=>⟨q.1.trans x2,rv⟩⟩
theorem ti_kind:builtinKind "tuple.__iter__"=some .slot:=by decide +kernel
theorem ti_split:splitId "tuple.__iter__"=some ("tuple","__iter__"):=by decide +kernel
noncomputable def TIt (h:Heap) (it t:Addr) (i:Nat):Prop:=h.get? it=some { cls:=.type "tuple_iterator",data:=.fields #[.ref t,.int i 0] }
noncomputable def SeqAt' (h:Heap) (t:Addr) (items:Array Value):Prop:=∃ o n,h.get? t=some o∧o.data=.seq items n
section
variable {prog:Program} {w:World} {A:Around} {E:Value→Shared→Prop} {s:Shared}
theorem bind_bound {self f:Value} {name:Str} {Q:Option (Value×List Value)→Shared→Prop} (hs:Looks (model prog w) s.heap (specialOf self name) (some f)) (hb:bindSpecial f self=pure (f,[self])) (h:Q (some (f,[self])) s):wpAny (model prog w) A (bindSpecialIfBound? self name) Q E s:=by
  unfold bindSpecialIfBound?
  refine wpAny_bind (hs.here ?_)
  dsimp only
  rw [hb]
  refine wpAny_bind (wpAny_askSetting ?_)
  refine wpAny_ite ?_
  split
  · exact wpAny_bind (wpAny_pure (wpAny_pure h))
  · exact wpAny_tryCatch (wpAny_bind (wpAny_pure (wpAny_pure h)))
theorem mt_iter {t:Addr} {dd:Option Addr} {items:Array Value} {n:Nat} {Q:Value→Shared→Prop} (L:ML (model prog w) s.heap) (ho:s.heap.get? t=some { cls:=.ref 135,dict:=dd,data:=.seq items n })
    (hQ:∀ h' it,(∀ b o,s.heap.get? b=some o→h'.get? b=some o)→s.heap.get? it=none→TIt h' it t 0→Q (.ref it) { s with heap:=h' }):wpAny (model prog w) A (pyIter (.ref t)) Q E s:=by
  obtain ⟨hh,g,dr,tk,os⟩:=s
  have t1:Looks (model prog w) hh (typeOf (.ref t)) (.ref 135):=(Looks.ld ho).andThen .now
  have it1:=L.iter
  have iT:Looks (model prog w) hh (isInstance (.ref t) (.type "tuple")) true:=t1.andThen L.tup
  have bnd:=PySem.F.slot_tuple_iter.bind (.ref t)
  have fin:∀ {P:Value→Shared→Prop},P (.ref hh.objs.size) ⟨hh.push { cls:=.type "tuple_iterator",data:=.fields #[.ref t,.int 0 0] },g,dr,tk,os⟩→wpAny (model prog w) A (call (.builtin "tuple.__iter__") [.ref t]) P E ⟨hh,g,dr,tk,os⟩:=fun hp=>by
    refine wpAny_call (slot_callB PySem.F.slot_tuple_iter.plain PySem.F.entry_tuple_iter ti_kind ti_split iT (PySem.F.args_tuple_iter_1 _) ?_)
    show wpAny _ _ (do ret (← newFields "tuple_iterator" [.ref t,rawInt 0])) _ _ _
    exact wpAny_bind (wpAny_newObj_type (wpAny_pure hp))
  have done:∀ (P:Value→Shared→Prop),Q (.ref hh.objs.size) ⟨hh.push { cls:=.type "tuple_iterator",data:=.fields #[.ref t,.int 0 0] },g,dr,tk,os⟩:=fun _=>hQ _ _ (fun b o e=>Heap.get?_push_of_some _ e) (get_size _) (Heap.get?_push_size _ rfl)
  have nx:Looks (model prog w) (hh.push { cls:=.type "tuple_iterator",data:=.fields #[.ref t,.int 0 0] }) (specialOf (.ref hh.objs.size) "__next__") (some (.builtin "tuple_iterator.__next__")) :=
    Looks.andThen (a:=.type "tuple_iterator") ((Looks.ld (Heap.get?_push_size _ rfl)).andThen .now) (Looks.of_pure PySem.F.slot_tuple_iterator_next.lookup)
  unfold pyIter
  refine wpAny_bind ?_
  refine wpAny_bind (t1.here (it1.here ?_))
  dsimp only
  refine wpAny_bind ?_
  unfold callSpecialIfBoundUnlessNone?
  refine wpAny_holding (wpAny_bind (bind_bound (s:=⟨hh,g,dr,tk,os⟩) (t1.andThen it1) bnd ?_))
  dsimp only
  rw [if_neg (by decide)]
  refine wpAny_bind (fin (wpAny_pure ?_))
  dsimp only
  exact wpAny_bind (nx.here (wpAny_pure (done fun _ _=>True)))
theorem ti_next {it t:Addr} {i:Nat} {items:Array Value} {x:Value} {Q:Option Value→Shared→Prop} (hit:TIt s.heap it t i) (ht:SeqAt' s.heap t items) (hx:items[i]?=some x)
    (hQ:∀ h',TIt h' it t (i+1)→Heap.SameBut it s.heap h'→Q (some x) { s with heap:=h' }):wpAny (model prog w) A (pyNext (.ref it)) Q E s:=by
  obtain ⟨o,n,ho,hd⟩:=ht
  have hT:s.TypeIs (.ref it) "tuple_iterator":=⟨_,hit,rfl⟩
  unfold pyNext
  refine wpAny_bind (wpAny_attempt (wpAny_callSpecial?_slot (name:=Str.ofString "__next__") hT PySem.F.slot_tuple_iterator_next
    (wpAny_call_entry PySem.F.slot_tuple_iterator_next hT PySem.F.entry_tuple_iterator_next ?_ (PySem.F.args_tuple_iterator_next_1 _))))
  show wpAny _ _ (field (.ref it) 0 >>= _) _ _ s
  refine wpAny_bind (wpAny_field hit rfl (x:=.ref t) rfl ?_)
  show wpAny _ _ (if (Value.ref t == Value.none)=true then _ else _) _ _ s
  rw [if_neg (show ¬ ((Value.ref t == Value.none)=true) from Bool.false_ne_true)]
  show wpAny _ _ (field (.ref it) 1 >>= _) _ _ s
  refine wpAny_bind (wpAny_field hit rfl (x:=.int i 0) rfl ?_)
  show wpAny _ _ (seqItems? (.ref t) >>= _) _ _ s
  refine wpAny_bind (wpAny_seqItems ho hd ?_)
  simp only [Int.toNat_natCast,hx]
  refine wpAny_bind (wpAny_setField_rec hit (by simp) fun h' he' hs'=>wpAny_pure ⟨x,rfl,wpAny_pure (hQ h' ?_ hs')⟩)
  have e:((#[Value.ref t,Value.int (i:Int) 0]:Array Value).setIfInBounds 1 (rawInt ((i:Int)+1)))=#[.ref t,.int ((i+1:Nat):Int) 0]:=by simp [rawInt]
  rw [e] at he'
  exact he'
theorem ti_end {it t:Addr} {i:Nat} {items:Array Value} {Q:Option Value→Shared→Prop} (hh:A.handled=none) (hit:TIt s.heap it t i) (ht:SeqAt' s.heap t items) (hx:items[i]?=none)
    (hQ:∀ h',(∀ b o,b ≠ it→s.heap.get? b=some o→h'.get? b=some o)→Q none { s with heap:=h' }):wpAny (model prog w) A (pyNext (.ref it)) Q E s:=by
  obtain ⟨o,n,ho,hd⟩:=ht
  have hT:s.TypeIs (.ref it) "tuple_iterator":=⟨_,hit,rfl⟩
  unfold pyNext
  refine wpAny_bind (wpAny_attempt (wpAny_callSpecial?_slot (name:=Str.ofString "__next__") hT PySem.F.slot_tuple_iterator_next
    (wpAny_call_entry PySem.F.slot_tuple_iterator_next hT PySem.F.entry_tuple_iterator_next ?_ (PySem.F.args_tuple_iterator_next_1 _))))
  show wpAny _ _ (field (.ref it) 0 >>= _) _ _ s
  refine wpAny_bind (wpAny_field hit rfl (x:=.ref t) rfl ?_)
  show wpAny _ _ (if (Value.ref t == Value.none)=true then _ else _) _ _ s
  rw [if_neg (show ¬ ((Value.ref t == Value.none)=true) from Bool.false_ne_true)]
  show wpAny _ _ (field (.ref it) 1 >>= _) _ _ s
  refine wpAny_bind (wpAny_field hit rfl (x:=.int i 0) rfl ?_)
  show wpAny _ _ (seqItems? (.ref t) >>= _) _ _ s
  refine wpAny_bind (wpAny_seqItems ho hd ?_)
  simp only [Int.toNat_natCast,hx]
  refine wpAny_bind (wpAny_rule (wpAny_bind (wpAny_setField_rec hit (by simp) fun h' he' hs'=>?_)))
  show wpAny _ _ (newExc (.type "StopIteration") [] >>= _) _ _ _
  refine wpAny_bind ?_
  simp only [newExc,newTuple]
  refine wpAny_bind (wpAny_newObj_type ?_ (by size_fits))
  refine wpAny_bind (m:=firstArgMember _ _) (wpAny_of_eq (a:=Value.none) (by first | rfl | (simp only [firstArgMember];rfl)) ?_)
  refine wpAny_newObj_type ?_ (by size_fits)
  simp only [raiseNew]
  refine wpAny_bind (wpAny_handled ?_)
  first | rw [show A.in1.handled=none from hh] | rw [hh]
  refine wpAny_bind (wpAny_pure (wpAny_throw ?_))
  refine wpAny_bind (wpAny_isInstance (T:="StopIteration") (b:=true) ⟨_,Heap.get?_push_size _ rfl,rfl⟩ isSubtype_stop ?_)
  exact wpAny_pure (hQ _ fun b o hb e=>Heap.get?_push_of_some _ (Heap.get?_push_of_some _ (hs'.extBut b o hb e)))
theorem ti_draw {it t:Addr} {items:Array Value} (hne:t ≠ it):∀ (n i:Nat) (s:Shared) (Q:List Value→Shared→Prop),TIt s.heap it t i→SeqAt' s.heap t items→i+n≤items.size →
    (∀ h',TIt h' it t (i+n)→Heap.SameBut it s.heap h'→Q ((items.toList.drop i).take n) { s with heap:=h' })→wpAny (model prog w) A (draw (.ref it) n) Q E s
  | 0,i,s,Q,hit,_,_,hQ=>wpAny_pure (by simpa using hQ s.heap hit (Heap.SameBut.refl ..))
  | n+1,i,s,Q,hit,ht,hle,hQ=>by
    have hlt:i < items.size:=by exact aZ 0xf11201f2181a0a0f rfl hle
    show wpAny _ _ (pyNext (.ref it) >>= _) Q E s
    refine wpAny_bind (ti_next hit ht (x:=items[i]) (by simp [hlt]) fun h₁ hit₁ hs₁=>?_)
    have ht₁:SeqAt' h₁ t items:=let ⟨o,m,ho,hd⟩:=ht;⟨o,m,(hs₁.2 t hne).trans ho,hd⟩
    refine wpAny_bind (wpAny_holding (ti_draw hne n (i+1) _ _ hit₁ ht₁ (by exact aZ 0xf1121180aa0f2181a0a0f rfl hle) fun h₂ hit₂ hs₂=>wpAny_pure ?_))
    have hd:items.toList.drop i=items[i] :: items.toList.drop (i+1):=by simp [List.drop_eq_getElem_cons,hlt]
    have:=hQ h₂ (by rw [show i+(n+1)=i+1+n by exact aQ 0xf1f1f1180aa181a0a2ff rfl];exact hit₂) (hs₁.trans hs₂)
    rw [hd,List.take_succ_cons] at this
    exact this
theorem mt_unpack {t:Addr} {dd:Option Addr} {items:Array Value} {n:Nat} {Q:List Value→Shared→Prop} (hh:A.handled=none) (L:ML (model prog w) s.heap) (ho:s.heap.get? t=some { cls:=.ref 135,dict:=dd,data:=.seq items n })
    (hQ:∀ h',(∀ b o,s.heap.get? b=some o→h'.get? b=some o)→Q items.toList { s with heap:=h' }):wpAny (model prog w) A (unpackItems (.ref t) items.size none) Q E s:=by
  have t1:Looks (model prog w) s.heap (typeOf (.ref t)) (.ref 135):=(Looks.ld ho).andThen .now
  have it1:Looks (model prog w) s.heap (specialOf (.ref t) "__iter__") (some (.builtin "tuple.__iter__")):=t1.andThen L.iter
  unfold unpackItems
  refine wpAny_bind ?_
  unfold notIterableAtAll
  refine wpAny_bind (it1.here ?_)
  refine wpAny_pure ?_
  simp only [Bool.false_eq_true,if_false]
  refine wpAny_bind (wpAny_holding (mt_iter L ho fun h1 it hk hn hit=>?_))
  have hne:t ≠ it:=fun e=>by rw [e,hn] at ho;cases ho
  have ht1:SeqAt' h1 t items:=⟨_,_,hk _ _ ho,rfl⟩
  refine wpAny_bind (wpAny_holding (ti_draw hne items.size 0 _ _ hit ht1 (by exact lq1 0xf10008a0ff rfl) fun h2 hit2 hs2=>?_))
  have hall:List.take items.size (List.drop 0 items.toList)=items.toList:=by
    rw [List.drop_zero];exact List.take_of_length_le (by simp)
  rw [hall,if_neg (by simp)]
  have ht2:SeqAt' h2 t items:=let ⟨o,m,ho,hd⟩:=ht1;⟨o,m,(hs2.2 t hne).trans ho,hd⟩
  refine wpAny_bind (wpAny_holding (ti_end hh hit2 ht2 (by simp) fun h3 he3=>?_))
  simp only [Option.isSome_none,Bool.false_eq_true,if_false]
  refine wpAny_pure (hQ h3 fun b o e=>?_)
  have hb:b ≠ it:=fun z=>by rw [z,hn] at e;cases e
  exact he3 b o hb ((hs2.2 b hb).trans (hk b o e))
end
theorem asg_mt {X:Cx} {k:Nat} {env:Env} {ρ:List (Str×B)} (G:MF X) {ts:List Expr} {n:Nat} {p:Pos} {ds:List PyData} {ρ':List (Str×B)} (h:AsgL X k env ρ ts ds ρ') (hn:(assignEach ts env).length=ds.length) (hstar:(assignEach ts env).findIdx? (·.1)=none):Asg X k env ρ (.Tuple ts n p) (.dict [(.none,.tuple ds)]) ρ':=fun A bad O s v R r q=>by
  refine q.mtE fun t dd vs m hb ho qs=>?_
  have hl:vs.size=ds.length:=by rw [← Array.length_toList,qs.length]
  rw [arm_assign_Tuple]
  refine wpAny_bind (wpAny_standAt ?_)
  unfold unpack
  rw [hstar,hn,← hl]
  refine wpAny_bind (wpAny_holding (mt_unpack R.handled (G.looks (r.wf.kin.keeps r.base)) ho fun h' hk=>?_))
  have x1:Ext s { s with heap:=h' }:=⟨hk,rfl,rfl⟩
  refine wpAny_mono (h A bad O { s with heap:=h' } vs.toList R (r.ext x1) (qs.ext x1)) (fun _ s2 p=>?_) fun _ _ x=>x
  obtain ⟨O2,st2,r2⟩:=p
  exact ⟨O2,(Step.of_ext x1).trans st2,r2⟩
section
variable {X:Cx} {k:Nat} {env:Env} {ρ:List (Str×B)} {Q:Fl→List (Str×B)→Prop}
noncomputable def AsgVL (X:Cx) (k:Nat) (env:Env) (ρ:List (Str×B)) (ts:List Expr) (vs:List Value) (P:List (Str×B)→Prop):Prop :=
  ∀ (A:Around) (bad:Addr→Prop) (O:Str→Option Addr) (s:Shared),Room k A→Rel X bad O env ρ s →
    wpAny (model X.prog X.w) A (assignInOrder ((assignEach ts env).map (·.2)) vs) (fun _ s'=>∃ O' ρ',P ρ'∧Step env O O' s s'∧Rel X bad O' env ρ' s') noE s
theorem asgvl_nil {P:List (Str×B)→Prop} (h:P ρ):AsgVL X k env ρ [] [] P:=fun A bad O s R r=>wpAny_pure ⟨O,ρ,h,Step.refl _ _ _,r⟩
theorem asgvl_cons {t:Expr} {ts:List Expr} {v:Value} {vs:List Value} {P:List (Str×B)→Prop} (h:AsgV X k env ρ t v fun ρ₁=>AsgVL X k env ρ₁ ts vs P) (he:assignEach (t :: ts) env=(false,assign t env) :: assignEach ts env:=by rfl):AsgVL X k env ρ (t :: ts) (v :: vs) P:=fun A bad O s R r=>by
  rw [he,List.map_cons]
  unfold assignInOrder
  refine wpAny_bind (wpAny_holding (wpAny_mono (h A bad O s R r) (fun _ s1 p=>?_) fun _ _ x=>x))
  obtain ⟨O1,ρ1,h1,st,r1⟩:=p
  refine wpAny_mono (h1 A bad O1 s1 R r1) (fun _ s2 p=>?_) fun _ _ x=>x
  obtain ⟨O2,ρ2,h2,st2,r2⟩:=p
  exact ⟨O2,ρ2,h2,st.trans st2,r2⟩
theorem ex_tup4 {ts:List Expr} {e1 e2 e3 e4:Expr} {n n':Nat} {p p' pos:Pos} {v1 v2 v3:Value} {Po:Obj→Prop} (key:Str) (h1:EvV X k env ρ e1 v1) (h2:EvV X k env ρ e2 v2) (h3:EvV X k env ρ e3 v3) (h4:EvN X k env ρ e4 Po)
    (hq:∀ l o,Po o→AsgVL X k env (aH ρ key (.at l o)) ts [v1,v2,v3,.ref l] (Q .next))
    (hst:starEach [e1,e2,e3,e4] env=[(false,eval e1 env),(false,eval e2 env),(false,eval e3 env),(false,eval e4 env)]:=by rfl) (hst2:starEach [e2,e3,e4] env=[(false,eval e2 env),(false,eval e3 env),(false,eval e4 env)]:=by rfl) (hst3:starEach [e3,e4] env=[(false,eval e3 env),(false,eval e4 env)]:=by rfl) (hst4:starEach [e4] env=[(false,eval e4 env)]:=by rfl)
    (hn:(assignEach ts env).length=4:=by rfl) (hstar:(assignEach ts env).findIdx? (·.1)=none:=by rfl)
    (hs:swapsWithSole [.Tuple ts n p] (.Tuple [e1,e2,e3,e4] n' p') pos.line env=pure false:=by rfl) (hw:swappedStores [.Tuple ts n p] (.Tuple [e1,e2,e3,e4] n' p') env=pure none:=by rfl) (hm:(assignEach [.Tuple ts n p] env).map (·.2)=[assign (.Tuple ts n p) env]:=by rfl) :
    Ex1 X k env ρ (.Assign [.Tuple ts n p] (.Tuple [e1,e2,e3,e4] n' p') pos) Q:=fun A bad O s R r=>by
  refine wpAny_Assign_stores (wpAny_Tuple ?_) hs hw
  refine wpAny_items_cons (h1.use R r fun s1 x1 r1=>?_) (by rw [hst,hst2])
  refine wpAny_items_cons (h2.use R r1 fun s2 x2 r2=>?_) (by rw [hst2,hst3])
  refine wpAny_items_cons (h3.use R r2 fun s3 x3 r3=>?_) (by rw [hst3,hst4])
  refine wpAny_items_cons (wpAny_mono (h4 A bad O s3 R r3) (fun u s4 h=>?_) fun _ _ x=>x) hst4
  obtain ⟨x4,l,o,rfl,hl,ho,_,hP⟩:=h
  refine wpAny_items_nil ⟨by simp only [List.length_cons,List.length_nil];decide,?_⟩
  rw [hm]
  have x13:=x1.trans (x2.trans x3)
  have x5:Ext s3 { s4 with heap:=s4.heap.push { cls:=.type "tuple",data:=.seq [v1,v2,v3,.ref l].toArray } }:=x4.trans (Ext.push _ _)
  have hT:IsTup (s4.heap.push { cls:=.type "tuple",data:=.seq [v1,v2,v3,.ref l].toArray }) s4.heap.objs.size #[v1,v2,v3,.ref l]:=⟨_,Heap.get?_push_size _ rfl,rfl,_,rfl⟩
  refine wpAny_assign_Tuple R.handled hT (by rw [hn];rfl) hstar fun h' he=>?_
  have x6:Ext s3 { s4 with heap:=h' }:=x5.trans ⟨fun b o e=>he b o (Nat.ne_of_lt (Heap.lt_size e)) e,rfl,rfl⟩
  obtain ⟨st,r6⟩:=r3.at_new key x6 hl (he _ _ (Nat.ne_of_lt (by rw [Heap.size_push];exact Nat.lt_succ_of_lt (Heap.lt_size ho))) (Heap.get?_push_of_some _ ho))
  refine wpAny_mono (hq l o hP A bad _ _ R r6) (fun _ s7 p=>?_) fun _ _ x=>x
  obtain ⟨O7,ρ7,h7,st7,r7⟩:=p
  exact ⟨.next,ρ7,O7,h7,rfl,(Step.of_ext x13).trans (st.trans st7),r7⟩
theorem evn_contains {e:Expr} {pos:Pos} {js:Addr} {led:Bool} (he:EvV X k env ρ e (.ref js)) (hj:AtO X ρ js { cls:=.type "set",dict:=none,data:=.set #[] 0 (.fresh 0 0 led) })
    (hev:eval (.Attribute e "__contains__" pos) env=(do
      let o ← eval e env
      standAt pos.atName
      let r ← holding [o] (getAttr o "__contains__" true)
      letTemporaryGo e o r
      pure r):=by with_unfolding_all rfl):EvN X k env ρ (.Attribute e "__contains__" pos) (fun o'=>o'=boundObj "set.__contains__" (.ref js)):=fun A bad O s R r=>by
  refine Attribute_any_ (he.use R r fun s1 x1 r1=>?_) hev
  refine getAttr_bound (hj.get r1) rfl rfl (fun c e=>by cases e) PySem.F.slot_set_contains.lookup PySem.F.type_set_contains (by decide) scon_type sub_set_set scon_own set_ga set_ga_entry set_ga_args ?_
  exact ⟨x1.trans ⟨fun b o e=>Heap.get?_push_of_some _ e,rfl,rfl⟩,_,_,rfl,x1.none (get_size _),Heap.get?_push_size _ rfl,new_low r1 (Nat.le_refl _),rfl⟩
theorem ex_kset {x y key:Str} {px py p pos:Pos} {i e:Expr} {d:Addr} {o:Obj} {kvs:List (Int×Value)} {j v:Int} (he:Ev X k env ρ e (.int v)) (hy:Own env y) (hx:aI (aH ρ y (.val (.int v))) x (.raw (.ref d))) (hi:Ev X k env (aH ρ y (.val (.int v))) i (.int j)) (hk:aI (aH ρ y (.val (.int v))) key (.at d o)) (ho:o.IsDictOf (DK X) kvs) (hz:kvs.length≤sizeLine)
    (hq:∀ o' t,o'.IsDictOf (DK X) (stored kvs j (.int v t))→Q .next (aH (aH ρ y (.val (.int v))) key (.at d o'))) (hd:(x == ("__debug__":Str))=false:=by decide)
    (hns:∀ a b c d,i ≠ .Slice a b c d:=by intro _ _ _ _ h;cases h)
    (hm:(assignEach [.Name y py,.Subscript (.Name x px) i p] env).map (·.2)=[assign (.Name y py) env,assign (.Subscript (.Name x px) i p) env]:=by rfl) (hw:swappedStores [.Name y py,.Subscript (.Name x px) i p] e env=pure none:=by rfl) :
    Ex1 X k env ρ (.Assign [.Name y py,.Subscript (.Name x px) i p] e pos) Q:=fun A bad O s R r =>
  wpAny_Assign_two (he.use R r fun u s1 x1 r1 q1=>by
    refine q1.intE fun t=>?_
    refine wpAny_assign_Name (store_val r1 hy (.int v t) fun s2 st2 r2=>?_)
    rw [assign_Subscript]
    refine wpAny_bind (wpAny_holding (wpAny_Name (Lk.load r2.ok.kind (r2.raw x _ hx) ?_) hd))
    refine wpAny_bind (wpAny_holding (hi.use R r2 fun w s3 x3 r3 q3=>?_))
    refine q3.intE fun t'=>?_
    refine wpAny_bind (wpAny_standAt (wpAny_bind (wpAny_holding ?_)))
    refine wpAny_setItem_pairs (hsz:=hz) (intKind_is _ _ j t') (dictOf_at r3 hk ho) fun h' hD' hs'=>?_
    obtain ⟨o',ho',hd'⟩:=Heap.dictOf_iff.mp hD'
    obtain ⟨st4,r4⟩:=r3.at_change (s':={ s3 with heap:=h',toks:=s3.toks+1 }) hk (fun b ob hb e=>(hs'.2 b hb).trans e) ho' rfl rfl
    refine wpAny_releaseD ⟨.next,_,_,hq o' t hd',rfl,(Step.of_ext x1).trans (st2.trans ((Step.of_ext x3).trans st4)),r4⟩) hm hw
theorem evi_b2jget {x:Str} {px apos cpos:Pos} {pl:Sem Bool} {e e':Expr} {d:Addr} {bs:List Int} {c:Int} (hx:aI ρ x (.raw (.ref d))) (hch:ChainD X X.h₀ bs d) (he:Ev X k env ρ e (.int c)) (he':Ev X k env ρ e' (.list []))
    (hd:(x == ("__debug__":Str))=false:=by decide)
    (hev:eval (.Call (.Attribute (.Name x px) "get" apos) [e,e'] [] cpos) env=(do
      let ov ← eval (.Name x px) env
      standAt apos.atName
      let (f,first) ← holding [ov] (getMethod ov "get" pl)
      callWith cpos f first (backTo cpos (starEach [e,e'] env)) []):=by rfl)
    (hst:starEach [e,e'] env=[(false,eval e env),(false,eval e' env)]:=by rfl) (hst2:starEach [e'] env=[(false,eval e' env)]:=by rfl) :
    EvI X k env ρ (.Call (.Attribute (.Name x px) "get" apos) [e,e'] [] cpos) ((posTo bs bs.length c).map .int):=fun A bad O s R r=>by
  obtain ⟨kvs,hD,hlow,hz,hc⟩:=hch
  refine MethodCall_ (wpAny_Name (Lk.load r.ok.kind (r.raw x _ hx) ?_) hd) hev
  refine getMethod_dictOf PySem.F.slot_dict_get PySem.F.type_dict_get (hD.keep r.base) ?_
  refine callWith_method1 ?_ (by rw [hst,hst2]) (by rw [hst2];rfl)
  refine wpAny_items_cons (he.use R r fun v s1 x1 r1 q1=>?_) (by rw [hst,hst2])
  refine wpAny_items_cons (he'.use R r1 fun u s2 x2 r2 q2=>?_) hst2
  refine wpAny_items_nil ?_
  refine q1.intE fun t=>?_
  have D2:=hD.keep r2.base
  refine call_meetsIn PySem.F.slot_dict_get D2.typeIs PySem.F.entry_dict_get (PySem.F.args_dict_get_3 _ _ _) (meets_dict_get_default (DK X) d (intKind_is _ _ c t) hlow u) ⟨_,D2.mapOf,?_⟩
  have x3:Ext s { s2 with toks:=s2.toks+1 }:=(x1.trans x2).trans (Ext.toks s2 (s2.toks+1))
  show wpAny _ _ (pyIter ((valueAt kvs c).getD u)) _ _ _
  rcases hc c with ⟨v,l,o,hv,rfl,ho,hio⟩ | ⟨hv,hp⟩
  · rw [hv,Option.getD_some]
    obtain ⟨vs,n,rfl,hil⟩:=hio
    refine it_list (bad:=bad) (O:=O) R x3 ((r.ext x3).base _ _ ho) hil.rep fun s4 I x4 t4=>?_
    obtain ⟨P,St,t4⟩:=t4
    refine ⟨x4,I,_,_,P,St,rfl,t4,fun b hb'=>?_⟩
    simp at hb'
    rcases hb' with rfl | rfl
    · exact .inl (by simp)
    · refine .inr ⟨fun hp=>?_,fun y hy=>?_⟩
      · have:=place_new r.frm hp;rw [ho] at this;cases this
      · have:=(r.good y _ hy).2.1;rw [ho] at this;cases this
  · rw [hv,hp,Option.getD_none,List.map_nil]
    refine q2.listE fun l us n hb g qs=>?_
    refine it_list R x3 (s1:={ s2 with toks:=s2.toks+1 }) g qs fun s4 I x4 t4=>?_
    obtain ⟨P,St,t4⟩:=t4
    refine ⟨x4,I,_,_,P,St,rfl,t4,fun b hb'=>?_⟩
    simp at hb'
    rcases hb' with rfl | rfl
    · exact .inl (by simp)
    · exact .inr ⟨noplace_seq r2.frm g rfl,fun y hy=>hb (.inr ⟨y,hy⟩)⟩
end
noncomputable def mm (as bs:List Int):Mt:=fun x y=>match as[x]?,bs[y]? with
  | some a,some b=>a == b
  | _,_=>false
noncomputable def posN (bs:List Int) (c:Int):List Nat:=(List.range bs.length).filter fun j=>bs[j]? == some c
theorem posTo_eq (bs:List Int) (c:Int):posTo bs bs.length c=(posN bs c).map fun j:Nat=>(j:Int):=rfl
theorem mem_posN {bs:List Int} {c:Int} {y:Nat}:y∈posN bs c ↔ bs[y]?=some c:=by
  unfold posN
  rw [List.mem_filter,List.mem_range,beq_iff_eq]
  exact ⟨fun h=>h.2,fun h=>⟨(List.getElem?_eq_some_iff.mp h).1,h⟩⟩
theorem posN_sorted (bs:List Int) (c:Int):(posN bs c).Pairwise (· < ·):=(List.pairwise_lt_range (n:=bs.length)).filter _
theorem posN_lt {bs:List Int} {c:Int} {t j y:Nat} (h:(posN bs c)[t]?=some j) (hy:y∈(posN bs c).take t):y < j:=by
  have hs:=posN_sorted bs c
  obtain ⟨h1,h2⟩:=List.getElem?_eq_some_iff.mp h
  obtain ⟨i,hi,e⟩:=List.mem_iff_getElem.mp hy
  rw [List.length_take] at hi
  rw [List.getElem_take] at e
  have:=(List.pairwise_iff_getElem.mp hs) i t (by exact aZ 0xf1108f1118f201f301f213 rfl hi) h1 (by exact aZ 0xf1118f1108f101f301f213 rfl hi)
  rw [e,h2] at this
  exact this
theorem posN_ge {bs:List Int} {c:Int} {t j y:Nat} (h:(posN bs c)[t]?=some j) (hy:y∈posN bs c) (hn:y ∉ (posN bs c).take t):j≤y:=by
  have hs:=posN_sorted bs c
  obtain ⟨h1,h2⟩:=List.getElem?_eq_some_iff.mp h
  obtain ⟨i,hi,e⟩:=List.mem_iff_getElem.mp hy
  rcases Nat.lt_or_ge i t with hit | hit
  · exact absurd (List.mem_iff_getElem.mpr ⟨i,by rw [List.length_take];exact aZ 0xf11101f10101f321f021101f103 rfl h1 hit,by rw [List.getElem_take];exact e⟩) hn
  · rcases Nat.eq_or_lt_of_le hit with rfl | hlt
    · rw [e] at h2;exact aQ 0xf11010f102f rfl h2
    · have:=(List.pairwise_iff_getElem.mp hs) t i h1 hi hlt
      rw [e,h2] at this;exact aQ 0xf11100f101f rfl this
theorem take_succ_mem {α:Type} {l:List α} {t:Nat} {j y:α} (h:l[t]?=some j):y∈l.take (t+1) ↔ y∈l.take t∨y=j:=by
  rw [List.take_add_one,h,List.mem_append];simp
theorem rl_eq {m:Mt} {alo blo r j:Nat} (h:m r j=true):rl m alo blo r j=(if alo < r∧blo < j then rl m alo blo (r - 1) (j - 1) else 0)+1:=by
  cases r with
  | zero=>simp [rl,h]
  | succ r =>
    rw [rl,if_pos h]
    simp only [Nat.add_sub_cancel,Nat.lt_succ_iff]
noncomputable def DP (kvs:List (Int×Value)) (S:Nat→Prop) (f:Nat→Nat):Prop:=∀ z:Int,(∃ (y:Nat) (t:Tok),z=y∧S y∧valueAt kvs z=some (.int (f y) t))∨(valueAt kvs z=none∧∀ y:Nat,z=y→¬ S y)
theorem DP.nil {f:Nat→Nat} {S:Nat→Prop} (h:∀ y,¬ S y):DP [] S f:=fun z=>.inr ⟨rfl,fun y _=>h y⟩
theorem DP.add {kvs:List (Int×Value)} {S S':Nat→Prop} {f:Nat→Nat} {j:Nat} {t:Tok} (h:DP kvs S f) (hj:¬ S j) (hS:∀ y,S' y ↔ S y∨y=j):DP (stored kvs j (.int (f j) t)) S' f:=fun z=>by
  have hn:valueAt kvs (j:Int)=none:=by
    rcases h j with ⟨y,_,e,hy,_⟩ | ⟨e,_⟩
    · have:y=j:=by exact aQ 0xf81f11f012f1c0c5f rfl e
      subst this;exact absurd hy hj
    · exact e
  rw [valueAt_stored _ _ _ hn]
  by_cases hz:z=j
  · subst hz
    exact .inl ⟨j,t,rfl,(hS j).mpr (.inr rfl),if_pos rfl⟩
  · rw [if_neg hz]
    rcases h z with ⟨y,t',e,hy,hv⟩ | ⟨e,hno⟩
    · exact .inl ⟨y,t',e,(hS y).mpr (.inl hy),hv⟩
    · refine .inr ⟨e,fun y ey hy=>?_⟩
      rcases (hS y).mp hy with hy | rfl
      · exact hno y ey hy
      · exact hz ey
theorem DP.congr {kvs:List (Int×Value)} {S S':Nat→Prop} {f:Nat→Nat} (h:DP kvs S f) (hS:∀ y,S' y ↔ S y):DP kvs S' f:=fun z=>by
  rcases h z with ⟨y,t',e,hy,hv⟩ | ⟨e,hno⟩
  · exact .inl ⟨y,t',e,(hS y).mpr hy,hv⟩
  · exact .inr ⟨e,fun y ey hy=>hno y ey ((hS y).mp hy)⟩
structure FC (as bs:List Int) (va vb:Value) (d g js:Addr) (alo ahi blo bhi:Nat) (ρ:List (Str×B)):Prop where
  a:aI ρ "a" (.raw va)
  b:aI ρ "b" (.raw vb)
  b2j:aI ρ "b2j" (.raw (.ref d))
  isb:aI ρ "isbjunk" (.raw (.ref g))
  bg:aI ρ "#g" (.at g (boundObj "set.__contains__" (.ref js)))
  alo:aI ρ "alo" (.val (.int alo))
  ahi:aI ρ "ahi" (.val (.int ahi))
  blo:aI ρ "blo" (.val (.int blo))
  bhi:aI ρ "bhi" (.val (.int bhi))
  no:aI ρ "nothing" (.val (.list []))
structure FB (bi bj bk:Nat) (ρ:List (Str×B)):Prop where
  i:aI ρ "besti" (.val (.int bi))
  j:aI ρ "bestj" (.val (.int bj))
  k:aI ρ "bestsize" (.val (.int bk))
theorem FC.pt {as bs:List Int} {va vb:Value} {d g js:Addr} {alo ahi blo bhi:Nat} {ρ:List (Str×B)} (C:FC as bs va vb d g js alo ahi blo bhi ρ) {z:Str} {b:B}
    (h:(neS "a" z && (neS "b" z && (neS "b2j" z && (neS "isbjunk" z && (neS "#g" z && (neS "alo" z && (neS "ahi" z && (neS "blo" z && (neS "bhi" z && neS "nothing" z)))))))))=true):FC as bs va vb d g js alo ahi blo bhi (aH ρ z b):=by
  simp only [Bool.and_eq_true] at h
  obtain ⟨h1,h2,h3,h4,h5,h6,h7,h8,h9,h10⟩:=h
  exact ⟨hn C.a h1,hn C.b h2,hn C.b2j h3,hn C.isb h4,hn C.bg h5,hn C.alo h6,hn C.ahi h7,hn C.blo h8,hn C.bhi h9,hn C.no h10⟩
theorem FB.pt {bi bj bk:Nat} {ρ:List (Str×B)} (C:FB bi bj bk ρ) {z:Str} {b:B} (h:(neS "besti" z && (neS "bestj" z && neS "bestsize" z))=true):FB bi bj bk (aH ρ z b):=by
  simp only [Bool.and_eq_true] at h
  exact ⟨hn C.i h.1,hn C.j h.2.1,hn C.k h.2.2⟩
inductive BestAt (m:Mt) (alo ahi blo bhi:Nat) (P:Nat→Nat→Prop) (ρ:List (Str×B)):Prop
  | mk {bi bj bk:Nat}:FB bi bj bk ρ→FInv m alo ahi blo bhi P bi bj bk→BestAt m alo ahi blo bhi P ρ
inductive NewAt (X:Cx) (d2:Addr) (S:Nat→Prop) (f:Nat→Nat) (n:Nat) (ρ:List (Str×B)):Prop
  | mk {o2:Obj} {kvs2:List (Int×Value)}:aI ρ "newj2len" (.raw (.ref d2))→aI ρ "#n" (.at d2 o2)→o2.IsDictOf (DK X) kvs2→kvs2.length≤n→DP kvs2 S f→NewAt X d2 S f n ρ
structure FE (r:Nat) (gh d1:Addr) (o1:Obj) (ρ:List (Str×B)):Prop where
  i:aI ρ "i" (.val (.int r))
  g:aI ρ "j2lenget" (.raw (.ref gh))
  h:aI ρ "#h" (.at gh (boundObj "dict.get" (.ref d1)))
  o:aI ρ "#o" (.at d1 o1)
theorem FE.pt {r:Nat} {gh d1:Addr} {o1:Obj} {ρ:List (Str×B)} (C:FE r gh d1 o1 ρ) {z:Str} {b:B} (h:(neS "i" z && (neS "j2lenget" z && (neS "#h" z && neS "#o" z)))=true):FE r gh d1 o1 (aH ρ z b):=by
  simp only [Bool.and_eq_true] at h
  exact ⟨hn C.i h.1,hn C.g h.2.1,hn C.h h.2.2.1,hn C.o h.2.2.2⟩
section
variable {X:Cx} {k:Nat} {L f:Addr} {z:Value×Value×Value×Value} {as bs:List Int} {va vb:Value} {d g js:Addr} {alo ahi blo bhi:Nat}
noncomputable abbrev envF (z:Value×Value×Value×Value) (L:Addr):Env:=callEnvC (fdSM 6 "find_longest_match" z) L 196
noncomputable abbrev bodyF (i:Nat):Stmt:=(aF (smSt 6)).getD i (.Pass ⟨0,0,0,0⟩)
noncomputable abbrev Rows (alo blo bhi r:Nat):Nat→Nat→Prop:=fun x y=>alo≤x∧x < r∧blo≤y∧y < bhi
noncomputable abbrev Cells (alo blo bhi r:Nat) (S:Nat→Prop):Nat→Nat→Prop:=fun x y=>(alo≤x∧x < r∧blo≤y∧y < bhi)∨(x=r∧blo≤y∧y < bhi∧S y)
structure FN (X:Cx) (as bs:List Int) (va vb:Value) (d g js:Addr) (alo ahi blo bhi r:Nat) (S:Nat→Prop) (n:Nat) (d2:Addr) (ρ:List (Str×B)):Prop where
  c:FC as bs va vb d g js alo ahi blo bhi ρ
  best:BestAt (mm as bs) alo ahi blo bhi (Cells alo blo bhi r S) ρ
  new:NewAt X d2 (fun y=>blo≤y∧y < bhi∧S y) (rl (mm as bs) alo blo r) n ρ
theorem inner_loop (hdata:X.dat (.list (as.map .int)) va) (hdatb:X.dat (.list (bs.map .int)) vb) (hch:ChainD X X.h₀ bs d) (h1:alo≤ahi) (h2:ahi≤as.length) (h3:blo≤bhi) (h4:bhi≤bs.length) (hza:as.length≤sizeLine) (hz:bs.length+1≤sizeLine)
    {r:Nat} (hr1:alo≤r) (hr2:r < ahi) {d1 d2 gh:Addr} {o1:Obj} {kvs1:List (Int×Value)} (ho1:o1.IsDictOf (DK X) kvs1) (hlow1:(d1 == sysModules)=false) (hdp:DP kvs1 (fun y=>alo < r∧blo≤y∧y < bhi∧mm as bs (r - 1) y=true) (rl (mm as bs) alo blo (r - 1)))
    {ρ:List (Str×B)} {Q:Fl→List (Str×B)→Prop}
    (J:FN X as bs va vb d g js alo ahi blo bhi r (fun _=>False) 0 d2 ρ) (E:FE r gh d1 o1 ρ)
    (hq:∀ ρ',FN X as bs va vb d g js alo ahi blo bhi r (fun y=>mm as bs r y=true) bs.length d2 ρ'→Q .next ρ')
    {tgt:Expr} {it:Expr} {body:List Stmt} {pos:Pos} (hst:(aD (forBody (bodyF 7)) 2)=.For tgt it body [] pos:=by rfl) :
    Ex1 X k (envF z L) ρ (aD (forBody (bodyF 7)) 2) Q:=by
  have hra:r < as.length:=by exact aZ 0xf111121f021100f rfl h2 hr2
  obtain ⟨c,hc⟩:∃ c,as[r]?=some c:=⟨_,List.getElem?_eq_getElem hra⟩
  have hm:∀ y,mm as bs r y=true ↔ bs[y]?=some c:=fun y=>by
    unfold mm
    rw [hc]
    cases e:bs[y]? with
    | none=>simp
    | some b=>simp only [beq_iff_eq,Option.some.injEq];exact eq_comm
  have ec:as.getD r 0=c:=by rw [List.getD_eq_getElem?_getD,hc];rfl
  have JC:=J.c
  refine ex_for (items:=(posTo bs bs.length c).map .int) (evi_b2jget JC.b2j hch (ev_item (n:=(r:Int)) (d:=.int c) (bK (ev_ofV (bB JC.a) hdata)) (aA E.i) (by exact aQ 0xf11c0ce3ff rfl) (by rw [List.length_map];exact aQ 0xf111c0c4f101f rfl hra) (by rw [List.length_map];exact hza) (by rw [← ec];exact item_int hra)) (aA JC.no))
    (fun t ρ=>FN X as bs va vb d g js alo ahi blo bhi r (fun y=>y∈(posN bs c).take t) t d2 ρ∧FE r gh d1 o1 ρ) ?_ ?_ ?_
  · refine ⟨⟨J.c,?_,?_⟩,E⟩
    · obtain ⟨fb,fi⟩:=J.best
      exact ⟨fb,fi.skip (fun x y h=>h.imp id fun h=>h.2.2.2.elim) (fun x y h=>.inl (h.imp id fun h=>by simp at h))⟩
    · obtain ⟨a1,a2,a3,a4,a5⟩:=J.new
      exact ⟨a1,a2,a3,a4,a5.congr fun y=>by simp⟩
  · intro t dd ρ' ht JE Q1 H1
    rw [posTo_eq,List.map_map,List.getElem?_map] at ht
    obtain ⟨j,hpt,hdd⟩:=Option.map_eq_some_iff.mp ht
    obtain rfl:PyData.int (j:Nat)=dd:=hdd
    clear ht
    have hjm:bs[j]?=some c:=mem_posN.mp (List.mem_of_getElem? hpt)
    have hjl:j < bs.length:=(List.getElem?_eq_some_iff.mp hjm).1
    have htl:t < bs.length:=by
      have h1:=(List.getElem?_eq_some_iff.mp hpt).1
      have h2:(posN bs c).length≤bs.length:=by unfold posN;exact Nat.le_trans (List.length_filter_le _ _) (by simp)
      exact aZ 0xf111201f210101f rfl h1 h2
    have hmj:mm as bs r j=true:=(hm j).mpr hjm
    obtain ⟨⟨C,⟨fb,fi⟩,⟨a1,a2,a3,a4,a5⟩⟩,E'⟩:=JE
    rename_i bi bj bk o2 kvs2
    refine ⟨_,aL (.inl rfl),?_⟩
    have C:=C.pt (z:="j") (b:=.val (.int j)) rfl
    have E:=E'.pt (z:="j") (b:=.val (.int j)) rfl
    have fb:=fb.pt (z:="j") (b:=.val (.int j)) rfl
    have a1:=hn (x:="j") (b:=.val (.int j)) a1 rfl
    have a2:=hn (x:="j") (b:=.val (.int j)) a2 rfl
    have hj:aI (aH ρ' "j" (.val (.int j))) "j" (.val (.int j)):=hs
    generalize aH ρ' "j" (.val (.int j))=ρ1 at *
    refine aB (ex_if (aJ (aA hj) (aA C.blo) rfl) (fun e=>?_) (fun e=>aE ?_))
    · simp only [decide_eq_true_eq] at e
      have e':j < blo:=by exact aQ 0xf11101f1c0c4f rfl e
      refine aB (ex_continue (H1.cont ⟨⟨C,⟨fb,fi.skip (fun x y h=>h.imp id fun h=>⟨h.1,h.2.1,h.2.2.1,(take_succ_mem hpt).mpr (.inl h.2.2.2)⟩) (fun x y h=>.inl (h.imp id fun h=>⟨h.1,h.2.1,h.2.2.1,((take_succ_mem hpt).mp h.2.2.2).resolve_right (by exact aZ 0xf1180226f210101f rfl e' h.2.1)⟩))⟩,⟨a1,a2,a3,by exact aQ 0xf11181a00f100f rfl a4,a5.congr fun y=>?_⟩⟩,E⟩))
      rw [take_succ_mem hpt]
      constructor
      · rintro ⟨x1,x2,x3 | x3⟩
        · exact ⟨x1,x2,x3⟩
        · exact (aZ 0xf8119f022210101f rfl e' x1 x3).elim
      · rintro ⟨x1,x2,x3⟩;exact ⟨x1,x2,.inl x3⟩
    simp only [decide_eq_false_iff_not] at e
    have hbj:blo≤j:=by exact aQ 0xf11010f1c0c46f rfl e
    refine aB (ex_if (aJ (aA hj) (aA C.bhi) rfl) (fun e=>?_) (fun e=>aE ?_))
    · simp only [decide_eq_true_eq] at e
      have e':bhi≤j:=by exact aQ 0xf11100f1c0c3f rfl e
      have key:∀ y,y < bhi→mm as bs r y=true→y∈(posN bs c).take t:=fun y hy hmy=>by
        rcases Classical.em (y∈(posN bs c).take t) with h | h
        · exact h
        · have:=posN_ge hpt (mem_posN.mpr ((hm y).mp hmy)) h;exact (aZ 0xf1119f210021100f rfl e' hy this).elim
      refine aB (ex_break (H1.brk (hq _ ⟨C,⟨fb,fi.skip (fun x y h=>h.imp id fun h=>⟨h.1,h.2.1,h.2.2.1,(hm y).mpr (mem_posN.mp (List.mem_of_mem_take h.2.2.2))⟩) (fun x y h=>.inl (h.imp id fun h=>⟨h.1,h.2.1,h.2.2.1,key y h.2.2.1 h.2.2.2⟩))⟩,⟨a1,a2,a3,by exact aZ 0xf111120f020101f rfl htl a4,a5.congr fun y=>?_⟩⟩)))
      constructor
      · rintro ⟨x1,x2,x3⟩;exact ⟨x1,x2,key y x2 x3⟩
      · rintro ⟨x1,x2,x3⟩;exact ⟨x1,x2,(hm y).mpr (mem_posN.mp (List.mem_of_mem_take x3))⟩
    simp only [decide_eq_false_iff_not] at e
    have hbh:j < bhi:=by exact aQ 0xf11011f1c0c36f rfl e
    have hrlp:=rl_pos (alo:=alo) (blo:=blo) hmj
    have hrle:=rl_le (m:=mm as bs) (alo:=alo) (blo:=blo) hr1 hbj
    have hreq:=rl_eq (alo:=alo) (blo:=blo) hmj
    generalize hK:rl (mm as bs) alo blo r j=K at hrlp hrle hreq
    have hget:(∀ v,valueAt kvs1 ((j:Int) - 1)=some v→∃ t,v=.int ((K:Int) - 1) t)∧(valueAt kvs1 ((j:Int) - 1)=none→(K:Int) - 1=0):=by
      rcases hdp ((j:Int) - 1) with ⟨y,t',ey,⟨s1,s2,s3,s4⟩,hv⟩ | ⟨hv,hno⟩
      · have hy:y=j - 1:=by exact aQ 0xf818f108ff111f1110ff212f1c180cd5f1800 rfl ey
        subst hy
        rw [if_pos (by exact lq4 0xf110001f1001f2311017f4304c182cd5101f1821 rfl s1 ey s2)] at hreq
        refine ⟨fun v hv'=>?_,fun hn=>by rw [hv] at hn;cases hn⟩
        rw [hv] at hv';cases hv'
        exact ⟨t',by rw [hreq];congr 1;push_cast;exact lq1 0xf1f1f18180cad0c5ff rfl⟩
      · refine ⟨fun v hv'=>(by rw [hv] at hv';cases hv'),fun _=>?_⟩
        split at hreq
        · rename_i hcond
          have hnm:mm as bs (r - 1) (j - 1)=false:=by
            cases em:mm as bs (r - 1) (j - 1) with
            | false=>rfl
            | true=>exact absurd ⟨hcond.1,by exact aQ 0xf1101200f101f1811 rfl hcond.2,by exact aQ 0xf1011121f101f1801 rfl hbh,em⟩ (hno (j - 1) (by exact aQ 0xf18f1108ff11f110ff2c181cd5f101f1810 rfl hcond.2))
          rw [rl_no hnm] at hreq
          exact lq1 0xf11f81f08180cd5f1808a02f rfl hreq
        · exact lq1 0xf11f81f08180cd5f1808a02f rfl hreq
    refine aB (ex_kset (key:="#n") (d:=d2) (o:=o2) (kvs:=kvs2) (j:=j) (v:=K)
      (bG (aT (ev_getBound (g:=gh) (d:=d1) (o:=o1) (kvs:=kvs1) (i:=(j:Int) - 1) (j:=0) (z:=(K:Int) - 1) E.g (.inl ⟨"#h",E.h⟩) (.inl ⟨"#o",E.o⟩) ho1 hlow1 (ev_sub (aA hj) aM) aM hget.1 hget.2) aM) (by congr 1;exact lq1 0xf1f1f0c18180cda5ff rfl)) (.inl rfl) (hn a1 rfl) (aA (hn hj rfl)) (hn a2 rfl) a3 (by exact lq4 0xf1111130f2300211180a0f rfl hz htl a4) fun o3 t3 ho3=>?_)
    have C:=(C.pt (z:="k") (b:=.val (.int K)) rfl).pt (z:="#n") (b:=.at d2 o3) rfl
    have E:=(E.pt (z:="k") (b:=.val (.int K)) rfl).pt (z:="#n") (b:=.at d2 o3) rfl
    have fb:=(fb.pt (z:="k") (b:=.val (.int K)) rfl).pt (z:="#n") (b:=.at d2 o3) rfl
    have a1:=hn (x:="#n") (b:=.at d2 o3) (hn (x:="k") (b:=.val (.int K)) a1 rfl) rfl
    have a2:aI (aH (aH ρ1 "k" (.val (.int K))) "#n" (.at d2 o3)) "#n" (.at d2 o3):=hs
    have hj:=hn (x:="#n") (b:=.at d2 o3) (hn (x:="k") (b:=.val (.int K)) hj rfl) rfl
    have hk:aI (aH (aH ρ1 "k" (.val (.int K))) "#n" (.at d2 o3)) "k" (.val (.int K)):=hn hs rfl
    generalize aH (aH ρ1 "k" (.val (.int K))) "#n" (.at d2 o3)=ρ2 at *
    have hdp3:DP (stored kvs2 j (.int (K:Int) t3)) (fun y=>blo≤y∧y < bhi∧y∈(posN bs c).take (t+1)) (rl (mm as bs) alo blo r):=by
      rw [← hK]
      refine a5.add (fun h=>?_) fun y=>?_
      · have:=posN_lt hpt h.2.2;exact lq1 0xf19f001f rfl this
      · rw [take_succ_mem hpt]
        constructor
        · rintro ⟨x1,x2,x3 | x3⟩
          · exact .inl ⟨x1,x2,x3⟩
          · exact .inr x3
        · rintro (⟨x1,x2,x3⟩ | rfl)
          · exact ⟨x1,x2,.inl x3⟩
          · exact ⟨hbj,hbh,.inr rfl⟩
    have hlen3:(stored kvs2 j (.int (K:Int) t3)).length≤t+1:=by have:=stored_length_le kvs2 (j:Int) (.int (K:Int) t3);exact aZ 0xf111181a20f180a20100f rfl a4 this
    have hstep:=fi.step hr1 hr2 hbj hbh (fun x y h=>by
      rcases h with h | h
      · exact lq4 0xf1132110271018f101f rfl h.2.1
      · have:=posN_lt hpt h.2.2.2;exact lq4 0xf1001f11f801f32110271018f321102f rfl h.1 this)
    rw [hK] at hstep
    have hcells:∀ {a b e:Nat},FInv (mm as bs) alo ahi blo bhi (fun x y=>Cells alo blo bhi r (fun y=>y∈(posN bs c).take t) x y∨(x=r∧y=j)) a b e→FInv (mm as bs) alo ahi blo bhi (Cells alo blo bhi r (fun y=>y∈(posN bs c).take (t+1))) a b e:=fun h=>h.skip (fun x y h=>by
        rcases h with (h | h) | ⟨rfl,rfl⟩
        · exact .inl h
        · exact .inr ⟨h.1,h.2.1,h.2.2.1,(take_succ_mem hpt).mpr (.inl h.2.2.2)⟩
        · exact .inr ⟨rfl,hbj,hbh,(take_succ_mem hpt).mpr (.inr rfl)⟩) (fun x y h=>by
        rcases h with h | ⟨q1,q2,q3,q4⟩
        · exact .inl (.inl (.inl h))
        · rcases (take_succ_mem hpt).mp q4 with h' | q5
          · exact .inl (.inl (.inr ⟨q1,q2,q3,h'⟩))
          · exact .inl (.inr ⟨q1,q5⟩))
    refine aB (ex_if (aJ (aA hk) (aA fb.k) rfl) (fun e=>?_) (fun e=>?_))
    · simp only [decide_eq_true_eq] at e
      rw [if_pos (by exact aQ 0xf11101f1c0c4f rfl e)] at hstep
      refine aB (ex_swap (xs:=["besti","bestj","bestsize"]) (ds:=[.int (r+1 - K:Nat),.int (j+1 - K:Nat),.int K]) (aU (aC (bG (aT (ev_sub (aA E.i) (aA hk)) aM) (by congr 1;exact aZ 0xf18f1108ff11f110ff3c181c2cda5f182a10a0f1182a0 rfl hrle.1)) (aC (bG (aT (ev_sub (aA hj) (aA hk)) aM) (by congr 1;exact aZ 0xf18f1108ff11f110ff3c181c2cda5f182a10a0f1182a0 rfl hrle.2)) (aC (aA hk) aG))) (by simp only [List.length_cons,List.length_nil];decide)) (aS (.inl rfl) (aS (.inl rfl) (aS (.inl rfl) asgn_nil))) (aE (aE ?_)) rfl rfl rfl)
      exact H1.next ⟨⟨((C.pt rfl).pt rfl).pt rfl,⟨⟨by k_mem,by k_mem,by k_mem⟩,hcells hstep⟩,⟨by k_mem,by k_mem,ho3,hlen3,hdp3⟩⟩,((E.pt rfl).pt rfl).pt rfl⟩
    · simp only [decide_eq_false_iff_not] at e
      rw [if_neg (by exact aQ 0xf111016f1c0c46f rfl e)] at hstep
      exact aE (aE (H1.next ⟨⟨C,⟨fb,hcells hstep⟩,⟨a1,a2,ho3,hlen3,hdp3⟩⟩,E⟩))
  · rintro ρ' ⟨JN,_⟩
    have hl:((posTo bs bs.length c).map PyData.int).length=(posN bs c).length:=by rw [posTo_eq];simp
    rw [hl,List.take_length] at JN
    refine hq _ ⟨JN.c,?_,?_⟩
    · obtain ⟨fb,fi⟩:=JN.best
      exact ⟨fb,fi.skip (fun x y h=>h.imp id fun h=>⟨h.1,h.2.1,h.2.2.1,(hm y).mpr (mem_posN.mp h.2.2.2)⟩) (fun x y h=>.inl (h.imp id fun h=>⟨h.1,h.2.1,h.2.2.1,mem_posN.mpr ((hm y).mp h.2.2.2)⟩))⟩
    · obtain ⟨a1,a2,a3,a4,a5⟩:=JN.new
      have hle:(posN bs c).length≤bs.length:=by unfold posN;exact Nat.le_trans (List.length_filter_le _ _) (by simp)
      exact ⟨a1,a2,a3,by exact aZ 0xf111200f210100f rfl a4 hle,a5.congr fun y=>by rw [mem_posN,hm]⟩
end
theorem mm_iff {as bs:List Int} {x y:Nat} (hx:x < as.length) (hy:y < bs.length):mm as bs x y=(as.getD x 0 == bs.getD y 0):=by
  unfold mm
  rw [List.getD_eq_getElem?_getD,List.getD_eq_getElem?_getD,List.getElem?_eq_getElem hx,List.getElem?_eq_getElem hy]
  rfl
theorem ev_at {X:Cx} {k:Nat} {env:Env} {ρ:List (Str×B)} {value slice:Expr} {pos:Pos} {xs:List Int} {n:Nat} {i:Int} (hv:Ev X k env ρ value (.list (xs.map .int))) (hi:Ev X k env ρ slice (.int i)) (hin:i=n) (hn:n < xs.length) (hz:xs.length≤sizeLine)
    (hs:∀ a u,subscripted slice false (.ref a) (.int i u)=operate [.ref a,.int i u] (getItem (.ref a) (.int i u)):=by intro _ _;with_unfolding_all rfl):Ev X k env ρ (.Subscript value slice pos) (.int (xs.getD n 0)):=by
  subst hin
  exact ev_item (bK hv) hi (by exact aQ 0xf11c0ce3ff rfl) (by rw [List.length_map];exact aQ 0xf111c0c4f101f rfl hn) (by rw [List.length_map];exact hz) (item_int hn) hs
section
variable {X:Cx} {k:Nat} {as bs:List Int} {va vb:Value} {d js:Addr} {alo ahi blo bhi:Nat}
inductive OldAt (X:Cx) (S:Nat→Prop) (f:Nat→Nat) (ρ:List (Str×B)):Prop
  | mk {d1:Addr} {o1:Obj} {kvs1:List (Int×Value)}:aI ρ "j2len" (.raw (.ref d1))→aI ρ "#o" (.at d1 o1)→o1.IsDictOf (DK X) kvs1→(d1 == sysModules)=false→DP kvs1 S f→OldAt X S f ρ
theorem find_walk (F:DF X) (G:MF X) {cd:ClassData} (hC:ClsOk X.K 242 cd) {x dx:Addr} {m:Str→Option Value} {N:Nat} {led:Bool} {L:Addr} {z:Value×Value×Value×Value}
    (hx:X.h₀.get? x=some (instObj 242 dx)) (hdx:∃ o,X.h₀.get? dx=some o∧AObj o m N) (ha:m "a"=some va) (hva:handedIn va=true) (hb:m "b"=some vb) (hvb:handedIn vb=true) (hd:m "b2j"=some (.ref d)) (hj:m "bjunk"=some (.ref js))
    (hjs:X.h₀.get? js=some { cls:=.type "set",dict:=none,data:=.set #[] 0 (.fresh 0 0 led) })
    (hdata:X.dat (.list (as.map .int)) va) (hdatb:X.dat (.list (bs.map .int)) vb) (hch:ChainD X X.h₀ bs d) (h1:alo≤ahi) (h2:ahi≤as.length) (h3:blo≤bhi) (h4:bhi≤bs.length) (hza:as.length+1≤sizeLine) (hz:bs.length+1≤sizeLine) :
    Exs X (k+2) (envF z L) [("self",.raw (.ref x)),("alo",.val (.int alo)),("ahi",.val (.int ahi)),("blo",.val (.int blo)),("bhi",.val (.int bhi))] (aF (smSt 6))
      fun fl _=>∃ i j n,fl=.ret (mtd i j n)∧Best (mm as bs) alo ahi blo bhi i j n:=by
  have hsl:sizeLine < 2 ^ 30:=by decide
  have S:∀ {ρ:List (Str×B)},SelfD X ρ 242 x dx "#d" m N:=⟨hx,.inr hdx⟩
  refine aB (ex_doc ?_)
  refine aB (ex_tup4 "#g" (evv_attr (key:="#d") (by k_mem) S hC (F.own "a" (by decide)).1 ha hva) (evv_attr (key:="#d") (by k_mem) S hC (F.own "b" (by decide)).1 hb hvb) (evv_attr (key:="#d") (by k_mem) S hC (F.own "b2j" (by decide)).1 hd) (evn_contains (evv_attr (key:="#d") (by k_mem) S hC (F.own "bjunk" (by decide)).1 hj) (.inr hjs)) fun g og hog=>asgvl_cons (bI (.inl rfl) (asgvl_cons (bI (.inl rfl) (asgvl_cons (bI (.inl rfl) (asgvl_cons (bI (.inl rfl) (asgvl_nil ?_)))))))))
  subst hog
  refine aB (ex_if (b:=false) (tst_isNoneI (aA (d:=.int ahi) (by k_mem)) evv_none) (fun e=>by cases e) fun _=>aE ?_)
  refine aB (ex_if (b:=false) (tst_isNoneI (aA (d:=.int bhi) (by k_mem)) evv_none) (fun e=>by cases e) fun _=>aE ?_)
  refine aB (ex_swap (xs:=["besti","bestj","bestsize"]) (ds:=[.int alo,.int blo,.int 0]) (aU (aC (aA (d:=.int alo) (by k_mem)) (aC (aA (d:=.int blo) (by k_mem)) (aC aM aG))) (by simp only [List.length_cons,List.length_nil];decide)) (aS (.inl rfl) (aS (.inl rfl) (aS (.inl rfl) asgn_nil))) ?_ rfl rfl rfl)
  refine aB (ex_assignN "#o" evn_dict fun d0 o0 hlow0 ho0=>bI (.inl rfl) ?_)
  subst ho0
  refine aB (aR (d:=.list []) (ev_list aG (by simp)) (.inl rfl) ?_)
  refine aB (ex_for (items:=intsBy alo 1 ((ahi:Int) - alo).toNat) (evi_range2 F.range rfl (aA (d:=.int alo) (by k_mem)) (aA (d:=.int ahi) (by k_mem)) (by exact lq4 0xf11111f1f10000000000990c30c1000000000099e37f4000000069313182a0210100f rfl h1 h2 hza hsl) (by exact aZ 0xf1111f1f10000000000990c30c1000000000099e37f4000000069212181a0100f rfl h2 hza hsl))
    (fun i ρ=>FC as bs va vb d g js alo ahi blo bhi ρ∧BestAt (mm as bs) alo ahi blo bhi (Rows alo blo bhi (alo+i)) ρ∧OldAt X (fun y=>alo < alo+i∧blo≤y∧y < bhi∧mm as bs (alo+i - 1) y=true) (rl (mm as bs) alo blo (alo+i - 1)) ρ) ?_ ?_ ?_)
  · refine ⟨⟨by k_mem,by k_mem,by k_mem,by k_mem,by k_mem,by k_mem,by k_mem,by k_mem,by k_mem,by k_mem⟩,⟨⟨by k_mem,by k_mem,by k_mem⟩,(FInv.start h1 h3).skip (fun _ _ h=>h.elim) fun x y h=>by exact (lq5 0xf119f4313207080a1171007f rfl h).elim⟩,⟨by k_mem,by k_mem,⟨#[],0,⟨rfl,rfl,rfl⟩,rfl,fun _ he=>by simp at he,.nil,by simp⟩,hlow0,DP.nil fun y h=>by exact lq1 0xf19f080a01f rfl h.1⟩⟩
  · intro i dd ρ hi J Q1 H1
    have hil:i < ((ahi:Int) - alo).toNat:=by have:=(List.getElem?_eq_some_iff.mp hi).1;rwa [intsBy_length] at this
    rw [intsBy_get hil] at hi
    obtain rfl:PyData.int ((alo+i:Nat):Int)=dd:=by cases hi;congr 1;exact aQ 0xf1f1f1c01f0ca10ac5ff rfl
    have hr:alo+i < ahi:=by exact aZ 0xf1008f118f102a1f301f082c1cd5 rfl hil
    clear hi
    refine ⟨_,aL (.inl rfl),?_⟩
    obtain ⟨JC,⟨fb,fi⟩,⟨j1,j2,j3,j4,j5⟩⟩:=J
    rename_i bi bj bk d1 o1 kvs1
    have C:=JC.pt (z:="i") (b:=.val (.int (alo+i:Nat))) rfl
    have fb:=fb.pt (z:="i") (b:=.val (.int (alo+i:Nat))) rfl
    have j1:=hn (x:="i") (b:=.val (.int (alo+i:Nat))) j1 rfl
    have j2:=hn (x:="i") (b:=.val (.int (alo+i:Nat))) j2 rfl
    have hi:aI (aH ρ "i" (.val (.int (alo+i:Nat)))) "i" (.val (.int (alo+i:Nat))):=hs
    generalize aH ρ "i" (.val (.int (alo+i:Nat)))=ρ1 at *
    clear JC
    refine aB (ex_assignN "#h" (evn_get (d:=d1) (o:=o1) (kvs:=kvs1) j1 (.inl ⟨"#o",j2⟩) j3) fun gh oh _ hoh=>bI (.inl rfl) ?_)
    subst hoh
    refine aB (ex_assignN "#n" evn_dict fun d2 o2 hlow2 ho2=>bI (.inl rfl) ?_)
    subst ho2
    refine aB (inner_loop hdata hdatb hch h1 h2 h3 h4 (by exact aQ 0xf11100f1180a0f rfl hza) hz (r:=alo+i) (by exact aQ 0xf110a00ff rfl) hr (d1:=d1) (d2:=d2) (gh:=gh) (o1:=o1) (kvs1:=kvs1) j3 j4 j5
      ⟨(((C.pt rfl).pt rfl).pt rfl).pt rfl,⟨(((fb.pt rfl).pt rfl).pt rfl).pt rfl,fi.skip (fun x y h=>.inl h) fun x y h=>.inl (h.elim id fun h=>h.2.2.2.elim)⟩,⟨by k_mem,by k_mem,⟨#[],0,⟨rfl,rfl,rfl⟩,rfl,fun _ he=>by simp at he,.nil,by simp⟩,Nat.zero_le _,DP.nil fun y h=>h.2.2⟩⟩ ⟨by k_mem,by k_mem,by k_mem,by k_mem⟩ fun ρ' JN=>?_)
    obtain ⟨C,⟨fb,fi⟩,⟨a1,a2,a3,a4,a5⟩⟩:=JN
    refine aB (ex_assignV (bB a1) (bI (.inl rfl) ?_))
    refine exs_rekey (x:="#n") (y:="#o") (a:=d2) (hn a2 rfl) (by decide) (aE (H1.next ?_))
    refine ⟨((C.pt rfl).pt rfl).pt rfl,⟨((fb.pt rfl).pt rfl).pt rfl,fi.skip (fun x y h=>by rcases h with h | h <;> lia) fun x y h=>?_⟩,⟨by k_mem,by k_mem,a3,hlow2,?_⟩⟩
    · rcases Nat.lt_or_ge x (alo+i) with hlt | hge
      · exact .inl (.inl ⟨h.1,hlt,h.2.2.1,h.2.2.2⟩)
      · have hxe:x=alo+i:=by exact lq6 0xf100001f101f20a12f120a05414307182a0a1171007f rfl h hge
        cases e:mm as bs x y with
        | false=>exact .inr rfl
        | true=>exact .inl (.inr ⟨hxe,h.2.2.1,h.2.2.2,hxe ▸ e⟩)
    · refine a5.congr fun y=>?_
      rw [show alo+(i+1) - 1=alo+i by exact aQ 0xf11f110ff18f108ff10a22ff18181a0a0 rfl]
      exact ⟨fun h=>h.2,fun h=>⟨by exact aQ 0xf1181a0a01ff rfl,h⟩⟩
  · rintro ρ ⟨JC,⟨fb,fi⟩,_⟩
    rename_i bi bj bk
    rw [intsBy_length] at fi
    have best:Best (mm as bs) alo ahi blo bhi bi bj bk:=(fi.skip (P':=fun x y=>alo≤x∧x < ahi∧blo≤y∧y < bhi) (fun x y h=>by exact lq6 0xf10001f1001f11008f1018ff11f541430721171007f541430760a1171007f080c2cd5 rfl h) fun x y h=>.inl (by exact lq6 0xf10001f1001f10110f1011ff11f541430760a1171007f541430211100f080c2cd5 rfl h.1 h.2.1 h.2.2.1 h.2.2.2)).finish
    obtain ⟨c1,c2,c3,c4,c5,c6,c7,c8,c9,c10⟩:=id JC
    obtain ⟨b1,b2,b3⟩:=id fb
    have hw:=best.win
    unfold InW at hw
    have WL:∀ (test:Expr) (pos:Pos) (body:List Stmt),Tst X (k+2) (envF z L) ρ test false→Ex1 X (k+2) (envF z L) ρ (.While test body [] pos) fun f ρ'=>f=.next∧ρ'=ρ:=fun test pos body ht =>
      ex_while (fun _ ρ'=>ρ'=ρ) (n:=0) rfl (fun n ρ' e _ _=>by subst e;exact ⟨false,ht,(fun e=>by cases e),fun _=>⟨rfl,rfl⟩⟩)
    have next:∀ {st:Stmt} {ss:List Stmt} {Q:Fl→List (Str×B)→Prop},Ex1 X (k+2) (envF z L) ρ st (fun f ρ'=>f=.next∧ρ'=ρ)→Exs X (k+2) (envF z L) ρ ss Q→Exs X (k+2) (envF z L) ρ (st :: ss) Q:=fun h1 h2 =>
      aB fun A bad O s R r=>wpAny_mono (h1 A bad O s R r) (fun fl s' p=>by
        obtain ⟨f,ρ',O',⟨rfl,rfl⟩,fi,st,r'⟩:=p
        exact ⟨.next,ρ',O',h2,fi,st,r'⟩) fun _ _ x=>x
    have itB:∀ {e:Expr} {pos:Pos} {p:Pos} {n:Nat} {i:Int} (_:Ev X (k+2) (envF z L) ρ e (.int i)) (_:i=n) (_:n < bs.length) (_:∀ a u,subscripted e false (.ref a) (.int i u)=operate [.ref a,.int i u] (getItem (.ref a) (.int i u))),Ev X (k+2) (envF z L) ρ (.Subscript (.Name "b" p) e pos) (.int (bs.getD n 0)):=fun he hi hn hs=>ev_at (ev_ofV (bB c2) hdatb) he hi hn (by exact aQ 0xf11100f1180a0f rfl hz) hs
    have itA:∀ {e:Expr} {pos:Pos} {p:Pos} {n:Nat} {i:Int} (_:Ev X (k+2) (envF z L) ρ e (.int i)) (_:i=n) (_:n < as.length) (_:∀ a u,subscripted e false (.ref a) (.int i u)=operate [.ref a,.int i u] (getItem (.ref a) (.int i u))),Ev X (k+2) (envF z L) ρ (.Subscript (.Name "a" p) e pos) (.int (as.getD n 0)):=fun he hi hn hs=>ev_at (ev_ofV (bB c1) hdata) he hi hn (by exact aQ 0xf11100f1180a0f rfl hza) hs
    have hnj:∀ {e:Expr} {p pos:Pos} {i:Int} (_:Ev X (k+2) (envF z L) ρ e (.int i)) (_:starEach [e] (envF z L)=[(false,eval e (envF z L))]),Ev X (k+2) (envF z L) ρ (.Call (.Name "isbjunk" p) [e] [] pos) (.bool false):=fun he hs=>ev_notin c4 (.inl ⟨"#g",c5⟩) (.inr hjs) he (by decide) hs
    refine next (WL _ _ _ (tst_of_eq (bC (aJ (aA b1) (aA c6) rfl) fun q1=>bC (aJ (aA b2) (aA c8) rfl) fun q2=>bC (tst_not (tst_bool (hnj (itB (n:=bj - 1) (ev_sub (aA b2) aM) ?_ ?_ (by intro _ _;with_unfolding_all rfl)) rfl))) fun _=>bC (aJ (itA (n:=bi - 1) (ev_sub (aA b1) aM) ?_ ?_ (by intro _ _;with_unfolding_all rfl)) (itB (n:=bj - 1) (ev_sub (aA b2) aM) ?_ ?_ (by intro _ _;with_unfolding_all rfl)) rfl) fun _=>tst_and0) ?_)) ?_
    · simp only [decide_eq_true_eq] at q1 q2;exact aQ 0xf18f1108ff11f110ff2c181cd5f1c0c4f1810 rfl q2
    · simp only [decide_eq_true_eq] at q1 q2;exact lq5 0xf1118f111108f151f2c4c4032a0100f1820 rfl h4 hw.2.2.2 q2
    · simp only [decide_eq_true_eq] at q1 q2;exact aQ 0xf18f1108ff11f110ff2c181cd5f1c0c4f1810 rfl q1
    · simp only [decide_eq_true_eq] at q1 q2;exact lq5 0xf1118f111108f151f2c4c4032a0100f1820 rfl h2 hw.2.1 q1
    · simp only [decide_eq_true_eq] at q1 q2;exact aQ 0xf18f1108ff11f110ff2c181cd5f1c0c4f1810 rfl q2
    · simp only [decide_eq_true_eq] at q1 q2;exact lq5 0xf1118f111108f151f2c4c4032a0100f1820 rfl h4 hw.2.2.2 q2
    · rcases Nat.lt_or_ge alo bi with h1' | h1'
      · rcases Nat.lt_or_ge blo bj with h2' | h2'
        · have:=best.left h1' h2'
          rw [mm_iff (by exact lq5 0xf1118f111108f151f241032a0100f1820 rfl h2 hw.2.1 h1') (by exact lq5 0xf1118f111108f151f241032a0100f1820 rfl h4 hw.2.2.2 h2')] at this
          rw [this];simp
        · have:¬ ((blo:Int) < bj):=by exact aQ 0xf110c1c46f100f rfl h2'
          simp [this]
      · have:¬ ((alo:Int) < bi):=by exact aQ 0xf110c1c46f100f rfl h1'
        simp [this]
    refine next (WL _ _ _ (tst_of_eq (bC (aJ (aT (aA b1) (aA b3)) (aA c7) rfl) fun q1=>bC (aJ (aT (aA b2) (aA b3)) (aA c9) rfl) fun q2=>bC (tst_not (tst_bool (hnj (itB (n:=bj+bk) (aT (aA b2) (aA b3)) ?_ ?_ (by intro _ _;with_unfolding_all rfl)) rfl))) fun _=>bC (aJ (itA (n:=bi+bk) (aT (aA b1) (aA b3)) ?_ ?_ (by intro _ _;with_unfolding_all rfl)) (itB (n:=bj+bk) (aT (aA b2) (aA b3)) ?_ ?_ (by intro _ _;with_unfolding_all rfl)) rfl) fun _=>tst_and0) ?_)) ?_
    · simp only [decide_eq_true_eq] at q1 q2;exact aQ 0xf1f1f10ac1c0ca5ff rfl
    · simp only [decide_eq_true_eq] at q1 q2;exact lq4 0xf111132a1f0c3c2ca4100f rfl h4 q2
    · simp only [decide_eq_true_eq] at q1 q2;exact aQ 0xf1f1f10ac1c0ca5ff rfl
    · simp only [decide_eq_true_eq] at q1 q2;exact lq4 0xf111132a1f0c3c2ca4100f rfl h2 q1
    · simp only [decide_eq_true_eq] at q1 q2;exact aQ 0xf1f1f10ac1c0ca5ff rfl
    · simp only [decide_eq_true_eq] at q1 q2;exact lq4 0xf111132a1f0c3c2ca4100f rfl h4 q2
    · rcases Nat.lt_or_ge (bi+bk) ahi with h1' | h1'
      · rcases Nat.lt_or_ge (bj+bk) bhi with h2' | h2'
        · have:=best.right h1' h2'
          rw [mm_iff (by exact lq4 0xf111132a1f032a1100f rfl h2 h1') (by exact lq4 0xf111132a1f032a1100f rfl h4 h2')] at this
          rw [this];simp
        · have:¬ ((bj:Int)+bk < bhi):=by exact aZ 0xf110c2c1ca46f21a00f rfl h2'
          simp [this]
      · have:¬ ((bi:Int)+bk < ahi):=by exact aZ 0xf110c2c1ca46f21a00f rfl h1'
        simp [this]
    refine next (WL _ _ _ (tst_of_eq (bC (aJ (aA b1) (aA c6) rfl) fun q1=>bC (aJ (aA b2) (aA c8) rfl) fun q2=>bC (b:=false) (c:=true) (tst_bool (hnj (itB (n:=bj - 1) (ev_sub (aA b2) aM) ?_ ?_ (by intro _ _;with_unfolding_all rfl)) rfl)) fun e=>by cases e) ?_)) ?_
    · simp only [decide_eq_true_eq] at q1 q2;exact aQ 0xf18f1108ff11f110ff2c181cd5f1c0c4f1810 rfl q2
    · simp only [decide_eq_true_eq] at q1 q2;exact lq5 0xf1118f111108f151f2c4c4032a0100f1820 rfl h4 hw.2.2.2 q2
    · simp
    refine next (WL _ _ _ (tst_of_eq (bC (aJ (aT (aA b1) (aA b3)) (aA c7) rfl) fun q1=>bC (aJ (aT (aA b2) (aA b3)) (aA c9) rfl) fun q2=>bC (b:=false) (c:=true) (tst_bool (hnj (itB (n:=bj+bk) (aT (aA b2) (aA b3)) ?_ ?_ (by intro _ _;with_unfolding_all rfl)) rfl)) fun e=>by cases e) ?_)) ?_
    · simp only [decide_eq_true_eq] at q1 q2;exact aQ 0xf1f1f10ac1c0ca5ff rfl
    · simp only [decide_eq_true_eq] at q1 q2;exact lq4 0xf111132a1f0c3c2ca4100f rfl h4 q2
    · simp
    refine aB (ex_return (ev_match F G rfl (aC (aA b1) (aC (aA b2) (aC (aA b3) aG)))) ⟨bi,bj,bk,rfl,best⟩)
end
section
variable {O:KeyOrd} (ky:Keyed→O.α)
noncomputable def kk (xs:Array Keyed) (i:Nat):O.α:=ky (xs.getD i (.none,.none))
noncomputable def SegS (xs:Array Keyed) (lo n:Nat):Prop:=∀ i j,lo≤i→i≤j→j < lo+n→O.kle (kk ky xs i) (kk ky xs j)
noncomputable def SegD (xs:Array Keyed) (lo n:Nat):Prop:=∀ i j,lo≤i→i≤j→j < lo+n→O.kle (kk ky xs j) (kk ky xs i)
noncomputable def Same (xs ys:Array Keyed) (lo n:Nat):Prop:=∀ i,i < lo∨lo+n≤i→ys[i]?=xs[i]?
theorem Same.refl (xs:Array Keyed) (lo n:Nat):Same xs xs lo n:=fun _ _=>rfl
theorem Same.trans {xs ys zs:Array Keyed} {lo n:Nat} (h:Same xs ys lo n) (g:Same ys zs lo n):Same xs zs lo n:=fun i hi=>(g i hi).trans (h i hi)
variable {ky}
theorem kk_congr {xs ys:Array Keyed} {i j:Nat} (h:xs[i]?=ys[j]?):kk ky xs i=kk ky ys j:=by unfold kk;rw [Array.getD_eq_getD_getElem?,Array.getD_eq_getD_getElem?,h]
theorem kk_bubble {xs:Array Keyed} {src d:Nat} (hs:src < xs.size) (hd:d≤src) (k:Nat) :
    kk ky (bubble xs src d) k=if k=src - d then kk ky xs src else if src - d < k∧k≤src then kk ky xs (k - 1) else kk ky xs k:=by
  have e:=getElem?_bubble hs d hd k
  by_cases h1:k=src - d
  · rw [if_pos h1] at e ⊢;exact kk_congr e
  · rw [if_neg h1] at e ⊢
    by_cases h2:src - d < k∧k≤src
    · rw [if_pos h2] at e ⊢;exact kk_congr e
    · rw [if_neg h2] at e ⊢;exact kk_congr e
theorem kk_mirror {xs:Array Keyed} {i j:Nat} (hj:j≤xs.size) (k:Nat):kk ky (mirror xs i j ((j - i) / 2)) k=if i≤k∧k < j then kk ky xs (i+j - 1 - k) else kk ky xs k:=by
  have e:=getElem?_mirror_all (i:=i) hj k
  by_cases h1:i≤k∧k < j
  · rw [if_pos h1] at e ⊢;exact kk_congr e
  · rw [if_neg h1] at e ⊢;exact kk_congr e
theorem kk_mirror_equal {xs:Array Keyed} {i j:Nat} (hj:j≤xs.size) (heq:∀ k,i≤k→k < j→kk ky xs k=kk ky xs (j - 1)) (k:Nat):kk ky (mirror xs i j ((j - i) / 2)) k=kk ky xs k:=by
  rw [kk_mirror hj]
  split
  · rw [heq _ (by lia) (by lia),heq k (by lia) (by lia)]
  · rfl
theorem same_mirror {xs:Array Keyed} {i j lo n:Nat} (hj:j≤xs.size) (h1:lo≤i) (h2:j≤lo+n):Same xs (mirror xs i j ((j - i) / 2)) lo n:=fun k hk=>by
  rw [getElem?_mirror_all hj,if_neg (by exact lq5 0xf10101f1011f24141076f430a0041830a20100f rfl h1 h2 hk)]
theorem same_bubble {xs:Array Keyed} {src d lo n:Nat} (hs:src < xs.size) (hd:d≤src) (h1:lo≤src - d) (h2:src < lo+n):Same xs (bubble xs src d) lo n:=fun k hk=>by
  rw [getElem?_bubble hs d hd,if_neg (by exact lq5 0xf100181f10011f5426f430a0041830a11500f211 rfl h1 h2 hk),if_neg (by exact lq5 0xf1000101f100011f14045176f430a0041830a11500f211 rfl h1 h2 hk)]
structure SB (a₀:Array Keyed) (κ:SortKind) (st:SortSt):Prop where
  perm:(arrOf st).Perm a₀
  kind:kindOf st=κ
  failed:failedOf st=none
theorem SB.size {a₀:Array Keyed} {κ:SortKind} {st:SortSt} (h:SB a₀ κ st):(arrOf st).size=a₀.size:=h.perm.size_eq
theorem SB.set {a₀:Array Keyed} {κ:SortKind} {st:SortSt} (h:SB a₀ κ st) {xs:Array Keyed} (hp:xs.Perm (arrOf st)):SB a₀ κ (setArr st xs):=⟨hp.trans h.perm,h.kind,h.failed⟩
noncomputable def Cmp (M:Model) (A:Around) (s:Shared) (ky:Keyed→O.α) (a₀:Array Keyed) (κ:SortKind):Prop:=∀ x y,x∈a₀.toList→y∈a₀.toList→∀ (Q:Bool→Shared→Prop) (E:Value→Shared→Prop),Q (O.blt (ky x) (ky y)) s→wpAny M A (keyLt' κ x.1 y.1) Q E s
variable {M:Model} {A:Around} {E:Value→Shared→Prop} {s:Shared} {a₀:Array Keyed} {κ:SortKind}
theorem lt_of {st:SortSt} {x y:Keyed} {Q:Option Bool→SortSt→Prop} (hC:Cmp M A s ky a₀ κ) (hk:kindOf st=κ) (hx:x∈a₀.toList) (hy:y∈a₀.toList) (h:Q (some (O.blt (ky x) (ky y))) st):wpS M A E s (lt' x y) Q st:=by
  rw [lt'_eq]
  refine wpS_bind (wpS_get ?_)
  rw [hk]
  refine wpS_bind (wpS_lift (wpAny_attempt (hC x y hx hy _ _ ⟨rfl,?_⟩)))
  exact wpS_pure h
theorem SB.mem {st:SortSt} (hB:SB a₀ κ st) {i:Nat} (hi:i < a₀.size):∃ x,(arrOf st)[i]?=some x∧x∈a₀.toList∧kk ky (arrOf st) i=ky x:=by
  have hi':i < (arrOf st).size:=by rw [hB.size];exact hi
  refine ⟨(arrOf st)[i],getElem?_pos _ i hi',(Array.perm_iff_toList_perm.mp hB.perm).mem_iff.mp (by simp),?_⟩
  unfold kk
  rw [Array.getD_eq_getD_getElem?,getElem?_pos _ i hi']
  rfl
theorem lt_at {st:SortSt} {i j:Nat} {Q:Option Bool→SortSt→Prop} (hC:Cmp M A s ky a₀ κ) (hB:SB a₀ κ st) (hi:i < a₀.size) (hj:j < a₀.size) (h:Q (some (O.blt (kk ky (arrOf st) i) (kk ky (arrOf st) j))) st):wpS M A E s (ltAt' i j) Q st:=by
  obtain ⟨x,e1,m1,k1⟩:=hB.mem (ky:=ky) hi
  obtain ⟨y,e2,m2,k2⟩:=hB.mem (ky:=ky) hj
  rw [k1,k2] at h
  rw [ltAt'_eq]
  refine wpS_bind (wpS_get ?_)
  show wpS _ _ _ _ (do let x ← elem' (arrOf st) i;let y ← elem' (arrOf st) j;lt' x y) Q st
  rw [elem'_eq,elem'_eq,e1,e2]
  exact wpS_bind (wpS_pure (wpS_bind (wpS_pure (lt_of hC hB.kind m1 m2 h))))
theorem rev_wp {st:SortSt} {i j:Nat} {Q:Unit→SortSt→Prop} (h:Q () (setArr st (mirror (arrOf st) i j ((j - i) / 2)))):wpS M A E s (reverseSlice' i j) Q st:=by
  rw [reverseSlice'_eq];exact wpS_modify h
noncomputable def ascL (lo a nrem:Nat):StateT SortSt Sem (Option (Option Nat)×Nat) :=
  forIn [a:nrem] ((none,a):Option (Option Nat)×Nat) fun _ r=>do
    let x ← ltAt' (lo+r.2) (lo+r.2 - 1)
    match x with
    | some smaller=>if smaller=true then pure (ForInStep.done (none,r.2)) else pure (ForInStep.yield (none,r.2+1))
    | _=>pure (ForInStep.done (some none,r.2))
noncomputable def tailL (lo n nrem:Nat):StateT SortSt Sem (Option Nat):=do
  reverseSlice' lo (lo+n)
  let r ← ascL lo n nrem
  match r.1 with
  | some x=>pure x
  | none=>pure (some r.2)
noncomputable def descL (lo n nrem:Nat):StateT SortSt Sem (Option (Option Nat)×Nat×Nat) :=
  forIn [n:nrem] ((none,n,0):Option (Option Nat)×Nat×Nat) fun _ r=>do
    let x ← ltAt' (lo+r.2.1) (lo+r.2.1 - 1)
    match x with
    | some smaller =>
      if smaller=true then
        if r.2.2 > 0 then do
          reverseSlice' (lo+r.2.1 - (r.2.2+1)) (lo+r.2.1)
          pure (ForInStep.yield (none,r.2.1+1,0))
        else pure (ForInStep.yield (none,r.2.1+1,0))
      else do
        let x ← ltAt' (lo+r.2.1 - 1) (lo+r.2.1)
        match x with
        | some larger =>
          if larger=true then pure (ForInStep.done (none,r.2.1,r.2.2))
          else pure (ForInStep.yield (none,r.2.1+1,r.2.2+1))
        | _=>pure (ForInStep.done (some none,r.2.1,r.2.2))
    | _=>pure (ForInStep.done (some none,r.2.1,r.2.2))
noncomputable def descP (lo n nrem:Nat):StateT SortSt Sem (Option Nat):=do
  liftM (rule "list.sort.descending-run")
  let r ← descL lo (n+1) nrem
  match r.1 with
  | some x=>pure x
  | none =>
    if r.2.2 > 0 then do
      reverseSlice' (lo+r.2.1 - (r.2.2+1)) (lo+r.2.1)
      tailL lo r.2.1 nrem
    else tailL lo r.2.1 nrem
theorem countRun_parts (lo nrem:Nat):countRun' lo nrem=(do
    let r ← ascL lo 1 nrem
    match r.1 with
    | some x=>pure x
    | none =>
      if (r.2 == nrem)=true then pure (some r.2)
      else if r.2 > 1 then do
        let x ← ltAt' lo (lo+r.2 - 1)
        match x with
        | some rose=>if rose=true then pure (some r.2) else do
          reverseSlice' lo (lo+r.2)
          descP lo r.2 nrem
        | _=>pure none
      else descP lo r.2 nrem):=by
  rw [countRun'_eq]
  unfold descP tailL descL ascL
  dsimp only
  congr 1
  funext r
  obtain ⟨r,n⟩:=r
  have t3:∀ {α:Type} {f g:Option (Option Nat)×Nat→StateT SortSt Sem α} (m:StateT SortSt Sem (Option (Option Nat)×Nat)),(∀ a b,f (a,b)=g (a,b))→(m >>= f)=(m >>= g):=fun m h=>by congr 1;funext x;obtain ⟨a,b⟩:=x;exact h a b
  cases r with
  | some r=>rfl
  | none =>
    dsimp only
    split
    · rfl
    · split
      · congr 1
        funext x
        cases x with
        | none=>rfl
        | some rose =>
          dsimp only
          split
          · rfl
          · congr 1;funext _u
            congr 1;funext _v
            congr 1;funext y
            obtain ⟨r2,n2,q2⟩:=y
            cases r2 with
            | some r2=>rfl
            | none =>
              dsimp only
              split
              · congr 1;funext _w;congr 1;funext _z
                exact t3 _ fun a b=>by cases a <;> rfl
              · congr 1;funext _w
                exact t3 _ fun a b=>by cases a <;> rfl
      · congr 1;funext _v
        congr 1;funext y
        obtain ⟨r2,n2,q2⟩:=y
        cases r2 with
        | some r2=>rfl
        | none =>
          dsimp only
          split
          · congr 1;funext _w;congr 1;funext _z
            exact t3 _ fun a b=>by cases a <;> rfl
          · congr 1;funext _w
            exact t3 _ fun a b=>by cases a <;> rfl
theorem asc_wp {st:SortSt} {lo a nrem:Nat} {Q:Option (Option Nat)×Nat→SortSt→Prop} (hC:Cmp M A s ky a₀ κ) (hn:lo+nrem≤a₀.size) (ha:1≤a) (han:a≤nrem) (hB:SB a₀ κ st) (hs:SegS ky (arrOf st) lo a)
    (h:∀ n,a≤n→n≤nrem→SegS ky (arrOf st) lo n→(n=nrem∨O.klt (kk ky (arrOf st) (lo+n)) (kk ky (arrOf st) (lo+n - 1)))→Q (none,n) st):wpS M A E s (ascL lo a nrem) Q st:=by
  unfold ascL
  refine wpS_forRange (I:=fun x c st'=>st'=st∧c=(none,x)∧SegS ky (arrOf st) lo x) ?step ?fin ⟨rfl,rfl,hs⟩
  case fin =>
    rintro c st' ⟨rfl,rfl,hs'⟩
    rw [show max a nrem=nrem by exact aQ 0xf101f111ff108f1108ff122f100f104 rfl han] at hs' ⊢
    exact h nrem han (Nat.le_refl _) hs' (.inl rfl)
  case step =>
    rintro x c st' hax hxn ⟨rfl,rfl,hs'⟩
    dsimp only
    refine wpS_bind (lt_at hC hB (by exact lq4 0xf111230a1f131210a0f rfl hn hxn) (by exact lq4 0xf11011241f131210a0f1830a1 rfl hn hxn) ?_)
    cases hl:O.blt (kk ky (arrOf st') (lo+x)) (kk ky (arrOf st') (lo+x - 1)) with
    | true=>exact wpS_pure (h x hax (by exact aQ 0xf11100f101f rfl hxn) hs' (.inr hl))
    | false =>
      refine wpS_pure ⟨rfl,rfl,fun i j hi hij hj=>?_⟩
      by_cases hjx:j < lo+x
      · exact hs' i j hi hij hjx
      · have hj':j=lo+x:=by exact aZ 0xf101f11f21a02f21a016182a1a01f rfl hj hjx
        subst hj'
        by_cases hi':i=lo+x
        · subst hi';exact KeyOrd.kle_refl _
        · exact KeyOrd.kle_trans (hs' i (lo+x - 1) hi (by exact aZ 0xf1011f10001f300f21a02621a00f1821a1 rfl hij hi') (by exact aZ 0xf18f11108f12a31f1000180f1812a0 rfl ha hax)) hl
theorem tail_wp {st:SortSt} {lo n nrem:Nat} {Q:Option Nat→SortSt→Prop} (hC:Cmp M A s ky a₀ κ) (hn:lo+nrem≤a₀.size) (h1:1≤n) (hnn:n≤nrem) (hB:SB a₀ κ st) (hs:SegD ky (arrOf st) lo n)
    (h:∀ m st',SB a₀ κ st'→1≤m→m≤nrem→SegS ky (arrOf st') lo m→Same (arrOf st) (arrOf st') lo nrem→pendingOf st'=pendingOf st→gallopOf st'=gallopOf st→Q (some m) st'):wpS M A E s (tailL lo n nrem) Q st:=by
  unfold tailL
  have hsz:lo+n≤(arrOf st).size:=by rw [hB.size];exact lq4 0xf111230a0f130210a0f rfl hn hnn
  refine wpS_bind (rev_wp ?_)
  have hB':SB a₀ κ (setArr st (mirror (arrOf st) lo (lo+n) ((lo+n - lo) / 2))):=hB.set (mirror_perm _ _ _ _)
  refine wpS_bind (asc_wp hC hn h1 hnn hB' ?_ fun m hm1 hm2 hsm _=>wpS_pure (h m _ hB' (by exact aQ 0xf1111180f1000180f rfl h1 hm1) hm2 hsm (same_mirror hsz (Nat.le_refl _) (by exact aZ 0xf1112a02a0f100f rfl hnn)) rfl rfl))
  intro i j hi hij hj
  show O.kle (kk ky (mirror (arrOf st) lo (lo+n) ((lo+n - lo) / 2)) i) (kk ky (mirror (arrOf st) lo (lo+n) ((lo+n - lo) / 2)) j)
  rw [kk_mirror hsz,kk_mirror hsz,if_pos (by exact lq4 0xf1101f11f30a111007f30a21210100f rfl hi hij hj),if_pos (by exact lq4 0xf1001f111f30a212007f30a21210100f rfl hi hij hj)]
  exact hs _ _ (by exact aZ 0xf110101410f21a01f0311821a1a1 rfl hj) (by exact lq4 0xf1100018f108f650f100f0411401832a2a1 rfl hij) (by exact aZ 0xf10188f11008ff11088f110008ff01a41f2100180f2301801a1a0 rfl h1 hi)
theorem desc_wp {st:SortSt} {lo n nrem:Nat} {Q:Option (Option Nat)×Nat×Nat→SortSt→Prop} (hC:Cmp M A s ky a₀ κ) (hn:lo+nrem≤a₀.size) (h1:1≤n) (hnn:n≤nrem) (hB:SB a₀ κ st) (hs:SegD ky (arrOf st) lo n)
    (h:∀ m neq st',SB a₀ κ st'→n≤m→m≤nrem→SegD ky (arrOf st') lo m→neq+1≤m→(∀ i,lo+m - (neq+1)≤i→i < lo+m→kk ky (arrOf st') i=kk ky (arrOf st') (lo+m - 1))→Same (arrOf st) (arrOf st') lo nrem→pendingOf st'=pendingOf st→gallopOf st'=gallopOf st→Q (none,m,neq) st'):wpS M A E s (descL lo n nrem) Q st:=by
  unfold descL
  refine wpS_forRange (I:=fun x c st'=>∃ neq,c=(none,x,neq)∧SB a₀ κ st'∧SegD ky (arrOf st') lo x∧neq+1≤x∧(∀ i,lo+x - (neq+1)≤i→i < lo+x→kk ky (arrOf st') i=kk ky (arrOf st') (lo+x - 1))∧Same (arrOf st) (arrOf st') lo nrem∧pendingOf st'=pendingOf st∧gallopOf st'=gallopOf st) ?step ?fin
    ⟨0,rfl,hB,hs,by exact lq1 0xf1101808a0f0180f rfl h1,fun i h1 h2=>by congr 1;exact aZ 0xf11018f108ff100011f1000110ff322f10a21240f1808a10a11810a0 rfl h1 h2,Same.refl _ _ _,rfl,rfl⟩
  case fin =>
    rintro c st' ⟨neq,rfl,hB',hs',hq,he,hS,hp,hg⟩
    rw [show max n nrem=nrem by exact aQ 0xf101f111ff108f1108ff122f100f104 rfl hnn] at hs' hq he ⊢
    exact h nrem neq st' hB' hnn (Nat.le_refl _) hs' hq he hS hp hg
  case step =>
    rintro x c st' hax hxn ⟨neq,rfl,hB',hs',hq,he,hS,hp,hg⟩
    dsimp only
    have hsz:lo+x < (arrOf st').size:=by rw [hB'.size];exact lq4 0xf111230a1f131210a0f rfl hn hxn
    refine wpS_bind (lt_at hC hB' (by exact lq4 0xf111230a1f131210a0f rfl hn hxn) (by exact lq4 0xf11011241f131210a0f1830a1 rfl hn hxn) ?_)
    have ext:∀ (st2:SortSt),(∀ i,kk ky (arrOf st2) i=kk ky (arrOf st') i)→O.kle (kk ky (arrOf st') (lo+x)) (kk ky (arrOf st') (lo+x - 1))→SegD ky (arrOf st2) lo (x+1):=fun st2 hk hle i j hi hij hj=>by
      rw [hk,hk]
      by_cases hjx:j < lo+x
      · exact hs' i j hi hij hjx
      · have hj':j=lo+x:=by exact aZ 0xf101f11f21a02f21a016182a1a01f rfl hj hjx
        subst hj'
        by_cases hi':i=lo+x
        · subst hi';exact KeyOrd.kle_refl _
        · exact KeyOrd.kle_trans hle (hs' i (lo+x - 1) hi (by exact aZ 0xf1011f10001f300f21a02621a00f1821a1 rfl hij hi') (by exact aZ 0xf18f1108f12a31f1180a0f1812a0 rfl hq))
    cases hl:O.blt (kk ky (arrOf st') (lo+x)) (kk ky (arrOf st') (lo+x - 1)) with
    | true =>
      dsimp only
      rw [if_pos rfl]
      by_cases hneq:neq > 0
      · rw [if_pos hneq]
        refine wpS_bind (rev_wp (wpS_pure ⟨0,rfl,hB'.set (mirror_perm _ _ _ _),?_,by exact lq1 0xf1180a1808a0ff rfl,fun i h1 h2=>by congr 1;exact aZ 0xf11018f108ff100011f1000110ff322f181a0a21240f1808a181a0a118181a0a0 rfl h1 h2,hS.trans (same_mirror (by exact aZ 0xf11210a0f210a1f rfl hsz) (by exact aZ 0xf1101320f1180a0f180a12a1 rfl hq) (by exact aZ 0xf1112a02a0f101f rfl hxn)),hp,hg⟩))
        exact ext _ (fun i=>kk_mirror_equal (by exact aZ 0xf11210a0f210a1f rfl hsz) (fun k h1 h2=>he k h1 h2) i) (KeyOrd.kle_of_klt hl)
      · rw [if_neg hneq]
        exact wpS_pure ⟨0,rfl,hB',ext st' (fun _=>rfl) (KeyOrd.kle_of_klt hl),by exact lq1 0xf1180a1808a0ff rfl,fun i h1 h2=>by congr 1;exact aZ 0xf11018f108ff100011f1000110ff322f181a0a21240f1808a181a0a118181a0a0 rfl h1 h2,hS,hp,hg⟩
    | false =>
      dsimp only
      rw [if_neg (by simp)]
      refine wpS_bind (lt_at hC hB' (by exact lq4 0xf11011241f131210a0f1830a1 rfl hn hxn) (by exact lq4 0xf111230a1f131210a0f rfl hn hxn) ?_)
      cases hl2:O.blt (kk ky (arrOf st') (lo+x - 1)) (kk ky (arrOf st') (lo+x)) with
      | true=>exact wpS_pure (h x neq st' hB' hax (by exact aQ 0xf11100f101f rfl hxn) hs' hq he hS hp hg)
      | false =>
        have heq:kk ky (arrOf st') (lo+x)=kk ky (arrOf st') (lo+x - 1):=O.total _ _ hl hl2
        refine wpS_pure ⟨neq+1,rfl,hB',ext st' (fun _=>rfl) (by rw [heq];exact KeyOrd.kle_refl _),by exact aQ 0xf11181a18180aa0f1180a0f rfl hq,fun i h1 h2=>?_,hS,hp,hg⟩
        rw [show lo+(x+1) - 1=lo+x by exact aQ 0xf11f110ff18f108ff10a22ff18181a0a0 rfl]
        by_cases hix:i=lo+x
        · subst hix;rfl
        · rw [heq];exact he i (by exact lq4 0xf11018f108f340f350f18182aa181a0a1182a10a0 rfl h1) (by exact aZ 0xf11f101f21a01f21a026182a1a01f rfl h2 hix)
theorem descP_wp {st:SortSt} {lo n nrem:Nat} {Q:Option Nat→SortSt→Prop} (hC:Cmp M A s ky a₀ κ) (hn:lo+nrem≤a₀.size) (hnn:n+1≤nrem) (hB:SB a₀ κ st) (hs:SegD ky (arrOf st) lo (n+1))
    (h:∀ m st',SB a₀ κ st'→1≤m→m≤nrem→SegS ky (arrOf st') lo m→Same (arrOf st) (arrOf st') lo nrem→pendingOf st'=pendingOf st→gallopOf st'=gallopOf st→Q (some m) st'):wpS M A E s (descP lo n nrem) Q st:=by
  unfold descP
  refine wpS_bind (wpS_lift (wpAny_rule ⟨rfl,?_⟩))
  refine wpS_bind (desc_wp hC hn (by exact lq1 0xf1180a180ff rfl) hnn hB hs fun m neq st' hB' hm1 hm2 hs' hq he hS hp hg=>?_)
  dsimp only
  have hsz:lo+m≤(arrOf st').size:=by rw [hB'.size];exact lq4 0xf111230a0f130210a0f rfl hn hm2
  by_cases hneq:neq > 0
  · rw [if_pos hneq]
    refine wpS_bind (rev_wp (tail_wp hC hn (by exact aQ 0xf111180f1180a0f rfl hq) hm2 (hB'.set (mirror_perm _ _ _ _)) ?_ fun m' st2 a1 a2 a3 a4 a5 a6 a7=>h m' st2 a1 a2 a3 a4 (hS.trans ((same_mirror hsz (by exact aZ 0xf1101320f1180a0f180a12a1 rfl hq) (by exact aZ 0xf1112a02a0f100f rfl hm2)).trans a5)) (a6.trans hp) (a7.trans hg)))
    intro i j hi hij hj
    show O.kle (kk ky (mirror (arrOf st') _ _ _) j) (kk ky (mirror (arrOf st') _ _ _) i)
    rw [kk_mirror_equal hsz (fun k h1 h2=>he k h1 h2),kk_mirror_equal hsz (fun k h1 h2=>he k h1 h2)]
    exact hs' i j hi hij hj
  · rw [if_neg hneq]
    exact tail_wp hC hn (by exact aQ 0xf111180f1180a0f rfl hm1) hm2 hB' hs' fun m' st2 a1 a2 a3 a4 a5 a6 a7=>h m' st2 a1 a2 a3 a4 (hS.trans a5) (a6.trans hp) (a7.trans hg)
theorem count_wp {st:SortSt} {lo nrem:Nat} {Q:Option Nat→SortSt→Prop} (hC:Cmp M A s ky a₀ κ) (hn:lo+nrem≤a₀.size) (h1:1≤nrem) (hB:SB a₀ κ st)
    (h:∀ m st',SB a₀ κ st'→1≤m→m≤nrem→SegS ky (arrOf st') lo m→Same (arrOf st) (arrOf st') lo nrem→pendingOf st'=pendingOf st→gallopOf st'=gallopOf st→Q (some m) st'):wpS M A E s (countRun' lo nrem) Q st:=by
  rw [countRun_parts]
  refine wpS_bind (asc_wp hC hn (Nat.le_refl 1) h1 hB (fun i j hi hij hj=>by have:i=j:=(by exact aZ 0xf1011f101f212f180a21210100f rfl hi hij hj);subst this;exact KeyOrd.kle_refl _) fun n hn1 hn2 hsn hor=>?_)
  dsimp only
  by_cases hnn:n=nrem
  · rw [if_pos (by simpa using hnn)]
    exact wpS_pure (h n st hB hn1 hn2 hsn (Same.refl _ _ _) rfl rfl)
  · rw [if_neg (by simpa using hnn)]
    have hlt:=hor.resolve_left hnn
    by_cases hgt:n > 1
    · rw [if_pos hgt]
      refine wpS_bind (lt_at hC hB (by exact lq4 0xf1111201f3181130210a0f rfl hn hn2 hgt) (by exact lq4 0xf1118f100010f241f3181130210a0f1830a0 rfl hn hn2 hgt) ?_)
      cases hrose:O.blt (kk ky (arrOf st) lo) (kk ky (arrOf st) (lo+n - 1)) with
      | true =>
        dsimp only
        rw [if_pos rfl]
        exact wpS_pure (h n st hB hn1 hn2 hsn (Same.refl _ _ _) rfl rfl)
      | false =>
        dsimp only
        rw [if_neg (by simp)]
        have hsz:lo+n≤(arrOf st).size:=by rw [hB.size];exact lq4 0xf111230a0f130210a0f rfl hn hn2
        have hall:∀ k,lo≤k→k < lo+n→kk ky (arrOf st) k=kk ky (arrOf st) (lo+n - 1):=by
          intro k hk1 hk
          exact KeyOrd.kle_antisymm (hsn k (lo+n - 1) hk1 (by exact aZ 0xf1101300f21a01f1821a1 rfl hk) (by exact aQ 0xf18f1108f01a21f0181f1801a0 rfl hgt)) (KeyOrd.kle_trans hrose (hsn lo k (Nat.le_refl _) hk1 hk))
        refine wpS_bind (rev_wp (descP_wp hC hn (by exact aQ 0xf11f101f1180a0f1026100f rfl hn2 hnn) (hB.set (mirror_perm _ _ _ _)) ?_ fun m' st2 a1 a2 a3 a4 a5 a6 a7=>h m' st2 a1 a2 a3 a4 ((same_mirror hsz (Nat.le_refl _) (by exact aZ 0xf1112a02a0f100f rfl hn2)).trans a5) a6 a7))
        intro i j hi hij hj
        show O.kle (kk ky (mirror (arrOf st) _ _ _) j) (kk ky (mirror (arrOf st) _ _ _) i)
        rw [kk_mirror_equal hsz hall,kk_mirror_equal hsz hall]
        by_cases hjn:j < lo+n
        · rw [hall i hi (by exact lq4 0xf11132a01f32a11100f rfl hij hjn),hall j (by exact aZ 0xf111200f210100f rfl hi hij) hjn];exact KeyOrd.kle_refl _
        · have hj':j=lo+n:=by exact aZ 0xf101f11f21a02f21a016182a1a01f rfl hj hjn
          subst hj'
          by_cases hi':i=lo+n
          · subst hi';exact KeyOrd.kle_refl _
          · rw [hall i hi (by exact aZ 0xf11f101f21a01f21a02621a00f rfl hij hi')];exact KeyOrd.kle_of_klt hlt
    · rw [if_neg hgt]
      have hn1':n=1:=by exact lq1 0xf11f101f1802f018160180f rfl hn1 hgt
      subst hn1'
      refine descP_wp hC hn (by exact lq1 0xf11f101f01818a0f018260180f rfl h1 hnn) hB ?_ h
      intro i j hi hij hj
      by_cases hi':i=j
      · subst hi';exact KeyOrd.kle_refl _
      · have e1:i=lo:=by exact aZ 0xf11f10011f1001ff012f21261818a0a21210100f rfl hi hij hj hi'
        have e2:j=lo+1:=by exact aZ 0xf111f1001ff1001f180a22f21261818a0a21210100f rfl hi hij hj hi'
        subst e1 e2
        exact KeyOrd.kle_of_klt hlt
theorem bin_wp {st:SortSt} {lo n ok:Nat} {Q:Bool→SortSt→Prop} (hC:Cmp M A s ky a₀ κ) (hn:lo+n≤a₀.size) (hok:ok≤n) (hB:SB a₀ κ st) (hs:SegS ky (arrOf st) lo ok)
    (h:∀ st',SB a₀ κ st'→SegS ky (arrOf st') lo n→Same (arrOf st) (arrOf st') lo n→pendingOf st'=pendingOf st→gallopOf st'=gallopOf st→Q true st'):wpS M A E s (binarySort' lo n ok) Q st:=by
  rw [binarySort'_eq]
  refine wpS_bind (wpS_mono (wpS_forRange (I:=fun k c st'=>c=(none,())∧SB a₀ κ st'∧SegS ky (arrOf st') lo (min k n)∧Same (arrOf st) (arrOf st') lo n∧pendingOf st'=pendingOf st∧gallopOf st'=gallopOf st)
    (Q:=fun c st'=>c=(none,())∧SB a₀ κ st'∧SegS ky (arrOf st') lo n∧Same (arrOf st) (arrOf st') lo n∧pendingOf st'=pendingOf st∧gallopOf st'=gallopOf st) ?step ?fin ?init) ?post)
  case post =>
    rintro c st' ⟨rfl,hB',hs',a1,a2,a3⟩
    exact wpS_pure (h st' hB' hs' a1 a2 a3)
  case init =>
    refine ⟨rfl,hB,fun i j hi hij hj=>?_,Same.refl _ _ _,rfl,rfl⟩
    by_cases h1:ok=0
    · have:i=j:=by exact lq5 0xf10110818f10110808ff8000010ff101f212f083260a21210100f4531834 rfl hi hij hj h1
      subst this;exact KeyOrd.kle_refl _
    · exact hs i j hi hij (by exact lq4 0xf1f1108181ff1f1108081fff110818f110808ff21a01f0822651a01f3431824 rfl hj h1)
  case fin =>
    rintro c st' ⟨hc,hB',hs',a⟩
    refine ⟨hc,hB',?_,a⟩
    rwa [show min (max (max ok 1) n) n=n by exact aQ 0xf1000001f1000101ff1000001f1001101fff1000001f1000101ff1000001f1001101ffff1000008f1000018ff1000008f1000018fff1000008f1000018ff1000008f1000018ffff142ff1331241804 rfl] at hs'
  case step =>
    rintro k c st' hak hkn ⟨rfl,hB',hs',a1,a2,a3⟩
    rw [show min k n=k by exact aQ 0xf1101f101ff1010f108ff022f101f103 rfl hkn] at hs'
    have hk:lo+k < a₀.size:=by exact lq4 0xf111230a1f131210a0f rfl hn hkn
    refine wpS_bind (wpS_mono (wpS_forRange (I:=fun x c st''=>st''=st'∧∃ l r,c=(none,l,r)∧l≤r∧r≤k∧r - l≤k - x ∧
        (∀ i,i < l→O.kle (kk ky (arrOf st') (lo+i)) (kk ky (arrOf st') (lo+k)))∧(∀ i,r≤i→i < k→O.klt (kk ky (arrOf st') (lo+k)) (kk ky (arrOf st') (lo+i))))
      (Q:=fun c st''=>st''=st'∧∃ l r,c=(none,l,r)∧l≤k ∧
        (∀ i,i < l→O.kle (kk ky (arrOf st') (lo+i)) (kk ky (arrOf st') (lo+k)))∧(∀ i,l≤i→i < k→O.klt (kk ky (arrOf st') (lo+k)) (kk ky (arrOf st') (lo+i)))) ?istep ?ifin ?iinit) ?ipost)
    case iinit=>exact ⟨rfl,0,k,rfl,by exact lq1 0xf10080ff rfl,by exact lq1 0xf1000ff rfl,by exact lq1 0xf1110ff0801 rfl,fun i hi=>by exact (lq1 0xf19f0801f rfl hi).elim,fun i h1 h2=>by exact (aQ 0xf119f011100f rfl h1 h2).elim⟩
    case ifin =>
      rintro c st'' ⟨rfl,l,r,rfl,hlr,hrk,hm,hlo,hhi⟩
      have:l=r:=by exact aZ 0xf100101018f1001010008ff1000110ff1001f102f530210100f4202084011 rfl hlr hrk hm
      subst this
      exact ⟨rfl,l,l,rfl,hrk,hlo,hhi⟩
    case istep =>
      rintro x c st'' _ hxk ⟨rfl,l,r,rfl,hlr,hrk,hm,hlo,hhi⟩
      dsimp only
      by_cases hge:l ≥ r
      · rw [if_pos hge]
        have:l=r:=by exact aQ 0xf101f11f102f010100f rfl hlr hge
        subst this
        exact wpS_pure ⟨rfl,l,l,rfl,hrk,hlo,hhi⟩
      · rw [if_neg hge]
        refine wpS_bind (lt_at hC hB' hk (by exact lq5 0xf122012250a1f4306130210a1f2834a2 rfl hk hrk hge) ?_)
        cases hless:O.blt (kk ky (arrOf st'') (lo+k)) (kk ky (arrOf st'') (lo+(l+r) / 2)) with
        | true =>
          simp only [if_true]
          refine wpS_pure ⟨rfl,l,(l+r) / 2,rfl,by exact aQ 0xf1102210f1006f2801a2 rfl hge,by exact aZ 0xf12012130f2006100f2802a2 rfl hrk hge,by exact lq4 0xf1101001298f11000012908ff108f650f17070f320101183a211402801a2 rfl hm,hlo,fun i h1 h2=>?_⟩
          exact KeyOrd.klt_of_klt_of_kle hless (hs' _ _ (by exact aZ 0xf130a00ff2821a2 rfl) (by exact lq4 0xf100123a43a0f240f2810a2 rfl h1) (by exact aZ 0xf1112a02a1f101f rfl h2))
        | false =>
          simp only [Bool.false_eq_true,if_false]
          refine wpS_pure ⟨rfl,(l+r) / 2+1,r,rfl,by exact aQ 0xf10120182a0f1006f2801a2 rfl hge,by exact aQ 0xf11100f100f rfl hrk,by exact lq4 0xf1101010298f11000102908ff108f650f17070f320101183a21184a002801a2 rfl hm,fun i h1=>?_,hhi⟩
          exact KeyOrd.kle_trans (hs' (lo+i) (lo+(l+r) / 2) (by exact aQ 0xf110a00ff rfl) (by exact lq4 0xf100143a03a0f184a01f2821a2 rfl h1) (by exact lq4 0xf1201213a43a1f2006100f2802a2 rfl hrk hge)) hless
    case ipost =>
      rintro c st'' ⟨rfl,l,r,rfl,hlk,hlo,hhi⟩
      show wpS _ _ _ _ (do moveDown' (lo+k) (lo+l);pure (ForInStep.yield (none,()))) _ _
      rw [moveDown'_eq]
      have hks:lo+k < (arrOf st'').size:=by rw [hB'.size];exact hk
      have ed:lo+k - (lo+l)=k - l:=by exact aZ 0xf118f1008ff1108f10008fff181f1810ff108ff432ff21020a10a0 rfl
      rw [ed]
      refine wpS_bind (wpS_modify (wpS_pure ⟨rfl,hB'.set (bubble_perm _ _ _),?_,a1.trans (same_bubble hks (by exact aZ 0xf1102a30ff101 rfl) (by exact aZ 0xf10011400ff310a1211 rfl) (by exact aZ 0xf1112a02a1f101f rfl hkn)),a2,a3⟩))
      rw [show min (k+1) n=k+1 by exact aQ 0xf1101f101ff118f108ff180a22f101f1180a3 rfl hkn]
      intro i j hi hij hj
      show O.kle (kk ky (bubble (arrOf st'') (lo+k) (k - l)) i) (kk ky (bubble (arrOf st'') (lo+k) (k - l)) j)
      rw [kk_bubble hks (by exact aZ 0xf1102a30ff101 rfl),kk_bubble hks (by exact aZ 0xf1102a30ff101 rfl),show lo+k - (k - l)=lo+l by exact aZ 0xf1000118f11001108ff10001108f110011008fff1018f108ff02a42f352100f02a12a0312a0011 rfl hlk ed]
      have lo':∀ i,lo≤i→i < lo+l→O.kle (kk ky (arrOf st'') i) (kk ky (arrOf st'') (lo+k)):=fun i h1 h2=>by have:=hlo (i - lo) (by exact aZ 0xf1018f11108f231f20a11100f010 rfl h1 h2);rwa [show lo+(i - lo)=i by exact aQ 0xf11f110ff18f1108ff120a2f100f010 rfl h1] at this
      have hi':∀ i,lo+l≤i→i < lo+k→O.klt (kk ky (arrOf st'') (lo+k)) (kk ky (arrOf st'') i):=fun i h1 h2=>by have:=hhi (i - lo) (by exact aZ 0xf1101310f210a0f021 rfl h1) (by exact lq4 0xf1018f11108f341f30a21210a0f020 rfl h1 h2);rwa [show lo+(i - lo)=i by exact aZ 0xf11f110ff18f1108ff230a2f210a0f020 rfl h1] at this
      repeat' split
      all_goals first
        | (exfalso;lia)
        | exact KeyOrd.kle_refl _
        | exact lo' _ (by lia) (by lia)
        | exact KeyOrd.kle_of_klt (hi' _ (by lia) (by lia))
        | exact hs' _ _ (by lia) (by lia) (by lia)
end
section
variable {O:KeyOrd} {ky:Keyed→O.α} {M:Model} {A:Around} {E:Value→Shared→Prop} {s:Shared} {a₀:Array Keyed} {κ:SortKind}
theorem runs64 {st:SortSt} {Q:Unit→SortSt→Prop} (hC:Cmp M A s ky a₀ κ) (hB:SB a₀ κ st) (hp:pendingOf st=#[]) (h2:2≤a₀.size) (h64:a₀.size < 64)
    (h:∀ st',SB a₀ κ st'→SegS ky (arrOf st') 0 a₀.size→Q () st'):wpS M A E s sortRuns' Q st:=by
  rw [sortRuns'_eq]
  refine wpS_bind (wpS_get ?_)
  dsimp only
  have hmr:minRun' a₀.size a₀.size 0=a₀.size:=by
    obtain ⟨f,hf⟩:∃ f,a₀.size=f+1:=⟨a₀.size - 1,by exact lq1 0xf18f1108ff11f110ff181a02f0280f1800 rfl h2⟩
    have:minRun' (f+1) a₀.size 0=a₀.size:=by rw [minRun'_succ,if_pos h64];rfl
    rwa [← hf] at this
  simp only [hB.size,hmr]
  refine wpS_bind (wpS_mono (wpS_forRange
    (I:=fun x c st'=>(x=0∧c=(none,0)∧SB a₀ κ st'∧pendingOf st'=#[])∨(1≤x∧c=(none,a₀.size)∧SB a₀ κ st'∧SegS ky (arrOf st') 0 a₀.size∧pendingOf st'=#[(0,a₀.size,0)]))
    (Q:=fun c st'=>c=(none,a₀.size)∧SB a₀ κ st'∧SegS ky (arrOf st') 0 a₀.size∧pendingOf st'=#[(0,a₀.size,0)]) ?step ?fin (.inl ⟨rfl,rfl,hB,hp⟩)) ?post)
  case fin =>
    rintro c st' (⟨hx,_⟩ | ⟨_,hc⟩)
    · exact (lq1 0xf8101f110f9f08120280f0084 rfl h2 hx).elim
    · exact hc
  case step =>
    rintro x c st' _ hx (⟨rfl,rfl,hB',hp'⟩ | ⟨hx1,rfl,hD⟩)
    · dsimp only
      rw [if_neg (by exact lq1 0xf1108006f0280f rfl h2)]
      simp only [Nat.sub_zero,Nat.min_self,Nat.zero_add]
      refine wpS_bind (count_wp hC (by exact lq1 0xf10008a0ff rfl) (by exact lq1 0xf110180f0280f rfl h2) hB' fun m st2 hB2 hm1 hm2 hs2 _ hp2 _=>?_)
      dsimp only
      have fin:∀ st3,SB a₀ κ st3→SegS ky (arrOf st3) 0 a₀.size→pendingOf st3=#[]→SB a₀ κ (setPending st3 ((pendingOf st3).push (0,a₀.size,0)))∧SegS ky (arrOf (setPending st3 ((pendingOf st3).push (0,a₀.size,0)))) 0 a₀.size∧pendingOf (setPending st3 ((pendingOf st3).push (0,a₀.size,0)))=#[(0,a₀.size,0)]:=fun st3 b s p =>
        ⟨⟨b.perm,b.kind,b.failed⟩,s,by show (pendingOf st3).push _=_;rw [p];rfl⟩
      by_cases hlt:m < a₀.size
      · rw [if_pos hlt]
        refine wpS_bind (wpS_lift (wpAny_rule ⟨rfl,?_⟩))
        refine wpS_bind (bin_wp hC (by exact lq1 0xf10008a0ff rfl) hm2 hB2 hs2 fun st3 hB3 hs3 _ hp3 _=>?_)
        simp only [Bool.not_true,Bool.false_eq_true,if_false]
        refine wpS_bind (wpS_get ?_)
        have hb:(pendingOf st3).back?=none:=by rw [hp3,hp2,hp'];rfl
        rw [hb]
        dsimp only
        exact wpS_bind (wpS_modify (wpS_pure (.inr ⟨by exact lqx [] [] 0xf118180ff rfl,rfl,fin st3 hB3 hs3 (by rw [hp3,hp2,hp'])⟩)))
      · rw [if_neg hlt]
        have hm:m=a₀.size:=by exact aQ 0xf101f11f102f1016100f rfl hm2 hlt
        subst hm
        refine wpS_bind (wpS_get ?_)
        have hb:(pendingOf st2).back?=none:=by rw [hp2,hp'];rfl
        rw [hb]
        dsimp only
        exact wpS_bind (wpS_modify (wpS_pure (.inr ⟨by exact lqx [] [] 0xf118180ff rfl,rfl,fin st2 hB2 hs2 (by rw [hp2,hp'])⟩)))
    · dsimp only
      rw [if_pos (Nat.le_refl _)]
      exact wpS_pure ⟨rfl,hD⟩
  case post =>
    rintro c st' ⟨rfl,hD⟩
    dsimp only
    refine wpS_bind (wpS_mono (wpS_forRange (I:=fun _ c st''=>st''=st'∧c=(none,())) (Q:=fun c st''=>st''=st'∧c=(none,())) ?_ (fun _ _ hh=>hh) ⟨rfl,rfl⟩) ?_)
    · rintro x c st'' _ _ ⟨rfl,rfl⟩
      refine wpS_bind (wpS_get ?_)
      rw [if_pos (by rw [hD.2.2];exact Nat.le_refl 1)]
      exact wpS_pure ⟨rfl,rfl⟩
    · rintro c st'' ⟨rfl,rfl⟩
      exact wpS_pure (h _ hD.1 hD.2.1)
end
section
variable {prog:Program} {w:World} {A:Around} {E:Value→Shared→Prop} {s:Shared} {O:KeyOrd} {ky:Keyed→O.α} {κ:SortKind}
theorem sort_list {a:Addr} {vs:List Value} {n:Nat} {P:Fin→Shared→Prop} (ho:s.heap.get? a=some { cls:=.type "list",data:=.seq vs.toArray n }) (h64:vs.length < 64)
    (hk:2≤vs.length→∀ s':Shared,(∀ b o,b ≠ a→s.heap.get? b=some o→s'.heap.get? b=some o)→∀ (Q:SortKind→Shared→Prop),Q κ s'→wpAny (model prog w) A (keyKind' vs.toArray) Q E s')
    (hC:∀ s':Shared,(∀ b o,b ≠ a→s.heap.get? b=some o→s'.heap.get? b=some o)→Cmp (model prog w) A s' ky (pairsOf vs) κ)
    (h:∀ h' (xs:Array Keyed) n',(∀ b o,b ≠ a→s.heap.get? b=some o→h'.get? b=some o)→h'.get? a=some { cls:=.type "list",data:=.seq (xs.map (·.2)) n' }→xs.Perm (pairsOf vs)→SegS ky xs 0 vs.length→P (.done (.ret .none)) { s with heap:=h' }) :
    wpAny (model prog w) A (Builtin.«list.sort» ⟨[.ref a],[]⟩) P E s:=by
  rw [list_sort_plain]
  have ha:a < s.heap.objs.size:=Heap.lt_size ho
  have keeps:∀ b o,b ≠ a→s.heap.get? b=some o→(((s.heap.update a (Obj.mapSeq fun _=>#[])).push (seqObj "tuple" vs.toArray 0)).push (seqObj "list" #[] 0)).get? b=some o:=fun b o hb e =>
    Heap.get?_push_of_some _ (Heap.get?_push_of_some _ ((Heap.get?_update_ne _ _ _ _ hb).trans e))
  have fin:∀ st':SortSt,(arrOf st').Perm (pairsOf vs)→SegS ky (arrOf st') 0 vs.length→P (.done (.ret .none)) { s with heap:=sortedHeap s.heap a vs ((arrOf st').map (·.2)) }:=fun st' hp hs=>by
    obtain ⟨e,he⟩:=sortedHeap_at (out:=(arrOf st').map (·.2)) ho
    exact h _ (arrOf st') e (fun b o hb eb=>by rw [sortedHeap_old hb (Heap.lt_size eb)];exact eb) he hp hs
  refine wpAny_bind (listItems_at ho rfl ?_)
  refine wpAny_bind (listUpdate_at ho rfl ?_ (hsz:=by show vs.toArray.size≤_;simp;rw [sizeLine_eq];exact lq1 0xf1110000005900f400901f rfl h64))
  obtain ⟨e1,ho1⟩:∃ e1,(s.heap.update a (Obj.mapSeq fun _=>#[])).get? a=some (seqObj "list" #[] e1):=⟨_,get?_update_seq ho (fun _=>#[])⟩
  refine wpAny_bind (seqEpoch_at ho1 rfl ?_)
  refine wpAny_bind (wpAny_newTuple ?_ (hsz:=by simp;rw [sizeLine_eq];exact lq1 0xf1110000005900f400901f rfl h64))
  refine wpAny_bind (wpAny_newList ?_)
  refine wpAny_holding ?_
  have ho6:(((s.heap.update a (Obj.mapSeq fun _=>#[])).push (seqObj "tuple" vs.toArray 0)).push (seqObj "list" #[] 0)).get? a=some (seqObj "list" #[] e1):=by
    rw [Heap.get?_push_ne _ _ _ (by rw [size_push',Heap.size_update];exact Nat.ne_of_lt (Nat.lt_succ_of_lt ha)),Heap.get?_push_ne _ _ _ (by rw [Heap.size_update];exact Nat.ne_of_lt ha)]
    exact ho1
  show wpAny (model prog w) A _ P E { s with heap:=((s.heap.update a (Obj.mapSeq fun _=>#[])).push (seqObj "tuple" vs.toArray 0)).push (seqObj "list" #[] 0) }
  dsimp only
  have hsz:vs.toArray.size=vs.length:=by simp
  by_cases h2:vs.toArray.size < 2
  · rw [if_pos h2,if_pos h2]
    refine wpAny_bind (wpAny_pure ?_)
    rw [StateT.run_pure]
    refine wpAny_bind (wpAny_pure ?_)
    dsimp only
    refine wpAny_bind (seqEpoch_at ho6 rfl ?_)
    refine wpAny_bind (listUpdate_at ho6 rfl ?_ (hsz2:=by rw [Array.size_map];show (pairsOf vs).size≤_;rw [pairsOf_size,sizeLine_eq];exact lq1 0xf1118100000059a00f400901f rfl h64))
    simp only [bne_self_eq_false,Bool.false_eq_true,if_false]
    refine wpAny_pure (fin (SortSt.mk' general' (vs.toArray.zip vs.toArray) #[] 7 none) (Array.Perm.refl _) ?_)
    intro i j _ hij hj
    have:i=j:=by exact lq4 0xf10111f1001f322f108a313202801102f rfl hsz h2 hij hj
    subst this;exact KeyOrd.kle_refl _
  · rw [if_neg h2,if_neg h2]
    refine wpAny_bind (hk (by exact aQ 0xf1811280f28016102f rfl hsz h2) { s with heap:=((s.heap.update a (Obj.mapSeq fun _=>#[])).push (seqObj "tuple" vs.toArray 0)).push (seqObj "list" #[] 0) } keeps _ ?_)
    refine wpAny_bind (wpAny_mono (runs64 (ky:=ky) (κ:=κ) (a₀:=pairsOf vs) (st:=SortSt.mk' κ (vs.toArray.zip vs.toArray) #[] 7 none)
      (Q:=fun _ st'=>(arrOf st').Perm (pairsOf vs)∧failedOf st'=none∧SegS ky (arrOf st') 0 vs.length)
      (hC _ keeps) ⟨Array.Perm.refl _,rfl,rfl⟩ rfl (by rw [pairsOf_size];exact aQ 0xf1811280f28016102f rfl hsz h2) (by rw [pairsOf_size];exact h64) fun st' b1 b2=>⟨b1.perm,b1.failed,by rw [pairsOf_size] at b2;exact b2⟩) ?_ fun _ _ e=>e)
    rintro ⟨⟨⟩,st'⟩ s' ⟨rfl,hp,hf,hs⟩
    dsimp only
    refine wpAny_bind (seqEpoch_at ho6 rfl ?_)
    refine wpAny_bind (listUpdate_at ho6 rfl ?_ (hsz2:=by refine Nat.le_trans (Nat.le_of_eq ((Array.size_map ..).trans (hp.size_eq.trans (pairsOf_size _)))) ?_;rw [sizeLine_eq];exact lq1 0xf1118100000059a00f400901f rfl h64))
    rw [hf]
    simp only [bne_self_eq_false,Bool.false_eq_true,if_false]
    exact wpAny_pure (fin st' hp hs)
end
noncomputable def lexlt:List Int→List Int→Bool
  | [],[]=>false
  | [],_ :: _=>true
  | _ :: _,[]=>false
  | a :: as,b :: bs=>if a=b then lexlt as bs else decide (a < b)
theorem lexlt_irrefl:∀ a,lexlt a a=false
  | []=>rfl
  | a :: as=>by unfold lexlt;rw [if_pos rfl];exact lexlt_irrefl as
theorem lexlt_trans:∀ a b c,lexlt a b=true→lexlt b c=true→lexlt a c=true
  | [],[],c,h,_=>by cases h
  | [],b :: bs,[],_,h=>by cases h
  | [],b :: bs,c :: cs,_,_=>rfl
  | a :: as,[],c,h,_=>by cases h
  | a :: as,b :: bs,[],_,h=>by cases h
  | a :: as,b :: bs,c :: cs,h,g=>by
    unfold lexlt at h g ⊢
    by_cases e1:a=b
    · subst e1
      rw [if_pos rfl] at h
      by_cases e2:a=c
      · subst e2;rw [if_pos rfl] at g ⊢;exact lexlt_trans _ _ _ h g
      · rw [if_neg e2] at g ⊢;exact g
    · rw [if_neg e1] at h
      have h':=of_decide_eq_true h
      by_cases e2:b=c
      · subst e2;rw [if_neg e1];exact h
      · rw [if_neg e2] at g
        have g':=of_decide_eq_true g
        rw [if_neg (by exact lqx [] [_,_,_] 0xf1112056f214104f rfl h' g')];exact decide_eq_true (by exact lqx [] [_,_,_] 0xf111204f214104f rfl h' g')
theorem lexlt_neg:∀ a b c,lexlt a c=true→lexlt a b=true∨lexlt b c=true
  | [],[],c,h=>.inr h
  | [],b :: bs,c,_=>.inl rfl
  | a :: as,b,[],h=>by cases h
  | a :: as,[],c :: cs,_=>.inr rfl
  | a :: as,b :: bs,c :: cs,h=>by
    unfold lexlt at h ⊢
    by_cases e1:a=b
    · subst e1
      rw [if_pos rfl]
      by_cases e2:a=c
      · subst e2;rw [if_pos rfl] at h ⊢;exact lexlt_neg _ _ _ h
      · rw [if_neg e2] at h ⊢;exact .inr h
    · rw [if_neg e1]
      by_cases e2:b=c
      · subst e2;rw [if_pos rfl];rw [if_neg e1] at h;exact .inl h
      · rw [if_neg e2]
        by_cases hab:a < b
        · exact .inl (decide_eq_true hab)
        · refine .inr (decide_eq_true ?_)
          by_cases e3:a=c
          · exact lqx [] [_,_,_] 0xf101f8011f214f10562051046f rfl hab e3 e1
          · rw [if_neg e3] at h;have:=of_decide_eq_true h;exact lqx [] [_,_,_] 0xf111214f2041046f rfl hab this
theorem lexlt_total:∀ a b,lexlt a b=false→lexlt b a=false→a=b
  | [],[],_,_=>rfl
  | [],b :: bs,h,_=>by cases h
  | a :: as,[],_,h=>by cases h
  | a :: as,b :: bs,h,g=>by
    unfold lexlt at h g
    by_cases e:a=b
    · subst e;rw [if_pos rfl] at h g;rw [lexlt_total _ _ h g]
    · rw [if_neg e] at h;rw [if_neg (fun x=>e x.symm)] at g
      have h':=of_decide_eq_false h;have g':=of_decide_eq_false g
      exact (lqx [] [_,_] 0xf11f101f9f105601461046f rfl h' g' e).elim
noncomputable def lexOrd:KeyOrd:=⟨List Int,lexlt,lexlt_irrefl,lexlt_trans,lexlt_neg,lexlt_total⟩

theorem tlt_eq (args:Args):Builtin.«tuple.__lt__» args=(do
    let (a,[b]) ← slotArgs "__lt__" 1 args | unsupported "internal:tuple.compare"
    if !(← isInstance b (.type "tuple")) then return ← ret .notImplemented
    let xs ← Builtin.Tuple.tupleItemsOf a
    let ys ← Builtin.Tuple.tupleItemsOf b
    for (x,y) in xs.toList.zip ys.toList do
      if !(← eqBool x y) then
        rule "tuple.compare.by-the-first-pair-that-differs";return ← ret (← richCompare .Lt x y)
    ret (Builtin.Tuple.tupleCompareSizes .Lt xs.size ys.size)):=rfl
section
variable {prog:Program} {w:World} {A:Around} {E:Value→Shared→Prop} {s:Shared}
theorem rich_lt_int {a b:Int} {t u:Tok} {Q:Value→Shared→Prop} (h:Q (.bool (decide (a < b))) s):wpAny (model prog w) A (richCompare .Lt (.int a t) (.int b u)) Q E s :=
  wpAny_richCompare_same (typeIs_int s a t) (typeIs_int s b u) slot_int_lt (call_int_lt ⟨by simp,h⟩)
theorem tlt_loop {f:Value×Value→Option Fin×Unit→Sem (ForInStep (Option Fin×Unit))}
    (hf:∀ x y c,f (x,y) c=(do
      let b ← eqBool x y
      if (!b)=true then do
        rule "tuple.compare.by-the-first-pair-that-differs"
        let r ← richCompare .Lt x y
        let r ← ret r
        pure (.done (some r,()))
      else pure (.yield (none,())))) {Q:Option Fin×Unit→Shared→Prop} :
    ∀ {vs ws:List Value} {ns ms:List Int},IntsAre vs ns→IntsAre ws ms→(Q (none,()) s→True) →
      (∀ r,(r=(none,())∧lexlt ns ms=decide (ns.length < ms.length))∨r=(some (.done (.ret (.bool (lexlt ns ms)))),())→Q r s)→wpAny (model prog w) A (forIn (vs.zip ws) ((none,()):Option Fin×Unit) f) Q E s
  | _,_,_,_,.nil,.nil,_,h=>by rw [List.zip_nil_left,List.forIn_nil];exact wpAny_pure (h _ (.inl ⟨rfl,rfl⟩))
  | _,_,_,_,.nil,.cons m u gs,_,h=>by rw [List.zip_nil_left,List.forIn_nil];exact wpAny_pure (h _ (.inl ⟨rfl,by simp [lexlt]⟩))
  | _,_,_,_,.cons n t hs,.nil,_,h=>by rw [List.zip_nil_right,List.forIn_nil];exact wpAny_pure (h _ (.inl ⟨rfl,by simp [lexlt]⟩))
  | _,_,_,_,.cons n t hs,.cons m u gs,_,h=>by
    rw [List.zip_cons_cons,List.forIn_cons,hf]
    refine wpAny_bind (wpAny_bind (wpAny_eqBool_int ?_))
    by_cases e:n=m
    · subst e
      rw [if_neg (by simp)]
      refine wpAny_pure ?_
      refine tlt_loop hf hs gs (fun _=>trivial) fun r hr=>h r ?_
      unfold lexlt
      rw [if_pos rfl]
      simpa using hr
    · rw [if_pos (by simpa using e)]
      refine wpAny_bind (wpAny_rule (wpAny_bind (rich_lt_int ?_)))
      refine wpAny_bind (wpAny_pure (wpAny_pure (wpAny_pure (h _ (.inr ?_)))))
      unfold lexlt
      rw [if_neg e]
theorem tlt_run {a b:Addr} {o o':Obj} {vs ws:Array Value} {n n':Nat} {ns ms:List Int} {P:Fin→Shared→Prop} (ho:s.heap.get? a=some o) (hd:o.data=.seq vs n) (ho':s.heap.get? b=some o') (hd':o'.data=.seq ws n') (hi:Looks (model prog w) s.heap (isInstance (.ref b) (.type "tuple")) true)
    (hv:IntsAre vs.toList ns) (hw:IntsAre ws.toList ms) (h:P (.done (.ret (.bool (lexlt ns ms)))) s):wpAny (model prog w) A (Builtin.«tuple.__lt__» ⟨[.ref a,.ref b],[]⟩) P E s:=by
  rw [tlt_eq]
  refine wpAny_bind (wpAny_of_eq (a:=(.ref a,[.ref b])) (by first | rfl | kernel_rfl) ?_)
  dsimp only
  refine wpAny_bind (hi.here ?_)
  simp only [Bool.not_true,Bool.false_eq_true,if_false]
  refine wpAny_bind (wpAny_tupleItemsOf ho hd (wpAny_bind (wpAny_tupleItemsOf ho' hd' ?_)))
  refine wpAny_bind (tlt_loop ?_ hv hw (fun _=>trivial) fun r hr=>?_)
  · intro x y c;rfl
  · rcases hr with ⟨rfl,e⟩ | rfl
    · dsimp only
      refine wpAny_pure ?_
      rw [e] at h
      have l1:=hv.length;have l2:=hw.length
      rw [Array.length_toList] at l1 l2
      unfold Builtin.Tuple.tupleCompareSizes
      rw [l1,l2];exact h
    · exact wpAny_pure h
end
noncomputable abbrev T3:=Nat×Nat×Nat
noncomputable def mt3 (t:T3):PyData:=mtd t.1 t.2.1 t.2.2
noncomputable def key3 (t:T3):List Int:=[t.1,t.2.1,t.2.2]
noncomputable def intOf:Value→Int
  | .int i _=>i
  | _=>0
noncomputable def keyAt (h:Heap) (x:Keyed):List Int:=match x.1 with
  | .ref a=>match h.get? a with
    | some o=>match o.data with
      | .seq vs _=>vs.toList.map intOf
      | _=>[]
    | none=>[]
  | _=>[]
theorem mapM_looks {M:Model} {h:Heap} {α β:Type} {f:α→Sem β} {g:α→β}:∀ {vs:List α},(∀ v∈vs,Looks M h (f v) (g v))→Looks M h (vs.mapM f) (vs.map g)
  | [],_=>by rw [List.mapM_nil];exact .now
  | v :: vs,hv=>by
    rw [List.mapM_cons]
    exact (hv v List.mem_cons_self).andThen ((mapM_looks fun u hu=>hv u (List.mem_cons_of_mem _ hu)).andThen .now)
noncomputable def IsMt (h:Heap) (v:Value):Prop:=∃ l dd xs n ns,v=.ref l∧h.get? l=some { cls:=.ref 135,dict:=dd,data:=.seq xs n }∧IntsAre xs.toList ns
section
variable {prog:Program} {w:World} {A:Around} {E:Value→Shared→Prop} {s:Shared}
theorem IsMt.typ {h:Heap} {v:Value} (m:IsMt h v):Looks (model prog w) h (typeOf v) (.ref 135):=by
  obtain ⟨l,dd,xs,n,ns,rfl,g,_⟩:=m
  exact (Looks.ld g).andThen .now
theorem first_mt {h:Heap} {v:Value} (m:IsMt h v):Looks (model prog w) h (firstOfTuple' v) none:=by
  show Looks _ _ (do
    if (← typeOf v) != .type "tuple" then return none
    return (← Builtin.List.listItems v)[0]?) _
  refine m.typ.andThen ?_
  rw [if_pos (by decide)]
  exact .now
theorem kind_mt {h:Heap} {vs:List Value} (hv:∀ v∈vs,IsMt h v) (h2:2≤vs.length):Looks (model prog w) h (keyKind' vs.toArray) oneType':=by
  rw [keyKind'_eq,List.mapM_toArray]
  have m1:Looks (model prog w) h (List.toArray <$> List.mapM firstOfTuple' vs) (vs.map fun _=>none).toArray:=by
    rw [map_eq_pure_bind]
    exact (mapM_looks fun v hm=>first_mt (hv v hm)).andThen .now
  refine m1.andThen ?_
  obtain ⟨v,us,rfl⟩:∃ v us,vs=v :: us:=by cases vs with | nil=>simp at h2 | cons v us=>exact ⟨v,us,rfl⟩
  rw [if_neg (by simp),if_neg (by simp)]
  have m2:Looks (model prog w) h (oneTypeOnly' (v :: us).toArray) (some (.ref 135)):=by
    rw [oneTypeOnly'_eq,List.mapM_toArray]
    have m3:Looks (model prog w) h (List.toArray <$> List.mapM typeOf (v :: us)) ((v :: us).map fun _=>Value.ref 135).toArray:=by
      rw [map_eq_pure_bind]
      exact (mapM_looks fun v hm=>(hv v hm).typ).andThen .now
    refine m3.andThen ?_
    simp only [List.map_cons,List.getElem?_toArray,List.getElem?_cons_zero]
    rw [if_pos (by simp)]
    exact .now
  refine m2.andThen ?_
  exact .now
theorem tl_kind:builtinKind "tuple.__lt__"=some .slot:=by decide +kernel
theorem tl_split:splitId "tuple.__lt__"=some ("tuple","__lt__"):=by decide +kernel
theorem intOf_ints:∀ {vs:List Value} {ns:List Int},IntsAre vs ns→vs.map intOf=ns
  | _,_,.nil=>rfl
  | _,_,.cons n t h=>by rw [List.map_cons,intOf_ints h];rfl
theorem cmp_mt {a₀:Array Keyed} (L:ML (model prog w) s.heap) (hu:A.units < cLine) (hv:∀ x∈a₀.toList,IsMt s.heap x.1):Cmp (O:=lexOrd) (model prog w) A s (keyAt s.heap) a₀ oneType':=by
  intro x y hx hy Q E' h
  obtain ⟨x1,x2⟩:=x
  obtain ⟨y1,y2⟩:=y
  obtain ⟨l,dd,xs,n,ns,e1,g1,i1⟩:=hv _ hx
  obtain ⟨m,dd',ys,n',ms,e2,g2,i2⟩:=hv _ hy
  dsimp only at e1 e2
  subst e1 e2
  have k1:keyAt s.heap (.ref l,x2)=ns:=by unfold keyAt;simp only [g1,intOf_ints i1]
  have k2:keyAt s.heap (.ref m,y2)=ms:=by unfold keyAt;simp only [g2,intOf_ints i2]
  rw [k1,k2] at h
  have h':Q (lexlt ns ms) s:=h
  have t1:Looks (model prog w) s.heap (typeOf (.ref l)) (.ref 135):=(Looks.ld g1).andThen .now
  have t2:Looks (model prog w) s.heap (typeOf (.ref m)) (.ref 135):=(Looks.ld g2).andThen .now
  dsimp only
  rw [keyLt'_oneType,oneLt'_eq]
  simp only [if_true]
  refine wpAny_bind (wpAny_cRoomFor hu ?_)
  refine wpAny_bind ?_
  unfold callSpecialIfBound?
  refine wpAny_holding (wpAny_bind (bind_bound (t1.andThen L.ltm) (PySem.F.slot_tuple_lt.bind (.ref l)) ?_))
  dsimp only
  refine wpAny_bind (wpAny_call (slot_callB PySem.F.slot_tuple_lt.plain PySem.F.entry_tuple_lt tl_kind tl_split (t1.andThen L.tup) (PySem.F.args_tuple_lt_2 _ _) ?_))
  refine tlt_run g1 rfl g2 rfl (t2.andThen L.tup) i1 i2 ?_
  refine wpAny_pure ?_
  dsimp only
  exact wpAny_truthy_bool h'
end
section
variable {X:Cx} {k:Nat} {env:Env} {ρ:List (Str×B)} {Q:Fl→List (Str×B)→Prop}
theorem Rel.turnX {bad:Addr→Prop} {O:Str→Option Addr} {s:Shared} {x:Str} {l:Addr} {ds ds':List PyData} {vs':Array Value} {n':Nat} {h':Heap} {t:Nat} (r:Rel X bad O env ρ s) (hx:ρ.lookup x=some (.own ds)) (ho:O x=some l)
    (hs:∀ b o,b ≠ l→s.heap.get? b=some o→h'.get? b=some o) (hg:h'.get? l=some { cls:=.type "list",data:=.seq vs' n' }) (q:RepL (aN bad O) s.heap ds' vs'.toList) :
    Step env O O s { s with heap:=h',toks:=t }∧Rel X bad O env (aH ρ x (.own ds')) { s with heap:=h',toks:=t }:=by
  obtain ⟨l₀,vs,n,ho',lk,g,_⟩:=r.own x ds hx
  obtain rfl:l₀=l:=Option.some.inj (ho'.symm.trans ho)
  have x1:Ext s { s with heap:=h'.update l₀ fun _=>{ cls:=.type "list",data:=.seq vs n } }:=⟨fun b o e=>by
    by_cases hb:b=l₀
    · subst hb
      rw [g] at e;cases e
      exact Heap.get?_update_self _ hg rfl
    · exact (Heap.get?_update_ne _ _ _ _ hb).trans (hs b o hb e),rfl,rfl⟩
  have sb:=Heap.SameBut.update h' l₀ fun _=>({ cls:=.type "list",data:=.seq vs n }:Obj)
  have sb':Heap.SameBut l₀ (h'.update l₀ fun _=>{ cls:=.type "list",data:=.seq vs n }) h':=⟨sb.1.symm,fun b hb=>(sb.2 b hb).symm⟩
  obtain ⟨st,r2⟩:=(r.ext x1).turn (t:=t) hx ho sb' hg (q.ext x1)
  exact ⟨(Step.of_ext x1).trans st,r2⟩
theorem method0_use {pl:Sem Bool} {x:Str} {name:Str} {id:String} {px apos cpos:Pos} {ds:List PyData} {A:Around} {bad:Addr→Prop} {O:Str→Option Addr} {s:Shared} {P:Value→Shared→Prop} (r:Rel X bad O env ρ s) (hx:ρ.lookup x=some (.own ds)) (slot:Slot "list" name id) (hty:typeOf (.builtin id)=pure (.type "method_descriptor"))
    (h:∀ l vs n,O x=some l→s.heap.get? l=some { cls:=.type "list",data:=.seq vs n }→RepL (aN bad O) s.heap ds vs.toList→wpAny (model X.prog X.w) A (call (.builtin id) [.ref l]) P noE s) (hd:(x == ("__debug__":Str))=false:=by decide)
    (he:eval (.Call (.Attribute (.Name x px) name apos) [] [] cpos) env=(do
      let ov ← eval (.Name x px) env
      standAt apos.atName
      let (f,first) ← holding [ov] (getMethod ov name pl)
      callWith cpos f first (backTo cpos (starEach [] env)) []):=by rfl):wpAny (model X.prog X.w) A (eval (.Call (.Attribute (.Name x px) name apos) [] [] cpos) env) P noE s:=by
  obtain ⟨l,vs,n,ho,lk,g,q⟩:=own_at r hx
  refine MethodCall_ (wpAny_Name (Lk.load r.ok.kind lk ?_) hd) he
  exact getMethod_list_of slot hty ⟨_,g,rfl,_,rfl⟩ ⟨_,g,rfl⟩ (callWith_method0 (h l vs n ho g q))
theorem RepL.perm {bad:Addr→Prop} {h:Heap} {vs vs':List Value} (p:vs'.Perm vs):∀ {ms:List T3},RepL bad h (ms.map mt3) vs→∃ ms':List T3,ms'.Perm ms∧RepL bad h (ms'.map mt3) vs':=by
  induction p with
  | nil=>intro ms q;exact ⟨ms,.refl _,q⟩
  | cons x p ih =>
    intro ms q
    cases ms with
    | nil=>cases q
    | cons m ms =>
      cases q with
      | cons a b =>
        obtain ⟨ms',h1,h2⟩:=ih b
        exact ⟨m :: ms',h1.cons _,.cons a h2⟩
  | swap x y l =>
    intro ms q
    cases ms with
    | nil=>cases q.inv0
    | cons m ms =>
    obtain ⟨_,_,e,a,q⟩:=RepL.inv q
    cases e
    cases ms with
    | nil=>cases q.inv0
    | cons m' ms =>
    obtain ⟨_,_,e,b,c⟩:=RepL.inv q
    cases e
    exact ⟨m' :: m :: ms,.swap _ _ _,.cons b (.cons a c)⟩
  | trans p1 p2 ih1 ih2 =>
    intro ms q
    obtain ⟨ms1,h1,q1⟩:=ih2 q
    obtain ⟨ms2,h2,q2⟩:=ih1 q1
    exact ⟨ms2,h2.trans h1,q2⟩
theorem Rep.invI {bad:Addr→Prop} {h:Heap} {i:Int} {v:Value} (q:Rep bad h (.int i) v):∃ t,v=.int i t:=by cases q;exact ⟨_,rfl⟩
theorem Rep.invB {bad:Addr→Prop} {h:Heap} {b:Bool} {v:Value} (q:Rep bad h (.bool b) v):v=.bool b:=by cases q;rfl
theorem Rep.invN {bad:Addr→Prop} {h:Heap} {v:Value} (q:Rep bad h .none v):v=.none:=by cases q;rfl
theorem RepL.ints {bad:Addr→Prop} {h:Heap}:∀ {ns:List Int} {vs:List Value},RepL bad h (ns.map .int) vs→IntsAre vs ns
  | [],_,q=>by rw [q.inv0];exact .nil
  | n :: ns,_,q=>by
    obtain ⟨v,vs,rfl,q1,q2⟩:=q.inv
    obtain ⟨t,rfl⟩:=q1.invI
    exact .cons _ _ (RepL.ints q2)
theorem RepL.ints3 {bad:Addr→Prop} {h:Heap} {a b c:Int} {L:List Value} (q:RepL bad h [.int a,.int b,.int c] L):IntsAre L [a,b,c]:=RepL.ints (ns:=[a,b,c]) q
theorem Rep.isMt {bad:Addr→Prop} {h:Heap} {t:T3} {v:Value} (q:Rep bad h (mt3 t) v):IsMt h v∧keyAt h (v,v)=key3 t∧∃ l,v=.ref l∧¬ bad l:=by
  unfold mt3 mtd at q
  refine q.mtE fun l dd vs n hb g qs=>?_
  have:IntsAre vs.toList (key3 t):=qs.ints3
  exact ⟨⟨l,dd,vs,n,_,rfl,g,this⟩,by unfold keyAt;simp only [g,intOf_ints this],l,rfl,hb⟩
theorem RepL.allMt {bad:Addr→Prop} {h:Heap} {ms:List T3}:∀ {vs:List Value},RepL bad h (ms.map mt3) vs→(∀ v∈vs,IsMt h v∧∃ l,v=.ref l∧¬ bad l)∧vs.map (fun v=>keyAt h (v,v))=ms.map key3:=by
  induction ms with
  | nil=>intro vs q;rw [q.inv0];exact ⟨fun v hv=>(List.not_mem_nil hv).elim,rfl⟩
  | cons m ms ih =>
    intro vs q
    obtain ⟨v,vs,rfl,a,b⟩:=RepL.inv q
    obtain ⟨h1,h2⟩:=ih b
    refine ⟨fun v hv=>?_,by rw [List.map_cons,List.map_cons,h2,a.isMt.2.1]⟩
    rcases List.mem_cons.mp hv with rfl | hv
    · exact ⟨a.isMt.1,a.isMt.2.2⟩
    · exact h1 v hv
noncomputable def le3 (a b:T3):Prop:=lexlt (key3 b) (key3 a)=false
theorem pairs_fst {vs:List Value}:∀ x∈(pairsOf vs).toList,x.1=x.2∧x.2∈vs:=by
  intro x hx
  have:x∈vs.zip vs:=by simpa [pairsOf] using hx
  obtain ⟨i,hi,e⟩:=List.mem_iff_getElem.mp this
  rw [List.getElem_zip] at e
  exact ⟨by rw [← e],by rw [← e];exact List.getElem_mem _⟩
theorem pairs_snd (vs:List Value):(pairsOf vs).toList.map (·.2)=vs:=by
  simp [pairsOf,List.map_snd_zip]
theorem ex_sort {pl:Sem Bool} {x:Str} {px apos cpos pos:Pos} {ms:List T3} (G:MF X) (hx:ρ.lookup x=some (.own (ms.map mt3))) (h64:ms.length < 64) (hq:∀ ms':List T3,ms'.Perm ms→ms'.Pairwise le3→Q .next (aH ρ x (.own (ms'.map mt3)))) (hd:(x == ("__debug__":Str))=false:=by decide)
    (he:eval (.Call (.Attribute (.Name x px) "sort" apos) [] [] cpos) env=(do
      let ov ← eval (.Name x px) env
      standAt apos.atName
      let (f,first) ← holding [ov] (getMethod ov "sort" pl)
      callWith cpos f first (backTo cpos (starEach [] env)) []):=by rfl)
    (hi:interactive env=false:=by rfl) (hs:swapsWith (.Call (.Attribute (.Name x px) "sort" apos) [] [] cpos) none pos.line env=pure false:=by rfl) :
    Ex1 X (k+1) env ρ (.Expr (.Call (.Attribute (.Name x px) "sort" apos) [] [] cpos) pos) Q:=fun A bad O s R r=>by
  refine wpAny_Expr (method0_use r hx slot_list_sort PySem.F.type_list_sort (fun l vs n ho g q=>?_) hd he) hi hs
  obtain ⟨hall,hkeys⟩:=q.allMt
  have hl:vs.toList.length=ms.length:=by have:=q.length;rw [List.length_map] at this;exact aQ 0xf81f11f012f102f rfl this
  have L:=G.looks (M:=model X.prog X.w) (r.wf.kin.keeps r.base)
  have hne:∀ v∈vs.toList,∃ m,v=.ref m∧m ≠ l:=fun v hv=>by
    obtain ⟨_,m,rfl,hb⟩:=hall v hv
    exact ⟨m,rfl,fun e=>hb (.inr ⟨x,e ▸ ho⟩)⟩
  have still:∀ h':Heap,(∀ b o,b ≠ l→s.heap.get? b=some o→h'.get? b=some o)→(∀ v∈vs.toList,IsMt h' v)∧ML (model X.prog X.w) h'∧∀ v∈vs.toList,∀ u,keyAt h' (v,u)=keyAt s.heap (v,u):=fun h' hk=>by
    have hkK:∀ b o,X.h₀.get? b=some o→h'.get? b=some o:=fun b o e=>hk b o (fun z=>(r.good x l ho).2.1 |> fun n0=>by rw [z,n0] at e;cases e) (r.base b o e)
    refine ⟨fun v hv=>?_,G.looks (r.wf.kin.keeps hkK),fun v hv u=>?_⟩
    · obtain ⟨⟨m,dd,xs,n',ns,rfl,gm,im⟩,_⟩:=hall v hv
      obtain ⟨m',e,hn⟩:=hne _ hv
      cases e
      exact ⟨m,dd,xs,n',ns,rfl,hk _ _ hn gm,im⟩
    · obtain ⟨⟨m,dd,xs,n',ns,rfl,gm,im⟩,_⟩:=hall v hv
      obtain ⟨m',e,hn⟩:=hne _ hv
      cases e
      unfold keyAt
      simp only [gm,hk _ _ hn gm]
  refine wpAny_call_entry slot_list_sort ⟨_,g,rfl⟩ entry_list_sort ?_ (args_list_sort _)
  have hu:A.in1.units < cLine:=by have:=R.in1.units;have c:cLine=9900:=rfl;exact aZ 0xf111201f26ac2922232829164b0a0f rfl this c
  refine sort_list (κ:=oneType') (O:=lexOrd) (ky:=keyAt s.heap) (vs:=vs.toList) (n:=n) (by simpa using g) (by exact aQ 0xf811400911f012400901f rfl h64 hl) (fun h2 s' hk Q' hQ'=>?_) (fun s' hk=>?_) fun h' xs n' hk hg' hp hsort=>?_
  · exact (kind_mt (still _ hk).1 h2).here hQ'
  · obtain ⟨c1,c2,c3⟩:=still _ hk
    intro a b ha hb Q' E' h'
    refine cmp_mt (a₀:=pairsOf vs.toList) c2 hu (fun p hp=>?_) a b ha hb Q' E' ?_
    · obtain ⟨e1,e2⟩:=pairs_fst p hp
      rw [e1];exact c1 _ e2
    · obtain ⟨a1,a2⟩:=pairs_fst a ha
      obtain ⟨b1,b2⟩:=pairs_fst b hb
      obtain ⟨x1,x2⟩:=a;obtain ⟨y1,y2⟩:=b
      dsimp only at a1 a2 b1 b2;subst a1 b1
      rw [c3 _ a2,c3 _ b2];exact h'
  · have pv:(xs.map (·.2)).toList.Perm vs.toList:=by
      have:=(Array.perm_iff_toList_perm.mp hp).map (·.2)
      rw [pairs_snd] at this
      simpa using this
    obtain ⟨ms',pm,q'⟩:=q.perm pv
    obtain ⟨st,r2⟩:=r.turnX (t:=s.toks) hx ho hk hg' q'
    refine ⟨.none,rfl,.next,_,O,hq ms' pm ?_,rfl,st,r2⟩
    obtain ⟨_,hkeys'⟩:=q'.allMt
    rw [List.pairwise_iff_getElem]
    intro i j hi hj hij
    have hxs:xs.size=ms'.length:=by
      have:=q'.length;rw [List.length_map] at this;rw [this];simp
    have kk':∀ i (hi:i < ms'.length),kk (O:=lexOrd) (keyAt s.heap) xs i=key3 ms'[i]:=fun i hi=>by
      have hi':i < xs.size:=by exact aZ 0xf111021f121102f rfl hxs hi
      have hm:xs[i]∈(pairsOf vs.toList).toList:=(Array.perm_iff_toList_perm.mp hp).mem_iff.mp (by simp)
      obtain ⟨e1,e2⟩:=pairs_fst _ hm
      have:kk (O:=lexOrd) (keyAt s.heap) xs i=keyAt s.heap (xs[i].2,xs[i].2):=by
        unfold kk
        rw [Array.getD_eq_getD_getElem?,Array.getElem?_eq_getElem hi',Option.getD_some]
        unfold keyAt;rw [e1]
      rw [this]
      have h5:=congrArg (·[i]?) hkeys'
      simp only [List.getElem?_map,Array.toList_map,List.map_map] at h5
      rw [List.getElem?_eq_getElem (by simpa using hi'),List.getElem?_eq_getElem hi] at h5
      have h6:keyAt s.heap (xs[i].2,xs[i].2)=key3 ms'[i]:=by simpa using h5
      exact h6
    have:=hsort i j (Nat.zero_le _) (Nat.le_of_lt hij) (by have:=pv.length_eq;simp at this;simp;exact lq4 0xf8111301f322122101f rfl hj hxs this)
    rw [kk' i hi,kk' j hj] at this
    exact this
end
theorem FInv.same {m:Mt} {alo ahi blo bhi:Nat} {P P':Nat→Nat→Prop} {bi bj bk:Nat} (h:FInv m alo ahi blo bhi P bi bj bk) (h1:∀ x y,P x y ↔ P' x y):FInv m alo ahi blo bhi P' bi bj bk:=h.skip (fun x y p=>(h1 x y).mp p) fun x y p=>.inl ((h1 x y).mpr p)
theorem best_cells {m:Mt} {alo ahi blo bhi i:Nat} (hi:alo≤i) (hi':i < ahi) (h0:∃ bi bj bk,FInv m alo ahi blo bhi (fun x y=>alo≤x∧x < i∧blo≤y∧y < bhi) bi bj bk):∀ c,blo+c≤bhi→∃ bi bj bk,FInv m alo ahi blo bhi (fun x y=>(alo≤x∧x < i∧blo≤y∧y < bhi)∨(x=i∧blo≤y∧y < blo+c)) bi bj bk
  | 0,_=>by
    obtain ⟨bi,bj,bk,h⟩:=h0
    exact ⟨bi,bj,bk,h.same fun x y=>⟨.inl,fun p=>p.elim id fun p=>by exact lq6 0xf11511100743173207f080a11100f rfl p.2.1 p.2.2⟩⟩
  | c+1,hc=>by
    obtain ⟨bi,bj,bk,h⟩:=best_cells hi hi' h0 c (by exact aZ 0xf11210a0f2181a0a0f rfl hc)
    have hs:=h.step (i:=i) (j:=blo+c) hi hi' (by exact aQ 0xf110a00ff rfl) (by exact aZ 0xf11210a1f2181a0a0f rfl hc) fun x y p=>by exact lq7 0xf1100f100010ff11f1008f10010ff63a4121272118f63a41430721275414307211710078f rfl p
    have e:∀ x y,((alo≤x∧x < i∧blo≤y∧y < bhi)∨(x=i∧blo≤y∧y < blo+c))∨(x=i∧y=blo+c) ↔ (alo≤x∧x < i∧blo≤y∧y < bhi)∨(x=i∧blo≤y∧y < blo+(c+1)):=fun x y=>⟨fun p=>by exact lq7 0xf180f1100f101000ff1011f101f1010100f101000ff108f1010100f10010fff11f110f1010f10100ff101f1001f100100ff108f1008f10010fff180f1100f100010ff110f1010f100010ff11f108f1008f10010fff180f1100f100001ff110f1010f100001ff101f1001f100001ff111ff183a2a61620715274616207151750078f32a62152732a6162071527461620715175007884183a2a0100f rfl hi hc p,fun p=>by lia⟩
    split at hs
    · exact ⟨_,_,_,hs.same e⟩
    · exact ⟨_,_,_,hs.same e⟩
theorem best_rows {m:Mt} {alo ahi blo bhi:Nat} (h1:alo≤ahi) (h2:blo≤bhi):∀ r,alo+r≤ahi→∃ bi bj bk,FInv m alo ahi blo bhi (fun x y=>alo≤x∧x < alo+r∧blo≤y∧y < bhi) bi bj bk
  | 0,_=>⟨_,_,_,(FInv.start h1 h2).same fun x y=>⟨False.elim,fun p=>by exact aQ 0xf119f080a11100f rfl p.1 p.2.1⟩⟩
  | r+1,hr=>by
    obtain ⟨bi,bj,bk,h⟩:=best_cells (m:=m) (i:=alo+r) (by exact aQ 0xf110a00ff rfl) (by exact aZ 0xf11210a1f2181a0a0f rfl hr) (best_rows h1 h2 r (by exact aZ 0xf11210a0f2181a0a0f rfl hr)) (bhi - blo) (by exact aQ 0xf18f1108f120a0f100f010 rfl h2)
    exact ⟨bi,bj,bk,h.same fun x y=>⟨fun p=>by exact lq6 0xf18100f101000ff8110f1001000fff10010f100100ff100010f1000100fff10008f100010ff100008f1000010fff10001f100001ff100001f1000001fff5414307182a0a1171007f63a41430720a127541430720a11710078f350 rfl p,fun p=>by exact lq6 0xf1000001f100001f10001001f1000001f11f100001ff1001f63a41430720a127541430720a11710078f541430182a0a11100f351 rfl p.1 p.2.1 p.2.2.1 p.2.2.2⟩⟩
theorem best_exists (m:Mt) {alo ahi blo bhi:Nat} (h1:alo≤ahi) (h2:blo≤bhi):∃ i j k,Best m alo ahi blo bhi i j k:=by
  obtain ⟨bi,bj,bk,h⟩:=best_rows (m:=m) h1 h2 (ahi - alo) (by exact aQ 0xf18f1108f120a0f100f010 rfl h1)
  exact ⟨bi,bj,bk,(h.same fun x y=>⟨fun p=>by exact lq6 0xf10001f1001f1018f11008ff11f541430721171007f54143060a11100f020 rfl p.1 p.2.1 p.2.2.1 p.2.2.2,fun p=>by exact lq6 0xf1000001f100001f10101f1001f541430760a1171007f541430211100f021 rfl p.1 p.2.1 p.2.2.1 p.2.2.2⟩).finish⟩
theorem Exs.mono {X:Cx} {k:Nat} {env:Env} {ρ:List (Str×B)} {ss:List Stmt} {Q Q':Fl→List (Str×B)→Prop} (h:Exs X k env ρ ss Q) (g:∀ f ρ',Q f ρ'→Q' f ρ'):Exs X k env ρ ss Q':=fun A bad O s R r =>
  wpAny_mono (h A bad O s R r) (fun fl s' p=>let ⟨f,ρ',O',hq,rest⟩:=p;⟨f,ρ',O',g _ _ hq,rest⟩) fun _ _ x=>x
structure Mat (X:Cx) (h:Heap) (x dx:Addr) (m:Str→Option Value) (va vb:Value) (as bs:List Int):Prop where
  obj:h.get? x=some (instObj 242 dx)
  a:m "a"=some va
  ha:handedIn va=true
  b:m "b"=some vb
  hb:handedIn vb=true
  free:∀ f∈(["find_longest_match","get_matching_blocks","get_opcodes"]:List Str),m f=none
  rest:∃ d js led,m "b2j"=some (.ref d)∧m "bjunk"=some (.ref js)∧h.get? js=some { cls:=.type "set",dict:=.none,data:=.set #[] 0 (.fresh 0 0 led) }∧ChainD X h bs d
theorem ChainD.keeps {X:Cx} {h h':Heap} {bs:List Int} {d:Addr} (c:ChainD X h bs d) (k:∀ b o,h.get? b=some o→h'.get? b=some o):ChainD X h' bs d:=by
  obtain ⟨kvs,⟨o,es,ep,ho,rest⟩,h1,h2,h3⟩:=c
  refine ⟨kvs,⟨o,es,ep,k _ _ ho,rest⟩,h1,h2,fun x=>?_⟩
  rcases h3 x with ⟨v,l,ol,e1,e2,e3,e4⟩ | e
  · exact .inl ⟨v,l,ol,e1,e2,k _ _ e3,e4⟩
  · exact .inr e
theorem ChainD.on {X:Cx} {h g:Heap} {D:PyData→Value→Prop} {bs:List Int} {d:Addr} (c:ChainD X h bs d):ChainD (X.on g D) h bs d:=c
section
variable {X:Cx} {k:Nat} {env:Env} {ρ:List (Str×B)} {as bs:List Int} {va vb:Value} {alo ahi blo bhi i j n:Nat}
theorem ev_find (F:DF X) (G:MF X) {x dx:Addr} {m:Str→Option Value} {N:Nat} {y:Str} {yp apos pos:Pos} {pl:Sem Bool} {e1 e2 e3 e4:Expr} (hy:ρ.lookup y=some (.raw (.ref x))) (S:SelfD X ρ 242 x dx "#d" m N) (M:Mat X X.h₀ x dx m va vb as bs)
    (da:X.dat (.list (as.map .int)) va) (db:X.dat (.list (bs.map .int)) vb) (h1:alo≤ahi) (h2:ahi≤as.length) (h3:blo≤bhi) (h4:bhi≤bs.length) (hza:as.length+1≤sizeLine) (hz:bs.length+1≤sizeLine) (hB:Best (mm as bs) alo ahi blo bhi i j n)
    (hargs:EvL X (k+3) env ρ pos [e1,e2,e3,e4] [.int alo,.int ahi,.int blo,.int bhi])
    (he:eval (.Call (.Attribute (.Name y yp) "find_longest_match" apos) [e1,e2,e3,e4] [] pos) env=(do
      let ov ← eval (.Name y yp) env
      standAt apos.atName
      let (f,first) ← holding [ov] (getMethod ov "find_longest_match" pl)
      callWith pos f first (backTo pos (starEach [e1,e2,e3,e4] env)) []):=by rfl)
    (hst:starEach [e1,e2,e3,e4] env=(false,eval e1 env) :: starEach [e2,e3,e4] env:=by rfl)
    (hd:(y == ("__debug__":Str))=false:=by decide):Ev X (k+3) env ρ (.Call (.Attribute (.Name y yp) "find_longest_match" apos) [e1,e2,e3,e4] [] pos) (mtd i j n):=fun A bad O s R r=>by
  obtain ⟨cd,hC⟩:=F.cls
  obtain ⟨hf,ht,z,D⟩:=F.find
  obtain ⟨o,ho,hdat⟩:=D.obj
  refine mcall_use (Pa:=fun vs s'=>RepL (aN bad O) s'.heap [.int alo,.int ahi,.int blo,.int bhi] vs) R r hy S hC hf ht (M.free _ (by decide)) ho hdat (hargs A bad O s R r) (fun vs s1 x1 r1 q=>?_) he hst hd
  obtain ⟨_,_,rfl,q1,q⟩:=q.inv
  obtain ⟨_,_,rfl,q2,q⟩:=q.inv
  obtain ⟨_,_,rfl,q3,q⟩:=q.inv
  obtain ⟨_,_,rfl,q4,q⟩:=q.inv
  obtain rfl:=q.inv0
  obtain ⟨t1,rfl⟩:=q1.invI
  obtain ⟨t2,rfl⟩:=q2.invI
  obtain ⟨t3,rfl⟩:=q3.invI
  obtain ⟨t4,rfl⟩:=q4.invI
  refine wpAny_call (codeAny_mono (still_frame (bad:=aN bad O) (Dt:=fun d v=>(d=.list (as.map .int)∧v=va)∨(d=.list (bs.map .int)∧v=vb)) (P:=fun fl _=>fl=.ret (mtd i j n))
    (bs:=[.raw (.ref x),.val (.int alo),.val (.int ahi),.val (.int blo),.val (.int bhi)]) D (k:=k+2) R r1.at (badO_alive r1) ?dat ?binds rfl ?body) ?post)
  case dat =>
    rintro d v (⟨rfl,rfl⟩ | ⟨rfl,rfl⟩)
    · exact r1.datR da
    · exact r1.datR db
  case binds=>exact .cons (.raw _) (.cons (.val (.int _ _)) (.cons (.val (.int _ _)) (.cons (.val (.int _ _)) (.cons (.val (.int _ _)) .nil))))
  case body =>
    intro L
    obtain ⟨d,js,led,hd',hj,hjs,hch⟩:=M.rest
    have kb:∀ b o,X.h₀.get? b=some o→s1.heap.get? b=some o:=r1.base
    refine Exs.mono (find_walk (X:=X.on s1.heap _) (k:=k) (F.on kb) (G.on kb) hC (x:=x) (dx:=dx) (m:=m) (N:=N) (z:=z) (kb _ _ M.obj) ?_ M.a M.ha M.b M.hb hd' hj (kb _ _ hjs) (.inl ⟨rfl,rfl⟩) (.inr ⟨rfl,rfl⟩) (hch.keeps kb).on h1 h2 h3 h4 hza hz) fun fl ρ' p=>?_
    · rcases S.dict with ⟨o,ho,q⟩ | ⟨o,ho,q⟩
      · exact ⟨o,(r1.pt _ _ _ ho).2,q⟩
      · exact ⟨o,kb _ _ ho,q⟩
    · obtain ⟨i',j',n',rfl,hB'⟩:=p
      obtain ⟨rfl,rfl,rfl⟩:=hB.unique hB'
      exact ⟨rfl,.inr ⟨_,rfl⟩⟩
  case post =>
    rintro res s' ⟨v,fl,ρ',O',L,rfl,rfl,rv,x2,_⟩
    exact ⟨x1.trans x2,rv⟩
end
theorem RepL.split_last {bad:Addr→Prop} {h:Heap} {d:PyData} {ds:List PyData}:∀ {vs:List Value},RepL bad h (ds++[d]) vs→∃ us u,vs=us++[u]∧RepL bad h ds us∧Rep bad h d u:=by
  induction ds with
  | nil=>intro vs q;obtain ⟨u,us,rfl,a,b⟩:=q.inv;exact ⟨[],u,by rw [b.inv0];rfl,.nil,a⟩
  | cons c ds ih =>
    intro vs q
    obtain ⟨v,vs,rfl,a,b⟩:=RepL.inv q
    obtain ⟨us,u,rfl,h1,h2⟩:=ih b
    exact ⟨_ :: us,u,rfl,.cons a h1,h2⟩
section
variable {X:Cx} {k:Nat} {env:Env} {ρ ρ':List (Str×B)} {Q:Fl→List (Str×B)→Prop}
theorem tst_list {e:Expr} {ds:List PyData} (h:EvS X k env ρ e ds) (hz:ds.length≤sizeLine) (he:∀ whole,isTrue e env whole=(do let v ← whole;standAt e.pos;holding [v] (truthy v)):=by intro _;rfl):Tst X k env ρ e (!ds.isEmpty):=fun A bad O s R r=>by
  have hsl:sizeLine < 2 ^ 30:=by decide
  rw [he]
  refine wpAny_bind (wpAny_mono (h A bad O s R r) (fun v s1 q=>?_) fun _ _ x=>x)
  obtain ⟨x1,l,vs,rfl,⟨n,g⟩,q⟩:=q
  have hl:vs.size=ds.length:=by rw [← Array.length_toList,q.length]
  refine wpAny_bind (wpAny_standAt (wpAny_holding (wpAny_truthy_list ⟨_,g,rfl,_,rfl⟩ (by rw [hl];exact aQ 0xf1118000000000000000e90c4f400000006911100f rfl hz hsl) ?_)))
  refine ⟨x1.trans (Ext.toks _ _),?_⟩
  cases ds with
  | nil=>simp at hl;simp [hl]
  | cons d ds=>simp at hl ⊢;intro z;simp [z] at hl
theorem ex_pop {pl:Sem Bool} {x:Str} {px apos cpos pos:Pos} {t:Expr} {ds:List PyData} {d:PyData} (hx:ρ.lookup x=some (.own (ds++[d]))) (hz:ds.length+1≤sizeLine) (h1:Asg X k env (aH ρ x (.own ds)) t d ρ') (hq:Q .next ρ') (hd:(x == ("__debug__":Str))=false:=by decide)
    (he:eval (.Call (.Attribute (.Name x px) "pop" apos) [] [] cpos) env=(do
      let ov ← eval (.Name x px) env
      standAt apos.atName
      let (f,first) ← holding [ov] (getMethod ov "pop" pl)
      callWith cpos f first (backTo cpos (starEach [] env)) []):=by rfl)
    (hs:swapsWithSole [t] (.Call (.Attribute (.Name x px) "pop" apos) [] [] cpos) pos.line env=pure false:=by rfl) (hw:swappedStores [t] (.Call (.Attribute (.Name x px) "pop" apos) [] [] cpos) env=pure none:=by rfl) (hm:(assignEach [t] env).map (·.2)=[assign t env]:=by rfl) :
    Ex1 X k env ρ (.Assign [t] (.Call (.Attribute (.Name x px) "pop" apos) [] [] cpos) pos) Q:=fun A bad O s R r=>by
  refine wpAny_Assign_stores (method0_use r hx PySem.F.slot_list_pop PySem.F.type_list_pop (fun l vs n ho g q=>?_) hd he) hs hw
  have hl:vs.size=ds.length+1:=by rw [← Array.length_toList];have:=q.length;simp at this ⊢;exact aQ 0xf81f11f180a12f1180a2f rfl this
  obtain ⟨us,u,hvs,qs,qu⟩:∃ us u,vs.toList=us++[u]∧RepL (aN bad O) s.heap ds us∧Rep (aN bad O) s.heap d u:=RepL.split_last q
  have hul:us.length=ds.length:=by have:=congrArg List.length hvs;simp at this;exact aZ 0xf811f181f122f182a02181a02f rfl hl this
  have hpop:vs.pop.toList=us:=by rw [Array.toList_pop,hvs,List.dropLast_concat]
  have hget:vs[vs.size - 1]?=some u:=by
    rw [← Array.getElem?_toList,hvs,hl,List.getElem?_append_right (by exact aQ 0xf8101200f102f18181a1 rfl hul)]
    simp [hul]
  refine Copied.pop_at g hget (fun h' hs' hg'=>?_) (by exact aZ 0xf811120f180a221180a0f rfl hz hl)
  obtain ⟨st,r2⟩:=r.turn (t:=s.toks) hx ho hs' hg' (by rw [hpop];exact qs)
  have q2:Rep (aN bad O) h' d u:=qu.keep fun b o _ _ hb e _=>(hs'.2 b fun z=>hb (z ▸ .inr ⟨x,ho⟩)).trans e
  rw [hm]
  refine wpAny_mono (h1 A bad O { s with heap:=h' } u R r2 q2) (fun _ s3 p3=>?_) fun _ _ x=>x
  obtain ⟨O3,st3,r3⟩:=p3
  exact ⟨.next,_,_,hq,rfl,st.trans st3,r3⟩
end
inductive RO (m:Mt):Nat→Nat→Nat→Nat→List T3→Prop
  | none {alo ahi blo bhi i j:Nat}:Best m alo ahi blo bhi i j 0→RO m alo ahi blo bhi []
  | some {alo ahi blo bhi i j k:Nat} {l r:List T3}:Best m alo ahi blo bhi i j k→0 < k→RO m alo i blo j l→RO m (i+k) ahi (j+k) bhi r→RO m alo ahi blo bhi (l++(i,j,k) :: r)
theorem RO.unique {m:Mt} {alo ahi blo bhi:Nat} {bs bs':List T3} (h:RO m alo ahi blo bhi bs) (h':RO m alo ahi blo bhi bs'):bs=bs':=by
  induction h generalizing bs' with
  | none b =>
    cases h' with
    | none _=>rfl
    | some b' hk _ _=>have:=b.unique b';exact (lq1 0xf119f00820081f rfl hk this.2.2).elim
  | some b hk _ _ ih1 ih2 =>
    cases h' with
    | none b'=>have:=b.unique b';exact (lq1 0xf819f08020081f rfl hk this.2.2).elim
    | some b' hk' h1 h2 =>
      obtain ⟨rfl,rfl,rfl⟩:=b.unique b'
      rw [ih1 h1,ih2 h2]
theorem RO.exists (m:Mt):∀ (n alo ahi blo bhi:Nat),ahi - alo≤n→alo≤ahi→blo≤bhi→∃ bs,RO m alo ahi blo bhi bs
  | n,alo,ahi,blo,bhi,hn,h1,h2=>by
    obtain ⟨i,j,k,b⟩:=best_exists m h1 h2
    rcases Nat.eq_zero_or_pos k with rfl | hk
    · exact ⟨[],.none b⟩
    · obtain ⟨w1,w2,w3,w4⟩:=b.win
      cases n with
      | zero=>exact (lq4 0xf1111109f0840302a02100081f131 rfl hk w1 w2 hn).elim
      | succ n =>
        obtain ⟨l,hl⟩:=RO.exists m n alo i blo j (by exact lq5 0xf1111018f108f450f184a60201a00081f321310 rfl hk w2 hn) (by exact aQ 0xf11100f100f rfl w1) (by exact aQ 0xf11100f100f rfl w3)
        obtain ⟨r,hr⟩:=RO.exists m n (i+k) ahi (j+k) bhi (by exact lq5 0xf1111018f108f450f184a602100081f13102a30 rfl hk w1 hn) (by exact aZ 0xf11210a0f210a0f rfl w2) (by exact aZ 0xf11210a0f210a0f rfl w4)
        exact ⟨_,.some b hk hl hr⟩
noncomputable abbrev W4:=Nat×Nat×Nat×Nat
open Classical in
noncomputable def ro (m:Mt) (w:W4):List T3:=if h:∃ bs,RO m w.1 w.2.1 w.2.2.1 w.2.2.2 bs then h.choose else []
noncomputable def WOk (la lb:Nat) (w:W4):Prop:=w.1≤w.2.1∧w.2.1≤la∧w.2.2.1≤w.2.2.2∧w.2.2.2≤lb
theorem ro_spec (m:Mt) {alo ahi blo bhi:Nat} (h1:alo≤ahi) (h2:blo≤bhi):RO m alo ahi blo bhi (ro m (alo,ahi,blo,bhi)):=by
  have h:=RO.exists m _ alo ahi blo bhi (Nat.le_refl _) h1 h2
  unfold ro
  rw [dif_pos h]
  exact h.choose_spec
theorem ro_eq {m:Mt} {alo ahi blo bhi:Nat} {bs:List T3} (h1:alo≤ahi) (h2:blo≤bhi) (h:RO m alo ahi blo bhi bs):ro m (alo,ahi,blo,bhi)=bs:=(ro_spec m h1 h2).unique h
theorem Best.le {m:Mt} {alo ahi blo bhi i j k:Nat} (b:Best m alo ahi blo bhi i j k):alo≤ahi∧blo≤bhi:=by obtain ⟨h1,h2,h3,h4⟩:=b.win;exact lq7 0xf11001f111f6403007f625a0540321a0100f rfl h1 h2 h3 h4
theorem ro_zero {m:Mt} {alo ahi blo bhi i j:Nat} (b:Best m alo ahi blo bhi i j 0):ro m (alo,ahi,blo,bhi)=[]:=ro_eq b.le.1 b.le.2 (.none b)
theorem ro_some {m:Mt} {alo ahi blo bhi i j k:Nat} (b:Best m alo ahi blo bhi i j k) (hk:0 < k):ro m (alo,ahi,blo,bhi)=ro m (alo,i,blo,j)++(i,j,k) :: ro m (i+k,ahi,j+k,bhi):=by
  obtain ⟨h1,h2,h3,h4⟩:=b.win
  exact ro_eq b.le.1 b.le.2 (.some b hk (ro_spec m h1 h3) (ro_spec m h2 h4))
theorem ro_thin (m:Mt) {alo ahi blo bhi:Nat} (h1:alo≤ahi) (h2:blo≤bhi) (h:ahi≤alo∨bhi≤blo):ro m (alo,ahi,blo,bhi)=[]:=by
  obtain ⟨i,j,k,b⟩:=best_exists m h1 h2
  obtain ⟨w1,w2,w3,w4⟩:=b.win
  obtain rfl:k=0:=by exact lq7 0xf1f110011f1111ff0822f4600308625a0540321a0100f rfl w1 w2 w3 w4 h
  exact ro_zero b
noncomputable def Rest (m:Mt) (alo ahi blo bhi la lb:Nat) (rest:List T3):Prop :=
  (rest=[]∧ahi≤la∧bhi≤lb)∨∃ n r,rest=(ahi,bhi,n) :: r∧0 < n∧Good la lb false (ahi+n) (bhi+n) r∧(alo < ahi→blo < bhi→m (ahi - 1) (bhi - 1)=false)
theorem RO.good {m:Mt} {alo ahi blo bhi:Nat} {bs:List T3} (h:RO m alo ahi blo bhi bs):∀ {b:Bool} {la lb:Nat} {rest:List T3},(b=false→alo < ahi→blo < bhi→m alo blo=false)→(b=false→rest ≠ []→¬ (alo=ahi∧blo=bhi))→Rest m alo ahi blo bhi la lb rest→Good la lb b alo blo (bs++rest):=by
  induction h with
  | none bt =>
    intro b la lb rest c1 c2 hr
    obtain ⟨l1,l2⟩:=bt.le
    rcases hr with ⟨rfl,h1,h2⟩ | ⟨n,r,rfl,hn,g,_⟩
    · exact .nil (by exact aZ 0xf111200f210100f rfl l1 h1) (by exact aZ 0xf111200f210100f rfl l2 h2)
    · exact .cons l1 l2 hn (fun e=>c2 e (by simp)) g
  | @some alo ahi blo bhi i j k l r bt hk _ _ ih1 ih2 =>
    intro b la lb rest c1 c2 hr
    obtain ⟨w1,w2,w3,w4⟩:=bt.win
    have run:∀ t,t < k→m (i+t) (j+t)=true:=bt.run
    have last:m (i+k - 1) (j+k - 1)=true:=by
      have:=run (k - 1) (by exact lq1 0xf18f1108f011f0081f1800 rfl hk)
      rwa [show i+(k - 1)=i+k - 1 by exact aQ 0xf118f1008ff1108f10008fff181f1810ff11081f110810fff321a2f0081f1801a01800 rfl hk,show j+(k - 1)=j+k - 1 by exact aQ 0xf118f1008ff1108f10008fff181f1810ff11081f110810fff321a2f0081f1801a01800 rfl hk] at this
    have g2:Good la lb false (i+k) (j+k) (r++rest):=by
      refine ih2 (fun _ h1 h2=>bt.right h1 h2) (fun _ hne e=>?_) ?_
      · rcases hr with ⟨rfl,_⟩ | ⟨n,r',rfl,hn,g,hm⟩
        · exact hne rfl
        · have:=hm (by exact lq4 0xf1111311f302a02100081f rfl hk w1 w2) (by exact lq4 0xf1111311f302a02100081f rfl hk w3 w4)
          rw [← e.1,← e.2,last] at this;cases this
      · rcases hr with hr | ⟨n,r',rfl,hn,g,hm⟩
        · exact .inl hr
        · exact .inr ⟨n,r',rfl,hn,g,fun h1 h2=>hm (by exact lq4 0xf111301f321a1100f rfl w1 h1) (by exact lq4 0xf111301f321a1100f rfl w3 h2)⟩
    rw [List.append_assoc,List.cons_append]
    refine ih1 (fun e h1 h2=>c1 e (by exact lq4 0xf111231f031210a0f rfl w2 h1) (by exact lq4 0xf111231f031210a0f rfl w4 h2)) (fun e _ q=>?_) (.inr ⟨k,_,rfl,hk,g2,fun h1 h2=>bt.left h1 h2⟩)
    have:=run 0 hk
    have f:=c1 e (by exact lq4 0xf1111311f302a02100081f rfl hk w1 w2) (by exact lq4 0xf1111311f302a02100081f rfl hk w3 w4)
    rw [q.1,q.2] at f
    rw [Nat.add_zero,Nat.add_zero,f] at this;cases this
theorem RO.good' {m:Mt} {ahi bhi:Nat} {bs:List T3} (h:RO m 0 ahi 0 bhi bs):Good ahi bhi true 0 0 bs:=by
  have:=h.good (b:=true) (la:=ahi) (lb:=bhi) (rest:=[]) (fun e=>by cases e) (fun e=>by cases e) (.inl ⟨rfl,Nat.le_refl _,Nat.le_refl _⟩)
  rwa [List.append_nil] at this
theorem Good.from {la lb:Nat} {b:Bool} {i j:Nat} {bs:List T3} (g:Good la lb b i j bs):∀ t∈bs,i≤t.1:=by
  induction g with
  | nil _ _=>intro t ht;cases ht
  | cons h1 _ h3 _ _ ih =>
    intro t ht
    rcases List.mem_cons.mp ht with rfl | ht
    · exact h1
    · have:=ih t ht;exact lq4 0xf111300f321a0100f rfl h1 this
theorem le3_of {a b:T3} (h:a.1 < b.1):le3 a b:=by
  unfold le3 key3 lexlt
  rw [if_neg (by exact aQ 0xf180c1c56f101f rfl h)]
  exact decide_eq_false (by exact aQ 0xf110c1c46f101f rfl h)
theorem Good.sorted {la lb:Nat} {b:Bool} {i j:Nat} {bs:List T3} (g:Good la lb b i j bs):bs.Pairwise le3:=by
  induction g with
  | nil _ _=>exact .nil
  | cons h1 _ h3 _ g ih=>exact .cons (fun t ht=>le3_of (by have:=g.from t ht;show _ < t.1;exact aZ 0xf111211f201a00081f rfl h3 this)) ih
theorem key3_inj {a b:T3} (h:key3 a=key3 b):a=b:=by
  obtain ⟨a1,a2,a3⟩:=a;obtain ⟨b1,b2,b3⟩:=b
  simp only [key3,List.cons.injEq,and_true] at h
  simp only [Prod.mk.injEq];exact lq6 0xf1001f8001f101f801f11f81f54232271027f5c4c53c2c51c0c5f rfl h.1 h.2.1 h.2.2
theorem sorted_unique:∀ {as bs:List T3},as.Perm bs→as.Pairwise le3→bs.Pairwise le3→as=bs
  | [],bs,p,_,_=>p.nil_eq
  | a :: as,[],p,_,_=>by cases p.length_eq
  | a :: as,b :: bs,p,h,g=>by
    have hab:a=b:=by
      rcases List.mem_cons.mp (p.mem_iff.mp List.mem_cons_self) with e | hm
      · exact e
      · rcases List.mem_cons.mp (p.mem_iff.mpr List.mem_cons_self) with e | hm'
        · exact e.symm
        · exact key3_inj (lexlt_total _ _ (List.rel_of_pairwise_cons g hm) (List.rel_of_pairwise_cons h hm'))
    subst hab
    rw [sorted_unique (List.perm_cons a |>.mp p) (List.Pairwise.of_cons h) (List.Pairwise.of_cons g)]
noncomputable def w4d (w:W4):PyData:=.tuple [.int w.1,.int w.2.1,.int w.2.2.1,.int w.2.2.2]
noncomputable def tup3 (t:T3):PyData:=.tuple [.int t.1,.int t.2.1,.int t.2.2]
noncomputable def meas (qs:List W4):Nat:=(qs.map fun w=>2 * (w.2.1 - w.1)+1).sum
theorem meas_append (a b:List W4):meas (a++b)=meas a+meas b:=by unfold meas;rw [List.map_append,List.sum_append]
theorem meas_len:∀ qs:List W4,qs.length≤meas qs
  | []=>Nat.le_refl _
  | w :: qs=>by have:=meas_len qs;unfold meas at this ⊢;rw [List.map_cons,List.sum_cons,List.length_cons];exact lq4 0xf1001118402baa180a0f100f321 rfl this
noncomputable abbrev envB (z:Value×Value×Value×Value) (L:Addr):Env:=callEnvC (fdSM 7 "get_matching_blocks" z) L 203
section
variable {X:Cx} {k:Nat} {as bs:List Int} {va vb:Value}
noncomputable def bH (as bs:List Int):W4:=(0,as.length,0,bs.length)
structure UW (as bs:List Int) (u:List W4) (w:W4):Prop where
  flat:u.flatMap (ro (mm as bs))=ro (mm as bs) w
  ms:meas u≤2 * (w.2.1 - w.1)+1
  ok:∀ v∈u,WOk as.length bs.length v
theorem UW.one {w:W4} (h:WOk as.length bs.length w):UW as bs [w] w:=⟨by simp,by simp [meas],fun v hv=>by rw [List.mem_singleton] at hv;subst hv;exact h⟩
theorem UW.none {a b c d:Nat} (h1:a≤b) (h2:c≤d) (h:¬ a < b∨¬ c < d):UW as bs [] (a,b,c,d):=⟨(ro_thin _ h1 h2 (by exact lq4 0xf101f11f2300108f321610168f rfl h)).symm,by simp [meas],fun v hv=>by cases hv⟩
structure PW (as bs:List Int) (qs:List W4) (done:List T3):Prop where
  ok:∀ w∈qs,WOk as.length bs.length w
  le:meas qs≤2001
  perm:(done++qs.flatMap (ro (mm as bs))).Perm (ro (mm as bs) (bH as bs))
theorem PW.pop0 {qs:List W4} {done:List T3} {alo ahi blo bhi i j:Nat} (P:PW as bs (qs++[(alo,ahi,blo,bhi)]) done) (best:Best (mm as bs) alo ahi blo bhi i j 0):PW as bs qs done∧meas qs < meas (qs++[(alo,ahi,blo,bhi)]):=by
  have hm:=meas_append qs [(alo,ahi,blo,bhi)]
  have h1:0 < meas [(alo,ahi,blo,bhi)]:=by simp [meas]
  refine ⟨⟨fun w hw=>P.ok w (List.mem_append_left _ hw),by have:=P.le;exact aZ 0xf1117d11910f7d1190021a02f rfl hm this,?_⟩,by exact aZ 0xf111011f208121a02f rfl hm h1⟩
  have:=P.perm
  rwa [List.flatMap_append,List.flatMap_singleton,ro_zero best,List.append_nil] at this
theorem PW.step {qs u1 u2:List W4} {done:List T3} {alo ahi blo bhi i j kk:Nat} (P:PW as bs (qs++[(alo,ahi,blo,bhi)]) done) (best:Best (mm as bs) alo ahi blo bhi i j kk) (hk:0 < kk) (U1:UW as bs u1 (alo,i,blo,j)) (U2:UW as bs u2 (i+kk,ahi,j+kk,bhi)) :
    PW as bs (qs++u1++u2) (done++[(i,j,kk)])∧meas (qs++u1++u2) < meas (qs++[(alo,ahi,blo,bhi)]):=by
  have hm:meas [(alo,ahi,blo,bhi)]=2 * (ahi - alo)+1:=by simp [meas]
  have hl:meas (qs++u1++u2) < meas (qs++[(alo,ahi,blo,bhi)]):=by
    have b:=best.win
    unfold InW at b
    have m1:=U1.ms
    have m2:=U2.ms
    dsimp only at m1 m2
    rw [meas_append,meas_append,meas_append,hm];exact lq7 0xf1100220199f11202201909ff11022201099f112222010909ff180702ba6a546aa1f182702ba50181702ba40302a02100081f02a30120131 rfl hk b.1 b.2.1 m1 m2
  refine ⟨⟨fun w hw=>?_,by have:=P.le;exact aQ 0xf1117d11900f7d11910101f rfl hl this,?_⟩,hl⟩
  · rcases List.mem_append.mp hw with hw | hw
    · rcases List.mem_append.mp hw with hw | hw
      · exact P.ok w (List.mem_append_left _ hw)
      · exact U1.ok w hw
    · exact U2.ok w hw
  · rw [List.perm_iff_count]
    intro t
    rw [← P.perm.count_eq t]
    simp only [List.flatMap_append,List.count_append,List.flatMap_singleton,ro_some best hk,U1.flat,U2.flat,List.count_cons,List.count_nil]
    exact lq5 0xf1f1f14a3a2a0a432aa108a0aa2ff rfl
theorem PW.len {qs:List W4} {done:List T3} (P:PW as bs qs done):qs.length≤2001∧done.length≤(ro (mm as bs) (bH as bs)).length:=by
  have h1:=meas_len qs
  have h2:=P.le
  have h3:=P.perm.length_eq
  rw [List.length_append] at h3
  exact lq5 0xf8001f111f4207d119007f432a27d11910100f rfl h1 h2 h3
structure FW (x dx:Addr) (o:Obj) (la lb:Nat) (ρ:List (Str×B)):Prop where
  s:aI ρ "self" (.raw (.ref x))
  d:aI ρ "#d" (.at dx o)
  la:aI ρ "la" (.val (.int la))
  lb:aI ρ "lb" (.val (.int lb))
theorem FW.pt {x dx:Addr} {o:Obj} {la lb:Nat} {ρ:List (Str×B)} (C:FW x dx o la lb ρ) {z:Str} {b:B} (h:(neS "self" z && (neS "#d" z && (neS "la" z && neS "lb" z)))=true):FW x dx o la lb (aH ρ z b):=by
  simp only [Bool.and_eq_true] at h
  exact ⟨hn C.s h.1,hn C.d h.2.1,hn C.la h.2.2.1,hn C.lb h.2.2.2⟩
inductive BI (x dx:Addr) (o:Obj) (as bs:List Int) (n:Nat) (ρ:List (Str×B)):Prop
  | mk {qs:List W4} {done:List T3}:FW x dx o as.length bs.length ρ→aI ρ "queue" (.own (qs.map w4d))→aI ρ "matching_blocks" (.own (done.map mt3))→PW as bs qs done→n=meas qs→BI x dx o as bs n ρ
noncomputable abbrev bSt (i:Nat):Stmt:=aD (aF (smSt 7)) i
theorem blocks_tail {x dx:Addr} {o:Obj} {L:Addr} {z:Value×Value×Value×Value} {ρ:List (Str×B)} {qs:List W4} {ds:List PyData} {i j kk ahi bhi:Nat} {P:Fl→List (Str×B)→Prop} (f:FW x dx o as.length bs.length ρ) (hq:aI ρ "queue" (.own (qs.map w4d))) (hm:aI ρ "matching_blocks" (.own ds))
    (hi:aI ρ "i" (.val (.int i))) (hj:aI ρ "j" (.val (.int j))) (hk:aI ρ "k" (.val (.int kk))) (ha:aI ρ "ahi" (.val (.int ahi))) (hb:aI ρ "bhi" (.val (.int bhi))) (hl:qs.length < 5000) (h1:i+kk≤ahi) (h2:ahi≤as.length) (h3:j+kk≤bhi) (h4:bhi≤bs.length)
    (hP:∀ {ρ':List (Str×B)} {u:List W4},FW x dx o as.length bs.length ρ'→aI ρ' "queue" (.own ((qs++u).map w4d))→aI ρ' "matching_blocks" (.own ds)→UW as bs u (i+kk,ahi,j+kk,bhi)→P .next ρ') :
    Exs X (k+3) (envB z L) ρ ((ifBody (aD (whileBody (bSt 5)) 2)).drop 2) P:=by
  have hsl:5000≤sizeLine:=by decide
  refine aB (ex_if (bC (aJ (aT (aA hi) (aA hk)) (aA ha) rfl) fun _=>bC (aJ (aT (aA hj) (aA hk)) (aA hb) rfl) fun _=>tst_and0) (fun hc=>?_) fun hc=>?_)
  · simp only [Bool.and_true,Bool.and_eq_true,decide_eq_true_eq] at hc
    refine aB (bF (ds:=qs.map w4d) (d:=w4d (i+kk,ahi,j+kk,bhi)) hq (aU (aC (aT (aA hi) (aA hk)) (aC (aA ha) (aC (aT (aA hj) (aA hk)) (aC (aA hb) aG)))) (by simp only [List.length_cons,List.length_nil];decide)) (by rw [List.length_map];exact aQ 0xf111100f1138829013882901f rfl hl hsl) (aE (aE ?_)))
    exact hP (f.pt rfl) (by rw [List.map_append];exact hs) (hn hm rfl) (.one ⟨h1,h2,h3,h4⟩)
  · simp only [Bool.and_true,Bool.and_eq_false_iff,decide_eq_false_iff_not] at hc
    exact aE (aE (hP f (by rw [List.append_nil];exact hq) hm (.none h1 h3 (by exact lq5 0xf101f11f413a16210a168f4c1c3ca462c1c0ca468f rfl hc))))
theorem blocks_while (F:DF X) (G:MF X) {x dx:Addr} {o:Obj} {m:Str→Option Value} {N:Nat} {L:Addr} {z:Value×Value×Value×Value} {ρ:List (Str×B)} {Q:Fl→List (Str×B)→Prop} (ho:AObj o m N) (M:Mat X X.h₀ x dx m va vb as bs)
    (da:X.dat (.list (as.map .int)) va) (db:X.dat (.list (bs.map .int)) vb) (hza:as.length≤1000) (hzb:bs.length≤1000) (h64:(ro (mm as bs) (bH as bs)).length < 64)
    (f:FW x dx o as.length bs.length ρ) (h5:aI ρ "queue" (.own [w4d (bH as bs)])) (h6:aI ρ "matching_blocks" (.own []))
    (hq:∀ ρ' (done:List T3),FW x dx o as.length bs.length ρ'→aI ρ' "matching_blocks" (.own (done.map mt3))→done.Perm (ro (mm as bs) (bH as bs))→Q .next ρ') :
    Ex1 X (k+3) (envB z L) ρ (bSt 5) Q:=by
  have hsl:5000≤sizeLine:=by decide
  refine ex_while (BI x dx o as bs) (n:=meas [bH as bs]) (.mk (qs:=[bH as bs]) (done:=[]) f h5 h6 ⟨fun w hw=>?_,?_,by simp⟩ rfl) ?_
  · rw [List.mem_singleton] at hw;subst hw;exact ⟨Nat.zero_le _,Nat.le_refl _,Nat.zero_le _,Nat.le_refl _⟩
  · simp [meas,bH];exact lq1 0xf217d019002b0f3e81900f rfl hza
  · rintro n ρ ⟨f,a5,a6,P,rfl⟩ Q1 H1
    rename_i qs done
    have hl:=P.len
    refine ⟨_,tst_list (evs_own a5) (by rw [List.length_map];exact aQ 0xf111010f7d1191001388290f rfl hsl hl.1),fun hb=>?_,fun hb=>?_⟩
    · rcases List.eq_nil_or_concat qs with rfl | ⟨qs,⟨alo,ahi,blo,bhi⟩,rfl⟩
      · simp at hb
      clear hb
      rw [List.concat_eq_append] at *
      obtain ⟨w1,w2,w3,w4⟩:=P.ok _ (List.mem_append_right _ (List.mem_singleton.mpr rfl))
      dsimp only at w1 w2 w3 w4
      obtain ⟨i,j,kk,best⟩:=best_exists (mm as bs) w1 w3
      have bw:=best.win
      unfold InW at bw
      rw [List.map_append,List.map_singleton] at a5
      rw [List.length_append,List.length_singleton] at hl
      refine aB (ex_pop (ds:=qs.map w4d) (d:=w4d (alo,ahi,blo,bhi)) a5 (by rw [List.length_map];exact aQ 0xf1110181a0f7d119181a001388290f rfl hsl hl.1) (asg_tuple (aV (aL (.inl rfl)) (aV (aL (.inl rfl)) (aV (aL (.inl rfl)) (aV (aL (.inl rfl)) asgl_nil)))) rfl rfl) ?_)
      refine aB (ex_assign2 (d:=mtd i j kk) (ev_find F G (y:="self") (x:=x) (dx:=dx) (m:=m) (N:=N) (alo:=alo) (ahi:=ahi) (blo:=blo) (bhi:=bhi) (hn (hn (hn (hn (hn f.s rfl) rfl) rfl) rfl) rfl) ⟨M.obj,.inl ⟨o,hn (hn (hn (hn (hn f.d rfl) rfl) rfl) rfl) rfl,ho⟩⟩ M da db w1 w2 w3 w4 (by exact aQ 0xf1111180a0f113882903e81900f rfl hza hsl) (by exact aQ 0xf1111180a0f113882903e81900f rfl hzb hsl) best
        (aC (aA (by k_mem)) (aC (aA (by k_mem)) (aC (aA (by k_mem)) (aC (aA (by k_mem)) aG))))) (asg_mt G (aV (aL (.inl rfl)) (aV (aL (.inl rfl)) (aV (aL (.inl rfl)) asgl_nil))) rfl rfl) (aL (.inl rfl)) ?_)
      generalize hρ:(aH (aH (aH (aH (aH (aH (aH (aH (aH ρ "queue" (.own (qs.map w4d))) "alo" (.val (.int alo))) "ahi" (.val (.int ahi))) "blo" (.val (.int blo))) "bhi" (.val (.int bhi))) "i" (.val (.int i))) "j" (.val (.int j))) "k" (.val (.int kk))) "x" (.val (mtd i j kk)):List (Str×B))=ρ1
      have f1:FW x dx o as.length bs.length ρ1:=hρ ▸ ((((((((f.pt rfl).pt rfl).pt rfl).pt rfl).pt rfl).pt rfl).pt rfl).pt rfl).pt rfl
      have e1:aI ρ1 "queue" (.own (qs.map w4d)):=by subst hρ;k_mem
      have e2:aI ρ1 "matching_blocks" (.own (done.map mt3)):=by subst hρ;k_mem
      have e3:aI ρ1 "alo" (.val (.int alo)):=by subst hρ;k_mem
      have e4:aI ρ1 "ahi" (.val (.int ahi)):=by subst hρ;k_mem
      have e5:aI ρ1 "blo" (.val (.int blo)):=by subst hρ;k_mem
      have e6:aI ρ1 "bhi" (.val (.int bhi)):=by subst hρ;k_mem
      have e7:aI ρ1 "i" (.val (.int i)):=by subst hρ;k_mem
      have e8:aI ρ1 "j" (.val (.int j)):=by subst hρ;k_mem
      have e9:aI ρ1 "k" (.val (.int kk)):=by subst hρ;k_mem
      have e0:aI ρ1 "x" (.val (mtd i j kk)):=by subst hρ;k_mem
      clear hρ f a5 a6
      refine aB (ex_if (tst_int (aA e9)) (fun hk=>?_) fun hk=>?_)
      · have hk0:0 < kk:=by simp at hk;exact lq1 0xf1f11f0081f08026f rfl hk
        refine aB (bF (ds:=done.map mt3) (d:=mtd i j kk) e2 (aA e0) (by rw [List.length_map];exact aZ 0xf1111120f02011388290400901f rfl h64 hsl hl.2) ?_)
        have e2:aI (aH ρ1 "matching_blocks" (.own (done.map mt3++[mtd i j kk]))) "matching_blocks" (.own ((done++[(i,j,kk)]).map mt3)):=by rw [List.map_append];exact hs
        have fin:∀ {ρ':List (Str×B)} {u1 u2:List W4},UW as bs u1 (alo,i,blo,j)→FW x dx o as.length bs.length ρ'→aI ρ' "queue" (.own ((qs++u1++u2).map w4d))→aI ρ' "matching_blocks" (.own ((done++[(i,j,kk)]).map mt3))→UW as bs u2 (i+kk,ahi,j+kk,bhi)→Q1 .next ρ' :=
          fun U1 g1 g2 g3 U2=>let ⟨P',hlt⟩:=P.step best hk0 U1 U2;H1.next ⟨_,hlt,g1,g2,g3,P',rfl⟩
        refine aB (ex_if (bC (aJ (aA (hn e3 rfl)) (aA (hn e7 rfl)) rfl) fun _=>bC (aJ (aA (hn e5 rfl)) (aA (hn e8 rfl)) rfl) fun _=>tst_and0) (fun hc=>?_) fun hc=>?_)
        · refine aB (bF (ds:=qs.map w4d) (d:=w4d (alo,i,blo,j)) (hn e1 rfl) (aU (aC (aA (hn e3 rfl)) (aC (aA (hn e7 rfl)) (aC (aA (hn e5 rfl)) (aC (aA (hn e8 rfl)) aG)))) (by simp only [List.length_cons,List.length_nil];decide)) (by rw [List.length_map];exact aQ 0xf111010f7d119181a001388290f rfl hsl hl.1) (aE ?_))
          have U1:UW as bs [(alo,i,blo,j)] (alo,i,blo,j):=.one ⟨bw.1,by dsimp only;exact lq4 0xf111120f032a0100f rfl w2 bw.2.1,bw.2.2.1,by dsimp only;exact lq4 0xf111120f032a0100f rfl w4 bw.2.2.2⟩
          exact blocks_tail (qs:=qs++[(alo,i,blo,j)]) ((f1.pt rfl).pt rfl) (by rw [List.map_append];exact hs) (hn e2 rfl) (hn (hn e7 rfl) rfl) (hn (hn e8 rfl) rfl) (hn (hn e9 rfl) rfl) (hn (hn e4 rfl) rfl) (hn (hn e6 rfl) rfl) (by rw [List.length_append,List.length_singleton];exact lq1 0xf11138829180a1f7d119180a0f rfl hl.1) bw.2.1 w2 bw.2.2.2 w4 fun g1 g2 g3 U2=>aE (fin U1 g1 g2 g3 U2)
        · simp only [Bool.and_true,Bool.and_eq_false_iff,decide_eq_false_iff_not] at hc
          exact aE (blocks_tail (f1.pt rfl) (hn e1 rfl) e2 (hn e7 rfl) (hn e8 rfl) (hn e9 rfl) (hn e4 rfl) (hn e6 rfl) (by exact lq1 0xf1113882901f7d119180a0f rfl hl.1) bw.2.1 w2 bw.2.2.2 w4 fun g1 g2 g3 U2=>aE (fin (.none bw.1 bw.2.2.1 (by exact lq4 0xf101f11f321610168f3c2c461c0c468f rfl hc)) g1 (by rw [List.append_nil];exact g2) g3 U2))
      · obtain rfl:kk=0:=by simpa using hk
        obtain ⟨P',hlt⟩:=P.pop0 best
        exact aE (aE (H1.next ⟨_,hlt,f1,e1,e2,P',rfl⟩))
    · obtain rfl:qs=[]:=by
        cases qs with
        | nil=>rfl
        | cons w qs=>simp at hb
      exact hq ρ done f a6 (by simpa using P.perm)
end
theorem Good.get {la lb:Nat}:∀ {bs:List T3} {b:Bool} {i j:Nat},Good la lb b i j bs→∀ {p:Nat} {t u:T3},bs[p]?=some t→bs[p+1]?=some u→¬ (t.1+t.2.2=u.1∧t.2.1+t.2.2=u.2.1)
  | [],_,_,_,_,p,t,u,h,_=>by simp at h
  | (a,b,n) :: bs,_,_,_,g,0,t,u,h,h'=>by
    obtain ⟨h1,h2,h3,h4,h5⟩:=g.inv
    simp only [List.getElem?_cons_zero,Option.some.injEq] at h
    subst h
    cases h5 with
    | nil _ _=>simp at h'
    | cons g1 g2 g3 g4 g5 =>
      simp only [List.getElem?_cons_succ,List.getElem?_cons_zero,Option.some.injEq,Nat.zero_add] at h'
      subst h'
      exact g4 rfl
  | (a,b,n) :: bs,_,_,_,g,p+1,t,u,h,h'=>by
    obtain ⟨h1,h2,h3,h4,h5⟩:=g.inv
    exact Good.get h5 (p:=p) (by simpa using h) (by simpa using h')
theorem Good.pos {la lb:Nat}:∀ {bs:List T3} {b:Bool} {i j:Nat},Good la lb b i j bs→∀ t∈bs,0 < t.2.2
  | [],_,_,_,_,t,h=>by cases h
  | (a,b,n) :: bs,_,_,_,g,t,h=>by
    obtain ⟨h1,h2,h3,h4,h5⟩:=g.inv
    rcases List.mem_cons.mp h with rfl | h
    · exact h3
    · exact Good.pos h5 t h
section
variable {X:Cx} {k:Nat} {as bs:List Int} {va vb:Value}
inductive JT (bl:List T3) (p t1 t2 t3:Nat):Prop
  | zero:p=0→t1=0→t2=0→t3=0→JT bl p t1 t2 t3
  | at {q:Nat}:p=q+1→bl[q]?=some (t1,t2,t3)→0 < t3→JT bl p t1 t2 t3
theorem JT.take {bl:List T3} {p t1 t2 t3:Nat} (h:JT bl p t1 t2 t3) (hk:t3 ≠ 0):(bl.take p).map tup3=(bl.take (p - 1)).map tup3++[tup3 (t1,t2,t3)]:=by
  cases h with
  | zero _ _ _ h=>exact absurd h hk
  | @«at» q e hq _=>subst e;rw [List.take_add_one,hq];simp
theorem JT.start {bl:List T3} {p t1 t2 t3:Nat} (h:JT bl p t1 t2 t3) (hk:t3=0):p=0:=by
  cases h with
  | zero h _ _ _=>exact h
  | «at» _ _ h=>exact aQ 0xf180812f00810802f rfl hk h
inductive Joined (bl:List T3) (p:Nat) (ρ:List (Str×B)):Prop
  | mk {t1 t2 t3:Nat}:aI ρ "i1" (.val (.int t1))→aI ρ "j1" (.val (.int t2))→aI ρ "k1" (.val (.int t3))→aI ρ "non_adjacent" (.own ((bl.take (p - 1)).map tup3))→JT bl p t1 t2 t3→Joined bl p ρ
theorem blocks_set {x dx:Addr} {o:Obj} {L:Addr} {z:Value×Value×Value×Value} {ρ:List (Str×B)} {bl:List T3} {la lb p ai bj n:Nat} {P:Fl→List (Str×B)→Prop} (f:FW x dx o la lb ρ) (h:aI ρ "non_adjacent" (.own ((bl.take p).map tup3))) (hi:aI ρ "i2" (.val (.int ai))) (hj:aI ρ "j2" (.val (.int bj))) (hk:aI ρ "k2" (.val (.int n)))
    (hu:bl[p]?=some (ai,bj,n)) (hn0:0 < n) (hP:∀ {ρ':List (Str×B)},FW x dx o la lb ρ'∧Joined bl (p+1) ρ'→P .next ρ'):Exs X (k+3) (envB z L) ρ ((ifElse (aD (forBody (bSt 9)) 0)).drop 1) P :=
  aB (ex_swap (xs:=["i1","j1","k1"]) (ds:=[.int ai,.int bj,.int n]) (aU (aC (aA hi) (aC (aA hj) (aC (aA hk) aG))) (by simp only [List.length_cons,List.length_nil];decide)) (aS (.inl rfl) (aS (.inl rfl) (aS (.inl rfl) asgn_nil)))
    (aE (hP ⟨((f.pt rfl).pt rfl).pt rfl,by k_mem,by k_mem,by k_mem,by k_mem,.at rfl hu hn0⟩)) rfl rfl rfl)
theorem blocks_end {x dx:Addr} {o:Obj} {L:Addr} {z:Value×Value×Value×Value} {ρ:List (Str×B)} {bl:List T3} {la lb:Nat} {P:Fl→List (Str×B)→Prop} (f:FW x dx o la lb ρ) (h:aI ρ "non_adjacent" (.own (bl.map tup3))) (hl:bl.length < 5000)
    (hP:∀ {ρ':List (Str×B)},FW x dx o la lb ρ'→aI ρ' "non_adjacent" (.own ((bl++[(la,lb,0)]).map tup3))→P .next ρ'):Exs X (k+3) (envB z L) ρ (((aF (smSt 7)).take 12).drop 11) P:=by
  have hsl:5000≤sizeLine:=by decide
  exact aB (bF (ds:=bl.map tup3) (d:=tup3 (la,lb,0)) h (aU (aC (aA f.la) (aC (aA f.lb) (aC aM aG))) (by simp only [List.length_cons,List.length_nil];decide)) (by rw [List.length_map];exact aQ 0xf111100f1138829013882901f rfl hl hsl) (aE (hP (f.pt rfl) (by rw [List.map_append];exact hs))))
theorem blocks_walk (F:DF X) (G:MF X) {x dx:Addr} {o:Obj} {m:Str→Option Value} {N:Nat} {L:Addr} {z:Value×Value×Value×Value} (ho:AObj o m N) (M:Mat X X.h₀ x dx m va vb as bs) (hmb:m "matching_blocks"=some .none)
    (da:X.dat (.list (as.map .int)) va) (db:X.dat (.list (bs.map .int)) vb) (hza:as.length≤1000) (hzb:bs.length≤1000) (h64:(ro (mm as bs) (bH as bs)).length < 64) {P:Fl→List (Str×B)→Prop}
    (hP:∀ {ρ':List (Str×B)},FW x dx o as.length bs.length ρ'→aI ρ' "non_adjacent" (.own ((ro (mm as bs) (bH as bs)++[(as.length,bs.length,0)]).map tup3))→P .next ρ') :
    Exs X (k+3) (envB z L) (aH [("self",.raw (.ref x))] "#d" (.at dx o)) ((aF (smSt 7)).take 12) P:=by
  obtain ⟨cd,hC⟩:=F.cls
  have hsl:5000≤sizeLine:=by decide
  have S:∀ {ρ:List (Str×B)},aI ρ "#d" (.at dx o)→SelfD X ρ 242 x dx "#d" m N:=fun h=>⟨M.obj,.inl ⟨o,h,ho⟩⟩
  refine aB (ex_doc ?_)
  refine aB (ex_if (b:=false) (tst_isNotNone (v:=.none) (evv_attr (key:="#d") (by k_mem) (S (by k_mem)) hC (F.own "matching_blocks" (by decide)).1 hmb) evv_none) (fun e=>by cases e) fun _=>aE ?_)
  have ln:∀ (as:List Int),((as.map PyData.int).length:Int)=as.length:=fun as=>by rw [List.length_map]
  refine aB (ex_swap (xs:=["la","lb"]) (ds:=[.int as.length,.int bs.length]) (aU (aC (bG (ev_len F.len rfl (bK (ev_ofV (evv_attr (key:="#d") (by k_mem) (S (by k_mem)) hC (F.own "a" (by decide)).1 M.a M.ha) da)) (by rw [List.length_map];exact aQ 0xf111100f113882903e81900f rfl hza hsl)) (by rw [ln])) (aC (bG (ev_len F.len rfl (bK (ev_ofV (evv_attr (key:="#d") (by k_mem) (S (by k_mem)) hC (F.own "b" (by decide)).1 M.b M.hb) db)) (by rw [List.length_map];exact aQ 0xf111100f113882903e81900f rfl hzb hsl)) (by rw [ln])) aG)) (by simp only [List.length_cons,List.length_nil];exact lq1 0xf110181808aa0f01388290f rfl hsl)) (aS (.inl rfl) (aS (.inl rfl) asgn_nil)) ?_ rfl rfl rfl)
  refine aB (ex_assignF (ds:=[w4d (bH as bs)]) (evf_list (aC (aU (aC aM (aC (aA (by k_mem)) (aC aM (aC (aA (by k_mem)) aG)))) (by simp only [List.length_cons,List.length_nil];exact lq1 0xf1101818181808aaaa0f01388290f rfl hsl)) aG) (by simp only [List.length_cons,List.length_nil];exact lq1 0xf1101808a0f01388290f rfl hsl)) (.inl rfl) ?_)
  refine aB (ex_assignF (evf_list aG (by simp)) (.inl rfl) ?_)
  refine aB (blocks_while F G ho M da db hza hzb h64 ⟨by k_mem,by k_mem,by k_mem,by k_mem⟩ (by k_mem) (by k_mem) fun ρ done f a5 a6=>?_)
  have hg:Good as.length bs.length true 0 0 (ro (mm as bs) (bH as bs)):=(ro_spec (mm as bs) (Nat.zero_le _) (Nat.zero_le _)).good'
  refine aB (ex_sort G a5 (by rw [a6.length_eq];exact h64) fun ms' p1 p2=>?_)
  obtain rfl:ms'=ro (mm as bs) (bH as bs):=sorted_unique (p1.trans a6) p2 hg.sorted
  have hl:(ro (mm as bs) (bH as bs)).length < 5000:=by exact lq1 0xf1113882901f400901f rfl h64
  clear a5 a6 p1 p2 h64
  generalize ro (mm as bs) (bH as bs)=bl at *
  refine aB (ex_assign3 (d:=.int 0) aM (aL (.inl rfl)) (aL (.inl rfl)) (aL (.inl rfl)) ?_)
  refine aB (ex_assignF (evf_list aG (by simp)) (.inl rfl) ?_)
  refine exs_freeze (x:="matching_blocks") (ds:=bl.map mt3) (by k_mem) ?_
  have f:=((((f.pt (z:="matching_blocks") (b:=.own (bl.map mt3)) rfl).pt (z:="i1") (b:=.val (.int 0)) rfl).pt (z:="j1") (b:=.val (.int 0)) rfl).pt (z:="k1") (b:=.val (.int 0)) rfl).pt (z:="non_adjacent") (b:=.own []) rfl |>.pt (z:="matching_blocks") (b:=.val (.list (bl.map mt3))) rfl
  refine aB (ex_for (items:=bl.map mt3) (evi_list (aA (by k_mem))) (fun p ρ=>FW x dx o as.length bs.length ρ∧Joined bl p ρ) ?_ ?_ ?_)
  · exact ⟨f,by k_mem,by k_mem,by k_mem,by k_mem,.zero rfl rfl rfl rfl⟩
  · rintro p dd ρ hp ⟨f,c1,c2,c3,c4,c5⟩ Q1 H1
    rename_i t1 t2 t3
    rw [List.getElem?_map] at hp
    obtain ⟨⟨ai,bj,n⟩,hu,rfl⟩:=Option.map_eq_some_iff.mp hp
    have hn0:=hg.pos _ (List.mem_of_getElem? hu)
    dsimp only at hn0
    clear hp
    refine ⟨_,asg_mt G (aV (aL (.inl rfl)) (aV (aL (.inl rfl)) (aV (aL (.inl rfl)) asgl_nil))) rfl rfl,?_⟩
    have f:=((f.pt (z:="i2") (b:=.val (.int ai)) rfl).pt (z:="j2") (b:=.val (.int bj)) rfl).pt (z:="k2") (b:=.val (.int n)) rfl
    have c1:=hn (x:="k2") (b:=.val (.int n)) (hn (x:="j2") (b:=.val (.int bj)) (hn (x:="i2") (b:=.val (.int ai)) c1 rfl) rfl) rfl
    have c2:=hn (x:="k2") (b:=.val (.int n)) (hn (x:="j2") (b:=.val (.int bj)) (hn (x:="i2") (b:=.val (.int ai)) c2 rfl) rfl) rfl
    have c3:=hn (x:="k2") (b:=.val (.int n)) (hn (x:="j2") (b:=.val (.int bj)) (hn (x:="i2") (b:=.val (.int ai)) c3 rfl) rfl) rfl
    have c4:=hn (x:="k2") (b:=.val (.int n)) (hn (x:="j2") (b:=.val (.int bj)) (hn (x:="i2") (b:=.val (.int ai)) c4 rfl) rfl) rfl
    have d1:aI (aH (aH (aH ρ "i2" (.val (.int ai))) "j2" (.val (.int bj))) "k2" (.val (.int n))) "i2" (.val (.int ai)):=hn (hn hs rfl) rfl
    have d2:aI (aH (aH (aH ρ "i2" (.val (.int ai))) "j2" (.val (.int bj))) "k2" (.val (.int n))) "j2" (.val (.int bj)):=hn hs rfl
    have d3:aI (aH (aH (aH ρ "i2" (.val (.int ai))) "j2" (.val (.int bj))) "k2" (.val (.int n))) "k2" (.val (.int n)):=hs
    generalize aH (aH (aH ρ "i2" (.val (.int ai))) "j2" (.val (.int bj))) "k2" (.val (.int n))=ρ1 at *
    refine aB (ex_if (bC (aJ (aT (aA c1) (aA c3)) (aA d1) rfl) fun _=>bC (aJ (aT (aA c2) (aA c3)) (aA d2) rfl) fun _=>tst_and0) (fun hc=>?_) fun hc=>?_)
    · simp only [Bool.and_true,Bool.and_eq_true,beq_iff_eq] at hc
      cases c5 with
      | zero e e1 e2 e3 =>
        subst e e1 e2 e3
        obtain rfl:ai=0:=by exact lq1 0xf1f11f0802f0c08c08ca5f rfl hc.1
        obtain rfl:bj=0:=by exact lq1 0xf1f11f0802f0c08c08ca5f rfl hc.2
        exact aB (ex_iadd (a:=(0:Nat)) (b:=n) c3 (aA d3) (.inl rfl) (aE (aE (H1.next ⟨f.pt rfl,hn c1 rfl,hn c2 rfl,by rw [Int.natCast_zero,Int.zero_add];exact hs,hn c4 rfl,.at rfl hu hn0⟩))))
      | «at» e hq _=>subst e;exact absurd ⟨by have:=hc.1;dsimp only;exact aZ 0xf11f81f210a2f2c1c0ca5f rfl hc.1,by have:=hc.2;dsimp only;exact aZ 0xf11f81f210a2f2c1c0ca5f rfl hc.2⟩ (hg.get hq hu)
    · refine aB (ex_if (tst_int (aA c3)) (fun hk=>?_) fun hk=>?_)
      · refine aB (bF (d:=tup3 (t1,t2,t3)) c4 (aU (aC (aA c1) (aC (aA c2) (aC (aA c3) aG))) (by simp only [List.length_cons,List.length_nil];exact lq1 0xf11018181808aaa0f01388290f rfl hsl)) (by rw [List.length_map,List.length_take];exact aZ 0xf1100108f1100118f040f1388291101388290f1331821 rfl hsl hl) (aE ?_))
        rw [← c5.take (by intro e;subst e;simp at hk)]
        exact blocks_set (f.pt rfl) hs (hn d1 rfl) (hn d2 rfl) (hn d3 rfl) hu hn0 fun h=>aE (H1.next h)
      · obtain rfl:=c5.start (by simpa using hk)
        exact aE (blocks_set f c4 d1 d2 d3 hu hn0 fun h=>aE (H1.next h))
  · rintro ρ ⟨f,c1,c2,c3,c4,c5⟩
    rename_i t1 t2 t3
    rw [List.length_map] at c4 c5
    refine aB (ex_if (tst_int (aA c3)) (fun hk=>?_) fun hk=>?_)
    · refine aB (bF (d:=tup3 (t1,t2,t3)) c4 (aU (aC (aA c1) (aC (aA c2) (aC (aA c3) aG))) (by simp only [List.length_cons,List.length_nil];exact lq1 0xf11018181808aaa0f01388290f rfl hsl)) (by rw [List.length_map,List.length_take];exact aQ 0xf1100108f1100118f030f1388291101388290f1231811 rfl hsl hl) (aE ?_))
      rw [← c5.take (by intro e;subst e;simp at hk),List.take_length]
      exact blocks_end (f.pt rfl) hs hl hP
    · have e:=c5.start (by simpa using hk)
      exact aE (blocks_end f (by rw [e,Nat.zero_sub,List.take_zero] at c4;rw [List.eq_nil_of_length_eq_zero e];exact c4) hl hP)
end
structure MG (X:Cx):Prop where
  make:findCls X.K (.ref 135) (.type "type") "_make"=some (.get (.builtin "classmethod.__get__") (.ref 91) .none (.ref 135))
  crec:∃ r,recIn X.K 91 "classmethod"=some (.ref 89 :: r)
  len:findIn X.K (.ref 135) "__len__"=some (some (.builtin "tuple.__len__"))
  dmake:∃ z,DefAt X 89 (fdMT 5 "_make" z) (aF (mtSt 5)) ["cls","iterable"]
theorem MG.on {X:Cx} (F:MG X) {h:Heap} {D:PyData→Value→Prop} (k:∀ b o,X.h₀.get? b=some o→h.get? b=some o):MG (X.on h D) :=
  ⟨F.make,F.crec,F.len,let ⟨z,d⟩:=F.dmake;⟨z,d.on k⟩⟩
theorem tlen_kind:builtinKind "tuple.__len__"=some .slot:=by decide +kernel
theorem tlen_split:splitId "tuple.__len__"=some ("tuple","__len__"):=by decide +kernel
section
variable {X:Cx} {k:Nat} {env:Env} {ρ:List (Str×B)} {Q:Fl→List (Str×B)→Prop}
theorem len_mt (G:MF X) (H:MG X) {A:Around} {s:Shared} {t:Addr} {dd:Option Addr} {vs:Array Value} {n:Nat} {P:Value→Shared→Prop} (Kin:X.K.In s.heap) (ho:s.heap.get? t=some { cls:=.ref 135,dict:=dd,data:=.seq vs n }) (hz:vs.size≤sizeLine)
    (h:P (.int vs.size (s.toks+1)) { s with toks:=s.toks+1+1 }):wpAny (model X.prog X.w) A (call (.builtin "len") [.ref t]) P noE s:=by
  have L:=G.looks (M:=model X.prog X.w) Kin
  have t1:Looks (model X.prog X.w) s.heap (typeOf (.ref t)) (.ref 135):=(Looks.ld ho).andThen .now
  have ll:Looks (model X.prog X.w) s.heap (typeLookup (.ref 135) "__len__") (some (.builtin "tuple.__len__")):=looks_findIn Kin H.len
  have hz':(sizeLine:Int) < 2 ^ 63:=by decide
  refine Calls.call_function_entry kind_len plain_len entry_len (args_len1 _) ?_
  unfold Builtin.«len»
  refine wpAny_bind (m:=oneArg "len" _) (wpAny_pure ?_)
  refine wpAny_bind (m:=callSpecial? (.ref t) (Str.ofString "__len__")) ?_
  unfold callSpecial? specialOf
  refine wpAny_bind (wpAny_bind (t1.here (ll.here ?_)))
  dsimp only
  refine wpAny_holding ?_
  rw [PySem.F.slot_tuple_len.bind (.ref t)]
  refine wpAny_bind (wpAny_pure ?_)
  dsimp only
  refine wpAny_bind (wpAny_call (slot_callB PySem.F.slot_tuple_len.plain PySem.F.entry_tuple_len tlen_kind tlen_split (t1.andThen L.tup) (PySem.F.args_tuple_len_1 _) ?_))
  show wpAny _ _ (do retInt (← Builtin.Tuple.tupleItemsOf (.ref t)).size) _ _ s
  refine wpAny_bind (wpAny_tupleItemsOf ho rfl ?_)
  refine wpAny_bind (wpAny_mkInt (wpAny_pure ?_))
  refine wpAny_pure ?_
  refine wpAny_bind (wpAny_holding (wpAny_pure ?_))
  refine wpAny_bind (wpAny_letGo ?_)
  show wpAny _ _ (if ((vs.size:Nat):Int) < 0 then _ else _) _ _ _
  rw [if_neg (by exact lq1 0xf1080c46ff rfl)]
  show wpAny _ _ (if ((vs.size:Nat):Int) ≥ 2 ^ 63 then _ else _) _ _ _
  rw [if_neg (by exact aQ 0xf1110c8000000000000000e936f8000000000000000e91c4100f rfl hz hz')]
  exact wpAny_bind (wpAny_mkInt (wpAny_pure ⟨_,rfl,h⟩))
theorem ev_lenM (G:MF X) (H:MG X) {p pos:Pos} {e:Expr} {ds:List PyData} (hx:X.gl ("len":Str)=some (.builtin "len")) (hk:env.kindOf ("len":Str)=some .globalImplicit) (he:Ev X k env ρ e (.dict [(.none,.tuple ds)])) (hz:ds.length≤sizeLine)
    (hs:starEach [e] env=[(false,eval e env)]:=by rfl):Ev X k env ρ (.Call (.Name "len" p) [e] [] pos) (.int ds.length):=fun A bad O s R r=>by
  refine wpAny_Call_Name_kw (glob_use r hx hk ?_)
  refine callWith_method1 (wpAny_items_cons (he.use R r fun v s1 x1 r1 q1=>wpAny_items_nil ?_) hs) hs
  refine q1.mtE fun t dd vs n hb ho qs=>?_
  have hl:vs.size=ds.length:=by rw [← Array.length_toList,qs.length]
  refine len_mt G H (r1.wf.kin.keeps r1.base) ho (by rw [hl];exact hz) ⟨x1.trans (Ext.toks _ _),?_⟩
  rw [hl];exact .int _ _
theorem make1_call (F:DF X) (G:MF X) (H:MG X) {A:Around} {bad:Addr→Prop} {s:Shared} {u:Value} {t:T3} (R:Room (k+1) A) (a:At X s) (low:∀ a,bad a→∃ o,s.heap.get? a=some o) (q:Rep bad s.heap (tup3 t) u) :
    codeAny (model X.prog X.w) A (.call (.ref 89) ⟨[.ref 135,u],[]⟩) (fun r s'=>∃ v,r=.ok (.ret v)∧Ext s s'∧Rep bad s'.heap (mt3 t) v) s:=by
  obtain ⟨z,D⟩:=H.dmake
  have F':DF (X.on s.heap fun _ _=>False):=F.on a.base
  have G':MF (X.on s.heap fun _ _=>False):=G.on a.base
  have H':MG (X.on s.heap fun _ _=>False):=H.on a.base
  refine codeAny_mono (still_frame (bad:=bad) (Dt:=fun _ _=>False) (bs:=[.raw (.ref 135),.val (tup3 t)]) (P:=fun fl _=>fl=.ret (mt3 t)) D R a low (fun _ _ e=>e.elim) (.cons (.raw _) (.cons (.val q) .nil)) rfl fun L=>?_) fun r s' h=>?_
  · refine aB (ex_doc ?_)
    refine aB (aR (d:=mt3 t) (ev_tnew G' F'.tuple rfl (bB (by k_mem)) (aA (by k_mem)) (by simp only [List.length_cons,List.length_nil];decide)) (.inl rfl) ?_)
    refine aB (ex_if (b:=false) (aJ (ev_lenM G' H' (ds:=[.int t.1,.int t.2.1,.int t.2.2]) F'.len rfl (aA (by k_mem)) (by simp only [List.length_cons,List.length_nil];decide)) aM rfl) (fun e=>by cases e) fun _=>aE ?_)
    refine aB (ex_return (d:=mt3 t) (aA (by k_mem)) ⟨rfl,.inr ⟨_,rfl⟩⟩)
  · obtain ⟨v,fl,ρ',O',L,rfl,rfl,hv,x,r'⟩:=h
    exact ⟨v,rfl,x,hv⟩
end
theorem mro_map:mroOf (.type "map")=pure [.type "map",.type "object"]:=by rw [mroOf_type];kernel_rfl
theorem lookup_map_new:typeLookup (.type "map") "__new__"=pure (some (.builtin "map.__new__")):=by rw [typeLookup_type,builtinLookup_eq_fast];kernel_rfl
theorem slot_map_init:Slot "map" "__init__" "object.__init__" :=
  .of (owner:="object") (n:="__init__") (by rw [typeLookup_type,builtinLookup_eq_fast];kernel_rfl) (by decide +kernel) (by decide +kernel) (by decide +kernel)
    (by first | exact .inl (by decide +kernel) | exact .inr (by decide +kernel)) (by rw [isSubtype_type];kernel_rfl)
theorem slot_map_next:Slot "map" "__next__" "map.__next__" :=
  .of (owner:="map") (n:="__next__") (by rw [typeLookup_type,builtinLookup_eq_fast];kernel_rfl) (by decide +kernel) (by decide +kernel) (by decide +kernel)
    (by first | exact .inl (by decide +kernel) | exact .inr (by decide +kernel)) (by rw [isSubtype_type];kernel_rfl)
theorem slot_map_iter:Slot "map" "__iter__" "map.__iter__" :=
  .of (owner:="map") (n:="__iter__") (by rw [typeLookup_type,builtinLookup_eq_fast];kernel_rfl) (by decide +kernel) (by decide +kernel) (by decide +kernel)
    (by first | exact .inl (by decide +kernel) | exact .inr (by decide +kernel)) (by rw [isSubtype_type];kernel_rfl)
theorem called_map:TypeCalled "map" "map.__new__" "object.__init__" :=
  ⟨by decide +kernel,by decide +kernel,⟨_,_,mro_map⟩,madeBy_type mro_map lookup_map_new (by decide +kernel),by decide +kernel,by rw [isSubtype_type];kernel_rfl,slot_map_init⟩
theorem typeCall_map_2 (a b:Value):checkTypeCall "map" ⟨[a,b],[]⟩=pure ():=by kernel_rfl
theorem newCall_map_2 (a b:Value):checkBuiltinCall "map.__new__" ⟨[.type "map",a,b],[]⟩=pure ():=by kernel_rfl
theorem entry_map_new:entryFor table "map.__new__"=some Builtin.«map.__new__»:=entryFor_of_tree (by kernel_rfl)
theorem entry_map_next:entryFor table "map.__next__"=some Builtin.«map.__next__»:=entryFor_of_tree (by kernel_rfl)
theorem entry_map_iter:entryFor table "map.__iter__"=some Builtin.«dict_keyiterator.__iter__» :=
  entryFor_alias (id':="dict_keyiterator.__iter__") (by kernel_rfl) (by first | rfl | decide +kernel | (unfold String.splitOn;simp +decide [String.splitOnAux])) (by decide +kernel) (by kernel_rfl)
theorem args_map_iter (a:Value):argsOk "map.__iter__" ⟨[a],[]⟩:=by unfold argsOk;kernel_rfl
theorem args_map_next (a:Value):argsOk "map.__next__" ⟨[a],[]⟩:=by unfold argsOk;kernel_rfl
theorem sub_map:isSubtype (.type "map") (.type "map")=pure true:=by rw [isSubtype_type];kernel_rfl
theorem map_no_len:typeLookup (.type "map") "__len__"=pure none:=by rw [typeLookup_type,builtinLookup_eq_fast];kernel_rfl
theorem map_no_hint:typeLookup (.type "map") "__length_hint__"=pure none:=by rw [typeLookup_type,builtinLookup_eq_fast];kernel_rfl
noncomputable abbrev IsMap (h:Heap) (z TI:Addr) (f:Value):Prop:=h.get? z=some { cls:=.type "map",dict:=none,data:=.fields #[.ref TI,f],slots:=#[] }
noncomputable abbrev IsOne (h:Heap) (T:Addr) (a:Value):Prop:=h.get? T=some { cls:=.type "tuple",data:=.seq #[a] }
noncomputable abbrev mapH1 (h:Heap) (l:Addr):Heap:=h.push { cls:=.type "list_iterator",data:=.fields #[.ref l,.int 0 0] }
noncomputable abbrev mapH2 (h:Heap) (l:Addr):Heap:=(mapH1 h l).push { cls:=.type "tuple",data:=.seq #[.ref h.objs.size] }
noncomputable abbrev mapH3 (h:Heap) (f:Value) (l:Addr):Heap:=(mapH2 h l).push { cls:=.type "map",data:=.fields #[.ref (mapH1 h l).objs.size,f] }
theorem meets_map_new (f:Value) (l:Addr) (xs:Array Value) :
    Meets (Builtin.«map.__new__» ⟨[.type "map",f,.ref l],[]⟩) (fun _ R s=>s.heap.IsList l xs∧R (.ok (.ret (.ref (mapH2 s.heap l).objs.size))) { s with heap:=mapH3 s.heap f l }) :=
  .of_wp fun prog w A R s h=>by
    obtain ⟨hp,g,d,tk,os⟩:=s;obtain ⟨hl,h⟩:=h
    have hsub:=sub_map
    have hL:Heap.IsList (Shared.heap ⟨hp,g,d,tk,os⟩) l xs:=hl
    wp_walk using wpAny_pyIter_list hL
    exact ⟨_,rfl,h⟩
section
variable {prog:Program} {w:World} {A:Around} {E:Value→Shared→Prop} {s:Shared}
theorem call_map {f:Value} {l:Addr} {xs:Array Value} {Q:Value→Shared→Prop} (hl:s.heap.IsList l xs)
    (h:∀ h',IsMap h' (s.heap.objs.size+2) (s.heap.objs.size+1) f→IsOne h' (s.heap.objs.size+1) (.ref s.heap.objs.size)→h'.IsListIter s.heap.objs.size l 0→(∀ c o,s.heap.get? c=some o→h'.get? c=some o)→Q (.ref (s.heap.objs.size+2)) { s with heap:=h' }) :
    wpAny (model prog w) A (call (.type "map") [f,.ref l]) Q E s:=by
  refine callType_new called_map (by decide) (typeCall_map_2 _ _) (newCall_map_2 _ _) (fun obj=>PySem.F.args_object_init_3 obj _ _) entry_map_new (meets_map_new f l xs) ⟨hl,?_⟩
  have z1:(mapH1 s.heap l).objs.size=s.heap.objs.size+1:=Heap.size_push ..
  have z2:(mapH2 s.heap l).objs.size=s.heap.objs.size+2:=by rw [Heap.size_push,z1]
  have g3:(mapH3 s.heap f l).get? (mapH2 s.heap l).objs.size=some _:=Heap.get?_push_size _ rfl
  have g2:(mapH3 s.heap f l).get? (mapH1 s.heap l).objs.size=some _:=Heap.get?_push_of_some _ (Heap.get?_push_size _ rfl)
  have g1:(mapH3 s.heap f l).get? s.heap.objs.size=some _:=Heap.get?_push_of_some _ (Heap.get?_push_of_some _ (Heap.get?_push_size _ rfl))
  show _∧_
  rw [z2,z1] at g3
  rw [z1] at g2
  rw [z2]
  exact ⟨⟨_,g3,rfl⟩,h _ g3 g2 ⟨_,g1,rfl,rfl⟩ fun c o x=>Heap.get?_push_of_some _ (Heap.get?_push_of_some _ (Heap.get?_push_of_some _ x))⟩
theorem map_next {z TI it l:Addr} {f x:Value} {i:Nat} {xs:Array Value} {Q:Option Value→Shared→Prop} (hz:IsMap s.heap z TI f) (hT:IsOne s.heap TI (.ref it)) (hi:s.heap.IsListIter it l i) (hl:s.heap.IsList l xs) (hx:xs[i]?=some x) (hzi:z ≠ it) (hTi:TI ≠ it)
    (h:∀ h',h'.IsListIter it l (i+1)→Heap.SameBut it s.heap h'→wpAny (model prog w) A.in1 (call f [x]) (fun v s'=>Q (some v) s') (fun _ _=>False) { s with heap:=h' }) :
    wpAny (model prog w) A (pyNext (.ref z)) Q E s:=by
  have hTy:s.TypeIs (.ref z) "map":=⟨_,hz,rfl⟩
  unfold pyNext
  refine wpAny_bind (wpAny_attempt (wpAny_callSpecial?_slot (name:=Str.ofString "__next__") hTy slot_map_next (wpAny_call_entry slot_map_next hTy entry_map_next ?_ (args_map_next _))))
  show wpAny _ _ (field (.ref z) 0 >>= _) _ _ _
  refine wpAny_bind (wpAny_field hz rfl (x:=.ref TI) rfl ?_)
  refine wpAny_bind (wpAny_seqItems hT rfl ?_)
  dsimp only
  refine wpAny_bind ?_
  rw [← Array.forIn_toList]
  simp only [List.forIn_cons,List.forIn_nil]
  refine wpAny_bind (wpAny_bind (wpAny_holding (wpAny_nextOf_list_item hi hl hx fun h1 hi1 hs1=>wpAny_pure ?_)))
  refine wpAny_pure ?_
  have hz1:IsMap h1 z TI f:=(hs1.2 z hzi).trans hz
  refine wpAny_bind (wpAny_field hz1 rfl (x:=f) rfl ?_)
  refine wpAny_bind (wpAny_holding ?_)
  refine wpAny_mono (h h1 hi1 hs1) (fun v s' hv=>?_) fun _ _ e=>e.elim
  refine wpAny_bind (wpAny_letGo ?_)
  exact wpAny_pure ⟨v,rfl,wpAny_pure hv⟩
theorem map_end {z TI it l:Addr} {f:Value} {i:Nat} {xs:Array Value} {Q:Option Value→Shared→Prop} (hh:A.handled=none) (hz:IsMap s.heap z TI f) (hT:IsOne s.heap TI (.ref it)) (hi:s.heap.IsListIter it l i) (hl:s.heap.IsList l xs) (hx:xs[i]?=none)
    (h:∀ h',(∀ b o,b ≠ it→s.heap.get? b=some o→h'.get? b=some o)→Q none { s with heap:=h' }) :
    wpAny (model prog w) A (pyNext (.ref z)) Q E s:=by
  have hTy:s.TypeIs (.ref z) "map":=⟨_,hz,rfl⟩
  unfold pyNext
  refine wpAny_bind (wpAny_attempt (wpAny_callSpecial?_slot (name:=Str.ofString "__next__") hTy slot_map_next (wpAny_call_entry slot_map_next hTy entry_map_next ?_ (args_map_next _))))
  show wpAny _ _ (field (.ref z) 0 >>= _) _ _ _
  refine wpAny_bind (wpAny_field hz rfl (x:=.ref TI) rfl ?_)
  refine wpAny_bind (wpAny_seqItems hT rfl ?_)
  dsimp only
  refine wpAny_bind ?_
  rw [← Array.forIn_toList]
  simp only [List.forIn_cons,List.forIn_nil]
  refine wpAny_bind (wpAny_bind (wpAny_holding (wpAny_nextOf_list_end hh hi hl hx fun h1 e hs1 he=>?_)))
  obtain ⟨o,ho,hc⟩:=he
  refine wpAny_bind (wpAny_isInstance (T:="StopIteration") (b:=true) ⟨o,ho,hc⟩ isSubtype_stop ?_)
  exact wpAny_pure (h _ hs1)
theorem map_iter {z TI:Addr} {f:Value} {Q:Value→Shared→Prop} (hz:IsMap s.heap z TI f) (h:Q (.ref z) s):wpAny (model prog w) A (pyIter (.ref z)) Q E s:=by
  have hT:s.TypeIs (.ref z) "map":=⟨_,hz,rfl⟩
  refine wpAny_pyIter_slot hT slot_map_iter (wpAny_call_entry slot_map_iter hT entry_map_iter ?_ (args_map_iter _))
  show wpAny _ _ (ret (.ref z)) _ _ s
  exact wpAny_pure ⟨_,rfl,"map",_,hT,slot_map_next.lookup,h⟩
end
section
variable {X:Cx} {k:Nat}
structure MapAt (X:Cx) (bad:Addr→Prop) (s:Shared) (S z TI it l mo:Addr) (i:Nat) (rem done:List T3):Prop where
  wat:At X s
  low:∀ a,bad a→∃ o,s.heap.get? a=some o
  bS:bad S
  map:IsMap s.heap z TI (.ref mo)
  one:IsOne s.heap TI (.ref it)
  iter:s.heap.IsListIter it l i
  src:∃ xs n,s.heap.get? l=some { cls:=.type "list",data:=.seq xs n }∧i≤xs.size∧RepL bad s.heap (rem.map tup3) (xs.toList.drop i)
  met:s.heap.get? mo=some (methodObj (.ref 89) (.ref 135))
  out:∃ acc c,s.heap.get? S=some { cls:=.type "list",data:=.seq acc c }∧RepL bad s.heap (done.map mt3) acc.toList
  new:X.h₀.get? S=none∧X.h₀.get? it=none
  zne:z ≠ it∧z ≠ S
  Tne:TI ≠ it∧TI ≠ S
  lne:l ≠ it∧l ≠ S
  mne:mo ≠ it∧mo ≠ S
  ine:it ≠ S
theorem keepseq_it {bad:Addr→Prop} {h h':Heap} {it l:Addr} {i:Nat} (hi:h.IsListIter it l i) (hk:∀ b o,b ≠ it→h.get? b=some o→h'.get? b=some o):KeepSeq bad h h':=fun b o vs n _ e ed=>hk b o (fun q=>by
  subst q;obtain ⟨o',e',_,ed'⟩:=hi;rw [e] at e';cases e';rw [ed] at ed';cases ed') e
theorem map_loop (F:DF X) (G:MF X) (H:MG X) {A:Around} {bad:Addr→Prop} {S z TI it l mo:Addr} {res:Value} {R:Result→Shared→Prop} (Rm:Room (k+3) A) :
    ∀ (rem done:List T3) (i:Nat) (s:Shared),MapAt X bad s S z TI it l mo i rem done→(done++rem).length≤sizeLine →
    (∀ s',(∀ b o,b ≠ it→b ≠ S→s.heap.get? b=some o→s'.heap.get? b=some o)→s'.gens=s.gens→s'.os=s.os→(∃ acc c,s'.heap.get? S=some { cls:=.type "list",data:=.seq acc c }∧RepL bad s'.heap ((done++rem).map mt3) acc.toList)→R (.ok (.ret res)) s') →
    codeAny (model X.prog X.w) A (.builtin "list.extend.loop" ⟨[.ref S,.ref z,res],[]⟩) R s
  | [],done,i,s,M,hz,hR=>by
    obtain ⟨xs,n,hl,hi,q⟩:=M.src
    have hx:xs[i]?=none:=by
      rw [← Array.getElem?_toList]
      have hd:(xs.toList.drop i).length=0:=by have:=q.length;simp at this ⊢;exact aQ 0xf1f1001f0822f2082f101 rfl this
      rw [List.getElem?_eq_none]
      rw [List.length_drop] at hd;exact aQ 0xf8101100f0822f101 rfl hd
    refine codeAny_builtin PySem.F.entry_extend_loop ?_
    rw [Around.under_plainId PySem.F.plain_extend_loop _]
    show wpAny _ A.in1 (pyNext (.ref z) >>= _) _ _ s
    refine wpAny_bind (map_end Rm.handled M.map M.one M.iter ⟨_,hl,rfl,_,rfl⟩ hx fun h' hk=>?_)
    obtain ⟨acc,c,hS,qS⟩:=M.out
    refine wpAny_pure (hR _ (fun b o h1 _ e=>hk b o h1 e) rfl rfl ⟨acc,c,hk _ _ (Ne.symm M.ine) hS,?_⟩)
    rw [List.append_nil]
    exact qS.keep (keepseq_it M.iter hk)
  | t :: rem,done,i,s,M,hz,hR=>by
    obtain ⟨xs,n,hl,hi,q⟩:=M.src
    obtain ⟨acc,c,hS,qS⟩:=M.out
    rw [List.map_cons] at q
    have hdl:(xs.toList.drop i).length=rem.length+1:=by have:=q.length;simp at this ⊢;exact aZ 0xf8001f1001f180a32f3180a2f211 rfl this
    have hil:i < xs.size:=by rw [List.length_drop,Array.length_toList] at hdl;exact aZ 0xf118f1008f011f182a32f100 rfl hdl
    have hdrop:xs.toList.drop i=xs[i] :: xs.toList.drop (i+1):=by
      rw [List.drop_eq_getElem_cons (by simpa using hil)];simp
    rw [hdrop] at q
    have qx:Rep bad s.heap (tup3 t) xs[i]:=by cases q with | cons a b=>exact a
    have qr:RepL bad s.heap (rem.map tup3) (xs.toList.drop (i+1)):=by cases q with | cons a b=>exact b
    refine codeAny_builtin PySem.F.entry_extend_loop ?_
    rw [Around.under_plainId PySem.F.plain_extend_loop _]
    show wpAny _ A.in1 (pyNext (.ref z) >>= _) _ _ s
    refine wpAny_bind (map_next M.map M.one M.iter ⟨_,hl,rfl,_,rfl⟩ (Array.getElem?_eq_getElem hil) M.zne.1 M.Tne.1 fun h1 hi1 hs1=>?_)
    have k1:∀ b o,b ≠ it→s.heap.get? b=some o→h1.get? b=some o:=fun b o hb e=>(hs1.2 b hb).trans e
    have kq1:KeepSeq bad s.heap h1:=keepseq_it M.iter k1
    have a1:At X { s with heap:=h1 }:=⟨M.wat.wf,fun b o e=>k1 b o (fun q=>by rw [q,M.new.2] at e;cases e) (M.wat.base b o e),M.wat.gens,M.wat.os⟩
    have low1:∀ a,bad a→∃ o,h1.get? a=some o:=fun a ha=>by
      by_cases q:a=it
      · subst q;obtain ⟨o,e,_⟩:=hi1;exact ⟨o,e⟩
      · obtain ⟨o,e⟩:=M.low a ha;exact ⟨o,k1 a o q e⟩
    refine wpAny_call (method_call (k1 _ _ M.mne.1 M.met) ?_)
    refine codeAny_mono (make1_call F G H (k:=k) (bad:=bad) (t:=t) Rm.in1.in1 a1 low1 (qx.keep kq1)) fun r s2 hr=>?_
    obtain ⟨v,rfl,x2,qv⟩:=hr
    show wpAny _ A.in1 (updateSeq S (·.push v) >>= _) _ _ _
    have k2:∀ b o,b ≠ it→s.heap.get? b=some o→s2.heap.get? b=some o:=fun b o hb e=>x2.keep b o (k1 b o hb e)
    have hS2:=k2 _ _ (Ne.symm M.ine) hS
    have hal:acc.size=done.length:=by have:=qS.length;simp at this;exact aQ 0xf81f11f012f102f rfl this
    rw [List.length_append,List.length_cons] at hz
    have kq2:KeepSeq bad s.heap s2.heap:=fun b o vs n hb e ed=>x2.keep b o (kq1 b o vs n hb e ed)
    have kS:KeepSeq bad s2.heap (s2.heap.update S (Obj.mapSeq (·.push v))):=fun b o vs n hb e ed=>(Heap.get?_update_ne _ _ _ _ fun q:b=S=>hb (by rw [q];exact M.bS)).trans e
    have k3:∀ b o,b ≠ S→s2.heap.get? b=some o→(s2.heap.update S (Obj.mapSeq (·.push v))).get? b=some o:=fun b o hb e=>(Heap.get?_update_ne _ _ _ _ hb).trans e
    have hS3:=Heap.get?_update_self (Obj.mapSeq (·.push v)) hS2 rfl
    refine wpAny_bind (wpAny_updateSeq hS2 rfl (wpAny_pure ⟨plainId_quiet PySem.F.plain_extend_loop _,?_⟩) (by rw [hal];exact aZ 0xf11200f2181a0a0f rfl hz) (by show (acc.push v).size≤sizeLine+1;rw [Array.size_push,hal];exact aZ 0xf11182a180a0f2181a0a0f rfl hz))
    have M':MapAt X bad { s2 with heap:=s2.heap.update S (Obj.mapSeq (·.push v)) } S z TI it l mo (i+1) rem (done++[t]):=by
      refine ⟨⟨M.wat.wf,fun b o e=>k3 b o (fun q=>by rw [q,M.new.1] at e;cases e) (x2.keep b o (a1.base b o e)),x2.gens.trans a1.gens,x2.os.trans a1.os⟩,fun a ha=>?_,M.bS,k3 _ _ M.zne.2 (k2 _ _ M.zne.1 M.map),k3 _ _ M.Tne.2 (k2 _ _ M.Tne.1 M.one),hi1.at fun o e=>k3 _ o M.ine (x2.keep _ o e),⟨xs,n,k3 _ _ M.lne.2 (k2 _ _ M.lne.1 hl),hil,(qr.keep kq2).keep kS⟩,k3 _ _ M.mne.2 (k2 _ _ M.mne.1 M.met),⟨acc.push v,_,hS3,?_⟩,M.new,M.zne,M.Tne,M.lne,M.mne,M.ine⟩
      · by_cases q:a=S
        · subst q;exact ⟨_,hS3⟩
        · obtain ⟨o,e⟩:=low1 a ha;exact ⟨o,k3 a o q (x2.keep a o e)⟩
      · rw [List.map_append,List.map_singleton]
        exact ((qS.keep kq2).keep kS).push (qv.keep kS)
    refine map_loop F G H Rm rem (done++[t]) (i+1) _ M' (by simp;exact aZ 0xf112181a0a0f2181a0a0f rfl hz) fun s' hk hg hos ho=>?_
    refine hR s' (fun b o h1 h2 e=>hk b o h1 h2 (k3 b o h2 (k2 b o h1 e))) (hg.trans x2.gens) (hos.trans x2.os) ?_
    rw [List.append_assoc,List.singleton_append] at ho
    exact ho
end
section
variable {X:Cx} {k:Nat} {env:Env} {ρ:List (Str×B)}
theorem call_list_map (F:DF X) (G:MF X) (H:MG X) {A:Around} {bad:Addr→Prop} {s:Shared} {z TI it l mo:Addr} {xs:Array Value} {n:Nat} {ms:List T3} {Q:Value→Shared→Prop} (Rm:Room (k+4) A) (a:At X s) (low:∀ a,bad a→∃ o,s.heap.get? a=some o)
    (hz:IsMap s.heap z TI (.ref mo)) (hT:IsOne s.heap TI (.ref it)) (hi:s.heap.IsListIter it l 0) (hl:s.heap.get? l=some { cls:=.type "list",data:=.seq xs n }) (q:RepL bad s.heap (ms.map tup3) xs.toList) (hm:s.heap.get? mo=some (methodObj (.ref 89) (.ref 135)))
    (h0:X.h₀.get? it=none) (ne:z ≠ it∧TI ≠ it∧l ≠ it∧mo ≠ it) (hsz:ms.length≤sizeLine)
    (hQ:∀ s' acc c,(∀ b o,b ≠ it→s.heap.get? b=some o→s'.heap.get? b=some o)→s'.gens=s.gens→s'.os=s.os→s'.heap.get? s.heap.objs.size=some { cls:=.type "list",data:=.seq acc c }→RepL (fun b=>bad b∨b=s.heap.objs.size) s'.heap (ms.map mt3) acc.toList→Q (.ref s.heap.objs.size) s') :
    wpAny (model X.prog X.w) A (call (.type "list") [.ref z]) Q noE s:=by
  have lt:∀ {b:Addr} {o:Obj},s.heap.get? b=some o→b ≠ s.heap.objs.size:=fun e=>Nat.ne_of_lt (Heap.lt_size e)
  refine callType_codes (Q₁:=fun obj s₁=>obj=.ref s.heap.objs.size∧s₁={ s with heap:=s.heap.push { cls:=.type "list",data:=.seq #[] } }) PySem.F.called_list (PySem.F.typeCall_list_1 _) PySem.F.entry_list_init
    (code_list_new _ ⟨rfl,rfl⟩) fun obj s₁ h₁=>?_
  obtain ⟨rfl,rfl⟩:=h₁
  generalize hSd:s.heap.objs.size=S at *
  have hS:(s.heap.push { cls:=.type "list",data:=.seq #[] }).get? S=some { cls:=.type "list",data:=.seq #[] }:=hSd ▸ Heap.get?_push_size _ rfl
  refine ⟨⟨_,hS,rfl⟩,PySem.F.args_list_init_2 _ _,?_⟩
  have kp:∀ b o,s.heap.get? b=some o→(s.heap.push { cls:=.type "list",data:=.seq #[] }).get? b=some o:=fun b o e=>Heap.get?_push_of_some _ e
  generalize (s.heap.push { cls:=.type "list",data:=.seq #[] }:Heap)=h1 at hS kp ⊢
  show wpAny _ A.in1.in1 (do let old ← Builtin.List.listItems (.ref S);Builtin.List.listUpdate (.ref S) (fun _=>#[]);letGo old.toList.reverse;Builtin.List.listExtendWith (.ref S) (.ref z) .none) _ _ _
  refine wpAny_bind ?_
  unfold Builtin.List.listItems
  refine wpAny_bind (wpAny_seqItems (s:={ s with heap:=h1 }) hS rfl (wpAny_pure ?_))
  show wpAny _ A.in1.in1 (updateSeq S (fun _=>#[]) >>= fun _=>letGo (#[]:Array Value).toList.reverse >>= fun _=>Builtin.List.listExtendWith (.ref S) (.ref z) .none) _ _ _
  refine wpAny_bind (wpAny_updateSeq (s:={ s with heap:=h1 }) hS rfl ?_)
  have hS2:=Heap.get?_update_self (Obj.mapSeq (fun _=>(#[]:Array Value))) hS rfl
  have k2:∀ b o,s.heap.get? b=some o→(h1.update S (Obj.mapSeq (fun _=>(#[]:Array Value)))).get? b=some o:=fun b o e=>(Heap.get?_update_other _ _ (fun x=>lt e x.symm)).trans (kp b o e)
  refine wpAny_bind (wpAny_letGo ?_)
  dsimp only
  generalize (h1.update S (Obj.mapSeq (fun _=>(#[]:Array Value))):Heap)=h2 at hS2 k2 ⊢
  have hS2':∃ c,h2.get? S=some { cls:=.type "list",data:=.seq #[] c }:=⟨_,hS2⟩
  clear hS2
  obtain ⟨c2,hS2⟩:=hS2'
  have hz2:=k2 _ _ hz
  have hTy:({ s with heap:=h2 }:Shared).TypeIs (.ref z) "map":=⟨_,hz2,rfl⟩
  unfold Builtin.List.listExtendWith
  refine wpAny_bind (wpAny_typeOf hTy ?_)
  have e1:Builtin.List.listSameRef (.ref S) (.ref z)=false:=by simp [Builtin.List.listSameRef,Ne.symm (lt hz)]
  have e2:(Value.type "map" == Value.type "list")=false:=by decide
  have e3:(Value.type "map" == Value.type "tuple")=false:=by decide
  simp only [e1,e2,e3,Bool.or_false,Bool.false_eq_true,if_false]
  refine wpAny_bind (map_iter (s:={ s with heap:=h2 }) hz2 ?_)
  refine wpAny_bind (wpAny_holding ?_)
  unfold Builtin.List.listLengthHint
  refine wpAny_bind (wpAny_specialOf hTy map_no_len ?_)
  show wpAny _ A.in1.in1 (specialOf (Value.ref z) (Str.ofString "__length_hint__") >>= _) _ _ _
  refine wpAny_bind (wpAny_specialOf hTy map_no_hint ?_)
  refine wpAny_pure ?_
  show wpAny _ A.in1.in1 (rule "list.extend.makes-room" >>= fun _=>Builtin.List.listTouch (.ref S) >>= fun _ =>
    again (.builtin "list.extend.loop" ⟨[.ref S,.ref z,.none],[]⟩)) _ _ _
  refine wpAny_bind (wpAny_rule ?_)
  refine wpAny_bind ?_
  show wpAny _ A.in1.in1 (updateSeq S (·.push .none) >>= fun _=>updateSeq S (·.pop)) _ _ _
  refine wpAny_bind (wpAny_updateSeq (s:={ s with heap:=h2 }) hS2 rfl ?_)
  have hS3:=Heap.get?_update_self (Obj.mapSeq (·.push Value.none)) hS2 rfl
  refine wpAny_updateSeq (hz:=by seq_fits) hS3 rfl ?_
  have hS4:=Heap.get?_update_self (Obj.mapSeq (·.pop)) hS3 rfl
  have k4:∀ b o,s.heap.get? b=some o→((h2.update S (Obj.mapSeq (·.push Value.none))).update S (Obj.mapSeq (·.pop))).get? b=some o:=fun b o e =>
    (Heap.get?_update_other _ _ (fun x=>lt e x.symm)).trans ((Heap.get?_update_other _ _ (fun x=>lt e x.symm)).trans (k2 b o e))
  dsimp only
  generalize ((h2.update S (Obj.mapSeq (·.push Value.none))).update S (Obj.mapSeq (·.pop)):Heap)=h4 at hS4 k4 ⊢
  refine wpAny_pure ⟨plainId_quiet PySem.F.plain_extend_loop _,?_⟩
  have hX:X.h₀.get? S=none:=by
    cases e:X.h₀.get? S with
    | none=>rfl
    | some o=>exact absurd rfl (lt (a.base _ _ e))
  have qk:RepL (fun b=>bad b∨b=S) h4 (ms.map tup3) xs.toList:=(q.imp fun b o e hb=>hb.elim id fun x=>absurd x (lt e)).keep fun b o _ _ _ e _=>k4 b o e
  have M:MapAt X (fun b=>bad b∨b=S) { s with heap:=h4 } S z TI it l mo 0 ms []:=by
    refine ⟨⟨a.wf,fun b o e=>k4 b o (a.base b o e),a.gens,a.os⟩,fun b hb=>?_,.inr rfl,k4 _ _ hz,k4 _ _ hT,hi.at fun o e=>k4 _ o e,⟨xs,n,k4 _ _ hl,Nat.zero_le _,by rw [List.drop_zero];exact qk⟩,k4 _ _ hm,⟨_,_,hS4,.nil⟩,⟨hX,h0⟩,⟨ne.1,lt hz⟩,⟨ne.2.1,lt hT⟩,⟨ne.2.2.1,lt hl⟩,⟨ne.2.2.2,lt hm⟩,?_⟩
    · rcases hb with hb | rfl
      · obtain ⟨o,e⟩:=low b hb;exact ⟨o,k4 b o e⟩
      · exact ⟨_,hS4⟩
    · obtain ⟨o,e,_⟩:=hi;exact lt e
  refine map_loop F G H Rm.in1 ms [] 0 _ M (by simpa using hsz) fun s' hk hg hos ho=>?_
  obtain ⟨acc,c,e1,e2⟩:=ho
  refine ⟨rfl,hQ s' acc c (fun b o hb e=>hk b o hb (lt e) (k4 b o e)) hg hos e1 ?_⟩
  rw [List.nil_append] at e2;exact e2
end
section
variable {X:Cx} {k:Nat} {env:Env} {ρ:List (Str×B)}
theorem evf_makes (F:DF X) (G:MF X) (H:MG X) {p p2 p3 p4 p5 p6:Pos} {e:Expr} {ms:List T3} (hk1:env.kindOf ("list":Str)=some .globalImplicit) (hk2:env.kindOf ("map":Str)=some .globalImplicit) (hk3:env.kindOf ("Match":Str)=some .globalImplicit)
    (he:EvS X (k+4) env ρ e (ms.map tup3)) (hsz:ms.length≤sizeLine)
    (hs1:starEach [.Call (.Name "map" p2) [.Attribute (.Name "Match" p3) "_make" p4,e] [] p5] env=[(false,eval (.Call (.Name "map" p2) [.Attribute (.Name "Match" p3) "_make" p4,e] [] p5) env)]:=by rfl)
    (hs2:starEach [.Attribute (.Name "Match" p3) "_make" p4,e] env=(false,eval (.Attribute (.Name "Match" p3) "_make" p4) env) :: starEach [e] env:=by rfl) (hs3:starEach [e] env=[(false,eval e env)]:=by rfl) :
    EvF X (k+4) env ρ (.Call (.Name "list" p) [.Call (.Name "map" p2) [.Attribute (.Name "Match" p3) "_make" p4,e] [] p5] [] p6) (ms.map mt3):=fun A bad O s R r=>by
  obtain ⟨rr,hrec⟩:=H.crec
  have Kin:=r.wf.kin.keeps r.base
  refine wpAny_Call_Name_kw (glob_use r F.list hk1 ?_)
  refine PySem.callWith_type (by rw [hs1];rfl) (Calls.evalArgs_plain ?_)
  refine wpAny_items_cons ?_ hs1
  refine wpAny_Call_Name_kw (glob_use r F.map hk2 ?_)
  refine PySem.callWith_type (by rw [hs2,hs3];rfl) (Calls.evalArgs_plain ?_)
  refine wpAny_items_cons ?_ hs2
  refine Attribute_name (glob_use r F.mtch hk3 ?_)
  refine cls_bind Kin G.reads H.make (wpAny_call (cm_get (s:={ s with toks:=s.toks+1 }) Kin hrec (handed_on rfl ?_)))
  have x1:Ext s { s with heap:=s.heap.push (methodObj (.ref 89) (.ref 135)),toks:=s.toks+1 }:=⟨fun b o e=>Heap.get?_push_of_some _ e,rfl,rfl⟩
  have hmo:(s.heap.push (methodObj (.ref 89) (.ref 135))).get? s.heap.objs.size=some (methodObj (.ref 89) (.ref 135)):=Heap.get?_push_size _ rfl
  show wpAny _ _ _ _ _ { s with heap:=s.heap.push (methodObj (.ref 89) (.ref 135)),toks:=s.toks+1 }
  have r1:=r.ext x1
  refine wpAny_items_cons (he.use R r1 fun l xs s2 x2 r2 hpl q=>?_) hs3
  obtain ⟨n,hl⟩:=hpl
  have hmo2:=x2.keep _ _ hmo
  refine wpAny_items_nil ?_
  show wpAny _ _ (call (.type "map") [.ref s.heap.objs.size,.ref l]) _ _ s2
  refine call_map (f:=.ref s.heap.objs.size) ⟨_,hl,rfl,_,rfl⟩ fun h3 hz hT hi hk=>?_
  refine wpAny_items_nil ?_
  show wpAny _ _ (call (.type "list") [.ref (s2.heap.objs.size+2)]) _ _ { s2 with heap:=h3 }
  have x3:Ext s2 { s2 with heap:=h3 }:=⟨hk,rfl,rfl⟩
  have r3:=r2.ext x3
  have ltz:∀ {b:Addr} {o:Obj},s2.heap.get? b=some o→b ≠ s2.heap.objs.size:=fun e=>Nat.ne_of_lt (Heap.lt_size e)
  have h0:X.h₀.get? s2.heap.objs.size=none:=by
    cases e:X.h₀.get? s2.heap.objs.size with
    | none=>rfl
    | some o=>exact absurd rfl (ltz (r2.base _ _ e))
  refine call_list_map F G H (bad:=aN bad O) (xs:=xs) (n:=n) (ms:=ms) R r3.at (badO_alive r3) hz hT hi (hk _ _ hl) (q.ext x3) (hk _ _ hmo2) h0 ⟨Nat.ne_of_gt (Nat.lt_add_of_pos_right (by decide)),Nat.ne_of_gt (Nat.lt_add_of_pos_right (by decide)),ltz hl,ltz hmo2⟩ hsz fun s' acc c hk' hg hos hS qS=>?_
  have hnew:∀ b,s.heap.get? b=none∨b ≠ s2.heap.objs.size:=fun b=>by
    by_cases hb:b=s2.heap.objs.size
    · left
      cases e:s.heap.get? b with
      | none=>rfl
      | some o=>exact absurd hb (ltz (x2.keep _ _ (x1.keep _ _ e)))
    · exact .inr hb
  refine ⟨⟨fun b o e=>?_,hg.trans (x2.gens.trans x1.gens),hos.trans (x2.os.trans x1.os)⟩,_,acc,c,rfl,?_,hS,qS⟩
  · rcases hnew b with h | h
    · rw [h] at e;cases e
    · exact hk' b o h (hk _ _ (x2.keep _ _ (x1.keep _ _ e)))
  · cases e:s.heap.get? h3.objs.size with
    | none=>rfl
    | some o=>exact absurd (Heap.lt_size (hk _ _ (x2.keep _ _ (x1.keep _ _ e)))) (Nat.lt_irrefl _)
end
theorem findBy_mem {K:Type} {is:K→Value→Bool} {es:Array DictEntry} {k:K} {v:Value} (h:findBy is es k=some v):∃ e,e∈es:=by
  by_cases hz:es=#[]
  · subst hz;cases h
  · obtain ⟨e,he⟩:=Array.exists_mem_of_ne_empty es hz
    exact ⟨e,he⟩
theorem dict_apart {X:Cx} {h:Heap} {d dx:Addr} {o:Obj} {m:Str→Option Value} {N:Nat} {kvs:List (Int×Value)} {v:Value} (hd:h.DictOf (DK X) d kvs) (ho:h.get? dx=some o) (ha:AObj o m N) (hm:m "a"=some v):d ≠ dx:=fun e=>by
  subst e
  obtain ⟨o',es',ep',ho',_,hd',hk',_⟩:=hd
  rw [ho] at ho';cases ho'
  obtain ⟨es,ep,hdd,hs,hf,_⟩:=ha
  rw [hdd] at hd';cases hd'
  have:=hf "a"
  rw [hm] at this
  obtain ⟨e,he⟩:=findBy_mem this
  obtain ⟨n,t,h1⟩:=hs e he
  obtain ⟨k,h2,_⟩:=hk' e he
  rw [h1] at h2
  cases h2
theorem Mat.hide {X:Cx} {h:Heap} {x dx:Addr} {m:Str→Option Value} {N:Nat} {va vb:Value} {as bs:List Int} {o:Obj} (M:Mat X h x dx m va vb as bs) (ho:h.get? dx=some o) (ha:AObj o m N):Mat X (h.hide dx) x dx m va vb as bs:=by
  have hne:∀ {b:Addr} {ob:Obj},h.get? b=some ob→(∀ es ep,ob.data ≠ .dict es ep)→b ≠ dx:=fun e hd q=>by
    subst q;rw [ho] at e;cases e
    obtain ⟨es,ep,hdd,_⟩:=ha
    exact hd es ep hdd
  refine ⟨?_,M.a,M.ha,M.b,M.hb,M.free,?_⟩
  · rw [Heap.hide_ne _ (hne M.obj fun _ _ e=>by cases e)];exact M.obj
  · obtain ⟨d,js,led,h1,h2,h3,kvs,h4,h5,h6,h7⟩:=M.rest
    refine ⟨d,js,led,h1,h2,by rw [Heap.hide_ne _ (hne h3 fun _ _ e=>by cases e)];exact h3,kvs,?_,h5,h6,fun y=>?_⟩
    · have:=dict_apart h4 ho ha M.a
      obtain ⟨o',es',ep',ho',rest⟩:=h4
      exact ⟨o',es',ep',by rw [Heap.hide_ne _ this];exact ho',rest⟩
    · rcases h7 y with ⟨v,l,ol,e1,e2,e3,e4⟩ | e
      · refine .inl ⟨v,l,ol,e1,e2,?_,e4⟩
        rw [Heap.hide_ne _ (hne e3 fun _ _ e=>by obtain ⟨vs,n,rfl,_⟩:=e4;cases e)];exact e3
      · exact .inr e
section
variable {X:Cx} {k:Nat} {as bs:List Int} {va vb:Value}
noncomputable abbrev XB (X:Cx) (h:Heap) (as bs:List Int) (va vb:Value):Cx:=X.on h fun d v=>(d=.list (as.map .int)∧v=va)∨(d=.list (bs.map .int)∧v=vb)
noncomputable def blks (as bs:List Int):List T3:=ro (mm as bs) (bH as bs)++[(as.length,bs.length,0)]
theorem blocks_call (F:DF X) (G:MF X) (H:MG X) {A:Around} {bad:Addr→Prop} {s:Shared} {x dx:Addr} {m:Str→Option Value} {N:Nat} (R:Room (k+5) A) (a:At X s) (hX:X.h₀.get? dx=none) (hb:¬ bad dx) (low:∀ a,bad a→∃ o,s.heap.get? a=some o)
    (I:Inst s.heap 242 x dx m N) (M:Mat X s.heap x dx m va vb as bs) (hmb:m "matching_blocks"=some .none) (ra:Rep bad s.heap (.list (as.map .int)) va) (rb:Rep bad s.heap (.list (bs.map .int)) vb) (hN:N < 900) (hza:as.length≤1000) (hzb:bs.length≤1000) (h64:(ro (mm as bs) (bH as bs)).length < 64) :
    codeAny (model X.prog X.w) A (.call (.ref 203) ⟨[.ref x],[]⟩) (fun r s'=>∃ v,r=.ok (.ret v)∧KeepBut dx s s'∧Rep bad s'.heap (.list ((blks as bs).map mt3)) v∧∃ o',s'.heap.get? dx=some o'∧AObj o' (upd m "matching_blocks" v) (N+1)) s:=by
  obtain ⟨cd,hC⟩:=F.cls
  obtain ⟨o,ho,hao⟩:=I.nsb.aobj
  obtain ⟨_,_,z,D⟩:=F.blocks
  have hsl:5000≤sizeLine:=by decide
  have hx:(s.heap.hide dx).get? x=some (instObj 242 dx):=by rw [Heap.hide_ne _ I.xne];exact I.obj
  refine method_frame_wp (bad:=bad) (Dt:=fun d v=>(d=.list (as.map .int)∧v=va)∨(d=.list (bs.map .int)∧v=vb)) (bs:=[.raw (.ref x)])
    (P:=fun v s'=>Rep bad s'.heap (.list ((blks as bs).map mt3)) v∧∃ o',s'.heap.get? dx=some o'∧AObj o' (upd m "matching_blocks" v) (N+1)) D R a ho hao.noseq hX hb low ?dat (.cons (.raw _) .nil) rfl fun L A' O s₁ R' r=>?_
  case dat =>
    rintro d v (⟨rfl,rfl⟩ | ⟨rfl,rfl⟩)
    · exact ra.hide ho hao.noseq
    · exact rb.hide ho hao.noseq
  have kb:=hide_on a hX
  have F':DF (XB X (s.heap.hide dx) as bs va vb):=F.on kb
  have G':MF (XB X (s.heap.hide dx) as bs va vb):=G.on kb
  have H':MG (XB X (s.heap.hide dx) as bs va vb):=H.on kb
  have M':=M.hide ho hao
  refine Exs.then (ss1:=(aF (smSt 7)).take 12) (ss2:=(aF (smSt 7)).drop 12) (P:=fun ρ'=>aI ρ' "self" (.raw (.ref x))∧aI ρ' "#d" (.at dx o)∧aI ρ' "non_adjacent" (.own ((blks as bs).map tup3))) ?_ R' r ?_
  · exact blocks_walk (k:=k+1) F' G' (z:=z) hao ⟨M'.obj,M'.a,M'.ha,M'.b,M'.hb,M'.free,M'.rest⟩ hmb (.inl ⟨rfl,rfl⟩) (.inr ⟨rfl,rfl⟩) hza hzb h64 fun f h=>⟨rfl,f.s,f.d,h⟩
  · rintro ρ' O' s' ⟨hself,hd',hna⟩ st r'
    have hev:∀ p p2 p3 p4 p5 p6 p7:Pos,EvF (XB X (s.heap.hide dx) as bs va vb) (k+4) (callEnvC (fdSM 7 "get_matching_blocks" z) L 203) ρ' (.Call (.Name "list" p) [.Call (.Name "map" p2) [.Attribute (.Name "Match" p3) "_make" p4,.Name "non_adjacent" p7] [] p5] [] p6) ((blks as bs).map mt3) :=
      fun p p2 p3 p4 p5 p6 p7=>evf_makes F' G' H' rfl rfl rfl (evs_own hna) (by unfold blks;rw [List.length_append,List.length_singleton];exact aQ 0xf1111180a0f11388290400901f rfl h64 hsl)
    refine wpAny_execs_cons (wpAny_Assign_stores (wpAny_mono (hev _ _ _ _ _ _ _ A' bad O' s' R' r') (fun v s2 q=>?_) fun _ _ x=>x) rfl rfl)
    obtain ⟨x2,l,vs,n,rfl,hnone,hl,ql⟩:=q
    have r2:=r'.ext x2
    have hgood:=new_good r' hnone
    have rl:Rep (aN bad O') s2.heap (.list ((blks as bs).map mt3)) (.ref l):=.list hgood hl (ql.imp fun _ _ _ h=>.inl h)
    have hasg:∀ yp pos:Pos,AsgV (XB X (s.heap.hide dx) as bs va vb) (k+4) (callEnvC (fdSM 7 "get_matching_blocks" z) L 203) ρ' (.Attribute (.Name "self" yp) "matching_blocks" pos) (.ref l) (fun ρ''=>∃ o1,aI ρ'' "#d" (.at dx o1)∧aI ρ'' "self" (.raw (.ref x))∧AObj o1 (upd m "matching_blocks" (.ref l)) (N+1)):=fun yp pos =>
      bJ (key:="#d") hself hx hd' hao hC (F.own "matching_blocks" (by decide)).2 (by exact lq1 0xf113e81901f3841901f rfl hN) (fun o1 h1=>⟨o1,by k_mem,by k_mem,h1⟩)
    refine wpAny_mono (hasg _ _ A' bad O' s2 R' r2) (fun _ s3 p3=>?_) fun _ _ x=>x
    obtain ⟨O3,ρ3,⟨o1,d1,d2,d3⟩,st3,r3⟩:=p3
    have q3:=rl.step r2.frm st3
    refine wpAny_execs_cons (wpAny_Return_some ((evv_attr (X:=XB X (s.heap.hide dx) as bs va vb) (key:="#d") d2 ⟨hx,.inl ⟨o1,d1,d3⟩⟩ hC (F.own "matching_blocks" (by decide)).1 (v:=.ref l) (by unfold upd;rw [if_pos rfl])).use R' r3 fun s4 x4 r4=>?_))
    exact ⟨.ref l,.inr rfl,r4.at,(q3.ext x4).weak,o1,(r4.pt _ _ _ d1).2,d3⟩
end
section
variable {X:Cx} {k:Nat} {env:Env} {ρ ρ₀:List (Str×B)} {Q:Fl→List (Str×B)→Prop}
theorem ex_forM {target iter:Expr} {body:List Stmt} {pos:Pos} {items:List PyData} {J0:List (Str×B)→Prop} (hit:∀ (A:Around) (bad:Addr→Prop) (O:Str→Option Addr) (s:Shared),Room k A→Rel X bad O env ρ₀ s →
      wpAny (model X.prog X.w) A (eval iter env) (fun v s1=>∃ O1 ρ,(Step env O O1 s s1∧Rel X bad O1 env ρ s1∧Rep (aN bad O1) s1.heap (.list items) v)∧J0 ρ) noE s) (J:Nat→List (Str×B)→Prop) (h0:∀ ρ,J0 ρ→J 0 ρ)
    (turn:∀ i d ρ',items[i]?=some d→J i ρ'→∀ Q',Loop (J (i+1)) Q Q'→∃ ρ₁,Asg X k env ρ' target d ρ₁∧Exs X k env ρ₁ body Q')
    (hend:∀ ρ',J items.length ρ'→Q .next ρ') (hs:∀ x,foldedSetIterable iter env x=pure x:=by intro _;rfl):Ex1 X k env ρ₀ (.For target iter body [] pos) Q:=fun A bad O s R r=>by
  refine wpAny_For (wpAny_mono (hit A bad O s R r) (fun v s1 h1=>?_) fun _ _ x=>x) hs
  obtain ⟨O1,ρ,⟨st1,r1,q1⟩,hj⟩:=h1
  refine q1.listE fun a vs n hb g qs=>?_
  refine it_list (k:=k) R (Ext.refl s1) g qs fun s2 I x2 t=>?_
  obtain ⟨P,St,t⟩:=t
  refine codeAny_mono (for_core R r1 ⟨x2,I,_,_,P,St,rfl,t,fun b hb'=>?_⟩ J (h0 ρ hj) turn hend) fun res s3 h3=>?_
  · simp at hb'
    rcases hb' with rfl | rfl
    · exact .inl (by simp)
    · refine .inr ⟨fun hp=>?_,fun x hx=>hb (.inr ⟨x,hx⟩)⟩
      rcases hp with rfl | ⟨n,hn⟩
      · obtain ⟨m,o',es,ep,ho,hd,_⟩:=r1.frm.ns
        rw [g] at ho;cases ho;cases hd
      · obtain ⟨v,o',ho,hd⟩:=r1.frm.cell n b hn
        rw [g] at ho;cases ho;cases hd
  · cases res with
    | ok f=>exact h3.from st1
    | error e=>exact h3
end
section
variable {X:Cx} {k:Nat} {env:Env} {ρ:List (Str×B)} {Q:Fl→List (Str×B)→Prop}
theorem exs_at_own {x key:Str} {l:Addr} {n:Nat} {ss:List Stmt} (hx:ρ.lookup x=some (.raw (.ref l))) (hk:ρ.lookup key=some (.at l { cls:=.type "list",data:=.seq #[] n })) (hne:key ≠ x)
    (h:Exs X k env (aH (aH ρ key .free) x (.own [])) ss Q):Exs X k env ρ ss Q:=fun A bad O s R r=>by
  obtain ⟨hO,hcur⟩:=r.pt key l _ hk
  obtain ⟨st,r'⟩:=r.moved (y:=x) (b:=.own []) hO trivial (.own ins_self (r.raw x _ hx) hcur .nil)
  exact h.from R st r'
theorem ev_blocks (F:DF X) (G:MF X) (H:MG X) {as bs:List Int} {va vb:Value} {x dx:Addr} {o:Obj} {m:Str→Option Value} {N:Nat} {y:Str} {yp apos pos:Pos} {pl:Sem Bool} (hy:ρ.lookup y=some (.raw (.ref x))) (hd:ρ.lookup ("#d":Str)=some (.at dx o)) (ha:AObj o m N) (M:Mat X X.h₀ x dx m va vb as bs) (hmb:m "matching_blocks"=some .none)
    (da:X.dat (.list (as.map .int)) va) (db:X.dat (.list (bs.map .int)) vb) (hN:N < 900) (hza:as.length≤1000) (hzb:bs.length≤1000) (h64:(ro (mm as bs) (bH as bs)).length < 64)
    (he:eval (.Call (.Attribute (.Name y yp) "get_matching_blocks" apos) [] [] pos) env=(do
      let ov ← eval (.Name y yp) env
      standAt apos.atName
      let (f,first) ← holding [ov] (getMethod ov "get_matching_blocks" pl)
      callWith pos f first (backTo pos (starEach [] env)) []):=by rfl) (hdb:(y == ("__debug__":Str))=false:=by decide)
    {A:Around} {bad:Addr→Prop} {O:Str→Option Addr} {s:Shared} (R:Room (k+5) A) (r:Rel X bad O env ρ s) :
    wpAny (model X.prog X.w) A (eval (.Call (.Attribute (.Name y yp) "get_matching_blocks" apos) [] [] pos) env) (fun v s1=>∃ O1 ρ1,(Step env O O1 s s1∧Rel X bad O1 env ρ1 s1∧Rep (aN bad O1) s1.heap (.list ((blks as bs).map mt3)) v)∧∃ o',ρ1=aH ρ "#d" (.at dx o')∧AObj o' (upd m "matching_blocks" v) (N+1)) noE s:=by
  obtain ⟨cd,hC⟩:=F.cls
  obtain ⟨hf,ht,z,D⟩:=F.blocks
  obtain ⟨of,hof,hdf⟩:=D.obj
  obtain ⟨hO,hcur⟩:=r.pt _ _ _ hd
  refine mcall_use0 R r hy ⟨M.obj,.inl ⟨o,hd,ha⟩⟩ hC hf ht (M.free _ (by decide)) hof hdf ?_ he hdb
  have low:∀ b,aN bad (del O "#d") b→∃ o,s.heap.get? b=some o:=fun b hb=>badO_alive r b (badO_del hb)
  have nb:¬ aN bad (del O "#d") dx:=fun h=>by
    rcases h with h | ⟨y,e⟩
    · exact (r.good _ _ hO).1 h
    · unfold del at e
      split at e
      · cases e
      · rename_i hy';exact hy' (r.inj y _ dx e hO)
  have kb:∀ b o,X.h₀.get? b=some o→s.heap.get? b=some o:=r.base
  have M':Mat X s.heap x dx m va vb as bs:=by
    obtain ⟨d,js,led,e1,e2,e3,e4⟩:=M.rest
    exact ⟨kb _ _ M.obj,M.a,M.ha,M.b,M.hb,M.free,d,js,led,e1,e2,kb _ _ e3,e4.keeps kb⟩
  refine wpAny_call (codeAny_mono (blocks_call (k:=k) F G H (bad:=aN bad (del O "#d")) R r.at (r.good _ _ hO).2.1 nb low ⟨kb _ _ M.obj,ha.nsb hcur⟩ M' hmb ((r.datR da).imp fun b _ _ h=>badO_del h) ((r.datR db).imp fun b _ _ h=>badO_del h) hN hza hzb h64) fun res s1 h1=>?_)
  obtain ⟨v,rfl,kp,rv,o',ho',ha'⟩:=h1
  obtain ⟨st,r1⟩:=r.at_change (s':=s1) hd kp.keep ho' kp.gens kp.os
  refine ⟨O,_,⟨st,r1,?_⟩,o',rfl,ha'⟩
  refine rv.map fun b ob vs n nb e ed=>⟨fun hb=>nb ?_,e⟩
  rcases hb with hb | ⟨w,hw⟩
  · exact .inl hb
  · by_cases hwd:w="#d"
    · subst hwd
      rw [hO] at hw;cases hw
      rw [ho'] at e;cases e
      exact absurd ed (ha'.noseq vs n)
    · exact .inr ⟨w,by unfold del;rw [if_neg hwd];exact hw⟩
end
noncomputable abbrev envO (z:Value×Value×Value×Value) (L:Addr):Env:=callEnvC (fdSM 8 "get_opcodes" z) L 210
noncomputable abbrev bodyO (i:Nat):Stmt:=(aF (smSt 8)).getD i (.Pass ⟨0,0,0,0⟩)
noncomputable abbrev loopO (i:Nat):List Stmt:=(forBody (bodyO 4)).drop i
section
variable {X:Cx} {k:Nat} {ρ:List (Str×B)} {z:Value×Value×Value×Value} {L:Addr}
theorem tst_str {env:Env} {e:Expr} {c:Str} (h:Ev X k env ρ e (.str c)) (hz:c.length≤1000) (he:∀ whole,isTrue e env whole=(do let v ← whole;standAt e.pos;holding [v] (truthy v)):=by intro _;rfl):Tst X k env ρ e ((c.length:Int) != 0):=fun A bad O s R r =>
  isTrue_plain (h.use R r fun v s1 x1 r1 q1=>by cases q1;exact PySem.P.truthy_str (by exact lq1 0xf110c8000000000000000e936f3e81900f rfl hz) ⟨x1.trans (Ext.toks _ _),rfl⟩) (he _)
structure OW (i j ai bj n:Nat) (acc:List PyData) (bb:B) (ρ:List (Str×B)):Prop where
  i:aI ρ "i" (.val (.int i))
  j:aI ρ "j" (.val (.int j))
  ai:aI ρ "ai" (.val (.int ai))
  bj:aI ρ "bj" (.val (.int bj))
  n:aI ρ "size" (.val (.int n))
  ans:aI ρ "answer" (.own acc)
  d:aI ρ "#d" bb
theorem OW.tag {i j ai bj n:Nat} {acc:List PyData} {bb b:B} {ρ:List (Str×B)} (W:OW i j ai bj n acc bb ρ):OW i j ai bj n acc bb (aH ρ "tag" b):=⟨hn W.i rfl,hn W.j rfl,hn W.ai rfl,hn W.bj rfl,hn W.n rfl,hn W.ans rfl,hn W.d rfl⟩
structure OZ (i j:Nat) (acc:List PyData) (bb:B) (ρ:List (Str×B)):Prop where
  i:aI ρ "i" (.val (.int i))
  j:aI ρ "j" (.val (.int j))
  ans:aI ρ "answer" (.own acc)
  d:aI ρ "#d" bb
theorem opc_same {i j ai bj n:Nat} {acc:List PyData} {bb:B} {P:Fl→List (Str×B)→Prop} (W:OW i j ai bj n acc bb ρ) (hz:acc.length≤1001)
    (hP:∀ {ρ':List (Str×B)},OZ (ai+n) (bj+n) (acc++if n=0 then [] else [code "equal" ai (ai+n) bj (bj+n)]) bb ρ'→P .next ρ'):Exs X (k+5) (envO z L) ρ (loopO 3) P:=by
  have hsl:5000≤sizeLine:=by decide
  refine aB (ex_swap (xs:=["i","j"]) (ds:=[.int ((ai+n:Nat):Int),.int ((bj+n:Nat):Int)]) (aU (aC (aT (aA W.ai) (aA W.n)) (aC (aT (aA W.bj) (aA W.n)) aG)) (by simp only [List.length_cons,List.length_nil];exact lq1 0xf110181808aa0f01388290f rfl hsl)) (aS (.inl rfl) (aS (.inl rfl) asgn_nil)) ?_ rfl rfl rfl)
  refine aB (ex_if (tst_int (aA (hn (hn W.n rfl) rfl))) (fun hk=>?_) fun hk=>?_)
  · refine aB (bF (d:=code "equal" ai (ai+n) bj (bj+n)) (hn (hn W.ans rfl) rfl) (aU (aC ev_str (aC (aA (hn (hn W.ai rfl) rfl)) (aC (aA hs) (aC (aA (hn (hn W.bj rfl) rfl)) (aC (aA (hn hs rfl)) aG))))) (by simp only [List.length_cons,List.length_nil];exact lq1 0xf110181818181808aaaaa0f01388290f rfl hsl)) (by exact aQ 0xf111100f113882903e91900f rfl hz hsl) (aE (aE (hP ⟨hn hs rfl,hn (hn hs rfl) rfl,?_,hn (hn (hn W.d rfl) rfl) rfl⟩))))
    rw [if_neg (by simpa using hk)];exact hs
  · refine aE (aE (hP ⟨hs,hn hs rfl,?_,hn (hn W.d rfl) rfl⟩))
    rw [if_pos (by simpa using hk),List.append_nil];exact hn (hn W.ans rfl) rfl
theorem opc_rest {i j ai bj n:Nat} {acc:List PyData} {t:Str} {bb:B} {P:Fl→List (Str×B)→Prop} (W:OW i j ai bj n acc bb ρ) (h7:aI ρ "tag" (.val (.str t)))
    (hz:acc.length≤1000) (htl:t.length≤1000) (ht:gap i ai j bj=if (t.length:Int) != 0 then [code t i ai j bj] else [])
    (hP:∀ {ρ':List (Str×B)},OZ (ai+n) (bj+n) (acc++gap i ai j bj++if n=0 then [] else [code "equal" ai (ai+n) bj (bj+n)]) bb ρ'→P .next ρ') :
    Exs X (k+5) (envO z L) ρ (loopO 2) P:=by
  have hsl:5000≤sizeLine:=by decide
  refine aB (ex_if (tst_str (aA h7) htl) (fun hk=>?_) fun hk=>?_)
  · rw [if_pos hk] at ht
    rw [ht] at hP
    refine aB (bF (ds:=acc) (d:=code t i ai j bj) W.ans (aU (aC (aA h7) (aC (aA W.i) (aC (aA W.ai) (aC (aA W.j) (aC (aA W.bj) aG))))) (by simp only [List.length_cons,List.length_nil];exact lq1 0xf110181818181808aaaaa0f01388290f rfl hsl)) (by exact aQ 0xf111100f113882903e81900f rfl hz hsl) (aE ?_))
    exact opc_same ⟨hn W.i rfl,hn W.j rfl,hn W.ai rfl,hn W.bj rfl,hn W.n rfl,hs,hn W.d rfl⟩ (by rw [List.length_append,List.length_singleton];exact lq1 0xf113e919180a0f3e81900f rfl hz) hP
  · rw [if_neg (by rw [hk];decide)] at ht
    rw [ht,List.append_nil] at hP
    exact aE (opc_same W (by exact lq1 0xf113e91900f3e81900f rfl hz) hP)
end
theorem Mat.updO {X:Cx} {h:Heap} {x dx:Addr} {m:Str→Option Value} {va vb v:Value} {as bs:List Int} (M:Mat X h x dx m va vb as bs):Mat X h x dx (upd m "opcodes" v) va vb as bs:=by
  have u:∀ n:Str,n ≠ "opcodes"→upd m "opcodes" v n=m n:=fun n hn=>by unfold upd;rw [if_neg hn]
  obtain ⟨d,js,led,e1,e2,e3,e4⟩:=M.rest
  exact ⟨M.obj,by rw [u _ (by decide)];exact M.a,M.ha,by rw [u _ (by decide)];exact M.b,M.hb,fun f hf=>by rw [u f (fun e=>by subst e;revert hf;decide)];exact M.free f hf,d,js,led,by rw [u _ (by decide)];exact e1,by rw [u _ (by decide)];exact e2,e3,e4⟩
inductive OS (la lb:Nat) (bl:List T3) (p i j:Nat) (acc:List PyData):Prop
  | run:p≤bl.length→acc++opc la lb i j (bl.drop p)=opc la lb 0 0 bl→Good la lb true i j (bl.drop p)→OS la lb bl p i j acc
  | fin:p=bl.length+1→acc=opc la lb 0 0 bl→OS la lb bl p i j acc
theorem OS.step {la lb:Nat} {bl:List T3} {p i j ai bj n:Nat} {acc:List PyData} (S:OS la lb bl p i j acc) (hu:(bl++[(la,lb,0)])[p]?=some (ai,bj,n)) :
    i≤ai∧j≤bj∧OS la lb bl (p+1) (ai+n) (bj+n) (acc++gap i ai j bj++if n=0 then [] else [code "equal" ai (ai+n) bj (bj+n)]):=by
  have hpl:=(List.getElem?_eq_some_iff.mp hu).1
  rw [List.length_append,List.length_singleton] at hpl
  cases S with
  | fin h _=>exact (aQ 0xf119f181a02181a01f rfl hpl h).elim
  | run b1 b2 b3 =>
    rcases Nat.lt_or_ge p bl.length with hlt | hge
    · rw [List.getElem?_append_left hlt] at hu
      obtain ⟨hlt',e⟩:=List.getElem?_eq_some_iff.mp hu
      have hd:bl.drop p=(ai,bj,n) :: bl.drop (p+1):=by rw [List.drop_eq_getElem_cons hlt',e]
      rw [hd] at b2 b3
      obtain ⟨g1,g2,g3,g4,g5⟩:=b3.inv
      refine ⟨g1,g2,.run hlt ?_ g5.any⟩
      rw [if_neg (by exact lq1 0xf1808026f0081f rfl g3),← b2]
      simp [opc]
    · obtain rfl:p=bl.length:=by exact aQ 0xf101f11f102f010100f rfl b1 hge
      rw [List.getElem?_append_right (Nat.le_refl _),Nat.sub_self] at hu
      obtain ⟨rfl,rfl,rfl⟩:la=ai∧lb=bj∧0=n:=by simpa using hu
      rw [List.drop_length] at b2 b3
      refine ⟨b3.le.1,b3.le.2,.fin rfl ?_⟩
      rw [if_pos rfl,List.append_nil,← b2]
      rfl
inductive OpcAt (la lb:Nat) (bl:List T3) (p:Nat) (bb:B) (ρ:List (Str×B)):Prop
  | mk {i j:Nat} {acc:List PyData}:OZ i j acc bb ρ→acc.length≤2 * p→OS la lb bl p i j acc→OpcAt la lb bl p bb ρ
inductive DA (m:Str→Option Value) (N:Nat) (o:Obj):Prop
  | mk {v1 v2:Value}:AObj o (upd (upd m "opcodes" v1) "matching_blocks" v2) (N+2)→DA m N o
theorem gap_tag {i ai j bj:Nat} (h1:i≤ai) (h2:j≤bj):gap i ai j bj=if i < ai∧j < bj then [code "replace" i ai j bj] else if i < ai then [code "delete" i ai j bj] else if j < bj then [code "insert" i ai j bj] else []:=by
  unfold gap
  by_cases a:i < ai
  · have e1:¬ ai=i:=by exact aQ 0xf180126f101f rfl a
    have e2:¬ i=ai:=by exact aQ 0xf111026f101f rfl a
    by_cases b:j < bj
    · have e3:¬ j=bj:=by exact aQ 0xf111026f101f rfl b
      simp [a,b,e1,e2,e3]
    · have e3:j=bj:=by exact aQ 0xf101f11f102f1016100f rfl h2 b
      simp [a,b,e1,e2,e3]
  · have e1:ai=i:=by exact aQ 0xf11f101f012f1016100f rfl h1 a
    subst e1
    by_cases b:j < bj
    · have e3:¬ j=bj:=by exact aQ 0xf111026f101f rfl b
      simp [b,e3]
    · have e3:j=bj:=by exact aQ 0xf101f11f102f1016100f rfl h2 b
      simp [e3]
section
variable {X:Cx} {k:Nat} {as bs:List Int} {va vb:Value}
theorem codes_turn {la lb:Nat} {bl:List T3} {p i j ai bj n:Nat} {acc:List PyData} {bb:B} {L:Addr} {z:Value×Value×Value×Value} {ρ:List (Str×B)} {P:Fl→List (Str×B)→Prop} (W:OW i j ai bj n acc bb ρ) (hl:acc.length≤2 * p) (h64:bl.length < 64) (S:OS la lb bl p i j acc) (hu:(bl++[(la,lb,0)])[p]?=some (ai,bj,n))
    (hP:∀ {ρ':List (Str×B)},OpcAt la lb bl (p+1) bb ρ'→P .next ρ'):Exs X (k+5) (envO z L) ρ (loopO 0) P:=by
  obtain ⟨h1,h2,S'⟩:=S.step hu
  have hpl:=(List.getElem?_eq_some_iff.mp hu).1
  rw [List.length_append,List.length_singleton] at hpl
  have hgl:(gap i ai j bj).length≤1:=by unfold gap;split <;> simp
  have hgt:=gap_tag h1 h2
  have fin:∀ {ρ:List (Str×B)} {t:Str},OW i j ai bj n acc bb ρ→aI ρ "tag" (.val (.str t))→t.length≤1000→(gap i ai j bj=if (t.length:Int) != 0 then [code t i ai j bj] else [])→Exs X (k+5) (envO z L) ρ (loopO 2) P:=fun W ht htl e =>
    opc_rest W ht (by exact aZ 0xf22113e81900f182a11400921102b00f rfl hl h64 hpl) htl e fun Z=>hP ⟨Z,by simp only [List.length_append];split <;> simp <;> lia,S'⟩
  clear S' hP hl h64 S hu hpl hgl
  refine aB (aR (d:=.str "") ev_str (.inl rfl) ?_)
  have W:=W.tag (b:=.val (.str ""))
  have hT:aI (aH ρ "tag" (.val (.str ""))) "tag" (.val (.str "")):=hs
  generalize aH ρ "tag" (.val (.str ""))=ρ1 at *
  refine aB (ex_if (bC (aJ (aA W.i) (aA W.ai) rfl) fun _=>bC (aJ (aA W.j) (aA W.bj) rfl) fun _=>tst_and0) (fun hc=>?_) fun hc=>?_)
  · simp only [Bool.and_true,Bool.and_eq_true,decide_eq_true_eq] at hc
    exact aB (aR (d:=.str "replace") ev_str (.inl rfl) (aE (fin W.tag hs (by decide) (by rw [hgt,if_pos ⟨by exact aQ 0xf11101f1c0c4f rfl hc.1,by exact aQ 0xf11101f1c0c4f rfl hc.2⟩];rfl))))
  · simp only [Bool.and_true,Bool.and_eq_false_iff,decide_eq_false_iff_not] at hc
    refine aB (ex_if (aJ (aA W.i) (aA W.ai) rfl) (fun hc2=>?_) fun hc2=>?_)
    · simp only [decide_eq_true_eq] at hc2
      exact aB (aR (d:=.str "delete") ev_str (.inl rfl) (aE (aE (fin W.tag hs (by decide) (by rw [hgt,if_neg (by exact lq4 0xf101f11f32110176f3c2c461c0c468f rfl hc),if_pos (by exact aQ 0xf11101f1c0c4f rfl hc2)];rfl)))))
    · simp only [decide_eq_false_iff_not] at hc2
      refine aB (ex_if (aJ (aA W.j) (aA W.bj) rfl) (fun hc3=>?_) fun hc3=>?_)
      · simp only [decide_eq_true_eq] at hc3
        exact aB (aR (d:=.str "insert") ev_str (.inl rfl) (aE (aE (aE (fin W.tag hs (by decide) (by rw [hgt,if_neg (by exact lq4 0xf10132110176f1c0c46f rfl hc2),if_neg (by exact aQ 0xf111016f1c0c46f rfl hc2),if_pos (by exact aQ 0xf11101f1c0c4f rfl hc3)];rfl))))))
      · simp only [decide_eq_false_iff_not] at hc3
        exact aE (aE (aE (fin W hT (by decide) (by rw [hgt,if_neg (by exact lq4 0xf10132110176f1c0c46f rfl hc2),if_neg (by exact aQ 0xf111016f1c0c46f rfl hc2),if_neg (by exact aQ 0xf111016f1c0c46f rfl hc3)];rfl))))
theorem codes_walk (F:DF X) (G:MF X) (H:MG X) {x dx:Addr} {o:Obj} {m:Str→Option Value} {N:Nat} {L:Addr} {z:Value×Value×Value×Value} (ho:AObj o m N) (M:Mat X X.h₀ x dx m va vb as bs) (hmb:m "matching_blocks"=some .none) (hop:m "opcodes"=some .none)
    (da:X.dat (.list (as.map .int)) va) (db:X.dat (.list (bs.map .int)) vb) (hN:N < 800) (hza:as.length≤1000) (hzb:bs.length≤1000) (h64:(ro (mm as bs) (bH as bs)).length < 64) {P:Fl→List (Str×B)→Prop}
    (hP:∀ {ρ':List (Str×B)} {o':Obj},aI ρ' "#d" (.at dx o')→DA m N o'→P (.ret (.list (opc as.length bs.length 0 0 (ro (mm as bs) (bH as bs))))) ρ') :
    Exs X (k+5) (envO z L) (aH [("self",.raw (.ref x))] "#d" (.at dx o)) (aF (smSt 8)) P:=by
  obtain ⟨cd,hC⟩:=F.cls
  have hg:Good as.length bs.length true 0 0 (ro (mm as bs) (bH as bs)):=(ro_spec (mm as bs) (Nat.zero_le _) (Nat.zero_le _)).good'
  refine aB (ex_doc ?_)
  refine aB (ex_if (b:=false) (tst_isNotNone (v:=.none) (evv_attr (key:="#d") (by k_mem) ⟨M.obj,.inl ⟨o,by k_mem,ho⟩⟩ hC (F.own "opcodes" (by decide)).1 hop) evv_none) (fun e=>by cases e) fun _=>aE ?_)
  refine aB (ex_assign2 (d:=.int 0) aM (aL (.inl rfl)) (aL (.inl rfl)) ?_)
  refine aB (ex_assignN2 "#a" evn_list fun l oa hlow hoa=>bJ (key:="#d") (o:=o) (m:=m) (N:=N) (by k_mem) M.obj (by k_mem) ho hC (F.own "opcodes" (by decide)).2 (by exact lq1 0xf113e81901f3201901f rfl hN) fun o1 h1=>bI (.inl rfl) ?_)
  subst hoa
  refine exs_at_own (x:="answer") (key:="#a") (l:=l) (n:=0) (by k_mem) (by k_mem) (by decide) ?_
  refine aB (ex_forM (items:=(blks as bs).map mt3) (J0:=fun ρ=>∃ o',OpcAt as.length bs.length (ro (mm as bs) (bH as bs)) 0 (.at dx o') ρ∧DA m N o')
    (fun A bad O s R r=>wpAny_mono (ev_blocks (k:=k) F G H (x:=x) (dx:=dx) (o:=o1) (m:=upd m "opcodes" (.ref l)) (N:=N+1) (y:="self") (by k_mem) (by k_mem) h1 M.updO (by unfold upd;rw [if_neg (by decide)];exact hmb) da db (by exact lq1 0xf1138419180a1f3201901f rfl hN) hza hzb h64 (R:=R) (r:=r)) (fun v s1 h=>?_) fun _ _ x=>x)
    (fun p ρ=>∃ o',OpcAt as.length bs.length (ro (mm as bs) (bH as bs)) p (.at dx o') ρ∧DA m N o') (fun ρ h=>h) ?_ ?_)
  · obtain ⟨O1,ρ1,hh,o',rfl,h2⟩:=h
    exact ⟨O1,_,hh,o',⟨⟨by k_mem,by k_mem,by k_mem,by k_mem⟩,Nat.zero_le _,.run (Nat.zero_le _) (by rw [List.nil_append,List.drop_zero]) (by rw [List.drop_zero];exact hg)⟩,⟨h2⟩⟩
  · rintro p dd ρ hp ⟨o',⟨Z,hl,S⟩,D⟩ Q1 H1
    rw [List.getElem?_map] at hp
    obtain ⟨⟨ai,bj,n⟩,hu,rfl⟩:=Option.map_eq_some_iff.mp hp
    exact ⟨_,asg_mt G (aV (aL (.inl rfl)) (aV (aL (.inl rfl)) (aV (aL (.inl rfl)) asgl_nil))) rfl rfl,
      codes_turn ⟨hn (hn (hn Z.i rfl) rfl) rfl,hn (hn (hn Z.j rfl) rfl) rfl,by k_mem,by k_mem,by k_mem,hn (hn (hn Z.ans rfl) rfl) rfl,hn (hn (hn Z.d rfl) rfl) rfl⟩ hl h64 S hu fun h=>H1.next ⟨o',h,D⟩⟩
  · rintro ρ ⟨o',⟨Z,hl,S⟩,D⟩
    have e:((blks as bs).map mt3).length=(ro (mm as bs) (bH as bs)).length+1:=by unfold blks;simp
    rw [e] at S
    cases S with
    | run h _ _=>exact (lq1 0xf19f0180a0f rfl h).elim
    | fin _ h=>subst h;exact aB (ex_returnOwn Z.ans (hP Z.d D))
end
section
variable {X:Cx} {k:Nat} {env:Env} {ρ:List (Str×B)} {as bs:List Int} {va vb:Value}
theorem codes_call (F:DF X) (G:MF X) (H:MG X) {A:Around} {bad:Addr→Prop} {s:Shared} {x dx:Addr} {m:Str→Option Value} {N:Nat} (R:Room (k+6) A) (a:At X s) (hX:X.h₀.get? dx=none) (hb:¬ bad dx) (low:∀ a,bad a→∃ o,s.heap.get? a=some o)
    (I:Inst s.heap 242 x dx m N) (M:Mat X s.heap x dx m va vb as bs) (hmb:m "matching_blocks"=some .none) (hop:m "opcodes"=some .none) (ra:Rep bad s.heap (.list (as.map .int)) va) (rb:Rep bad s.heap (.list (bs.map .int)) vb) (hN:N < 800) (hza:as.length≤1000) (hzb:bs.length≤1000) (h64:(ro (mm as bs) (bH as bs)).length < 64) :
    codeAny (model X.prog X.w) A (.call (.ref 210) ⟨[.ref x],[]⟩) (fun r s'=>∃ v,r=.ok (.ret v)∧KeepBut dx s s'∧Rep bad s'.heap (.list (opc as.length bs.length 0 0 (ro (mm as bs) (bH as bs)))) v∧∃ o',s'.heap.get? dx=some o'∧DA m N o') s:=by
  obtain ⟨o,ho,hao⟩:=I.nsb.aobj
  obtain ⟨_,_,z,D⟩:=F.codes
  have kb:=hide_on a hX
  have M':=M.hide ho hao
  refine codeAny_mono (method_frame (bad:=bad) (Dt:=fun d v=>(d=.list (as.map .int)∧v=va)∨(d=.list (bs.map .int)∧v=vb)) (bs:=[.raw (.ref x)])
    (P:=fun fl ρ'=>fl=.ret (.list (opc as.length bs.length 0 0 (ro (mm as bs) (bH as bs))))∧∃ o',aI ρ' "#d" (.at dx o')∧DA m N o') D R a ho hao.noseq hX hb low ?dat (.cons (.raw _) .nil) rfl fun L=>?body) fun res s' h=>?post
  case dat =>
    rintro d v (⟨rfl,rfl⟩ | ⟨rfl,rfl⟩)
    · exact ra.hide ho hao.noseq
    · exact rb.hide ho hao.noseq
  case body =>
    exact codes_walk (X:=XB X (s.heap.hide dx) as bs va vb) (k:=k) (F.on kb) (G.on kb) (H.on kb) (z:=z) hao ⟨M'.obj,M'.a,M'.ha,M'.b,M'.hb,M'.free,M'.rest⟩ hmb hop (.inl ⟨rfl,rfl⟩) (.inr ⟨rfl,rfl⟩) hN hza hzb h64 fun h1 h2=>⟨⟨rfl,_,h1,h2⟩,⟨_,h1⟩,.inr ⟨_,rfl⟩⟩
  case post =>
    obtain ⟨v,fl,ρ',O',L,rfl,⟨rfl,o',h1,h2⟩,rv,kp,r'⟩:=h
    exact ⟨v,rfl,kp,rv,o',(r'.pt _ _ _ h1).2,h2⟩
theorem ev_opcodes (F:DF X) (G:MF X) (H:MG X) (hsm:X.gl ("SequenceMatcher":Str)=some (.ref 242)) (hkp:keepIn X.K (.ref 242)=true) (hmk:makesIn X.K 242=true) {p p2 p3 apos q1 q4:Pos} {n1 n4:Nat} {pl:Sem Bool} {e e':Expr} (hk:env.kindOf ("SequenceMatcher":Str)=some .globalImplicit)
    (he:Ev X (k+6) env ρ e (.list (as.map .int))) (he':Ev X (k+6) env ρ e' (.list (bs.map .int))) (hza:as.length≤1000) (hzb:bs.length≤1000) (h64:(ro (mm as bs) (bH as bs)).length < 64)
    (hev:eval (.Call (.Attribute (.Call (.Name "SequenceMatcher" p) [.Constant .none n1 q1,e,e',.Constant (.bool false) n4 q4] [] p2) "get_opcodes" apos) [] [] p3) env=(do
      let ov ← eval (.Call (.Name "SequenceMatcher" p) [.Constant .none n1 q1,e,e',.Constant (.bool false) n4 q4] [] p2) env
      standAt apos.atName
      let (f,first) ← holding [ov] (getMethod ov "get_opcodes" pl)
      callWith p3 f first (backTo p3 (starEach [] env)) []):=by rfl)
    (hst:starEach [.Constant .none n1 q1,e,e',.Constant (.bool false) n4 q4] env=[(false,eval (.Constant .none n1 q1) env),(false,eval e env),(false,eval e' env),(false,eval (.Constant (.bool false) n4 q4) env)]:=by rfl)
    (hst2:starEach [e,e',.Constant (.bool false) n4 q4] env=[(false,eval e env),(false,eval e' env),(false,eval (.Constant (.bool false) n4 q4) env)]:=by rfl)
    (hst3:starEach [e',.Constant (.bool false) n4 q4] env=[(false,eval e' env),(false,eval (.Constant (.bool false) n4 q4) env)]:=by rfl)
    (hst4:starEach [.Constant (.bool false) n4 q4] env=[(false,eval (.Constant (.bool false) n4 q4) env)]:=by rfl) :
    Ev X (k+6) env ρ (.Call (.Attribute (.Call (.Name "SequenceMatcher" p) [.Constant .none n1 q1,e,e',.Constant (.bool false) n4 q4] [] p2) "get_opcodes" apos) [] [] p3) (.list (opc as.length bs.length 0 0 (ro (mm as bs) (bH as bs)))):=fun A bad O s R r=>by
  obtain ⟨cd,hC⟩:=F.cls
  have hsl:5000≤sizeLine:=by decide
  refine MethodCall_ (wpAny_Call_Name_kw (glob_use r hsm hk ?_)) hev
  have hargs:EvL X (k+6) env ρ p2 [.Constant .none n1 q1,e,e',.Constant (.bool false) n4 q4] [.none,.list (as.map .int),.list (bs.map .int),.bool false] :=
    aC ev_none (aC he (aC he' (aC ev_bool aG hst4) (by rw [hst3,hst4])) (by rw [hst2,hst3])) (by rw [hst,hst2])
  refine callWith_K (r.wf.kin.keeps r.base) hkp (wpAny_mono (hargs A bad O s R r) (fun us s1 q=>?_) fun _ _ x=>x) (by rw [hst,hst2]) (by rw [hst2];rfl)
  obtain ⟨x1,q⟩:=q
  have r1:=r.ext x1
  refine ⟨r1.wf.kin.keeps r1.base,?_⟩
  obtain ⟨_,_,rfl,q1,q⟩:=q.inv
  obtain ⟨va,_,rfl,ra,q⟩:=q.inv
  obtain ⟨vb,_,rfl,rb,q⟩:=q.inv
  obtain ⟨_,_,rfl,q4,q⟩:=q.inv
  obtain rfl:=q.inv0
  obtain rfl:=q1.invN
  obtain rfl:=q4.invB
  have hva:va ≠ .none:=by intro h;subst h;cases ra
  have hha:handedIn va=true:=by cases ra;rfl
  have hhb:handedIn vb=true:=by cases rb;rfl
  refine make_call F hmk (k:=k+1) (A:=A) (s:=s1) (va:=va) (vb:=vb) (bs:=bs) R r1.at hva (rb.imp fun _ _ _ h=>h.elim) (by exact aQ 0xf111100f113882903e81900f rfl hzb hsl) fun x dx d js ps s2 x2 hx hdx P2=>?_
  have r2:=r1.ext x2
  obtain ⟨led,hjs⟩:=P2.junk
  have M:Mat X s2.heap x dx (upd (upd (upd (upd (upd (upd (upd (m1of m0of va) "b" vb) "matching_blocks" .none) "opcodes" .none) "fullbcount" .none) "b2j" (.ref d)) "bjunk" (.ref js)) "bpopular" (.ref ps)) va vb as bs:=by
    refine ⟨P2.inst.obj,rfl,hha,rfl,hhb,fun f hf=>?_,d,js,led,rfl,rfl,hjs,P2.chain⟩
    simp only [List.mem_cons,List.not_mem_nil,or_false] at hf
    rcases hf with rfl | rfl | rfl <;> rfl
  obtain ⟨hfc,htc,zc,Dc⟩:=F.codes
  obtain ⟨oc,hoc,hdc⟩:=Dc.obj
  refine attr_method (r2.wf.kin.keeps r2.base) P2.inst hC hfc htc (M.free _ (by decide)) ?_
  refine Calls.callWith_function (o:=oc) (fd:=fdSM 8 "get_opcodes" zc) ?_
  refine wpAny_pure (a:=(⟨[],[]⟩:Args)) ⟨⟨r2.base _ _ hoc,hdc⟩,?_⟩
  have hX:X.h₀.get? dx=none:=by
    cases e:X.h₀.get? dx with
    | none=>rfl
    | some o=>rw [r1.base _ _ e] at hdx;cases hdx
  refine wpAny_call (codeAny_mono (codes_call (k:=k) F G H (bad:=aN bad O) R r2.at hX (new_good r1 hdx) (badO_alive r2) P2.inst M rfl rfl (ra.ext x2) (rb.ext x2) (by decide) hza hzb h64) fun res s3 h3=>?_)
  obtain ⟨v,rfl,kp,rv,_⟩:=h3
  refine ⟨⟨fun b o e=>kp.keep b o (fun hb=>?_) (x2.keep _ _ (x1.keep _ _ e)),kp.gens.trans (x2.gens.trans x1.gens),kp.os.trans (x2.os.trans x1.os)⟩,rv⟩
  subst hb
  rw [x1.keep _ _ e] at hdx;cases hdx
end
section
variable {X:Cx} {k:Nat} {env:Env} {ρ:List (Str×B)} {A:Around} {E:Value→Shared→Prop} {s:Shared}
end
section
variable {X:Cx} {k:Nat} {env:Env} {ρ:List (Str×B)}
end
section
variable {X:Cx} {k:Nat} {env:Env} {ρ:List (Str×B)}
noncomputable abbrev clauseTree (elt i':Expr) (gens:List Comprehension) (sc:Scope) (p:Pos) (d:Nat) (env:Env):Value→Sem PUnit:=fun acc=>do
  let x ← eval i' env
  standAt i'.pos
  let x ← foldedSetIterable i' env x
  let it' ← holding [x] (pyIter x)
  let _ ← runOwn (.compStart (.ListComp elt gens sc p) d it' acc env) env
end
theorem hideAll_some:∀ (l:List Addr) (h:Heap) {b:Addr} {o:Obj},(hideAll h l).get? b=some o→h.get? b=some o∧b ∉ l
  | [],h,b,o,e=>⟨e,by simp⟩
  | a :: r,h,b,o,e=>by
    obtain ⟨e1,e2⟩:=hideAll_some r (h.hide a) e
    have hb:b ≠ a:=fun q=>by subst q;rw [Heap.hide_self] at e1;cases e1
    rw [Heap.hide_ne _ hb] at e1
    exact ⟨e1,fun h=>(List.mem_cons.mp h).elim hb e2⟩
theorem hideAll_not:∀ (l:List Addr) (h:Heap) {b:Addr},b ∉ l→(hideAll h l).get? b=h.get? b
  | [],h,b,_=>rfl
  | a :: r,h,b,hb=>by
    show (hideAll (h.hide a) r).get? b=_
    rw [hideAll_not r _ fun q=>hb (List.mem_cons_of_mem _ q),Heap.hide_ne _ fun q=>hb (by rw [q];exact List.mem_cons_self)]
open Classical in
theorem exists_part (h:Heap) (p:Addr→Prop):∃ h':Heap,(∀ b o,h'.get? b=some o→h.get? b=some o∧p b)∧∀ b o,p b→h.get? b=some o→h'.get? b=some o:=by
  refine ⟨hideAll h ((List.range h.objs.size).filter fun b=>decide (¬ p b)),fun b o e=>?_,fun b o hb e=>?_⟩
  · obtain ⟨e1,e2⟩:=hideAll_some _ _ e
    refine ⟨e1,?_⟩
    rw [List.mem_filter,List.mem_range] at e2
    by_cases q:p b
    · exact q
    · exact absurd ⟨Heap.lt_size e1,decide_eq_true q⟩ e2
  · rw [hideAll_not _ _ fun q=>?_];exact e
    rw [List.mem_filter] at q
    exact of_decide_eq_true q.2 hb
section
variable {X:Cx} {k:Nat} {env:Env} {ρ:List (Str×B)} {Q:Fl→List (Str×B)→Prop}
end
section
variable {X:Cx} {k:Nat} {env:Env} {ρ:List (Str×B)} {Q:Fl→List (Str×B)→Prop}
end
noncomputable def Ge3 (c r:T3):Prop:=r.2.2 < c.2.2∨(r.2.2=c.2.2∧(c.1 < r.1∨(c.1=r.1∧c.2.1≤r.2.1)))
noncomputable def Bef (c r:T3):Prop:=c.1+c.2.2≤r.1∧c.2.1+c.2.2≤r.2.1
noncomputable def Dom1 (c r:T3):Prop:=Ge3 c r∧¬ Bef c r∧¬ Bef r c
section
variable {K:Nat→Nat→Prop}
noncomputable def KRun (K:Nat→Nat→Prop) (x y n:Nat):Prop:=∀ t,t < n→K (x+t) (y+t)
structure MaxK (K:Nat→Nat→Prop) (c:T3):Prop where
  pos:0 < c.2.2
  run:KRun K c.1 c.2.1 c.2.2
  left:0 < c.1→0 < c.2.1→¬ K (c.1 - 1) (c.2.1 - 1)
  right:¬ K (c.1+c.2.2) (c.2.1+c.2.2)
noncomputable def MonoK (K:Nat→Nat→Prop):Prop:=∀ x y x' y',K x y→K x' y'→(x < x' ↔ y < y')
theorem MonoK.eq (h:MonoK K) {x y x' y':Nat} (a:K x y) (b:K x' y'):x=x' ↔ y=y':=by
  have h1:=h x y x' y' a b
  have h2:=h x' y' x y b a
  exact ⟨lq4 0xf101f11ff101f8001f101fff102322af231011a321101af rfl h1.mpr h2.mpr,lq4 0xf101f11ff101f8001f101fff102322af231011a321101af rfl h1.mp h2.mp⟩
theorem ext_up {la:Nat} (hb:∀ x y,K x y→x < la) {x y:Nat}:∀ m n,la - (x+n)≤m→0 < n→KRun K x y n→∃ n',n≤n'∧KRun K x y n'∧¬ K (x+n') (y+n')
  | m,n,hm,hn,hr=>by
    by_cases h:K (x+n) (y+n)
    · have hlt:=hb _ _ h
      cases m with
      | zero=>exact (aZ 0xf11109f0830210a1f10a21 rfl hlt hm).elim
      | succ m =>
        obtain ⟨n',h1,h2,h3⟩:=ext_up hb (x:=x) (y:=y) m (n+1) (by exact lq4 0xf11018f108f340f183a50f21a01182a1a00 rfl hm) (by exact lq1 0xf1180a081ff rfl) (fun t ht=>by
          rcases Nat.lt_or_ge t n with h' | h'
          · exact hr t h'
          · have:t=n:=by exact aQ 0xf101f11f102f010181a01f rfl ht h'
            subst this;exact h)
        exact ⟨n',by exact aQ 0xf11100f1180a0f rfl h1,h2,h3⟩
    · exact ⟨n,Nat.le_refl _,hr,h⟩
theorem ext_down:∀ (x y n:Nat),KRun K x y n→∃ d,d≤x∧d≤y∧KRun K (x - d) (y - d) (n+d)∧(0 < x - d→0 < y - d→¬ K (x - d - 1) (y - d - 1))
  | 0,y,n,hr=>⟨0,Nat.le_refl _,Nat.zero_le _,hr,fun h=>absurd h (by exact lqx [] [] 0xf1100816ff08081 rfl)⟩
  | x+1,0,n,hr=>⟨0,Nat.zero_le _,Nat.le_refl _,hr,fun _ h=>absurd h (by exact lqx [] [] 0xf1100816ff08081 rfl)⟩
  | x+1,y+1,n,hr=>by
    by_cases h:K x y
    · obtain ⟨d,h1,h2,h3,h4⟩:=ext_down x y (n+1) (fun t ht=>by
        cases t with
        | zero=>exact h
        | succ t =>
          have:=hr t (by exact aQ 0xf11101f181a180a1f rfl ht)
          rwa [show x+(t+1)=x+1+t by exact aQ 0xf1f1f1180aa181a0a2ff rfl,show y+(t+1)=y+1+t by exact aQ 0xf1f1f1180aa181a0a2ff rfl])
      refine ⟨d+1,by exact aQ 0xf11181a180a0f100f rfl h1,by exact aQ 0xf11181a180a0f100f rfl h2,?_,?_⟩
      · rw [show x+1 - (d+1)=x - d by exact aQ 0xf118f1008ff1108f10008fff181f1810ff108ff322ff100181a180a0 rfl,show y+1 - (d+1)=y - d by exact aQ 0xf118f1008ff1108f10008fff181f1810ff108ff322ff100181a180a0 rfl,show n+(d+1)=n+1+d by exact aQ 0xf1f1f1180aa181a0a2ff rfl];exact h3
      · rw [show x+1 - (d+1)=x - d by exact aQ 0xf118f1008ff1108f10008fff181f1810ff108ff322ff100181a180a0 rfl,show y+1 - (d+1)=y - d by exact aQ 0xf118f1008ff1108f10008fff181f1810ff108ff322ff100181a180a0 rfl];exact h4
    · exact ⟨0,by exact lq1 0xf1180a080ff rfl,by exact lq1 0xf1180a080ff rfl,hr,fun _ _=>h⟩
theorem ext_max {la:Nat} (hb:∀ x y,K x y→x < la) {x y n:Nat} (hn:0 < n) (hr:KRun K x y n):∃ d n',d≤x∧d≤y∧n+d≤n'∧MaxK K (x - d,y - d,n'):=by
  obtain ⟨d,h1,h2,h3,h4⟩:=ext_down x y n hr
  obtain ⟨n',h5,h6,h7⟩:=ext_up hb (x:=x - d) (y:=y - d) _ (n+d) (Nat.le_refl _) (by exact aQ 0xf1110a081f0081f rfl hn) h3
  exact ⟨d,n',h1,h2,h5,by show 0 < n';exact aZ 0xf1112081f210a00081f rfl hn h5,h6,h4,h7⟩
theorem MaxK.cmp (hm:MonoK K) {c c':T3} (h:MaxK K c) (h':MaxK K c'):c=c'∨Bef c c'∨Bef c' c:=by
  have key:∀ {c c':T3},MaxK K c→MaxK K c'→c.1≤c'.1→c=c'∨Bef c c':=by
    intro c c' h h' hle
    obtain ⟨x,y,n⟩:=c
    obtain ⟨x',y',n'⟩:=c'
    obtain ⟨p1,r1,l1,e1⟩:=h
    obtain ⟨p2,r2,l2,e2⟩:=h'
    simp only at p1 r1 l1 e1 p2 r2 l2 e2 hle
    have f2:=r2 0 p2
    simp only [Nat.add_zero] at f2
    rcases Nat.lt_or_ge x' (x+n) with hlt | hge
    · have k1:=r1 (x' - x) (by exact aZ 0xf1018f1108f031f02a110081f210 rfl p1 hlt)
      rw [show x+(x' - x)=x' by exact aQ 0xf11f110ff18f1108ff120a2f100f010 rfl hle] at k1
      have hy:=(hm.eq k1 f2).mp rfl
      rcases Nat.eq_zero_or_pos (x' - x) with h0 | h0
      · have hx:x=x':=by exact aQ 0xf80101f1001f102f0822100f011 rfl hle h0
        have hyy:y=y':=by exact lq4 0xf81001f8001f302f0842340a2f211 rfl hy h0
        clear hy
        subst hx hyy
        rcases Nat.lt_trichotomy n n' with h | h | h
        · exact absurd (r2 n h) e1
        · subst h;exact .inl rfl
        · exact absurd (r1 n' h) e2
      · have k2:=r1 (x' - x - 1) (by exact aZ 0xf10118f1000008f241f308121a01f1831100 rfl hlt h0)
        rw [show x+(x' - x - 1)=x' - 1 by exact aQ 0xf1118f10008ff11108f100008fff1008ff1881f18810ff118081f1180810fff1008ff431a2f2081f18001820100 rfl h0,show y+(x' - x - 1)=y' - 1 by exact lq4 0xf100118f1008ff1001108f10008fff800181f8001810ff18001081f180010810fff650a2f4081340a2f18301840211 rfl hy h0] at k2
        exact absurd k2 (l2 (by exact aQ 0xf10110081f2081f101 rfl h0) (by exact lq4 0xf180013081f4081340a2f211 rfl hy h0))
    · have k1:=r1 (n - 1) (by exact lq1 0xf18f1108f011f0081f1800 rfl p1)
      have:=(hm _ _ _ _ k1 f2).mp (by exact aZ 0xf1018f11108f231a1f201a00081f1800 rfl p1 hge)
      exact .inr ⟨hge,by show y+n≤y';exact aZ 0xf1101210a0f230a1f1811 rfl this⟩
  rcases Nat.le_total c.1 c'.1 with hle | hle
  · rcases key h h' hle with e | e
    · exact .inl e
    · exact .inr (.inl e)
  · rcases key h' h hle with e | e
    · exact .inl e.symm
    · exact .inr (.inr e)
noncomputable def Closed (K:Nat→Nat→Prop) (alo ahi blo bhi:Nat):Prop:=∀ c,MaxK K c→(c.1+c.2.2≤alo∧c.2.1+c.2.2≤blo)∨InW alo ahi blo bhi c.1 c.2.1 c.2.2∨(ahi≤c.1∧bhi≤c.2.1)
theorem RO.kept {m:Mt} {la lb:Nat} (hb:∀ x y,K x y→x < la) (hm:MonoK K) (hK:∀ x y,K x y→m x y=true)
    (dom:∀ x y n,0 < n→x+n≤la→y+n≤lb→Run m x y n→∃ c:T3,0 < c.2.2∧KRun K c.1 c.2.1 c.2.2∧Dom1 c (x,y,n))
    {alo ahi blo bhi:Nat} {S:List T3} (h:RO m alo ahi blo bhi S):ahi≤la→bhi≤lb→Closed K alo ahi blo bhi→∀ c,c∈S ↔ (MaxK K c∧InW alo ahi blo bhi c.1 c.2.1 c.2.2):=by
  have mrun:∀ {c:T3},MaxK K c→Run m c.1 c.2.1 c.2.2:=fun hc t ht=>hK _ _ (hc.run t ht)
  induction h with
  | none b =>
    intro h1 h2 hcl c
    constructor
    · intro h;cases h
    · rintro ⟨h,hw⟩
      have:=b.best c.1 c.2.1 c.2.2 h.pos hw (mrun h);have:=h.pos;lia
  | @some alo ahi blo bhi i j k l r b hk _ _ ih1 ih2 =>
    intro hla hlb hcl
    obtain ⟨w1,w2,w3,w4⟩:=b.win
    have hmax:MaxK K (i,j,k):=by
      obtain ⟨⟨x,y,n⟩,hn,hr,hge,hb1,hb2⟩:=dom i j k hk (by exact lq4 0xf111132a0f032a0100f rfl hla w2) (by exact lq4 0xf111132a0f032a0100f rfl hlb w4) b.run
      simp only at hn hr
      obtain ⟨d,n',d1,d2,d3,hM⟩:=ext_max hb hn hr
      unfold Ge3 at hge
      unfold Bef at hb1 hb2
      simp only at hge hb1 hb2
      rcases hcl _ hM with hc | hc | hc
      · simp only at hc;exact (lqx [_,_,_,_,_,_,_,_,_] [] 0xf1011010001f110100101f9f3417a01407a0762637a00627a0654a0320100f51715071 rfl w1 w3 d3 hc.1 hc.2 hb1).elim
      · have hbest:=b.best _ _ _ hM.pos hc (mrun hM)
        simp only at hbest
        have e1:x - d=i:=by exact lq8 0xf1080f110f1001011018f100000108f10000011fff1010f1010080f101010f100000081ff110080f11010f10000011fff4172f607045274518032703182760174271741832273218210a0f1071151 rfl d3 hbest hge
        have e2:y - d=j:=by exact lq8 0xf1000100f800000000010f1000000081ff100100010f10100f8000000010f10000011fff11100f100100010f1000001008f8000000010f10000011fff07172f17070274272741852275218076043274318052705184272210a0f131161 rfl d3 e1 hge hbest
        have e3:n'=k:=by exact lq8 0xf1001f101f1000001008f100000108f10000011fff1008f108f11ff322f607045274518032703182760174271741832273218210a0f1071151 rfl d3 hbest hge
        rw [e1,e2,e3] at hM;exact hM
      · simp only at hc;exact (lq8 0xf101001001f10100011f9f0713a0510a07627401720413a0210a0f6071651 rfl w2 w4 hc.1 hc.2 hb2).elim
    have cl1:Closed K alo i blo j:=fun c hc=>by
      rcases hcl c hc with h | ⟨h1,h2,h3,h4⟩ | h
      · exact .inl h
      · rcases hc.cmp hm hmax with e | e | e
        · subst e;exact .inr (.inr ⟨Nat.le_refl _,Nat.le_refl _⟩)
        · exact .inr (.inl ⟨h1,e.1,h3,e.2⟩)
        · exact .inr (.inr ⟨by have:=e.1;simp only at this;exact aZ 0xf11200f210a0f rfl this,by have:=e.2;simp only at this;exact aZ 0xf11200f210a0f rfl this⟩)
      · exact .inr (.inr ⟨by exact lq4 0xf111300f320210a0f rfl w2 h.1,by exact lq4 0xf111300f320210a0f rfl w4 h.2⟩)
    have cl2:Closed K (i+k) ahi (j+k) bhi:=fun c hc=>by
      rcases hcl c hc with h | ⟨h1,h2,h3,h4⟩ | h
      · exact .inl ⟨by exact lq5 0xf11141a32a0f032a0100f rfl w1 h.1,by exact lq5 0xf11141a32a0f032a0100f rfl w3 h.2⟩
      · rcases hc.cmp hm hmax with e | e | e
        · subst e;exact .inl ⟨Nat.le_refl _,Nat.le_refl _⟩
        · exact .inl ⟨by have:=e.1;simp only at this;exact lq4 0xf1132a10a0f210a0f rfl this,by have:=e.2;simp only at this;exact lq4 0xf1132a10a0f210a0f rfl this⟩
        · exact .inr (.inl ⟨e.1,h2,e.2,h4⟩)
      · exact .inr (.inr h)
    intro c
    rw [List.mem_append,List.mem_cons,ih1 (by exact lq4 0xf111120f032a0100f rfl hla w2) (by exact lq4 0xf111120f032a0100f rfl hlb w4) cl1 c,ih2 hla hlb cl2 c]
    constructor
    · rintro (⟨hc,a1,a2,a3,a4⟩ | rfl | ⟨hc,a1,a2,a3,a4⟩)
      · exact ⟨hc,by exact aQ 0xf11100f100f rfl a1,by exact lq5 0xf111243a0f043a0210a0f rfl w2 a2,by exact aQ 0xf11100f100f rfl a3,by exact lq5 0xf111243a0f043a0210a0f rfl w4 a4⟩
      · exact ⟨hmax,w1,w2,w3,w4⟩
      · exact ⟨hc,by exact lq4 0xf111300f321a0100f rfl w1 a1,by exact aZ 0xf11210a0f210a0f rfl a2,by exact lq4 0xf111300f321a0100f rfl w3 a3,by exact aZ 0xf11210a0f210a0f rfl a4⟩
    · rintro ⟨hc,a1,a2,a3,a4⟩
      rcases hc.cmp hm hmax with e | e | e
      · exact .inr (.inl e)
      · exact .inl ⟨hc,a1,e.1,a3,e.2⟩
      · exact .inr (.inr ⟨hc,e.1,a2,e.2,a4⟩)
end
theorem Good.from2 {la lb:Nat} {b:Bool} {i j:Nat} {bs:List T3} (g:Good la lb b i j bs):∀ t∈bs,j≤t.2.1:=by
  induction g with
  | nil _ _=>intro t ht;cases ht
  | cons h1 h2 h3 _ _ ih =>
    intro t ht
    rcases List.mem_cons.mp ht with rfl | ht
    · exact h2
    · have:=ih t ht;exact lq4 0xf111300f321a0100f rfl h2 this
theorem edit_of_mem {ed:List Int} {la lb:Nat} {b:Bool} {i j:Nat} {S:List T3} (g:Good la lb b i j S) (h1:∀ c∈S,∀ t,t < c.2.2→ed[c.2.1+t]?=some ((c.1+t:Nat):Int))
    (h2:∀ y v,ed[y]?=some v→j≤y→v < 0∨∃ c∈S,c.2.1≤y∧y < c.2.1+c.2.2):bA ed j S:=by
  induction g with
  | nil _ _ =>
    intro t ht hl
    obtain ⟨v,hv⟩:∃ v,ed[t]?=some v:=⟨_,List.getElem?_eq_getElem hl⟩
    rcases h2 t v hv ht with h | ⟨c,hc,_⟩
    · exact ⟨v,hv,h⟩
    · cases hc
  | @cons b i j ai bj n r h3 h4 h5 _ g ih =>
    refine ⟨fun t ht hl=>?_,fun d hd=>h1 _ List.mem_cons_self d hd,ih (fun c hc=>h1 c (List.mem_cons_of_mem _ hc)) fun y v hv hy=>?_⟩
    · have hlen:t < ed.length:=by
        have:=h1 (ai,bj,n) List.mem_cons_self 0 h5
        obtain ⟨hh,_⟩:=List.getElem?_eq_some_iff.mp this
        simp only at hh;exact aZ 0xf111201f2081a1101f rfl hl hh
      obtain ⟨v,hv⟩:∃ v,ed[t]?=some v:=⟨_,List.getElem?_eq_getElem hlen⟩
      rcases h2 t v hv ht with h | ⟨c,hc,c1,c2⟩
      · exact ⟨v,hv,h⟩
      · rcases List.mem_cons.mp hc with rfl | hc
        · simp only at c1;exact (aQ 0xf119f010101f rfl hl c1).elim
        · have:=g.from2 c hc;exact (lq4 0xf1119f231a0020101f rfl hl c1 this).elim
    · rcases h2 y v hv (by exact lq4 0xf111300f321a0100f rfl h4 hy) with h | ⟨c,hc,c1,c2⟩
      · exact .inl h
      · rcases List.mem_cons.mp hc with rfl | hc
        · simp only at c2;exact (aZ 0xf119f10a21210a0f rfl hy c2).elim
        · exact .inr ⟨c,hc,c1,c2⟩
theorem edit_main {m:Mt} {la lb:Nat} {ed:List Int} (hlen:ed.length=lb) (hb:∀ (y x:Nat),ed[y]?=some (x:Int)→x < la∧m x y=true) (hm:∀ (x y x' y':Nat),ed[y]?=some (x:Int)→ed[y']?=some (x':Int)→(x < x' ↔ y < y'))
    (dom:∀ x y n,0 < n→x+n≤la→y+n≤lb→Run m x y n→∃ c:T3,0 < c.2.2∧(∀ t,t < c.2.2→ed[c.2.1+t]?=some ((c.1+t:Nat):Int))∧Dom1 c (x,y,n)):bA ed 0 (ro m (0,la,0,lb)):=by
  have hro:=ro_spec m (Nat.zero_le la) (Nat.zero_le lb)
  have hmem:=hro.kept (K:=fun x y=>ed[y]?=some (x:Int)) (la:=la) (lb:=lb) (fun x y h=>(hb y x h).1) hm (fun x y h=>(hb y x h).2) dom (Nat.le_refl _) (Nat.le_refl _) (fun c hc=>.inr (.inl ⟨Nat.zero_le _,by
    have:=(hb _ _ (hc.run (c.2.2 - 1) (by have:=hc.pos;exact lq1 0xf18f1108f011f0081f1800 rfl this))).1
    have:=hc.pos;exact aZ 0xf1101210a0f230a1f1811 rfl (by assumption),Nat.zero_le _,by
    obtain ⟨hh,_⟩:=List.getElem?_eq_some_iff.mp (hc.run (c.2.2 - 1) (by have:=hc.pos;exact lq1 0xf18f1108f011f0081f1800 rfl this))
    have:=hc.pos;exact lq4 0xf18101132a0f042a1102f1831 rfl hlen hh⟩))
  refine edit_of_mem hro.good' (fun c hc t ht=>((hmem c).mp hc).1.run t ht) fun y v hv _=>?_
  rcases Int.lt_or_le v 0 with h | h
  · exact .inl h
  · obtain ⟨x,rfl⟩:=Int.eq_ofNat_of_zero_le h
    obtain ⟨d,n',d1,d2,d3,hM⟩:=ext_max (K:=fun x y=>ed[y]?=some (x:Int)) (la:=la) (fun x y h=>(hb y x h).1) (x:=x) (y:=y) (n:=1) (by exact lqx [] [] 0xf118081ff rfl) (fun t ht=>by
      have:t=0:=by exact lq1 0xf1f11f0802f1801f rfl ht
      subst this;simpa using hv)
    refine .inr ⟨_,(hmem _).mpr ⟨hM,Nat.zero_le _,?_,Nat.zero_le _,?_⟩,by simp only;exact aQ 0xf11020ff101 rfl,by simp only;exact aZ 0xf110113a21f1018a0f021 rfl d3⟩
    · have:=(hb _ _ (hM.run (n' - 1) (by simp only;exact aQ 0xf18f1108f121f1018a0f1810 rfl d3))).1
      simp only at this ⊢;exact lq4 0xf110001324a0f354a1f1821101 rfl this
    · obtain ⟨hh,_⟩:=List.getElem?_eq_some_iff.mp (hM.run (n' - 1) (by simp only;exact aQ 0xf18f1108f121f1018a0f1810 rfl d3))
      simp only at hh ⊢;exact lq5 0xf1810001145a0f065a1102f1841321 rfl hlen hh
section
variable {M:Mt} {la lb:Nat} {K K':Nat→Nat→Prop} {P PX PY:Nat→Nat→Nat→Prop}
end
noncomputable def Kn (nx ny:List Int) (x y:Nat):Prop:=∃ v,nx[x]?=some v∧ny[y]?=some v
noncomputable def idxs (nx ny:List Int):List Int:=ny.map fun v=>if v∈nx then ((nx.idxOf v:Nat):Int) else -1
theorem idxs_iff {nx ny:List Int} (hm:MonoK (Kn nx ny)) {x y:Nat}:(idxs nx ny)[y]?=some (x:Int) ↔ Kn nx ny x y:=by
  unfold idxs
  rw [List.getElem?_map]
  cases e:ny[y]? with
  | none =>
    constructor
    · intro h;cases h
    · rintro ⟨v,_,h⟩;rw [e] at h;cases h
  | some v =>
    simp only [Option.map_some,Option.some.injEq]
    constructor
    · intro h
      split at h
      · rename_i hv
        have h':nx.idxOf v=x:=by exact aQ 0xf11f81f102f1c0c5f rfl h
        refine ⟨v,?_,e⟩
        rw [← h',List.getElem?_eq_getElem (List.idxOf_lt_length_of_mem hv),List.getElem_idxOf]
      · exact (lq1 0xf19f0c18e5f rfl h).elim
    · rintro ⟨w,h1,h2⟩
      rw [e] at h2;cases h2
      have hv:v∈nx:=List.mem_of_getElem? h1
      rw [if_pos hv]
      have h3:Kn nx ny (nx.idxOf v) y:=⟨v,by rw [List.getElem?_eq_getElem (List.idxOf_lt_length_of_mem hv),List.getElem_idxOf],e⟩
      have h4:Kn nx ny x y:=⟨v,h1,e⟩
      have:=(hm.eq h3 h4).mpr rfl
      exact aQ 0xf11f81f1c0c5f102f rfl this
theorem mm_some {as bs:List Int} {x y:Nat}:mm as bs x y=true ↔ ∃ v,as[x]?=some v∧bs[y]?=some v:=by
  unfold mm
  cases h1:as[x]? with
  | none=>simp
  | some u =>
    cases h2:bs[y]? with
    | none=>simp
    | some w =>
      simp only [Option.some.injEq]
      constructor
      · intro h;exact ⟨u,rfl,by simpa using (of_decide_eq_true (by simpa using h):u=w).symm⟩
      · rintro ⟨v,rfl,rfl⟩;simp
theorem ask {X Y nx ny:List Int} (lx:X.length=nx.length) (ly:Y.length=ny.length) (hK:∀ x y,Kn nx ny x y→mm X Y x y=true) (hm:MonoK (Kn nx ny))
    (dom:∀ x y n,0 < n→Run (mm X Y) x y n→∃ c:T3,0 < c.2.2∧KRun (Kn nx ny) c.1 c.2.1 c.2.2∧Dom1 c (x,y,n)):bA (idxs nx ny) 0 (ro (mm X Y) (bH X Y)):=by
  unfold bH
  refine edit_main (by unfold idxs;rw [List.length_map,ly]) (fun y x h=>?_) (fun x y x' y' h h'=>hm _ _ _ _ ((idxs_iff hm).mp h) ((idxs_iff hm).mp h')) fun x y n hn hx hy hr=>?_
  · have h':=(idxs_iff hm).mp h
    refine ⟨?_,hK _ _ h'⟩
    obtain ⟨v,h1,_⟩:=h'
    obtain ⟨h2,_⟩:=List.getElem?_eq_some_iff.mp h1
    exact aZ 0xf111021f121102f rfl lx h2
  · obtain ⟨c,h1,h2,h3⟩:=dom x y n hn hr
    exact ⟨c,h1,fun t ht=>(idxs_iff hm).mpr (h2 t ht),h3⟩
section
variable {as bs:List Int} {S:List T3} {K K':Nat→Nat→Prop} {PX PY:Nat→Nat→Nat→Prop} {X Y:List Int} {x y n:Nat}
end
theorem KRun.chain {K:Nat→Nat→Prop} (st:∀ x y z,K x y→K (x+1) z→z=y+1) {x:Nat}:∀ n,(∀ t,t < n+1→∃ z,K (x+t) z)→∃ y,KRun K x y (n+1)
  | 0,h=>by
    obtain ⟨z,hz⟩:=h 0 (Nat.zero_lt_succ _)
    exact ⟨z,fun t ht=>by obtain rfl:t=0:=Nat.lt_one_iff.mp ht;exact hz⟩
  | n+1,h=>by
    obtain ⟨y,hy⟩:=KRun.chain st n fun t ht=>h t (Nat.lt_succ_of_lt ht)
    obtain ⟨z,hz⟩:=h (n+1) (Nat.lt_succ_self _)
    obtain rfl:=st _ _ _ (hy n (Nat.lt_succ_self _)) hz
    exact ⟨y,fun t ht=>(Nat.lt_succ_iff_lt_or_eq.mp ht).elim (hy t) fun e=>e ▸ hz⟩
theorem KRun.chain' {K:Nat→Nat→Prop} (st:∀ x y z,K x y→K z (y+1)→z=x+1) {y n:Nat} (h:∀ t,t < n+1→∃ z,K z (y+t)):∃ x,KRun K x y (n+1):=by
  obtain ⟨x,hx⟩:=KRun.chain (K:=fun a b=>K b a) (fun a b c h k=>st b a c h k) n h
  exact ⟨x,hx⟩
theorem ask_twins {X Y nx ny:List Int} (lx:X.length=nx.length) (ly:Y.length=ny.length) (hK:∀ x y,Kn nx ny x y→mm X Y x y=true) (hm:MonoK (Kn nx ny))
    (link:∀ x y,mm X Y x y=true→(∃ y',Kn nx ny x y')∧∃ x',Kn nx ny x' y) (st:∀ x y z,Kn nx ny x y→Kn nx ny (x+1) z→z=y+1) (st':∀ x y z,Kn nx ny x y→Kn nx ny z (y+1)→z=x+1) :
    bA (idxs nx ny) 0 (ro (mm X Y) (bH X Y)):=by
  refine ask lx ly hK hm fun x y n hn hr=>?_
  obtain ⟨m,rfl⟩:∃ m,n=m+1:=⟨n - 1,(Nat.succ_pred_eq_of_pos hn).symm⟩
  obtain ⟨y',h1⟩:=KRun.chain st m fun t ht=>(link _ _ (hr t ht)).1
  obtain ⟨x',h2⟩:=KRun.chain' st' fun t ht=>(link _ _ (hr t ht)).2
  rcases Nat.lt_or_ge y y' with h | h
  · have hx:x' < x:=(hm _ _ _ _ (h2 0 hn) (h1 0 hn)).mpr h
    exact ⟨(x',y,m+1),hn,h2,.inr ⟨rfl,.inl hx⟩,fun b=>Nat.not_succ_le_self _ (Nat.le_trans (Nat.add_le_add_left (Nat.le_add_left 1 m) y) b.2),fun b=>Nat.not_succ_le_self _ (Nat.le_trans (Nat.add_le_add_left (Nat.le_add_left 1 m) y) b.2)⟩
  · exact ⟨(x,y',m+1),hn,h1,.inr ⟨rfl,.inr ⟨rfl,h⟩⟩,fun b=>Nat.not_succ_le_self _ (Nat.le_trans (Nat.add_le_add_left (Nat.le_add_left 1 m) x) b.1),fun b=>Nat.not_succ_le_self _ (Nat.le_trans (Nat.add_le_add_left (Nat.le_add_left 1 m) x) b.1)⟩
noncomputable def tl (w:Int→Nat) (a:Nat) (X:List Int) (x:Nat):Nat:=a+((X.take x).map w).sum
theorem tl_succ {w:Int→Nat} {a:Nat} {X:List Int} {x:Nat} {v:Int} (h:X[x]?=some v):tl w a X (x+1)=tl w a X x+w v:=by
  unfold tl
  rw [List.take_succ,h,Option.toList_some,List.map_append,List.sum_append,List.map_singleton,List.sum_singleton,Nat.add_assoc]
theorem tl_lt {w:Int→Nat} {a:Nat} {X:List Int} (hw:∀ v∈X,0 < w v) {x:Nat} (hx:x < X.length):∀ d,tl w a X x < tl w a X (x+1+d)
  | 0=>by
    rw [Nat.add_zero,tl_succ (List.getElem?_eq_getElem hx)]
    exact Nat.lt_add_of_pos_right (hw _ (List.getElem_mem hx))
  | d+1=>by
    refine Nat.lt_of_lt_of_le (tl_lt hw hx d) ?_
    rw [show x+1+(d+1)=(x+1+d)+1 from rfl]
    cases h:X[x+1+d]? with
    | none=>unfold tl;rw [List.take_of_length_le (List.getElem?_eq_none_iff.mp h),List.take_of_length_le (Nat.le_succ_of_le (List.getElem?_eq_none_iff.mp h))];exact Nat.le_refl _
    | some v=>rw [tl_succ h];exact Nat.le_add_right _ _
theorem tl_iff {w:Int→Nat} {a:Nat} {X:List Int} (hw:∀ v∈X,0 < w v) {x x':Nat} (hx:x < X.length) (hx':x' < X.length):x < x' ↔ tl w a X x < tl w a X x':=by
  have up:∀ {x x'},x < X.length→x < x'→tl w a X x < tl w a X x':=fun {x x'} h k=>by
    obtain ⟨d,rfl⟩:=Nat.exists_eq_add_of_lt k
    have:=tl_lt (a:=a) hw h d
    rwa [Nat.add_right_comm] at this
  refine ⟨up hx,fun h=>?_⟩
  rcases Nat.lt_trichotomy x x' with k | rfl | k
  · exact k
  · exact absurd h (Nat.lt_irrefl _)
  · exact absurd (up hx' k) (Nat.lt_asymm h)
theorem tl_inj {w:Int→Nat} {a:Nat} {X:List Int} (hw:∀ v∈X,0 < w v) {x x':Nat} (hx:x < X.length) (hx':x'≤X.length) (h:tl w a X x=tl w a X x'):x=x':=by
  rcases Nat.lt_trichotomy x x' with k | k | k
  · obtain ⟨d,rfl⟩:=Nat.exists_eq_add_of_lt k
    have:=tl_lt (a:=a) hw hx d
    rw [Nat.add_right_comm] at this
    exact absurd h (Nat.ne_of_lt this)
  · exact k
  · exact absurd h.symm (Nat.ne_of_lt ((tl_iff hw (Nat.lt_trans k hx) hx).mp k))
structure Tiles (w:Int→Nat) (a b:Nat) (X Y:List Int):Prop where
  pos:∀ v,v∈X∨v∈Y→0 < w v
  to:∀ x v,X[x]?=some v→v∈Y→∃ y,Y[y]?=some v∧tl w b Y y=tl w a X x
  from':∀ y v,Y[y]?=some v→v∈X→∃ x,X[x]?=some v∧tl w a X x=tl w b Y y
theorem Tiles.ask {w:Int→Nat} {a b:Nat} {X Y nx ny:List Int} (T:Tiles w a b X Y) (lx:X.length=nx.length) (ly:Y.length=ny.length)
    (hn:∀ x y,Kn nx ny x y ↔ ∃ v,X[x]?=some v∧Y[y]?=some v∧tl w a X x=tl w b Y y):bA (idxs nx ny) 0 (ro (mm X Y) (bH X Y)):=by
  have wx:∀ v∈X,0 < w v:=fun v h=>T.pos v (.inl h)
  have wy:∀ v∈Y,0 < w v:=fun v h=>T.pos v (.inr h)
  have ltX:∀ {x v},X[x]?=some v→x < X.length:=fun h=>(List.getElem?_eq_some_iff.mp h).1
  have ltY:∀ {y v},Y[y]?=some v→y < Y.length:=fun h=>(List.getElem?_eq_some_iff.mp h).1
  refine ask_twins lx ly (fun x y h=>?_) (fun x y x' y' h h'=>?_) (fun x y h=>?_) (fun x y z h h'=>?_) fun x y z h h'=>?_
  · obtain ⟨v,e1,e2,_⟩:=(hn x y).mp h
    exact mm_some.mpr ⟨v,e1,e2⟩
  · obtain ⟨v,e1,e2,e⟩:=(hn x y).mp h
    obtain ⟨v',e1',e2',e'⟩:=(hn x' y').mp h'
    rw [tl_iff (a:=a) wx (ltX e1) (ltX e1'),tl_iff (a:=b) wy (ltY e2) (ltY e2'),e,e']
  · obtain ⟨v,e1,e2⟩:=mm_some.mp h
    obtain ⟨y',k1,k2⟩:=T.to x v e1 (List.mem_of_getElem? e2)
    obtain ⟨x',k3,k4⟩:=T.from' y v e2 (List.mem_of_getElem? e1)
    exact ⟨⟨y',(hn x y').mpr ⟨v,e1,k1,k2.symm⟩⟩,x',(hn x' y).mpr ⟨v,k3,e2,k4⟩⟩
  · obtain ⟨v,e1,e2,e⟩:=(hn x y).mp h
    obtain ⟨v',e1',e2',e'⟩:=(hn (x+1) z).mp h'
    rw [tl_succ e1,e,← tl_succ e2] at e'
    exact tl_inj wy (ltY e2') (ltY e2) e'.symm
  · obtain ⟨v,e1,e2,e⟩:=(hn x y).mp h
    obtain ⟨v',e1',e2',e'⟩:=(hn z (y+1)).mp h'
    rw [tl_succ e2,← e,← tl_succ e1] at e'
    exact tl_inj wx (ltX e1') (ltX e1) e'
noncomputable def At' (w:Int→Nat):Nat→List Int→Int→Nat→Prop
  | _,[],_,_=>False
  | a,x :: X,v,p=>(v=x∧p=a)∨At' w (a+w x) X v p
theorem at_iff {w:Int→Nat} {v:Int} {p:Nat}:∀ {X:List Int} {a:Nat},At' w a X v p ↔ ∃ x,X[x]?=some v∧tl w a X x=p
  | [],a=>⟨False.elim,fun ⟨x,h,_⟩=>nomatch h⟩
  | u :: X,a=>by
    have ht:∀ x,tl w a (u :: X) (x+1)=tl w (a+w u) X x:=fun x=>by unfold tl;rw [List.take_succ_cons,List.map_cons,List.sum_cons,Nat.add_assoc]
    constructor
    · rintro (⟨rfl,rfl⟩ | h)
      · exact ⟨0,rfl,rfl⟩
      · obtain ⟨x,h1,h2⟩:=at_iff.mp h
        exact ⟨x+1,h1,(ht x).trans h2⟩
    · rintro ⟨x,h1,h2⟩
      cases x with
      | zero=>cases h1;exact .inl ⟨rfl,h2.symm⟩
      | succ x=>exact .inr (at_iff.mpr ⟨x,h1,(ht x).symm.trans h2⟩)
theorem at_mem {w:Int→Nat} {v:Int} {a p:Nat} {X:List Int} (h:At' w a X v p):v∈X:=let ⟨_,h,_⟩:=at_iff.mp h;List.mem_of_getElem? h
theorem at_append {w:Int→Nat} {v:Int} {p:Nat} {Y:List Int}:∀ {X:List Int} {a:Nat},At' w a (X++Y) v p ↔ At' w a X v p∨At' w (a+(X.map w).sum) Y v p
  | [],a=>⟨.inr,fun h=>h.elim False.elim id⟩
  | u :: X,a=>by
    rw [List.cons_append,At',At',at_append,List.map_cons,List.sum_cons,Nat.add_assoc,or_assoc]
noncomputable def aY (r:Int) (wd X:List Int):List Int:=X.flatMap fun x=>if x=r then wd else [x]
theorem mem_sub1 {r v:Int} {wd X:List Int}:v∈aY r wd X ↔ (v∈X∧v ≠ r)∨(r∈X∧v∈wd):=by
  unfold aY
  rw [List.mem_flatMap]
  constructor
  · rintro ⟨x,hx,h⟩
    by_cases e:x=r
    · rw [if_pos e] at h;exact .inr ⟨e ▸ hx,h⟩
    · rw [if_neg e] at h;obtain rfl:=List.mem_singleton.mp h;exact .inl ⟨hx,e⟩
  · rintro (⟨h,e⟩ | ⟨h,k⟩)
    · exact ⟨v,h,by rw [if_neg e];exact .head _⟩
    · exact ⟨r,h,by rw [if_pos rfl];exact k⟩
theorem at_sub1 {w:Int→Nat} {r v:Int} {wd:List Int} (hw:(wd.map w).sum=w r) {p:Nat}:∀ {X:List Int} {a:Nat},At' w a (aY r wd X) v p ↔ (v ≠ r∧At' w a X v p)∨∃ q,At' w a X r q∧At' w q wd v p
  | [],a=>⟨False.elim,fun h=>h.elim (fun h=>h.2) fun ⟨_,h,_⟩=>h⟩
  | u :: X,a=>by
    have hc:aY r wd (u :: X)=(if u=r then wd else [u])++aY r wd X:=rfl
    have ih:=fun a=>at_sub1 (v:=v) hw (p:=p) (X:=X) (a:=a)
    rw [hc,at_append]
    by_cases e:u=r
    · subst e
      rw [if_pos rfl,hw,ih]
      constructor
      · rintro (h | ⟨h,k⟩ | ⟨q,h,k⟩)
        · exact .inr ⟨a,.inl ⟨rfl,rfl⟩,h⟩
        · exact .inl ⟨h,.inr k⟩
        · exact .inr ⟨q,.inr h,k⟩
      · rintro (⟨h,⟨e,_⟩ | k⟩ | ⟨q,⟨_,rfl⟩ | h,k⟩)
        · exact absurd e h
        · exact .inr (.inl ⟨h,k⟩)
        · exact .inl k
        · exact .inr (.inr ⟨q,h,k⟩)
    · rw [if_neg e,ih,List.map_singleton,List.sum_singleton]
      constructor
      · rintro ((⟨rfl,rfl⟩ | h) | ⟨h,k⟩ | ⟨q,h,k⟩)
        · exact .inl ⟨e,.inl ⟨rfl,rfl⟩⟩
        · exact h.elim
        · exact .inl ⟨h,.inr k⟩
        · exact .inr ⟨q,.inr h,k⟩
      · rintro (⟨h,⟨e',k⟩ | k⟩ | ⟨q,⟨e',_⟩ | h,k⟩)
        · exact .inl (.inl ⟨e',k⟩)
        · exact .inr (.inl ⟨h,k⟩)
        · exact absurd e'.symm e
        · exact .inr (.inr ⟨q,h,k⟩)
noncomputable def Tw (w:Int→Nat) (a b:Nat) (X Y:List Int):Prop:=∀ v p,(At' w a X v p→v∈Y→At' w b Y v p)∧(At' w b Y v p→v∈X→At' w a X v p)
theorem Tw.swap {w:Int→Nat} {a b:Nat} {X Y:List Int} (h:Tw w a b X Y):Tw w b a Y X:=fun v p=>(h v p).symm
theorem Tw.left {w:Int→Nat} {a b:Nat} {X Y:List Int} (h:Tw w a b X Y) {r:Int} {wd:List Int} (hw:(wd.map w).sum=w r) (fr:∀ c∈wd,c ∉ Y):Tw w a b (aY r wd X) Y:=fun v p=>by
  constructor
  · intro k m
    rcases (at_sub1 hw).mp k with ⟨_,k⟩ | ⟨q,_,k⟩
    · exact (h v p).1 k m
    · exact absurd m (fr v (at_mem k))
  · intro k m
    rcases mem_sub1.mp m with ⟨m,e⟩ | ⟨_,m⟩
    · exact (at_sub1 hw).mpr (.inl ⟨e,(h v p).2 k m⟩)
    · exact absurd (at_mem k) (fr v m)
theorem Tw.both1 {w:Int→Nat} {a b:Nat} {X Y:List Int} (h:Tw w a b X Y) {r:Int} {wd:List Int} (hw:(wd.map w).sum=w r) (fx:∀ c∈wd,c ∉ X) (fy:∀ c∈wd,c ∉ Y) {v:Int} {p:Nat} (k:At' w a (aY r wd X) v p) (m:v∈aY r wd Y):At' w b (aY r wd Y) v p:=by
  rcases (at_sub1 hw).mp k with ⟨e,k⟩ | ⟨q,k,k'⟩
  · rcases mem_sub1.mp m with ⟨m,_⟩ | ⟨_,m⟩
    · exact (at_sub1 hw).mpr (.inl ⟨e,(h v p).1 k m⟩)
    · exact absurd (at_mem k) (fx v m)
  · rcases mem_sub1.mp m with ⟨m,_⟩ | ⟨m,_⟩
    · exact absurd m (fy v (at_mem k'))
    · exact (at_sub1 hw).mpr (.inr ⟨q,(h r q).1 k m,k'⟩)
theorem Tw.both {w:Int→Nat} {a b:Nat} {X Y:List Int} (h:Tw w a b X Y) {r:Int} {wd:List Int} (hw:(wd.map w).sum=w r) (fx:∀ c∈wd,c ∉ X) (fy:∀ c∈wd,c ∉ Y):Tw w a b (aY r wd X) (aY r wd Y):=fun v p =>
  ⟨fun k m=>h.both1 hw fx fy k m,fun k m=>h.swap.both1 hw fy fx k m⟩
theorem Tw.self {w:Int→Nat} {a:Nat} {X:List Int}:Tw w a a X X:=fun _ _=>⟨fun h _=>h,fun h _=>h⟩
theorem Tw.tiles {w:Int→Nat} {a b:Nat} {X Y:List Int} (h:Tw w a b X Y) (hw:∀ v,v∈X∨v∈Y→0 < w v):Tiles w a b X Y where
  pos:=hw
  to x v e m:=at_iff.mp ((h v _).1 (at_iff.mpr ⟨x,e,rfl⟩) m)
  from' y v e m:=at_iff.mp ((h v _).2 (at_iff.mpr ⟨y,e,rfl⟩) m)
noncomputable abbrev Rl:=Int×List Int×Int
noncomputable def unf (parts:List Int) (rs:List Rl) (X:List Int):List Int:=rs.foldl (fun t r=>if r.2.2∈parts then aY r.1 r.2.1 t else t) X
noncomputable def ROk:Nat→List Rl→Prop
  | _,[]=>True
  | k,r :: rs=>(0≤r.1∧r.1 < 2 * (k:Int)+2∧r.2.1 ≠ []∧∀ c∈r.2.1,c=2 * (k:Int)+2∨c=2 * (k:Int)+3)∧ROk (k+1) rs
noncomputable def Bnd (k:Nat) (X:List Int):Prop:=∀ v∈X,0≤v∧v < 2 * (k:Int)+2
theorem Bnd.succ {k:Nat} {X:List Int} (h:Bnd k X):Bnd (k+1) X:=fun v hv=>⟨(h v hv).1,by have:=(h v hv).2;lia⟩
theorem Bnd.sub {k:Nat} {X wd:List Int} {r:Int} (h:Bnd k X) (hw:∀ c∈wd,c=2 * (k:Int)+2∨c=2 * (k:Int)+3):Bnd (k+1) (aY r wd X):=fun v hv=>by
  rcases mem_sub1.mp hv with ⟨hv,_⟩ | ⟨_,hv⟩
  · exact h.succ v hv
  · rcases hw v hv with e | e <;> exact ⟨by lia,by lia⟩
theorem Bnd.unf {parts:List Int}:∀ {rs:List Rl} {k:Nat} {X:List Int},ROk k rs→Bnd k X→Bnd (k+rs.length) (unf parts rs X)
  | [],k,X,_,h=>h
  | r :: rs,k,X,⟨hr,ok⟩,h=>by
    have e:k+(r :: rs).length=(k+1)+rs.length:=by rw [List.length_cons];lia
    rw [e]
    show Bnd _ (Mine.unf parts rs (if r.2.2∈parts then aY r.1 r.2.1 X else X))
    refine Bnd.unf ok ?_
    split
    · exact h.sub hr.2.2.2
    · exact h.succ
theorem sum_sub1 {w:Int→Nat} {r:Int} {wd:List Int} (hw:(wd.map w).sum=w r):∀ X:List Int,((aY r wd X).map w).sum=(X.map w).sum
  | []=>rfl
  | u :: X=>by
    have hc:aY r wd (u :: X)=(if u=r then wd else [u])++aY r wd X:=rfl
    rw [hc,List.map_append,List.sum_append,sum_sub1 hw X,List.map_cons,List.sum_cons]
    congr 1
    split
    · rename_i e;rw [hw,e]
    · exact Nat.add_zero _
theorem sum_unf {w:Int→Nat} {parts:List Int}:∀ {rs:List Rl} {X:List Int},(∀ r∈rs,(r.2.1.map w).sum=w r.1)→((unf parts rs X).map w).sum=(X.map w).sum
  | [],X,_=>rfl
  | r :: rs,X,hw=>by
    have hw:=List.forall_mem_cons.mp hw
    show ((unf parts rs (if r.2.2∈parts then aY r.1 r.2.1 X else X)).map w).sum=_
    rw [sum_unf hw.2]
    split
    · exact sum_sub1 hw.1 X
    · rfl
theorem Tw.unf {w:Int→Nat} {a b:Nat} {P Q:List Int}:∀ {rs:List Rl} {k:Nat} {X Y:List Int},ROk k rs→(∀ r∈rs,(r.2.1.map w).sum=w r.1)→Bnd k X→Bnd k Y→Tw w a b X Y→Tw w a b (Mine.unf P rs X) (Mine.unf Q rs Y)
  | [],k,X,Y,_,_,_,_,h=>h
  | r :: rs,k,X,Y,⟨hr,ok⟩,hw,hx,hy,h=>by
    have hw:=List.forall_mem_cons.mp hw
    have fr:∀ {Z:List Int},Bnd k Z→∀ c∈r.2.1,c ∉ Z:=fun hz c hc m=>by
      have:=(hz c m).2
      rcases hr.2.2.2 c hc with e | e <;> lia
    show Tw w a b (Mine.unf P rs (if r.2.2∈P then aY r.1 r.2.1 X else X)) (Mine.unf Q rs (if r.2.2∈Q then aY r.1 r.2.1 Y else Y))
    refine Tw.unf ok hw.2 ?_ ?_ ?_
    · split
      · exact hx.sub hr.2.2.2
      · exact hx.succ
    · split
      · exact hy.sub hr.2.2.2
      · exact hy.succ
    · split <;> split
      · exact h.both hw.1 (fr hx) (fr hy)
      · exact h.left hw.1 (fr hy)
      · exact (h.swap.left hw.1 (fr hx)).swap
      · exact h
noncomputable def vers (hd lst:Bool) (T:List Int):List Int:=(if hd then [-1] else [])++(T++if lst then [-2] else [])
noncomputable def off (hd:Bool):Nat:=if hd then 0 else 1
theorem at_vers {w:Int→Nat} (w1:w (-1)=1) {hd lst:Bool} {T:List Int} {v:Int} {p:Nat}:At' w (off hd) (vers hd lst T) v p ↔ (hd=true∧v=-1∧p=0)∨At' w 1 T v p∨(lst=true∧v=-2∧p=1+(T.map w).sum):=by
  unfold vers
  rw [at_append,at_append]
  cases hd <;> cases lst <;> simp [off,At',w1]
theorem mem_vers {hd lst:Bool} {T:List Int} {v:Int}:v∈vers hd lst T ↔ (hd=true∧v=-1)∨v∈T∨(lst=true∧v=-2):=by
  unfold vers
  cases hd <;> cases lst <;> simp
theorem Tw.vers {w:Int→Nat} (w1:w (-1)=1) {hd lst hd' lst':Bool} {T T':List Int} (h:Tw w 1 1 T T') (hs:(T.map w).sum=(T'.map w).sum) (hT:∀ v∈T,0≤v) (hT':∀ v∈T',0≤v):Tw w (off hd) (off hd') (vers hd lst T) (vers hd' lst' T'):=by
  have one:∀ {hd lst hd' lst':Bool} {T T':List Int},Tw w 1 1 T T'→(T.map w).sum=(T'.map w).sum→(∀ v∈T,0≤v)→(∀ v∈T',0≤v)→∀ v p,At' w (off hd) (Mine.vers hd lst T) v p→v∈Mine.vers hd' lst' T'→At' w (off hd') (Mine.vers hd' lst' T') v p:=by
    intro hd lst hd' lst' T T' h hs hT hT' v p k m
    rw [at_vers w1] at k ⊢
    rw [mem_vers] at m
    rcases k with ⟨_,e,ep⟩ | k | ⟨_,e,ep⟩
    · rcases m with ⟨m,_⟩ | m | ⟨_,m⟩
      · exact .inl ⟨m,e,ep⟩
      · have:=hT' v m;lia
      · lia
    · rcases m with ⟨_,m⟩ | m | ⟨_,m⟩
      · have:=hT v (at_mem k);lia
      · exact .inr (.inl ((h v p).1 k m))
      · have:=hT v (at_mem k);lia
    · rcases m with ⟨_,m⟩ | m | ⟨m,_⟩
      · lia
      · have:=hT' v m;lia
      · exact .inr (.inr ⟨m,e,hs ▸ ep⟩)
  exact fun v p=>⟨one h hs hT hT' v p,one h.swap hs.symm hT' hT v p⟩
noncomputable def ndF (w:Int→Nat):Nat→List Int→List Int
  | _,[]=>[]
  | p,x :: r=>if x < 0 then x :: ndF w p r else (64 * x+(p:Int)) :: ndF w (p+w x) r
noncomputable def nd (v:Int) (q:Nat):Int:=if v < 0 then v else 64 * v+((q - 1:Nat):Int)
theorem ndF_length {w:Int→Nat}:∀ {X:List Int} {p:Nat},(ndF w p X).length=X.length
  | [],_=>rfl
  | x :: X,p=>by
    unfold ndF
    split <;> rw [List.length_cons,List.length_cons,ndF_length]
theorem tl_cons {w:Int→Nat} {a:Nat} {u:Int} {X:List Int} (x:Nat):tl w a (u :: X) (x+1)=tl w (a+w u) X x:=by unfold tl;rw [List.take_succ_cons,List.map_cons,List.sum_cons,Nat.add_assoc]
theorem ndF_get {w:Int→Nat} {lst:Bool}:∀ {T:List Int} {p x:Nat} {v:Int},(∀ v∈T,0≤v)→(T++if lst then [-2] else [])[x]?=some v→(ndF w p (T++if lst then [-2] else []))[x]?=some (nd v (tl w (p+1) (T++if lst then [-2] else []) x))
  | [],p,x,v,_,h=>by
    cases lst with
    | false=>cases h
    | true =>
      cases x with
      | zero=>cases h;rfl
      | succ x=>cases h
  | u :: T,p,x,v,hT,h=>by
    have hu:¬ u < 0:=Int.not_lt.mpr (hT u (.head _))
    rw [List.cons_append] at h ⊢
    unfold ndF
    rw [if_neg hu]
    cases x with
    | zero=>cases h;simp [nd,hu,tl]
    | succ x =>
      rw [tl_cons,Nat.add_right_comm]
      exact ndF_get (fun v hv=>hT v (.tail _ hv)) h
theorem nodes_get {w:Int→Nat} (w1:w (-1)=1) {hd lst:Bool} {T:List Int} (hT:∀ v∈T,0≤v) {x:Nat} {v:Int} (h:(vers hd lst T)[x]?=some v):(ndF w 0 (vers hd lst T))[x]?=some (nd v (tl w (off hd) (vers hd lst T) x)):=by
  cases hd with
  | false=>exact ndF_get hT h
  | true =>
    cases x with
    | zero=>cases h;rfl
    | succ x =>
      show (ndF w 0 (T++if lst then [-2] else []))[x]?=some (nd v (tl w 0 (-1 :: (T++if lst then [-2] else [])) (x+1)))
      rw [tl_cons,w1]
      exact ndF_get hT h
theorem at_le {w:Int→Nat} {v:Int} {p:Nat}:∀ {X:List Int} {a:Nat},At' w a X v p→a≤p∧p≤a+(X.map w).sum
  | [],_,h=>h.elim
  | x :: X,a,h=>by
    rw [List.map_cons,List.sum_cons]
    rcases h with ⟨_,rfl⟩ | h
    · exact ⟨Nat.le_refl _,Nat.le_add_right _ _⟩
    · have:=at_le h;lia
theorem kn_vers {w:Int→Nat} (w1:w (-1)=1) {hd lst hd' lst':Bool} {T T':List Int} (hT:∀ v∈T,0≤v) (hT':∀ v∈T',0≤v) (hs:(T.map w).sum=(T'.map w).sum) (hb:(T.map w).sum < 63) (x y:Nat) :
    Kn (ndF w 0 (vers hd lst T)) (ndF w 0 (vers hd' lst' T')) x y ↔ ∃ v,(vers hd lst T)[x]?=some v∧(vers hd' lst' T')[y]?=some v∧tl w (off hd) (vers hd lst T) x=tl w (off hd') (vers hd' lst' T') y:=by
  constructor
  · rintro ⟨n,h1,h2⟩
    obtain ⟨hx,_⟩:=List.getElem?_eq_some_iff.mp h1
    obtain ⟨hy,_⟩:=List.getElem?_eq_some_iff.mp h2
    rw [ndF_length] at hx hy
    obtain ⟨v,e1⟩:∃ v,(vers hd lst T)[x]?=some v:=⟨_,List.getElem?_eq_getElem hx⟩
    obtain ⟨u,e2⟩:∃ u,(vers hd' lst' T')[y]?=some u:=⟨_,List.getElem?_eq_getElem hy⟩
    rw [nodes_get w1 hT e1] at h1
    rw [nodes_get w1 hT' e2] at h2
    have e:nd v (tl w (off hd) (vers hd lst T) x)=nd u (tl w (off hd') (vers hd' lst' T') y):=Option.some.inj (h1.trans h2.symm)
    have a1:=(at_vers w1).mp (at_iff.mpr ⟨x,e1,rfl⟩)
    have a2:=(at_vers w1).mp (at_iff.mpr ⟨y,e2,rfl⟩)
    generalize tl w (off hd) (vers hd lst T) x=p at a1 e
    generalize tl w (off hd') (vers hd' lst' T') y=q at a2 e
    have key:v=u∧p=q:=by
      unfold nd at e
      rcases a1 with ⟨_,rfl,rfl⟩ | a1 | ⟨_,rfl,rfl⟩ <;> rcases a2 with ⟨_,rfl,rfl⟩ | a2 | ⟨_,rfl,rfl⟩
      · exact ⟨rfl,rfl⟩
      · have:=hT' u (at_mem a2);rw [if_pos (by decide),if_neg (by lia)] at e;lia
      · exact absurd (show (-1:Int)=-2 from e) (by decide)
      · have:=hT v (at_mem a1);rw [if_neg (by lia),if_pos (by decide)] at e;lia
      · have b1:=at_le a1;have b2:=at_le a2
        have:=hT v (at_mem a1);have:=hT' u (at_mem a2)
        rw [if_neg (by lia),if_neg (by lia)] at e
        lia
      · have:=hT v (at_mem a1);rw [if_neg (by lia),if_pos (by decide)] at e;lia
      · exact absurd (show (-2:Int)=-1 from e) (by decide)
      · have:=hT' u (at_mem a2);rw [if_pos (by decide),if_neg (by lia)] at e;lia
      · exact ⟨rfl,by rw [hs]⟩
    exact ⟨v,e1,key.1 ▸ e2,key.2⟩
  · rintro ⟨v,e1,e2,e⟩
    exact ⟨_,nodes_get w1 hT e1,by rw [nodes_get w1 hT' e2,e]⟩
theorem vers_edit {w:Int→Nat} (w1:w (-1)=1) (w2:w (-2)=1) {k:Nat} {rs:List Rl} {X:List Int} (ok:ROk k rs) (hw:∀ r∈rs,(r.2.1.map w).sum=w r.1) (hx:Bnd k X) (P Q:List Int) (hd lst hd' lst':Bool)
    (pos:∀ v:Int,0≤v→v < 2 * ((k+rs.length:Nat):Int)+2→0 < w v) (hb:(X.map w).sum < 63) :
    bA (idxs (ndF w 0 (vers hd lst (unf P rs X))) (ndF w 0 (vers hd' lst' (unf Q rs X)))) 0 (ro (mm (vers hd lst (unf P rs X)) (vers hd' lst' (unf Q rs X))) (bH (vers hd lst (unf P rs X)) (vers hd' lst' (unf Q rs X)))):=by
  have bP:Bnd (k+rs.length) (unf P rs X):=Bnd.unf ok hx
  have bQ:Bnd (k+rs.length) (unf Q rs X):=Bnd.unf ok hx
  have sP:((unf P rs X).map w).sum=(X.map w).sum:=sum_unf hw
  have sQ:((unf Q rs X).map w).sum=(X.map w).sum:=sum_unf hw
  have tw:Tw w (off hd) (off hd') (vers hd lst (unf P rs X)) (vers hd' lst' (unf Q rs X)):=Tw.vers w1 (Tw.unf ok hw hx hx .self) (sP.trans sQ.symm) (fun v h=>(bP v h).1) fun v h=>(bQ v h).1
  have pv:∀ {hd lst:Bool} {R:List Int},Bnd (k+rs.length) R→∀ v∈vers hd lst R,0 < w v:=fun b v hv=>by
    rcases mem_vers.mp hv with ⟨_,rfl⟩ | hv | ⟨_,rfl⟩
    · rw [w1];exact Nat.one_pos
    · exact pos v (b v hv).1 (b v hv).2
    · rw [w2];exact Nat.one_pos
  exact (tw.tiles fun v h=>h.elim (pv bP v) (pv bQ v)).ask ndF_length.symm ndF_length.symm (kn_vers w1 (fun v h=>(bP v h).1) (fun v h=>(bQ v h).1) (sP.trans sQ.symm) (by rw [sP];exact hb))
noncomputable def unfA (rs:List Rl) (X:List Int):List Int:=rs.foldl (fun t r=>aY r.1 r.2.1 t) X
noncomputable def szF (rs:List Rl) (v:Int):Nat:=(unfA rs [v]).length
theorem unf_all {parts:List Int}:∀ {rs:List Rl} {X:List Int},(∀ r∈rs,r.2.2∈parts)→unf parts rs X=unfA rs X
  | [],_,_=>rfl
  | r :: rs,X,h=>by
    have h:=List.forall_mem_cons.mp h
    show unf parts rs (if r.2.2∈parts then aY r.1 r.2.1 X else X)=unfA rs (aY r.1 r.2.1 X)
    rw [if_pos h.1];exact unf_all h.2
theorem sub1_append (r:Int) (wd X Y:List Int):aY r wd (X++Y)=aY r wd X++aY r wd Y:=List.flatMap_append
theorem unfA_append:∀ (rs:List Rl) (X Y:List Int),unfA rs (X++Y)=unfA rs X++unfA rs Y
  | [],_,_=>rfl
  | r :: rs,X,Y=>by
    show unfA rs (aY r.1 r.2.1 (X++Y))=unfA rs (aY r.1 r.2.1 X)++unfA rs (aY r.1 r.2.1 Y)
    rw [sub1_append,unfA_append]
theorem unfA_nil:∀ rs:List Rl,unfA rs []=[]
  | []=>rfl
  | r :: rs=>unfA_nil rs
theorem sum_szF (rs:List Rl):∀ X:List Int,(X.map (szF rs)).sum=(unfA rs X).length
  | []=>by rw [unfA_nil];rfl
  | x :: X=>by
    rw [List.map_cons,List.sum_cons,sum_szF rs X,show unfA rs (x :: X)=unfA rs [x]++unfA rs X from unfA_append rs [x] X,List.length_append];rfl
theorem sub1_ne {r x:Int} (wd:List Int) (h:x ≠ r):aY r wd [x]=[x]:=by
  show (if x=r then wd else [x])++[]=[x]
  rw [if_neg h];rfl
theorem sub1_eq (r:Int) (wd:List Int):aY r wd [r]=wd:=by
  show (if r=r then wd else [r])++[]=wd
  rw [if_pos rfl,List.append_nil]
noncomputable def RDst (rs:List Rl):Prop:=rs.Pairwise fun r r'=>r.1 ≠ r'.1
theorem ROk.low {rs:List Rl}:∀ {k:Nat},ROk k rs→∀ r∈rs,∀ c∈r.2.1,2 * (k:Int)+2≤c:=by
  induction rs with
  | nil=>intro k _ r h;cases h
  | cons r rs ih =>
    intro k ok
    refine List.forall_mem_cons.mpr ⟨fun c hc=>?_,fun r' h' c hc=>?_⟩
    · rcases ok.1.2.2.2 c hc with e | e <;> lia
    · have:=ih ok.2 r' h' c hc;lia
theorem szF_word:∀ {k:Nat} {rs:List Rl},ROk k rs→RDst rs→∀ r∈rs,(r.2.1.map (szF rs)).sum=szF rs r.1
  | k,r :: rs,ok,hd,r',h'=>by
    have hd:=List.pairwise_cons.mp hd
    have hs:∀ c:Int,c ≠ r.1→szF (r :: rs) c=szF rs c:=fun c h=>by
      unfold szF
      show (unfA rs (aY r.1 r.2.1 [c])).length=_
      rw [sub1_ne _ h]
    have hm:∀ wd:List Int,(∀ c∈wd,c ≠ r.1)→wd.map (szF (r :: rs))=wd.map (szF rs):=fun wd h=>List.map_congr_left fun c hc=>hs c (h c hc)
    rcases List.mem_cons.mp h' with rfl | h'
    · rw [hm _ fun c hc=>by rcases ok.1.2.2.2 c hc with e | e <;> have:=ok.1.2.1 <;> lia]
      rw [sum_szF]
      unfold szF
      show _=(unfA rs (aY r'.1 r'.2.1 [r'.1])).length
      rw [sub1_eq]
    · rw [hm _ fun c hc=>by have:=ok.2.low r' h' c hc;have:=ok.1.2.1;lia,hs _ (hd.1 r' h').symm]
      exact szF_word ok.2 hd.2 r' h'
theorem szF_pos:∀ {rs:List Rl} {k:Nat} {X:List Int},ROk k rs→X ≠ []→0 < (unfA rs X).length
  | [],_,X,_,h=>List.length_pos_iff.mpr h
  | r :: rs,k,X,ok,h=>by
    show 0 < (unfA rs (aY r.1 r.2.1 X)).length
    refine szF_pos ok.2 ?_
    cases X with
    | nil=>exact absurd rfl h
    | cons x X =>
      show (if x=r.1 then r.2.1 else [x])++_ ≠ []
      intro e
      have e:=(List.append_eq_nil_iff.mp e).1
      by_cases hx:x=r.1
      · rw [if_pos hx] at e;exact ok.1.2.2.1 e
      · rw [if_neg hx] at e;cases e
theorem szF_neg {v:Int} (hv:v < 0):∀ {rs:List Rl} {k:Nat},ROk k rs→szF rs v=1
  | [],_,_=>rfl
  | r :: rs,k,ok=>by
    unfold szF
    show (unfA rs (aY r.1 r.2.1 [v])).length=1
    rw [sub1_ne _ (by have:=ok.1.1;lia)]
    exact szF_neg hv ok.2
structure RI (X0:List Int) (rs:List Rl) (text:List Int):Prop where
  ok:ROk 0 rs
  dst:RDst rs
  txt:text=unfA rs X0
  gone:∀ r∈rs,r.1 ∉ text
  bnd:Bnd rs.length text
  pos:text ≠ []
  len:text.length≤40
theorem ROk.snoc {r:Rl}:∀ {rs:List Rl} {k:Nat},ROk k rs→(0≤r.1∧r.1 < 2 * ((k+rs.length:Nat):Int)+2∧r.2.1 ≠ []∧∀ c∈r.2.1,c=2 * ((k+rs.length:Nat):Int)+2∨c=2 * ((k+rs.length:Nat):Int)+3)→ROk k (rs++[r])
  | [],k,_,h=>⟨h,trivial⟩
  | q :: rs,k,ok,h=>⟨ok.1,ROk.snoc ok.2 (by rw [List.length_cons,← Nat.add_assoc,Nat.add_right_comm] at h;exact h)⟩
theorem RI.snoc {X0:List Int} {rs:List Rl} {text:List Int} (I:RI X0 rs text) {r:Rl} (hr:r.1∈text) (hn:r.2.1 ≠ []) (hc:∀ c∈r.2.1,c=2 * (rs.length:Int)+2∨c=2 * (rs.length:Int)+3) (hl:(aY r.1 r.2.1 text).length≤40):RI X0 (rs++[r]) (aY r.1 r.2.1 text) where
  ok:=I.ok.snoc ⟨(I.bnd _ hr).1,by rw [Nat.zero_add];exact (I.bnd _ hr).2,hn,by rw [Nat.zero_add];exact hc⟩
  dst:=List.pairwise_append.mpr ⟨I.dst,List.pairwise_singleton _ _,fun q hq q' hq' e=>by rw [List.mem_singleton.mp hq'] at e;exact I.gone q hq (e ▸ hr)⟩
  txt:=by unfold unfA;rw [List.foldl_append];show _=aY r.1 r.2.1 (unfA rs X0);rw [← I.txt]
  gone q hq m:=by
    rcases mem_sub1.mp m with ⟨m,e⟩ | ⟨_,m⟩
    · rcases List.mem_append.mp hq with hq | hq
      · exact I.gone q hq m
      · rw [List.mem_singleton.mp hq] at e;exact e rfl
    · rcases List.mem_append.mp hq with hq | hq
      · obtain ⟨j,hj,rfl⟩:=List.getElem_of_mem hq
        have hlow:∀ {rs:List Rl} {k:Nat},ROk k rs→∀ q∈rs,q.1 < 2 * ((k+rs.length:Nat):Int)+2:=by
          intro rs
          induction rs with
          | nil=>intro k _ q h;cases h
          | cons q rs ih =>
            intro k ok
            refine List.forall_mem_cons.mpr ⟨by have:=ok.1.2.1;rw [List.length_cons];lia,fun q' h'=>?_⟩
            have:=ih ok.2 q' h';rw [List.length_cons];lia
        have h1:=hlow I.ok _ hq
        rcases hc _ m with e | e <;> lia
      · rw [List.mem_singleton.mp hq] at m
        have h1:=(I.bnd _ hr).2
        rcases hc _ m with e | e <;> lia
  bnd:=by rw [List.length_append];exact I.bnd.sub hc
  pos:=by
    cases h:text with
    | nil=>exact absurd h I.pos
    | cons x X =>
      show (if x=r.1 then r.2.1 else [x])++_ ≠ []
      intro e
      have e:=(List.append_eq_nil_iff.mp e).1
      by_cases hx:x=r.1
      · rw [if_pos hx] at e;exact hn e
      · rw [if_neg hx] at e;cases e
  len:=hl
theorem RI.edit {X0 text:List Int} {rs:List Rl} (I:RI X0 rs text) (h0:Bnd 0 X0) (P Q:List Int) (hd lst hd' lst':Bool) :
    bA (idxs (ndF (szF rs) 0 (vers hd lst (unf P rs X0))) (ndF (szF rs) 0 (vers hd' lst' (unf Q rs X0)))) 0 (ro (mm (vers hd lst (unf P rs X0)) (vers hd' lst' (unf Q rs X0))) (bH (vers hd lst (unf P rs X0)) (vers hd' lst' (unf Q rs X0)))) :=
  vers_edit (szF_neg (by decide) I.ok) (szF_neg (by decide) I.ok) I.ok (szF_word I.ok I.dst) h0 P Q hd lst hd' lst' (fun v _ _=>szF_pos I.ok (List.cons_ne_nil _ _)) (by rw [sum_szF,← I.txt];have:=I.len;lia)
theorem le_sum {w:Int→Nat}:∀ {X:List Int},(∀ v∈X,0 < w v)→X.length≤(X.map w).sum
  | [],_=>Nat.le_refl _
  | x :: X,h=>by
    have h:=List.forall_mem_cons.mp h
    have:=le_sum h.2
    rw [List.length_cons,List.map_cons,List.sum_cons];have:=h.1;lia
theorem RI.short {X0 text:List Int} {rs:List Rl} (I:RI X0 rs text) (P:List Int):(unf P rs X0).length≤text.length:=by
  have h:=le_sum (w:=szF rs) (X:=unf P rs X0) fun v _=>szF_pos I.ok (List.cons_ne_nil _ _)
  rw [sum_unf (szF_word I.ok I.dst),sum_szF,← I.txt] at h
  exact h
theorem Run.cut {X Y:List Int} {x y n i:Nat} (hr:Run (mm X Y) x y n) {v:Int} (hi:X[i]?=some v) (hv:v ∉ Y):x+n≤i∨i < x:=by
  rcases Nat.lt_or_ge i x with h | h
  · exact .inr h
  · rcases Nat.lt_or_ge i (x+n) with k | k
    · obtain ⟨t,rfl⟩:=Nat.exists_eq_add_of_le h
      obtain ⟨u,e1,e2⟩:=mm_some.mp (hr t (by lia))
      rw [e1] at hi;cases hi
      exact absurd (List.mem_of_getElem? e2) hv
    · exact .inl k
theorem mm_comm {X Y:List Int} {x y:Nat} (h:mm X Y x y=true):mm Y X y x=true:=let ⟨v,a,b⟩:=mm_some.mp h;mm_some.mpr ⟨v,b,a⟩
theorem Run.comm {X Y:List Int} {x y n:Nat} (hr:Run (mm X Y) x y n):Run (mm Y X) y x n:=fun t ht=>mm_comm (hr t ht)
theorem Run.cutR {X Y:List Int} {x y n i:Nat} (hr:Run (mm X Y) x y n) {v:Int} (hi:Y[i]?=some v) (hv:v ∉ X):y+n≤i∨i < y:=hr.comm.cut hi hv
theorem ro_one {X Y:List Int} {i j n:Nat} (b:Best (mm X Y) 0 X.length 0 Y.length i j n) (hn:0 < n) (hl:ro (mm X Y) (0,i,0,j)=[]) (hr:ro (mm X Y) (i+n,X.length,j+n,Y.length)=[]):ro (mm X Y) (bH X Y)=[(i,j,n)]:=by
  show ro (mm X Y) (0,X.length,0,Y.length)=_
  rw [ro_some b hn,hl,hr];rfl
theorem ro_none {X Y:List Int} {alo ahi blo bhi:Nat} (h1:alo≤ahi) (h2:blo≤bhi) (h:∀ x y,alo≤x→x < ahi→blo≤y→y < bhi→mm X Y x y=false):ro (mm X Y) (alo,ahi,blo,bhi)=[]:=by
  refine ro_eq h1 h2 (.none (i:=alo) (j:=blo) ⟨⟨Nat.le_refl _,h1,Nat.le_refl _,h2⟩,fun t ht=>absurd ht (Nat.not_lt_zero _),fun _=>⟨rfl,rfl⟩,fun x y n hn w r=>?_⟩)
  have:mm X Y x y=true:=r 0 hn
  rw [h x y w.1 (by have:=w.2.1;lia) w.2.2.1 (by have:=w.2.2.2;lia)] at this
  cases this
theorem run_of (A B C D Z:List Int):Run (mm (A++(Z++C)) (B++(Z++D))) A.length B.length Z.length:=fun t ht=>by
  refine mm_some.mpr ⟨Z[t],?_,?_⟩
  · rw [List.getElem?_append_right (Nat.le_add_right _ _),Nat.add_sub_cancel_left,List.getElem?_append_left ht];exact List.getElem?_eq_getElem ht
  · rw [List.getElem?_append_right (Nat.le_add_right _ _),Nat.add_sub_cancel_left,List.getElem?_append_left ht];exact List.getElem?_eq_getElem ht
theorem best_of {A B C D Z:List Int} (hz:0 < Z.length)
    (hb:∀ x y k,0 < k→x+k≤A.length+(Z.length+C.length)→y+k≤B.length+(Z.length+D.length)→Run (mm (A++(Z++C)) (B++(Z++D))) x y k→k < Z.length∨(k=Z.length∧(A.length < x∨(A.length=x∧B.length≤y)))) :
    Best (mm (A++(Z++C)) (B++(Z++D))) 0 (A++(Z++C)).length 0 (B++(Z++D)).length A.length B.length Z.length where
  win:=⟨Nat.zero_le _,by simp only [List.length_append];lia,Nat.zero_le _,by simp only [List.length_append];lia⟩
  run:=run_of A B C D Z
  zero h:=absurd h (Nat.ne_of_gt hz)
  best x y k hk w hr:=by
    have h1:=w.2.1;have h2:=w.2.2.2
    simp only [List.length_append] at h1 h2
    exact hb x y k hk h1 h2 hr
theorem whole {A B C D Z:List Int} (hz:0 < Z.length)
    (hb:∀ x y k,0 < k→x+k≤A.length+(Z.length+C.length)→y+k≤B.length+(Z.length+D.length)→Run (mm (A++(Z++C)) (B++(Z++D))) x y k→k < Z.length∨(k=Z.length∧(A.length < x∨(A.length=x∧B.length≤y))))
    (hl:∀ v∈A,v ∉ B) (hr:∀ v∈C,v ∉ D):ro (mm (A++(Z++C)) (B++(Z++D))) (bH (A++(Z++C)) (B++(Z++D)))=[(A.length,B.length,Z.length)]:=by
  have no:∀ b:Bool,(¬ b=true)→b=false:=fun b h=>by cases b <;> simp_all
  refine ro_one (best_of hz hb) hz (ro_none (Nat.zero_le _) (Nat.zero_le _) fun x y _ hx _ hy=>no _ fun h=>?_) (ro_none (by simp only [List.length_append];lia) (by simp only [List.length_append];lia) fun x y hx hx' hy hy'=>no _ fun h=>?_)
  · obtain ⟨v,e1,e2⟩:=mm_some.mp h
    rw [List.getElem?_append_left hx] at e1
    rw [List.getElem?_append_left hy] at e2
    exact hl v (List.mem_of_getElem? e1) (List.mem_of_getElem? e2)
  · obtain ⟨v,e1,e2⟩:=mm_some.mp h
    have two:∀ {A C:List Int} {x:Nat},A.length+Z.length≤x→(A++(Z++C))[x]?=some v→v∈C:=fun {A C x} hx e=>by
      rw [List.getElem?_append_right (by lia),List.getElem?_append_right (by lia)] at e
      exact List.mem_of_getElem? e
    exact hr v (two hx e1) (two hy e2)
theorem whole_l {Z D:List Int} (hz:0 < Z.length):ro (mm Z (Z++D)) (bH Z (Z++D))=[(0,0,Z.length)]:=by
  have h:=whole (A:=[]) (B:=[]) (C:=[]) (D:=D) hz (fun x y k hk h1 _ _=>by simp only [List.length_nil] at h1 ⊢;lia) (fun _ h=>nomatch h) (fun _ h=>nomatch h)
  rwa [List.nil_append,List.nil_append,List.append_nil] at h
theorem whole_r {Z D:List Int} (hz:0 < Z.length):ro (mm (Z++D) Z) (bH (Z++D) Z)=[(0,0,Z.length)]:=by
  have h:=whole (A:=[]) (B:=[]) (C:=D) (D:=[]) hz (fun x y k hk _ h2 _=>by simp only [List.length_nil] at h2 ⊢;lia) (fun _ h=>nomatch h) (fun _ _ h=>nomatch h)
  rwa [List.nil_append,List.nil_append,List.append_nil] at h
theorem Run.head {X Y:List Int} {x y k:Nat} (hr:Run (mm X Y) x y k) {t:Nat} (ht:t < k):∃ v,X[x+t]?=some v∧Y[y+t]?=some v:=mm_some.mp (hr t ht)
theorem past {B W:List Int} {y:Nat} {v:Int} (h:(B++W)[y]?=some v) (hv:v ∉ B):B.length≤y:=by
  rcases Nat.lt_or_ge y B.length with k | k
  · rw [List.getElem?_append_left k] at h;exact absurd (List.mem_of_getElem? h) hv
  · exact k
noncomputable def jn (J:List Int):List Int:=-1 :: (J++[-2])
theorem bE (J:List Int):(jn J).length=J.length+2:=by unfold jn;rw [List.length_cons,List.length_append];rfl
noncomputable def Nn (J:List Int):Prop:=∀ v∈J,0≤v
theorem jn_mem {J:List Int} {v:Int}:v∈jn J ↔ v=-1∨v∈J∨v=-2:=by unfold jn;rw [List.mem_cons,List.mem_append,List.mem_singleton]
theorem jn_last {J:List Int} (h:Nn J) {i:Nat} (e:(jn J)[i]?=some (-2)):i=J.length+1:=by
  unfold jn at e
  cases i with
  | zero=>cases e
  | succ i =>
    have e:(J++[-2])[i]?=some (-2):=e
    have k:=past e fun m=>by have:=h _ m;lia
    have:=(List.getElem?_eq_some_iff.mp e).1
    rw [List.length_append,List.length_singleton] at this
    lia
theorem jn_end (J:List Int):(jn J)[J.length+1]?=some (-2):=by
  unfold jn
  show (J++[-2])[J.length]?=_
  rw [List.getElem?_append_right (Nat.le_refl _),Nat.sub_self];rfl
theorem jn_ge {J:List Int} (h:Nn J) {v:Int} (hv:v∈jn J):-2≤v:=by
  rcases jn_mem.mp hv with rfl | m | rfl
  · decide
  · have:=h v m;lia
  · decide
theorem ask_twin {J T:List Int} (h:Nn J) (hT:∀ v∈T,0≤v) (hl:T.length=J.length+2):ro (mm (jn J++(-3 :: T)) ((T++[-4,-4])++jn J)) (bH (jn J++(-3 :: T)) ((T++[-4,-4])++jn J))=[(0,J.length+4,J.length+2)]:=by
  have n3:(-3:Int) ∉ (T++[-4,-4])++jn J:=fun m=>by
    rcases List.mem_append.mp m with m | m
    · rcases List.mem_append.mp m with m | m
      · have:=hT _ m;lia
      · revert m;decide
    · have:=jn_ge h m;lia
  have n1:(-1:Int) ∉ T++[-4,-4]:=fun m=>by
    rcases List.mem_append.mp m with m | m
    · have:=hT _ m;lia
    · revert m;decide
  have hz:=bE J
  have H:=whole (A:=[]) (B:=T++[-4,-4]) (C:=-3 :: T) (D:=[]) (Z:=jn J) (by lia) (fun x y k hk h1 h2 hr=>by
    rw [List.nil_append,List.append_nil] at hr
    rw [List.length_cons] at h1
    have hi:(jn J++(-3 :: T))[(jn J).length]?=some (-3):=by rw [List.getElem?_append_right (Nat.le_refl _),Nat.sub_self];rfl
    have hc:=hr.cut hi n3
    simp only [List.length_nil] at h1 ⊢
    rcases Nat.lt_or_ge k (jn J).length with q | q
    · exact .inl q
    · rcases hc with c | c
      · obtain rfl:x=0:=by lia
        obtain ⟨v,e1,e2⟩:=hr.head (t:=0) hk
        cases e1
        exact .inr ⟨by lia,.inr ⟨rfl,past e2 n1⟩⟩
      · exact .inr ⟨by lia,.inl (by lia)⟩) (fun _ m=>nomatch m) (fun _ _ m=>nomatch m)
  rw [List.nil_append,List.append_nil] at H
  rw [H,List.length_append,hl,hz];rfl
theorem ask_trunk {J R:List Int} (h:Nn J) (hR:Nn R) (hl:R.length≤J.length):ro (mm (jn J++(-3 :: -1 :: R)) ((-1 :: R)++jn J)) (bH (jn J++(-3 :: -1 :: R)) ((-1 :: R)++jn J))=[(0,R.length+1,J.length+2)]:=by
  have n3:(-3:Int) ∉ (-1 :: R)++jn J:=fun m=>by
    rcases List.mem_append.mp m with m | m
    · rcases List.mem_cons.mp m with m | m
      · lia
      · have:=hR _ m;lia
    · have:=jn_ge h m;lia
  have n2:(-2:Int) ∉ (-1 :: R):=fun m=>by
    rcases List.mem_cons.mp m with m | m
    · lia
    · have:=hR _ m;lia
  have hz:=bE J
  have H:=whole (A:=[]) (B:=-1 :: R) (C:=-3 :: -1 :: R) (D:=[]) (Z:=jn J) (by lia) (fun x y k hk h1 h2 hr=>by
    rw [List.nil_append,List.append_nil] at hr
    have hi:(jn J++(-3 :: -1 :: R))[(jn J).length]?=some (-3):=by rw [List.getElem?_append_right (Nat.le_refl _),Nat.sub_self];rfl
    have hc:=hr.cut hi n3
    simp only [List.length_nil,List.length_cons] at h1 h2 ⊢
    rcases Nat.lt_or_ge k (jn J).length with q | q
    · exact .inl q
    · rcases hc with c | c
      · obtain rfl:x=0:=by lia
        obtain ⟨v,e1,e2⟩:=hr.head (t:=J.length+1) (by lia)
        rw [Nat.zero_add,List.getElem?_append_left (by lia),jn_end] at e1
        cases e1
        have p:=past e2 n2
        rw [List.getElem?_append_right p] at e2
        have:=jn_last h e2
        rw [List.length_cons] at p this
        exact .inr ⟨by lia,.inr ⟨rfl,by lia⟩⟩
      · lia) (fun _ m=>nomatch m) (fun _ _ m=>nomatch m)
  rw [List.nil_append,List.append_nil] at H
  rw [H,hz];rfl
theorem ask_trunk' {J R:List Int} (h:Nn J) (hR:Nn R) (hl:R.length≤J.length):ro (mm ((-1 :: R)++jn J) (jn J++(-3 :: -1 :: R))) (bH ((-1 :: R)++jn J) (jn J++(-3 :: -1 :: R)))=[(R.length+1,0,J.length+2)]:=by
  have n3:(-3:Int) ∉ (-1 :: R)++jn J:=fun m=>by
    rcases List.mem_append.mp m with m | m
    · rcases List.mem_cons.mp m with m | m
      · lia
      · have:=hR _ m;lia
    · have:=jn_ge h m;lia
  have n2:(-2:Int) ∉ (-1 :: R):=fun m=>by
    rcases List.mem_cons.mp m with m | m
    · lia
    · have:=hR _ m;lia
  have hz:=bE J
  have H:=whole (A:=-1 :: R) (B:=[]) (C:=[]) (D:=-3 :: -1 :: R) (Z:=jn J) (by lia) (fun x y k hk h1 h2 hr=>by
    rw [List.nil_append,List.append_nil] at hr
    have hi:(jn J++(-3 :: -1 :: R))[(jn J).length]?=some (-3):=by rw [List.getElem?_append_right (Nat.le_refl _),Nat.sub_self];rfl
    have hc:=hr.cutR hi n3
    simp only [List.length_nil,List.length_cons] at h1 h2 ⊢
    rcases Nat.lt_or_ge k (jn J).length with q | q
    · exact .inl q
    · rcases hc with c | c
      · obtain rfl:y=0:=by lia
        obtain ⟨v,e1,e2⟩:=hr.head (t:=J.length+1) (by lia)
        rw [Nat.zero_add,List.getElem?_append_left (by lia),jn_end] at e2
        cases e2
        have p:=past e1 n2
        rw [List.getElem?_append_right p] at e1
        have:=jn_last h e1
        rw [List.length_cons] at p this
        exact .inr ⟨by lia,.inr ⟨by lia,Nat.zero_le _⟩⟩
      · lia) (fun _ _ m=>nomatch m) (fun _ m=>nomatch m)
  rw [List.nil_append,List.append_nil] at H
  rw [H,hz];rfl
theorem ask_branch {J R:List Int} (h:Nn J) (hR:Nn R) (hl:R.length≤J.length):ro (mm (((R++[-2])++[-3])++jn J) (jn J++(R++[-2]))) (bH (((R++[-2])++[-3])++jn J) (jn J++(R++[-2])))=[(R.length+2,0,J.length+2)]:=by
  have n3:(-3:Int) ∉ jn J++(R++[-2]):=fun m=>by
    rcases List.mem_append.mp m with m | m
    · have:=jn_ge h m;lia
    · rcases List.mem_append.mp m with m | m
      · have:=hR _ m;lia
      · revert m;decide
  have hz:=bE J
  have ha:((R++[-2])++[(-3:Int)]).length=R.length+2:=by simp
  have H:=whole (A:=(R++[-2])++[-3]) (B:=[]) (C:=[]) (D:=R++[-2]) (Z:=jn J) (by lia) (fun x y k hk h1 h2 hr=>by
    rw [List.nil_append,List.append_nil] at hr
    have hi:(((R++[-2])++[-3])++jn J)[(R++[(-2:Int)]).length]?=some (-3):=by
      rw [List.getElem?_append_left (by rw [ha,List.length_append,List.length_singleton];lia),List.getElem?_append_right (Nat.le_refl _),Nat.sub_self];rfl
    have hc:=hr.cut hi n3
    rw [List.length_append,List.length_singleton] at hc
    rw [ha] at h1 ⊢
    simp only [List.length_nil] at h1 ⊢
    rcases Nat.lt_or_ge k (jn J).length with q | q
    · exact .inl q
    · rcases hc with c | c
      · lia
      · exact .inr ⟨by lia,.inr ⟨by lia,Nat.zero_le _⟩⟩) (fun _ _ m=>nomatch m) (fun _ m=>nomatch m)
  rw [List.nil_append,List.append_nil] at H
  rw [H,hz,ha];rfl
theorem jn8_last {J:List Int} (h:Nn J) {i:Nat} (e:(jn J++[-8])[i]?=some (-2)):i=J.length+1:=by
  rcases Nat.lt_or_ge i (jn J).length with k | k
  · rw [List.getElem?_append_left k] at e;exact jn_last h e
  · rw [List.getElem?_append_right k] at e
    cases hi:i - (jn J).length with
    | zero=>rw [hi] at e;cases e
    | succ m=>rw [hi] at e;cases e
section
variable {J R:List Int} (h:Nn J) (hR:Nn R) (hl:R.length≤J.length)
include h hR
theorem beh_mem {v:Int} (m:v∈(-7 :: (-1 :: R++[-4]))++(jn J++[-8])):v=-7∨v=-4∨v=-8∨-2≤v:=by
  rcases List.mem_append.mp m with m | m
  · rcases List.mem_cons.mp m with m | m
    · exact .inl m
    · rcases List.mem_append.mp m with m | m
      · rcases List.mem_cons.mp m with m | m
        · exact .inr (.inr (.inr (by lia)))
        · have:=hR v m;exact .inr (.inr (.inr (by lia)))
      · exact .inr (.inl (List.mem_singleton.mp m))
  · rcases List.mem_append.mp m with m | m
    · exact .inr (.inr (.inr (jn_ge h m)))
    · exact .inr (.inr (.inl (List.mem_singleton.mp m)))
include hl
theorem ask_ahead:ro (mm ([-5]++(jn J++(-3 :: (-1 :: R++[-6])))) ((-7 :: (-1 :: R++[-4]))++(jn J++[-8]))) (bH ([-5]++(jn J++(-3 :: (-1 :: R++[-6])))) ((-7 :: (-1 :: R++[-4]))++(jn J++[-8])))=[(1,R.length+3,J.length+2)] ∧
    ro (mm ((-7 :: (-1 :: R++[-4]))++(jn J++[-8])) ([-5]++(jn J++(-3 :: (-1 :: R++[-6]))))) (bH ((-7 :: (-1 :: R++[-4]))++(jn J++[-8])) ([-5]++(jn J++(-3 :: (-1 :: R++[-6])))))=[(R.length+3,1,J.length+2)]:=by
  have hz:=bE J
  have hB:(-7 :: (-1 :: R++[(-4:Int)])).length=R.length+3:=by simp
  have hC:(-3 :: (-1 :: R++[(-6:Int)])).length=R.length+3:=by simp
  have n2:(-2:Int) ∉ (-7 :: (-1 :: R++[-4])):=fun m=>by
    rcases List.mem_cons.mp m with m | m
    · lia
    · rcases List.mem_append.mp m with m | m
      · rcases List.mem_cons.mp m with m | m
        · lia
        · have:=hR _ m;lia
      · revert m;decide
  have n5:(-5:Int) ∉ (-7 :: (-1 :: R++[-4]))++(jn J++[-8]):=fun m=>by have:=beh_mem h hR m;lia
  have n3:(-3:Int) ∉ (-7 :: (-1 :: R++[-4]))++(jn J++[-8]):=fun m=>by have:=beh_mem h hR m;lia
  have n6:(-6:Int) ∉ (-7 :: (-1 :: R++[-4]))++(jn J++[-8]):=fun m=>by have:=beh_mem h hR m;lia
  have i5:([-5]++(jn J++(-3 :: (-1 :: R++[-6]))))[0]?=some (-5):=rfl
  have i3:([-5]++(jn J++(-3 :: (-1 :: R++[-6]))))[(jn J).length+1]?=some (-3):=by
    show (jn J++(-3 :: (-1 :: R++[-6])))[(jn J).length]?=_
    rw [List.getElem?_append_right (Nat.le_refl _),Nat.sub_self];rfl
  have i6:([-5]++(jn J++(-3 :: (-1 :: R++[-6]))))[(jn J).length+1+(R.length+2)]?=some (-6):=by
    rw [show (jn J).length+1+(R.length+2)=((jn J).length+(R.length+2))+1 by lia]
    show (jn J++(-3 :: (-1 :: R++[-6])))[(jn J).length+(R.length+2)]?=_
    rw [List.getElem?_append_right (Nat.le_add_right _ _),Nat.add_sub_cancel_left]
    show (R++[-6])[R.length]?=_
    rw [List.getElem?_append_right (Nat.le_refl _),Nat.sub_self];rfl
  have core:∀ {x y k:Nat},0 < k→x+k≤1+((jn J).length+(R.length+3))→Run (mm ([-5]++(jn J++(-3 :: (-1 :: R++[-6])))) ((-7 :: (-1 :: R++[-4]))++(jn J++[-8]))) x y k→k < (jn J).length∨(k=(jn J).length∧x=1∧y=R.length+3):=fun {x y k} hk h1 hr=>by
    have c5:=hr.cut i5 n5
    have c3:=hr.cut i3 n3
    have c6:=hr.cut i6 n6
    rcases Nat.lt_or_ge k (jn J).length with q | q
    · exact .inl q
    · rcases c3 with c | c
      · obtain rfl:x=1:=by lia
        obtain ⟨v,e1,e2⟩:=hr.head (t:=J.length+1) (by lia)
        have e1:(jn J++(-3 :: (-1 :: R++[-6])))[J.length+1]?=some v:=by
          rw [Nat.add_comm 1] at e1;exact e1
        rw [List.getElem?_append_left (by lia),jn_end] at e1
        cases e1
        have p:=past e2 n2
        rw [List.getElem?_append_right p] at e2
        have:=jn8_last h e2
        rw [hB] at p this
        exact .inr ⟨by lia,rfl,by lia⟩
      · lia
  constructor
  · have H:=whole (A:=[-5]) (B:=-7 :: (-1 :: R++[-4])) (C:=-3 :: (-1 :: R++[-6])) (D:=[-8]) (Z:=jn J) (by lia) (fun x y k hk h1 h2 hr=>by
      rw [hC] at h1
      rcases core hk h1 hr with q | ⟨q,rfl,rfl⟩
      · exact .inl q
      · exact .inr ⟨q,.inr ⟨rfl,by rw [hB];exact Nat.le_refl _⟩⟩) (fun v m=>by rw [List.mem_singleton.mp m];exact fun m=>n5 (List.mem_append_left _ m)) (fun v m m'=>by
      rw [List.mem_singleton.mp m'] at m
      rcases List.mem_cons.mp m with m | m
      · lia
      · rcases List.mem_append.mp m with m | m
        · rcases List.mem_cons.mp m with m | m
          · lia
          · have:=hR _ m;lia
        · revert m;decide)
    rw [H,hz,hB];rfl
  · have H:=whole (A:=-7 :: (-1 :: R++[-4])) (B:=[-5]) (C:=[-8]) (D:=-3 :: (-1 :: R++[-6])) (Z:=jn J) (by lia) (fun x y k hk h1 h2 hr=>by
      rw [hC] at h2
      rcases core hk h2 hr.comm with q | ⟨q,rfl,rfl⟩
      · exact .inl q
      · exact .inr ⟨q,.inr ⟨hB,Nat.le_refl _⟩⟩) (fun v m m'=>by rw [List.mem_singleton.mp m'] at m;exact n5 (List.mem_append_left _ m)) (fun v m m'=>by
      rw [List.mem_singleton.mp m] at m'
      rcases List.mem_cons.mp m' with m | m
      · lia
      · rcases List.mem_append.mp m with m | m
        · rcases List.mem_cons.mp m with m | m
          · lia
          · have:=hR _ m;lia
        · revert m;decide)
    rw [H,hz,hB];rfl
end
theorem best_one {X Y:List Int} {alo ahi blo bhi i j:Nat} (hw:InW alo ahi blo bhi i j 1) (h:mm X Y i j=true) (hx:ahi≤alo+1∨bhi≤blo+1) (hb:∀ x y,alo≤x→x < ahi→blo≤y→y < bhi→mm X Y x y=true→i < x∨(i=x∧j≤y)):Best (mm X Y) alo ahi blo bhi i j 1 where
  win:=hw
  run t ht:=by
    obtain rfl:t=0:=by lia
    exact h
  zero h:=absurd h (by decide)
  best x y n hn w r:=by
    obtain ⟨w1,w2,w3,w4⟩:=w
    obtain rfl:n=1:=by lia
    exact .inr ⟨rfl,hb x y w1 (by lia) w3 (by lia) (r 0 (by decide))⟩
theorem ro_best_one {X Y:List Int} {alo ahi blo bhi i j:Nat} (b:Best (mm X Y) alo ahi blo bhi i j 1) (hl:i≤alo∨j≤blo) (hr:ahi≤i+1∨bhi≤j+1):ro (mm X Y) (alo,ahi,blo,bhi)=[(i,j,1)]:=by
  obtain ⟨w1,w2,w3,w4⟩:=b.win
  rw [ro_some b (by decide),ro_thin _ w1 w3 hl,ro_thin _ w2 w4 hr];rfl
section
variable {J:List Int} (h:Nn J)
include h
theorem ask_ends:ro (mm ([-5]++(jn J++[-6])) ([-5,-3]++(jn J++[-4,-6]))) (bH ([-5]++(jn J++[-6])) ([-5,-3]++(jn J++[-4,-6])))=[(0,0,1),(1,2,J.length+2),(J.length+3,J.length+5,1)] ∧
    ro (mm ([-5,-3]++(jn J++[-4,-6])) ([-5]++(jn J++[-6]))) (bH ([-5,-3]++(jn J++[-4,-6])) ([-5]++(jn J++[-6])))=[(0,0,1),(2,1,J.length+2),(J.length+5,J.length+3,1)]:=by
  have hz:=bE J
  have mem:∀ v∈[-5]++(jn J++[-6]),v=-5∨v=-6∨-2≤v:=fun v m=>by
    rcases List.mem_append.mp m with m | m
    · exact .inl (List.mem_singleton.mp m)
    · rcases List.mem_append.mp m with m | m
      · exact .inr (.inr (jn_ge h m))
      · exact .inr (.inl (List.mem_singleton.mp m))
  have n3:(-3:Int) ∉ [-5]++(jn J++[-6]):=fun m=>by have:=mem _ m;lia
  have n4:(-4:Int) ∉ [-5]++(jn J++[-6]):=fun m=>by have:=mem _ m;lia
  have i3:([-5,-3]++(jn J++[-4,-6]))[1]?=some (-3):=rfl
  have at2:∀ t:Nat,([-5,-3]++(jn J++[-4,-6]))[(jn J).length+2+t]?=[(-4:Int),-6][t]?:=fun t=>by
    rw [show (jn J).length+2+t=((jn J).length+t)+1+1 by lia]
    show (jn J++[-4,-6])[(jn J).length+t]?=_
    rw [List.getElem?_append_right (Nat.le_add_right _ _),Nat.add_sub_cancel_left]
  have at1:([-5]++(jn J++[-6]))[(jn J).length+1]?=some (-6):=by
    show (jn J++[-6])[(jn J).length]?=_
    rw [List.getElem?_append_right (Nat.le_refl _),Nat.sub_self];rfl
  have core:∀ {x y k:Nat},0 < k→x+k≤1+((jn J).length+1)→y+k≤2+((jn J).length+2)→Run (mm ([-5]++(jn J++[-6])) ([-5,-3]++(jn J++[-4,-6]))) x y k→k < (jn J).length∨(k=(jn J).length∧1≤x∧y=2):=fun {x y k} hk h1 h2 hr=>by
    have c3:=hr.cutR i3 n3
    have c4:=hr.cutR (at2 0) n4
    rcases Nat.lt_or_ge k (jn J).length with q | q
    · exact .inl q
    · refine .inr ?_
      obtain rfl:y=2:=by lia
      refine ⟨by lia,?_,rfl⟩
      cases x with
      | succ x=>lia
      | zero =>
        obtain ⟨v,e1,e2⟩:=hr.head (t:=0) hk
        cases e1
        have e2:some (-1:Int)=some (-5):=e2
        cases e2
  have l1:mm ([-5]++(jn J++[-6])) ([-5,-3]++(jn J++[-4,-6])) 0 0=true:=mm_some.mpr ⟨-5,rfl,rfl⟩
  have r1:mm ([-5]++(jn J++[-6])) ([-5,-3]++(jn J++[-4,-6])) ((jn J).length+1) ((jn J).length+2+1)=true:=mm_some.mpr ⟨-6,at1,at2 1⟩
  have r0:∀ x y,(jn J).length+1≤x→x < (jn J).length+2→(jn J).length+2≤y→y < (jn J).length+4→mm ([-5]++(jn J++[-6])) ([-5,-3]++(jn J++[-4,-6])) x y=true→x=(jn J).length+1∧y=(jn J).length+3:=fun x y a b c d e=>by
    obtain rfl:x=(jn J).length+1:=by lia
    refine ⟨rfl,?_⟩
    rcases Nat.lt_or_ge y ((jn J).length+3) with q | q
    · obtain rfl:y=(jn J).length+2+0:=by lia
      obtain ⟨v,e1,e2⟩:=mm_some.mp e
      rw [at1] at e1;rw [at2] at e2
      cases e1;cases e2
    · lia
  have lx:([-5]++(jn J++[(-6:Int)])).length=(jn J).length+2:=by simp
  have ly:([-5,-3]++(jn J++[(-4:Int),-6])).length=(jn J).length+4:=by simp
  constructor
  · have B:=best_of (A:=[-5]) (B:=[-5,-3]) (C:=[-6]) (D:=[-4,-6]) (Z:=jn J) (by lia) fun x y k hk a b hr=>by
      rcases core hk a b hr with q | ⟨q,a1,rfl⟩
      · exact .inl q
      · rcases Nat.lt_or_ge 1 x with g | g
        · exact .inr ⟨q,.inl g⟩
        · exact .inr ⟨q,.inr ⟨Nat.le_antisymm a1 g,Nat.le_refl _⟩⟩
    show ro _ (0,_,0,_)=_
    rw [ro_some B (by lia),lx,ly]
    show ro _ (0,1,0,2)++(1,2,(jn J).length) :: ro _ (1+(jn J).length,(jn J).length+2,2+(jn J).length,(jn J).length+4)=_
    rw [ro_best_one (i:=0) (j:=0) (best_one ⟨Nat.le_refl _,by decide,Nat.le_refl _,by decide⟩ l1 (.inl (by decide)) fun x y _ _ _ _ _=>by lia) (.inl (by decide)) (.inl (by decide)),
      ro_best_one (i:=(jn J).length+1) (j:=(jn J).length+3) (best_one ⟨by lia,by lia,by lia,by lia⟩ r1 (.inl (by lia)) fun x y a b c d e=>by have:=r0 x y (by lia) (by lia) (by lia) (by lia) e;lia) (.inl (by lia)) (.inl (by lia)),hz]
    rfl
  · have B:=best_of (A:=[-5,-3]) (B:=[-5]) (C:=[-4,-6]) (D:=[-6]) (Z:=jn J) (by lia) fun x y k hk a b hr=>by
      rcases core hk b a hr.comm with q | ⟨q,a1,rfl⟩
      · exact .inl q
      · exact .inr ⟨q,.inr ⟨rfl,a1⟩⟩
    show ro _ (0,_,0,_)=_
    rw [ro_some B (by lia),lx,ly]
    show ro _ (0,2,0,1)++(2,1,(jn J).length) :: ro _ (2+(jn J).length,(jn J).length+4,1+(jn J).length,(jn J).length+2)=_
    rw [ro_best_one (i:=0) (j:=0) (best_one ⟨Nat.le_refl _,by decide,Nat.le_refl _,by decide⟩ (mm_comm l1) (.inr (by decide)) fun x y _ _ _ _ _=>by lia) (.inl (by decide)) (.inr (by decide)),
      ro_best_one (i:=(jn J).length+3) (j:=(jn J).length+1) (best_one ⟨by lia,by lia,by lia,by lia⟩ (mm_comm r1) (.inr (by lia)) fun x y a b c d e=>by have:=r0 y x (by lia) (by lia) (by lia) (by lia) (mm_comm e);lia) (.inr (by lia)) (.inr (by lia)),hz]
    rfl
end
noncomputable def wordOf (x d:Int):List Int:=if d=0 then [x] else if d=1 then [x,x] else if d=2 then [x,x+1] else [x,x+1,x]
structure RSt where
  text:List Int
  rules:List Rl
  whose:Int→Int
noncomputable def aW (k:Nat) (n:Int) (s:RSt):Rl :=
  let letter:=s.text.getD ((n.fdiv 12+2 * (k:Int)).fmod s.text.length).toNat 0
  (letter,wordOf (2 * (s.rules.length:Int)+2) ((n.fdiv 3).fmod 4),if 0 < s.whose letter then s.whose letter else n.fmod 3)
noncomputable def stepR (k:Nat) (n:Int) (s:RSt):RSt :=
  let r:=aW k n s
  if (aY r.1 r.2.1 s.text).length≤40 then
    { text:=aY r.1 r.2.1 s.text,rules:=s.rules++[r],whose:=fun v=>if v=2 * (s.rules.length:Int)+3 then r.2.2 else if v=2 * (s.rules.length:Int)+2 then r.2.2 else s.whose v }
  else s
noncomputable def makeR (k:Nat) (ns:List Int) (s:RSt):RSt:=match ns with
  | []=>s
  | n :: ns=>makeR (k+1) ns (stepR k n s)
structure RInv (X0:List Int) (s:RSt):Prop where
  ri:RI X0 s.rules s.text
  part:∀ r∈s.rules,r.2.2∈[(0:Int),1,2]
  whose:∀ v∈s.text,s.whose v∈[(0:Int),1,2]
theorem wordOf_ne (x d:Int):wordOf x d ≠ []:=by
  unfold wordOf
  repeat' split
  all_goals exact List.cons_ne_nil _ _
theorem wordOf_mem {x d c:Int} (h:c∈wordOf x d):c=x∨c=x+1:=by
  unfold wordOf at h
  split at h
  · exact .inl (List.mem_singleton.mp h)
  · split at h
    · simp only [List.mem_cons,List.not_mem_nil,or_false,or_self] at h;exact .inl h
    · split at h
      · simp only [List.mem_cons,List.not_mem_nil,or_false] at h;exact h
      · simp only [List.mem_cons,List.not_mem_nil,or_false] at h
        rcases h with h | h | h
        · exact .inl h
        · exact .inr h
        · exact .inl h
theorem RInv.step {X0:List Int} {s:RSt} (I:RInv X0 s) (k:Nat) (n:Int):RInv X0 (stepR k n s):=by
  have hlen:0 < s.text.length:=List.length_pos_iff.mpr I.ri.pos
  have hl:(aW k n s).1∈s.text:=by
    show s.text.getD _ 0∈s.text
    have h0:=Int.fmod_nonneg_of_pos (n.fdiv 12+2 * (k:Int)) (b:=(s.text.length:Int)) (by lia)
    have h1:=Int.fmod_lt_of_pos (n.fdiv 12+2 * (k:Int)) (b:=(s.text.length:Int)) (by lia)
    have hx:((n.fdiv 12+2 * (k:Int)).fmod s.text.length).toNat < s.text.length:=by lia
    rw [List.getD_eq_getElem?_getD,List.getElem?_eq_getElem hx]
    exact List.getElem_mem hx
  have hp:(aW k n s).2.2∈[(0:Int),1,2]:=by
    show (if 0 < s.whose _ then s.whose _ else n.fmod 3)∈_
    split
    · exact I.whose _ hl
    · have h0:=Int.fmod_nonneg_of_pos n (b:=3) (by decide)
      have h1:=Int.fmod_lt_of_pos n (b:=3) (by decide)
      simp only [List.mem_cons,List.not_mem_nil,or_false]
      lia
  have hw:∀ c∈(aW k n s).2.1,c=2 * (s.rules.length:Int)+2∨c=2 * (s.rules.length:Int)+3:=fun c hc=>by
    rcases wordOf_mem hc with e | e
    · exact .inl e
    · exact .inr (by lia)
  unfold stepR
  simp only
  split
  · rename_i h40
    refine ⟨I.ri.snoc hl (wordOf_ne _ _) hw h40,fun r hr=>?_,fun v hv=>?_⟩
    · rcases List.mem_append.mp hr with hr | hr
      · exact I.part r hr
      · rw [List.mem_singleton.mp hr];exact hp
    · simp only
      split
      · exact hp
      · split
        · exact hp
        · rename_i e2 e1
          rcases mem_sub1.mp hv with ⟨hv,_⟩ | ⟨_,hv⟩
          · exact I.whose v hv
          · rcases hw v hv with e | e
            · exact absurd e e1
            · exact absurd e e2
  · exact I
theorem RInv.make {X0:List Int}:∀ (ns:List Int) (k:Nat) {s:RSt},RInv X0 s→RInv X0 (makeR k ns s)
  | [],_,_,I=>I
  | n :: ns,k,_,I=>RInv.make ns (k+1) (I.step k n)
theorem szF_cons {r:Rl} {rs:List Rl} (v:Int):szF (r :: rs) v=if v=r.1 then (r.2.1.map (szF rs)).sum else szF rs v:=by
  unfold szF
  show (unfA rs (aY r.1 r.2.1 [v])).length=_
  split
  · rename_i e;rw [e,sub1_eq];exact (sum_szF rs _).symm
  · rename_i e;rw [sub1_ne _ e]
noncomputable def start0:RSt:={ text:=[0,1,0,0,1],rules:=[],whose:=fun _=>0 }
theorem start_bnd:Bnd 0 [0,1,0,0,1]:=fun v hv=>by
  simp only [List.mem_cons,List.not_mem_nil,or_false] at hv
  rcases hv with rfl | rfl | rfl | rfl | rfl <;> exact ⟨by decide,by decide⟩
theorem start_inv:RInv [0,1,0,0,1] start0 where
  ri:={ ok:=trivial,dst:=.nil,txt:=rfl,gone:=fun _ h=>(nomatch h),bnd:=start_bnd,pos:=List.cons_ne_nil _ _,len:=by decide }
  part _ h:=nomatch h
  whose _ _:=.head _
noncomputable abbrev X0:List Int:=[0,1,0,0,1]
noncomputable def bL (rs:List Rl) (i:Nat):List Int:=match i with
  | 0=>X0
  | 1=>unf [0] rs X0
  | 2=>-1 :: unf [0,1] rs X0
  | 3=>unf [0,2] rs X0++[-2]
  | _=>jn (unf [0,1,2] rs X0)
theorem unf_none:∀ (rs:List Rl) (X:List Int),unf [] rs X=X
  | [],_=>rfl
  | r :: rs,X=>by
    show unf [] rs (if r.2.2∈[] then aY r.1 r.2.1 X else X)=X
    rw [if_neg (fun h=>nomatch h)];exact unf_none rs X
theorem ver_eq (rs:List Rl) (i:Nat):∃ (P:List Int) (hd lst:Bool),bL rs i=vers hd lst (unf P rs X0):=by
  match i with
  | 0=>exact ⟨[],false,false,by rw [unf_none];rfl⟩
  | 1=>exact ⟨[0],false,false,by simp [bL,vers]⟩
  | 2=>exact ⟨[0,1],true,false,by simp [bL,vers]⟩
  | 3=>exact ⟨[0,2],false,true,by simp [bL,vers]⟩
  | i+4=>exact ⟨[0,1,2],true,true,by simp [bL,vers,jn]⟩
theorem ver_edit {s:RSt} (I:RInv X0 s) (i j:Nat):bA (idxs (ndF (szF s.rules) 0 (bL s.rules i)) (ndF (szF s.rules) 0 (bL s.rules j))) 0 (ro (mm (bL s.rules i) (bL s.rules j)) (bH (bL s.rules i) (bL s.rules j))):=by
  obtain ⟨P,hd,lst,e⟩:=ver_eq s.rules i
  obtain ⟨Q,hd',lst',e'⟩:=ver_eq s.rules j
  rw [e,e']
  exact I.ri.edit start_bnd P Q hd lst hd' lst'
end Mine
open PySem.SeqAt
namespace Mine
section
variable {X:Cx} {k:Nat} {as bs:List Int}
noncomputable def Tag (t:Str):Prop:=t="insert"∨t="delete"∨t="replace"∨t="equal"
theorem gap_mem {i ai j bj:Nat} {x:PyData} (h:x∈gap i ai j bj):∃ t i1 i2 j1 j2,x=code t i1 i2 j1 j2∧Tag t∧t ≠ "equal":=by
  unfold gap at h
  split at h
  · cases h
  · rw [List.mem_singleton] at h
    refine ⟨_,_,_,_,_,h,?_⟩
    split
    · exact ⟨.inl rfl,by decide⟩
    · split
      · exact ⟨.inr (.inl rfl),by decide⟩
      · exact ⟨.inr (.inr (.inl rfl)),by decide⟩
theorem opc_mem {la lb:Nat}:∀ {bl:List T3} {i j:Nat} {x:PyData},x∈opc la lb i j bl→∃ t i1 i2 j1 j2,x=code t i1 i2 j1 j2∧Tag t
  | [],i,j,x,h=>let ⟨t,i1,i2,j1,j2,e,ht,_⟩:=gap_mem h;⟨t,i1,i2,j1,j2,e,ht⟩
  | (ai,bj,n) :: r,i,j,x,h=>by
    unfold opc at h
    rcases List.mem_append.mp h with h | h
    · obtain ⟨t,i1,i2,j1,j2,e,ht,_⟩:=gap_mem h
      exact ⟨t,i1,i2,j1,j2,e,ht⟩
    · rcases List.mem_cons.mp h with rfl | h
      · exact ⟨"equal",_,_,_,_,rfl,.inr (.inr (.inr rfl))⟩
      · exact opc_mem h
theorem opc_len {la lb:Nat}:∀ (bl:List T3) (i j:Nat),(opc la lb i j bl).length≤2 * bl.length+1
  | [],i,j=>by unfold opc gap;split <;> simp
  | (ai,bj,n) :: r,i,j=>by
    have h1:=opc_len (la:=la) (lb:=lb) r (ai+n) (bj+n)
    have h2:(gap i ai j bj).length≤1:=by unfold gap;split <;> simp
    unfold opc
    rw [List.length_append,List.length_cons,List.length_cons];exact aZ 0xf11118181a02ba180a2a0f182018102ba00f rfl h1 h2
end
theorem pickD_rev (ds:List PyData):pickD ds none none (some (-1))=ds.reverse:=by
  have h:=krv_pick
  unfold pickD
  have hb:sliceBounds none none (some (-1)) ds.length=((ds.length:Int) - 1,-1,-1):=krv_bounds _
  rw [hb]
  dsimp only
  rw [krv_sliceRange,krv_range,List.filterMap_reverse]
  have:=krv_all ds.toArray
  simp only [List.size_toArray,List.getElem?_toArray] at this
  rw [this]
theorem canLay_ints:∀ xs:List Int,PyData.canLayAll0 (xs.map .int)=true
  | []=>rfl
  | x :: r=>by simp only [List.map_cons,PyData.canLayAll0,PyData.canLay0,canLay_ints r,Bool.and_self]
theorem depth_ints:∀ xs:List Int,PyData.depthAll (xs.map .int)≤1
  | []=>by simp [PyData.depthAll]
  | x :: r=>by
    have:=depth_ints r
    simp only [List.map_cons,PyData.depthAll,PyData.depth];exact lq1 0xf1108f108f1810f1800f0084 rfl this
theorem code_ok {t:Str} (ht:Tag t) (i1 i2 j1 j2:Nat):(code t i1 i2 j1 j2).canLay0=true∧(code t i1 i2 j1 j2).depth≤3:=by
  have h:PyData.strOk t=true:=by rcases ht with rfl | rfl | rfl | rfl <;> first | rfl | decide +kernel
  unfold code
  simp only [PyData.canLay0,PyData.canLayAll0,PyData.depth,PyData.depthAll,h,Bool.and_self]
  exact ⟨trivial,by decide⟩
theorem codes_ok:∀ {cs:List PyData},(∀ x∈cs,∃ t i1 i2 j1 j2,x=code t i1 i2 j1 j2∧Tag t)→PyData.canLayAll0 cs=true∧PyData.depthAll cs≤3
  | [],_=>by simp [PyData.canLayAll0,PyData.depthAll]
  | x :: r,h=>by
    obtain ⟨t,i1,i2,j1,j2,rfl,ht⟩:=h _ List.mem_cons_self
    obtain ⟨a,b⟩:=code_ok ht i1 i2 j1 j2
    obtain ⟨c,d⟩:=codes_ok (cs:=r) fun x hx=>h x (List.mem_cons_of_mem _ hx)
    simp only [PyData.canLayAll0,PyData.depthAll,a,c,Bool.and_self]
    exact ⟨trivial,by exact aQ 0xf10108f1108f3820f38103800f104 rfl b d⟩
theorem opc_shaped (la lb i j:Nat) (bl:List T3):SeqAt.shaped (.list (opc la lb i j bl))=true:=by
  obtain ⟨a,b⟩:=codes_ok (cs:=opc la lb i j bl) fun x hx=>opc_mem hx
  unfold SeqAt.shaped
  simp only [PyData.canLay0,PyData.depth,a,Bool.true_and];exact decide_eq_true (by exact lq1 0xf114009180a0f3800f rfl b)
theorem eqv_self {d:PyData} (h:SeqAt.shaped d=true):PyData.eqv d d=true:=SeqAt.eqv_refl _ (SeqAt.canLay_of_shaped h)
section
variable {X:Cx} {k:Nat} {as bs:List Int}
theorem ints_mem {a c:Int} {m:Nat} {d:PyData} (h:d∈intsBy a c m):∃ i:Nat,i < m∧d=.int (a+i * c):=by
  unfold intsBy at h
  obtain ⟨i,hi,rfl⟩:=List.mem_map.mp h
  exact ⟨i,List.mem_range.mp hi,rfl⟩
end
noncomputable def fdLaw (i:Nat) (nm:Str) (a b c:Value):FuncData:=fnOf nm nm (bN (aD topBody i)) (aF (aD topBody i)) (bD (aD topBody i)) (.none) (.none) (.none) a none b c
noncomputable def LDef (X:Cx) (i:Nat) (f:Addr) (nm:Str) (names:List Str):Prop:=X.gl nm=some (.ref f)∧∃ a b c,DefAt X f (fdLaw i nm a b c) (aF (aD topBody i)) names∧∀ vs:List Value,vs.length=names.length→bindArgs (fdLaw i nm a b c) ⟨vs,[]⟩=pure (names.zip vs)
section
variable {X:Cx} {k:Nat} {env:Env} {ρ:List (Str×B)} {Q:Fl→List (Str×B)→Prop}
theorem ev_callB {i:Nat} {f:Addr} {nm:Str} {names:List Str} {p pos:Pos} {e:Expr} {es:List Expr} {ds:List PyData} {d:PyData} (D:LDef X i f nm names) (hk:env.kindOf nm=some .globalImplicit) (ha:EvL X (k+1) env ρ pos (e :: es) ds) (hl:ds.length=names.length)
    (h:∀ L a b c,Exs X k (callEnvC (fdLaw i nm a b c) L f) (names.zip (ds.map B.val)) (aF (aD topBody i)) fun fl _=>fl=.ret d) (hd:(nm == ("__debug__":Str))=false:=by decide)
    (he:starEach (e :: es) env=(false,eval e env) :: starEach es env:=by rfl):Ev X (k+1) env ρ (.Call (.Name nm p) (e :: es) [] pos) d:=by
  obtain ⟨hx,a,b,c,D,hbnd⟩:=D
  obtain ⟨o,ho,hdat⟩:=D.obj
  exact ev_call hx hk ho hdat (fun_of_body (F:=fun ds' d'=>ds'=ds∧d'=d) ho hdat D.code D.body D.clo D.g D.b hbnd D.nodup D.par (fun ds' d' q=>by rw [q.1];exact hl) D.co D.gen D.kind (fun L ds' d' q=>by obtain ⟨rfl,rfl⟩:=q;exact h L a b c)) ha ⟨rfl,rfl⟩ hd he
noncomputable def SubL (env:Env):List (Str×Addr)→Prop
  | []=>True
  | (n,c) :: r=>env.cells.lookup n=some c∧SubL env r
theorem SubL.sub:∀ {cl:List (Str×Addr)},SubL env cl→∀ n c,cl.lookup n=some c→env.cells.lookup n=some c
  | [],_,n,c,e=>by cases e
  | (m,a) :: r,h,n,c,e=>by
    rw [List.lookup_cons] at e
    split at e
    · rename_i hh;have:=eq_of_beq hh;subst this;cases e;exact h.1
    · exact SubL.sub h.2 n c e
noncomputable def CapL (env:Env) (ρ:List (Str×B)) (sc:Scope) (cl:List (Str×Addr)):List (Str×B)→Prop
  | []=>True
  | (y,b) :: r=>(¬ b.owns∧ρ.lookup y=some b∧env.kindOf y=some .cell∧(relabel sc env).names.lookup y=some .cell∧∃ c,cl.lookup y=some c)∧CapL env ρ sc cl r
theorem CapL.cap {sc:Scope} {cl:List (Str×Addr)}:∀ {ρc:List (Str×B)},CapL env ρ sc cl ρc→∀ y b,ρc.lookup y=some b→¬ b.owns∧ρ.lookup y=some b∧env.kindOf y=some .cell∧(relabel sc env).names.lookup y=some .cell∧∃ c,cl.lookup y=some c
  | [],_,y,b,e=>by cases e
  | (z,b') :: r,h,y,b,e=>by
    rw [List.lookup_cons] at e
    split at e
    · rename_i hh;have:=eq_of_beq hh;subst this;cases e;exact h.1
    · exact CapL.cap h.2 y b e
end
section
variable {X:Cx} {k:Nat} {as bs:List Int}
theorem has_skip {ρ:List (Str×B)} {x z:Str} {b v:B} (h:aI ρ z b) (hz:z ≠ x):aI (aH ρ x v) z b:=(put_ne v hz ρ).trans h
theorem evi_of_eq {env:Env} {ρ:List (Str×B)} {e:Expr} {l l':List PyData} (h:EvI X k env ρ e l) (q:l=l'):EvI X k env ρ e l':=q ▸ h
end
theorem flatMap_congr' {α β:Type} {f g:α→List β}:∀ {l:List α},(∀ x∈l,f x=g x)→l.flatMap f=l.flatMap g
  | [],_=>rfl
  | x :: l,h=>by
    rw [List.flatMap_cons,List.flatMap_cons,h x List.mem_cons_self,flatMap_congr' fun y hy=>h y (List.mem_cons_of_mem _ hy)]
theorem index_ints {prog:Program} {w:World} {A:Around} {E:Value→Shared→Prop} {s:Shared} {l:Addr} {vs:List Value} {ns:List Int} {k:Int} {t:Tok} {Q:Value→Shared→Prop} (hl:s.heap.IsList l vs.toArray) (hi:IntsAre vs ns)
    (hb:ns.length≤2 ^ 20) (hk:k∈ns) (h:Q (.int (ns.idxOf k:Nat) s.toks) { s with toks:=s.toks+1 }) :
    wpAny (model prog w) A (call (.builtin "list.index") [.ref l,.int k t]) Q E s:=by
  obtain ⟨⟨cls,dd,data,sl⟩,ho,hc,n,hd⟩:=id hl
  simp only at hc hd
  subst hc hd
  have hlen:=hi.length
  have hj:ns.idxOf k < ns.length:=List.idxOf_lt_length_iff.mpr hk
  refine call_meets PySem.F.slot_list_index ⟨_,ho,rfl⟩ PySem.F.entry_list_index (PySem.F.args_list_index_2 _ _)
    (list_indexAt l vs.toArray n dd sl (.int k t) (isInt k) (ns.idxOf k) (by simpa [hlen] using hj) (by exact aQ 0xf111188000000000000000e9d1c4f0111000004900f rfl hb hj) ?_ ?_) ⟨ho,fun y hy=>(eq_isInt k t hi y (by simpa using hy)).at _ _,h⟩
  · show isInt k vs[ns.idxOf k]=true
    rw [isInt_at k hi _ (by exact aZ 0xf111021f121102f rfl hlen hj) hj]
    simpa using List.getElem_idxOf hj
  · intro j hjs hlt
    show isInt k vs[j]=false
    rw [isInt_at k hi j (by simpa using hjs) (by exact aZ 0xf111121f021101f rfl hj hlt)]
    exact ne_of_lt_idxOf hlt _
section
variable {X:Cx} {k:Nat} {env:Env} {ρ:List (Str×B)}
theorem ev_index {pl:Sem Bool} {e e':Expr} {apos cpos:Pos} {ns:List Int} {v:Int} (he:EvS X k env ρ e (ns.map .int)) (he':Ev X k env ρ e' (.int v)) (hv:v∈ns) (hz:ns.length≤2 ^ 20)
    (hm:eval (.Call (.Attribute e "index" apos) [e'] [] cpos) env=(do
      let ov ← eval e env
      standAt apos.atName
      let (f,first) ← holding [ov] (getMethod ov "index" pl)
      callWith cpos f first (backTo cpos (starEach [e'] env)) []):=by rfl)
    (hst:starEach [e'] env=[(false,eval e' env)]:=by rfl):Ev X k env ρ (.Call (.Attribute e "index" apos) [e'] [] cpos) (.int (ns.idxOf v:Nat)):=fun A bad O s R r=>by
  refine MethodCall_ (he.use R r fun a vs s1 x1 r1 l1 q1=>?_) hm
  obtain ⟨n,g⟩:=id l1
  refine getMethod_list_of PySem.F.slot_list_index PySem.F.type_list_index (PL_is l1) ⟨_,g,rfl⟩ (callWith_method1 (wpAny_items_cons (he'.use R r1 fun u s2 x2 r2 q2=>wpAny_items_nil ?_) hst) (by rw [hst];rfl) (by rfl))
  refine q2.intE fun t=>?_
  show wpAny _ _ (call (.builtin "list.index") [.ref a,.int v t]) _ _ s2
  refine index_ints (vs:=vs.toList) (by simpa using IsList_ext x2 l1) (q1.ints) hz hv ⟨(x1.trans x2).trans (Ext.toks _ _),.int _ _⟩
theorem eqv_int (a b:Int):PyData.eqv (.int a) (.int b)=decide (a=b):=by
  show (a == b)=_
  by_cases h:a=b <;> simp [h]
theorem any_ints (ns:List Int) (v:Int):(ns.map PyData.int).any (fun y=>PyData.eqv y (.int v))=decide (v∈ns):=by
  rw [List.any_map]
  induction ns with
  | nil=>simp
  | cons n ns ih =>
    rw [List.any_cons,ih]
    show (PyData.eqv (.int n) (.int v) || _)=_
    rw [eqv_int]
    by_cases h:n=v
    · subst h;simp
    · simp [h,Ne.symm h]
theorem tst_in {l r:Expr} {pos:Pos} {v:Int} {ns:List Int} (hl:Ev X k env ρ l (.int v)) (hr:EvS X k env ρ r (ns.map .int))
    (hm:behindInMarks .In r=false:=by with_unfolding_all rfl):Tst X k env ρ (.Compare l [.In] [r] pos) (decide (v∈ns)):=fun A bad O s R q =>
  wpAny_isTrue_Compare1 (hl.use R q fun u s1 x1 r1 q1=>hr.use R r1 fun a vs s2 x2 r2 l2 q2=>by
    obtain ⟨as,ra⟩:=(q1.ext x2).reads (by rfl)
    obtain ⟨bs,rb⟩:=q2.reads (canLay_ints ns)
    obtain ⟨n,g⟩:=id l2
    have hd:=depth_ints ns
    refine in_list_reads (.list g rfl rfl rb) ra (canLay_ints ns) (by rfl) ?_ (wpAny_truthy_bool ⟨x1.trans x2,any_ints ns v⟩)
    have:=R.units
    have hc:9100 < cLine:=by decide
    show A.units+1+min _ _ < cLine
    have:=Nat.min_le_left (PyData.depthAll (ns.map .int)) (PyData.depth (.int v))
    lia) hm
theorem ev_catI {x:Str} {r:Expr} {p pos:Pos} {a:Addr} {vs:Array Value} {ns:List Int} {es:List PyData} (hx:ρ.lookup x=some (.raw (.ref a))) (ha:X.h₀.IsList a vs) (hv:IntsAre vs.toList ns) (hr:EvS X k env ρ r es) (hz:ns.length+es.length≤sizeLine) (hd:(x == ("__debug__":Str))=false:=by decide):Ev X k env ρ (.BinOp (.Name x p) .Add r pos) (.list (ns.map .int++es)):=fun A bad O s R q =>
  wpAny_BinOp ((bB hx hd).use R q fun s1 x1 r1=>hr.use R r1 fun b ws s2 x2 r2 l2 q2=>by
    have hl:vs.size=ns.length:=by rw [← Array.length_toList,hv.length]
    have hl':ws.size=es.length:=by rw [← Array.length_toList,q2.length]
    have ha':s2.heap.IsList a vs:=by
      obtain ⟨o,h1,h2⟩:=ha
      exact ⟨o,r2.base _ _ h1,h2⟩
    refine add_lists_at ha' (PL_is l2) (by exact lq5 0xf8811243a0f142032210a0f rfl hz hl hl') ⟨(x1.trans x2).trans (Ext.push _ _),?_⟩
    refine rep_newList r2 ?_
    rw [Array.toList_append]
    refine RepL.append ?_ q2
    clear hl ha' ha
    generalize vs.toList=us at hv
    induction hv with
    | nil=>exact .nil
    | cons n t h ih=>exact .cons (.int _ _) (ih (by rw [List.length_cons] at hz;exact aZ 0xf11210a0f21180aa0f rfl hz)))
end
section
variable {X:Cx} {k:Nat}
end
theorem idxs_len (nx ny:List Int):(idxs nx ny).length=ny.length:=by unfold idxs;rw [List.length_map]
noncomputable def gI (nx:List Int):PyData→List PyData
  | .int v=>[.int (if v∈nx then ((nx.idxOf v:Nat):Int) else -1)]
  | _=>[]
theorem gI_data (nx ny:List Int):(ny.map PyData.int).flatMap (gI nx)=(idxs nx ny).map .int:=by
  unfold idxs
  rw [List.flatMap_map,List.map_map,List.map_eq_flatMap]
  rfl
section
variable {X:Cx} {k:Nat}
noncomputable def asgVal:Stmt→Expr
  | .Assign _ e _=>e
  | _=>.Name "" ⟨0,0,0,0⟩
end
theorem Good.count {la lb:Nat} {b:Bool} {i j:Nat} {S:List T3} (g:Good la lb b i j S):S.length+i≤la∧S.length+j≤lb:=by
  induction g with
  | nil h1 h2=>simp only [List.length_nil];exact lq4 0xf101f11f3208a01008a07f320100f rfl h1 h2
  | cons h1 h2 h3 h4 h5 ih=>simp only [List.length_cons];exact lq8 0xf101101f11011f072185aa060185aa07f0743a5a0641a5a04081320100f rfl h1 h2 h3 ih.1 ih.2
theorem ro_count (as bs:List Int):(ro (mm as bs) (bH as bs)).length≤as.length∧(ro (mm as bs) (bH as bs)).length≤bs.length:=by
  have:=(ro_spec (mm as bs) (Nat.zero_le as.length) (Nat.zero_le bs.length)).good'.count
  exact this
section
variable {X:Cx} {k:Nat} {env:Env} {ρ:List (Str×B)}
theorem cmb_clauseL {elt t i':Expr} {ifs:List Expr} {gens:List Comprehension} {sc:Scope} {p:Pos} {d:Nat} {items:List PyData} {g:PyData→List PyData} {tree:Value→Sem PUnit} (hg:gens[d]?=some ⟨t,i',ifs,0⟩) (hit:Ev X k env ρ i' (.list items))
    (hturn:Trn X (.ListComp elt gens sc p) d t ifs tree env)
    (hb:∀ x∈items,ClB X k env ρ t ifs tree x (g x)) (hs:∀ x,foldedSetIterable i' env x=pure x:=by intro _;rfl):CmB X k env ρ (clauseTree elt i' gens sc p d env) (items.flatMap g):=fun A bad D s outs R hD hz c=>by
  refine wpAny_bind (hit.use R c.rel fun v s1 x1 r1 q1=>?_)
  refine q1.listE fun a vs n hba ga qs=>?_
  refine wpAny_bind (wpAny_standAt (wpAny_bind (wpAny_of_eq (hs _) (wpAny_bind (wpAny_holding (it_list (X:=X) (bad:=bad) (O:=nO) R x1 ga qs fun s2 I x2 t2=>?_))))))
  obtain ⟨P,St,T⟩:=t2
  have c2:=c.ext x2
  have hnewI:s.heap.get? I=none:=T.new I (by simp)
  have nI:∀ {b:Addr} {o:Obj},s.heap.get? b=some o→b ≠ I:=fun e q=>by rw [q,hnewI] at e;cases e
  obtain ⟨vsD,nD,hgD,_⟩:=c.acc
  obtain ⟨mm',oo,es,ep,hL,_⟩:=c.rel.frm.ns
  have loop:codeAny (model X.prog X.w) A (.compLoop (.ListComp elt gens sc p) d (.ref I) (.ref D) env) (fun r s'=>r=.ok .next∧CAt X bad env ρ D (outs++items.flatMap g) s'∧∀ b o,b ∉ [I]→b ≠ env.locals→b ≠ D→s2.heap.get? b=some o→s'.heap.get? b=some o) s2:=by
    refine comp_loop (g:=g) (bad:=bad) hturn hb R hD hz T.walks (fun h=>?_) (fun h=>?_) (fun n cl e h=>?_) (fun b hb' h=>?_) (fun b hb'=>?_) T.noseq (fun i v hP=>?_) T.lets c2 T.start
    · simp at h
      rcases h with h | h
      · exact nI hgD h
      · exact hba (.inl (h ▸ hD))
    · simp at h
      rcases h with h | h
      · exact nI hL h
      · exact noplace_seq r1.frm ga rfl (.inl h.symm)
    · simp at h
      obtain ⟨v,o,ho,_⟩:=c.rel.frm.cell n cl e
      exact nI ho h
    · simp at hb';subst hb'
      obtain ⟨o,ho⟩:=c.rel.low b h
      exact nI ho rfl
    · simp at hb';subst hb'
      cases e:X.h₀.get? b with
      | none=>rfl
      | some o=>exact absurd rfl (nI (c.rel.base _ _ e))
    · obtain ⟨dd,hd,q⟩:=T.item i v hP
      exact ⟨dd,hd,q.imp fun a _ _ h=>.inl h⟩
  refine wpAny_bind (wpAny_runOwn (codeAny_mono (compStart_gen hg loop (T.walks.self 0 _ _ _ T.start loop)) fun res s' hr=>?_))
  obtain ⟨rfl,c',kp⟩:=hr
  refine wpAny_pure ⟨fun b o h1 h2 e=>kp b o (by simp;exact nI e) h1 h2 (x2.keep _ _ e),c'⟩
theorem ifs_nil {tree:Value→Sem PUnit} {x:PyData} {o:List PyData} {y:Str} {p:Pos} (hk:env.kindOf y=some .local) (hn:ρ.lookup y=none) (h:CmB X k env (aH ρ y (.val x)) tree o):ClB X k env ρ (.Name y p) [] tree x o :=
  ⟨_,true,asgc_name hk,fun z c e=>by
    have n1:z ≠ y:=fun q=>by rw [q,hn] at e;cases e
    rw [put_ne _ n1];exact e,tstl_nil,fun _=>h,fun hb=>by cases hb⟩
end
noncomputable def rlD (r:Rl):PyData:=.tuple [.int r.1,.list (r.2.1.map .int),.int r.2.2]
noncomputable def gU (r:Rl):PyData→List PyData
  | .int x=>(if x=r.1 then r.2.1.map .int else [.int x])
  | _=>[]
theorem gU_data (r:Rl) (X:List Int):(X.map PyData.int).flatMap (gU r)=(aY r.1 r.2.1 X).map .int:=by
  unfold aY
  rw [List.flatMap_map,List.map_flatMap]
  refine flatMap_congr' fun x _=>?_
  show (if x=r.1 then r.2.1.map PyData.int else [PyData.int x])=_
  split <;> rfl
theorem unf_take {P:List Int} {rs:List Rl} {i:Nat} {r:Rl} (h:rs[i]?=some r) (T:List Int):unf P (rs.take (i+1)) T=if r.2.2∈P then aY r.1 r.2.1 (unf P (rs.take i) T) else unf P (rs.take i) T:=by
  unfold unf
  rw [List.take_add_one,h,List.foldl_append];rfl
theorem ev_lenN {X:Cx} {k:Nat} {env:Env} {ρ:List (Str×B)} {x:Str} {ns:List Int} {p p2 p4:Pos} (hx:X.gl ("len":Str)=some (.builtin "len")) (hk:env.kindOf ("len":Str)=some .globalImplicit) (h:aI ρ x (.val (.list (ns.map .int)))) (hz:ns.length≤1000) (hd:(x == ("__debug__":Str))=false:=by decide)
    (hst:starEach [.Name x p2] env=[(false,eval (.Name x p2) env)]:=by rfl):Ev X k env ρ (.Call (.Name "len" p) [.Name x p2] [] p4) (.int ns.length):=by
  have hsl:5000≤sizeLine:=by decide
  rw [show (ns.length:Int)=((ns.map PyData.int).length:Int) by rw [List.length_map]]
  exact ev_len hx hk (bK (aA h hd)) (by rw [List.length_map];lia) hst
section
variable {X:Cx} {k:Nat}
noncomputable abbrev uSt:Stmt:=aD topBody 7
noncomputable abbrev uEnv (a b c:Value) (L f:Addr):Env:=callEnvC (fdLaw 7 "_law_unfold" a b c) L f
structure UI (P T:List Int) (ρ:List (Str×B)):Prop where
  text:aI ρ "text" (.val (.list (T.map .int)))
  parts:aI ρ "parts" (.val (.list (P.map .int)))
theorem unfold_turn {L f:Addr} {a b c:Value} {r:Rl} {T:List Int} {ρ:List (Str×B)} {Q:Fl→List (Str×B)→Prop} (hl:aI ρ "letter" (.val (.int r.1))) (hw:aI ρ "word" (.val (.list (r.2.1.map .int)))) (ht:aI ρ "text" (.val (.list (T.map .int)))) (hz:(aY r.1 r.2.1 T).length≤1000)
    (hq:Q .next (aH ρ "text" (.own ((aY r.1 r.2.1 T).map .int)))) :
    Ex1 X (k+1) (uEnv a b c L f) ρ (aD (ifBody (aD (forBody (aD (aF uSt) 0)) 0)) 0) Q:=by
  have hsl:5000≤sizeLine:=by decide
  rw [← gU_data] at hq
  refine ex_assignCX (ρc:=[("letter",.val (.int r.1)),("word",.val (.list (r.2.1.map .int)))]) (tree:=fun env=>clauseTree _ _ _ _ _ 1 env) (gU r) (items:=T.map .int) (evi_list (aA ht)).weak ⟨rfl,by decide,rfl,by decide,SubL.sub ⟨rfl,rfl,trivial⟩,CapL.cap ⟨⟨fun h=>h,hl,rfl,rfl,_,rfl⟩,⟨fun h=>h,hw,rfl,rfl,_,rfl⟩,trivial⟩⟩ (fun C {A D I P s} h=>turn_mid rfl rfl h) ?hb (by rw [gU_data,List.length_map];lia) (.inl rfl) hq
  case hb =>
    intro C d hd
    obtain ⟨x,hx,rfl⟩:=List.mem_map.mp hd
    refine ifs_nil rfl rfl ?_
    rw [← List.flatMap_singleton' (gU r (.int x))]
    refine cmb_clauseL (tree:=itemTree _ _) (g:=fun d=>[d]) rfl (bG (ev_if (tst_eq (aA (d:=.int x) (by k_mem)) (aA (d:=.int r.1) (by k_mem)) rfl rfl (Nat.succ_pos k)) (fun _=>aA (d:=.list (r.2.1.map .int)) (by k_mem)) (fun _=>ev_list (ds:=[.int x]) (aC (aA (by k_mem)) aG) (by simp only [List.length_cons,List.length_nil];lia))) ?_) (trn_last rfl rfl) (fun d hd=>ifs_nil rfl rfl (cmb_item (aA (by k_mem))))
    · show (if PyData.eqv (.int x) (.int r.1)=true then _ else _)=PyData.list (if x=r.1 then _ else _)
      rw [eqv_int]
      by_cases hc:x=r.1
      · rw [if_pos (decide_eq_true hc),if_pos hc]
      · rw [if_neg (by simpa using hc),if_neg hc]
theorem unfold_walk {L f:Addr} {a b c:Value} {T P:List Int} {rs:List Rl} (hz:∀ i,(unf P (rs.take i) T).length≤1000) :
    Exs X (k+1) (uEnv a b c L f) [("text",.val (.list (T.map .int))),("rules",.val (.list (rs.map rlD))),("parts",.val (.list (P.map .int)))] (aF uSt) fun fl _=>fl=.ret (.list ((unf P rs T).map .int)):=by
  refine aB (ex_for (items:=rs.map rlD) (evi_list (aA (by k_mem))) (fun i ρ=>UI P (unf P (rs.take i) T) ρ) ⟨by k_mem,by k_mem⟩ ?_ ?_)
  · rintro i d ρ₁ hd ⟨h1,h2⟩ Q1 H1
    rw [List.getElem?_map] at hd
    obtain ⟨r,hr,rfl⟩:=Option.map_eq_some_iff.mp hd
    have hzi:=hz (i+1)
    rw [unf_take hr] at H1 hzi
    generalize unf P (rs.take i) T=T' at h1 H1 hzi
    refine ⟨_,asg_tuple (aV (aL (.inr ⟨rfl,_,rfl⟩)) (aV (aL (.inr ⟨rfl,_,rfl⟩)) (aV (aL (.inl rfl)) asgl_nil))) rfl rfl,?_⟩
    refine aB (ex_if (tst_in (v:=r.2.2) (ns:=P) (aA (by k_mem)) (bK (aA (by k_mem)))) (fun hb=>?_) fun hb=>?_)
    · have hc:=of_decide_eq_true hb
      rw [if_pos hc] at H1 hzi
      exact aB (unfold_turn (r:=r) (by k_mem) (by k_mem) (by k_mem) hzi (exs_freeze (x:="text") (by k_mem) (aE (aE (H1.next ⟨by k_mem,by k_mem⟩)))))
    · have hc:=of_decide_eq_false hb
      rw [if_neg hc] at H1
      exact aE (aE (H1.next ⟨by k_mem,by k_mem⟩))
  · rintro ρ₁ ⟨h1,h2⟩
    rw [List.length_map,List.take_length] at h1
    exact aB (ex_return (aA h1) rfl)
end
theorem valueAt_new (kvs:List (Int×Value)) (k:Int) (v:Value) (x:Int):valueAt (stored kvs k v) x=if x=k then some v else valueAt kvs x:=by
  by_cases h:valueAt kvs k=none
  · exact valueAt_stored kvs k v h x
  · have hany:kvs.any (fun kv=>decide (kv.1=k))=true:=by
      unfold valueAt at h
      cases hf:kvs.find? (fun kv=>decide (kv.1=k)) with
      | none=>rw [hf] at h;exact absurd rfl h
      | some p=>exact List.any_eq_true.mpr ⟨p,List.mem_of_find?_eq_some hf,List.find?_some (p:=fun kv:Int×Value=>decide (kv.1=k)) hf⟩
    unfold stored
    rw [if_pos hany]
    clear h
    induction kvs with
    | nil=>cases hany
    | cons p r ih =>
      unfold valueAt at ih ⊢
      rw [List.map_cons,List.find?_cons,List.find?_cons]
      by_cases hp:p.1=k
      · rw [if_pos hp]
        by_cases hx:x=k
        · rw [if_pos hx];simp [hx,hp]
        · rw [if_neg hx]
          have e1:decide (p.1=x)=false:=decide_eq_false (fun q=>hx (q.symm.trans hp))
          simp only [e1]
          by_cases hr:r.any (fun kv=>decide (kv.1=k))=true
          · rw [ih hr,if_neg hx]
          · have:r.map (fun kv=>if kv.1=k then (kv.1,v) else kv)=r:=by
              rw [List.map_congr_left (g:=id) (fun kv hkv=>?_),List.map_id]
              exact if_neg fun q=>hr (List.any_eq_true.mpr ⟨kv,hkv,decide_eq_true q⟩)
            rw [this]
      · rw [if_neg hp]
        have hr:r.any (fun kv=>decide (kv.1=k))=true:=by
          rw [List.any_cons,decide_eq_false hp,Bool.false_or] at hany;exact hany
        by_cases hx:p.1=x
        · have:x ≠ k:=fun q=>hp (hx.trans q)
          simp [hx,this]
        · simp only [decide_eq_false hx];exact ih hr
noncomputable def IntD (kvs:List (Int×Value)) (S:Int→Prop) (f:Int→Int):Prop:=∀ x,S x→∃ t,valueAt kvs x=some (.int (f x) t)
theorem IntD.set {kvs:List (Int×Value)} {S S':Int→Prop} {f:Int→Int} {i c:Int} {t:Tok} (h:IntD kvs S f) (hS:∀ x,S' x→x=i∨S x):IntD (stored kvs i (.int c t)) S' (fun x=>if x=i then c else f x):=fun x hx=>by
  rw [valueAt_new]
  by_cases e:x=i
  · simp only [if_pos e];exact ⟨_,rfl⟩
  · simp only [if_neg e];exact h x ((hS x hx).resolve_left e)
theorem IntD.congr {kvs:List (Int×Value)} {S:Int→Prop} {f g:Int→Int} (h:IntD kvs S f) (e:∀ x,S x→f x=g x):IntD kvs S g:=fun x hx=>by rw [← e x hx];exact h x hx
inductive DN (X:Cx) (key:Str) (d:Addr) (S:Int→Prop) (f:Int→Int) (N:Nat) (ρ:List (Str×B)):Prop
  | mk {o:Obj} {kvs:List (Int×Value)}:aI ρ key (.at d o)→o.IsDictOf (DK X) kvs→IntD kvs S f→kvs.length≤N→DN X key d S f N ρ
theorem DN.pt {X:Cx} {key:Str} {d:Addr} {S:Int→Prop} {f:Int→Int} {N:Nat} {ρ:List (Str×B)} (h:DN X key d S f N ρ) {z:Str} {b:B} (hz:neS key z=true):DN X key d S f N (aH ρ z b):=by
  obtain ⟨h1,h2,h3,h4⟩:=h
  exact ⟨hn h1 hz,h2,h3,h4⟩
theorem DN.congr {X:Cx} {key:Str} {d:Addr} {S:Int→Prop} {f g:Int→Int} {N:Nat} {ρ:List (Str×B)} (h:DN X key d S f N ρ) (e:∀ x,S x→f x=g x):DN X key d S g N ρ:=by
  obtain ⟨h1,h2,h3,h4⟩:=h
  exact ⟨h1,h2,h3.congr e,h4⟩
section
variable {X:Cx} {k:Nat} {env:Env} {ρ:List (Str×B)} {Q:Fl→List (Str×B)→Prop}
theorem ev_dget {x:Str} {px pos:Pos} {e:Expr} {d:Addr} {o:Obj} {kvs:List (Int×Value)} {i c:Int} {t:Tok} (hx:aI ρ x (.raw (.ref d))) (hd:AtO X ρ d o) (ho:o.IsDictOf (DK X) kvs) (hv:valueAt kvs i=some (.int c t)) (he:Ev X k env ρ e (.int i))
    (hdb:(x == ("__debug__":Str))=false:=by decide)
    (hs:∀ a u,subscripted e false (.ref a) (.int i u)=operate [.ref a,.int i u] (getItem (.ref a) (.int i u)):=by intro _ _;with_unfolding_all rfl):Ev X k env ρ (.Subscript (.Name x px) e pos) (.int c):=fun A bad O s R r =>
  Subscript_ ((bB hx hdb).use R r fun s1 x1 r1=>he.use R r1 fun v s2 x2 r2 q2=>by
    refine q2.intE fun u=>?_
    have hD:s2.heap.DictOf (DK X) d kvs:=Heap.dictOf_iff.mpr ⟨o,hd.get r2,ho⟩
    exact tail_any hD.typeIs slot_dict_getitem.lookup (wpAny_getItem_of (intKind_is _ _ i u) hD.mapOf hv ⟨(x1.trans x2).trans (Ext.toks _ _),.int _ _⟩) (hs _ _))
theorem DN.get {key:Str} {d:Addr} {S:Int→Prop} {f:Int→Int} {N:Nat} (D:DN X key d S f N ρ) {x:Str} {px pos:Pos} {e:Expr} {i:Int} (hx:aI ρ x (.raw (.ref d))) (hi:S i) (he:Ev X k env ρ e (.int i))
    (hdb:(x == ("__debug__":Str))=false:=by decide)
    (hs:∀ a u,subscripted e false (.ref a) (.int i u)=operate [.ref a,.int i u] (getItem (.ref a) (.int i u)):=by intro _ _;with_unfolding_all rfl):Ev X k env ρ (.Subscript (.Name x px) e pos) (.int (f i)):=by
  obtain ⟨h1,h2,h3,h4⟩:=D
  obtain ⟨t,hv⟩:=h3 i hi
  exact ev_dget hx (.inl ⟨_,h1⟩) h2 hv he hdb hs
theorem ex_dset {x key:Str} {px p pos:Pos} {i e:Expr} {d:Addr} {j v:Int} {S S':Int→Prop} {f:Int→Int} {N:Nat} (he:Ev X k env ρ e (.int v)) (hx:aI ρ x (.raw (.ref d))) (hi:Ev X k env ρ i (.int j)) (D:DN X key d S f N ρ) (hz:N≤1000) (hS:∀ y,S' y→y=j∨S y)
    (hq:∀ b,DN X key d S' (fun y=>if y=j then v else f y) (N+1) (aH ρ key b)→Q .next (aH ρ key b)) (hd:(x == ("__debug__":Str))=false:=by decide)
    (hs:swapsWith e (some (.Subscript (.Name x px) i p)) pos.line env=pure false:=by rfl):Ex1 X k env ρ (.Assign [.Subscript (.Name x px) i p] e pos) Q:=fun A bad O s R r=>by
  obtain ⟨hk,ho,hI,hN⟩:=D
  have hsl:5000≤sizeLine:=by decide
  refine wpAny_Assign_Subscript (he.use R r fun u s1 x1 r1 q1=>?_) hs
  refine q1.intE fun t=>?_
  refine wpAny_Name (Lk.load r1.ok.kind (r1.raw x _ hx) ?_) hd
  refine hi.use R r1 fun w s3 x3 r3 q3=>?_
  refine q3.intE fun t'=>?_
  refine wpAny_setItem_pairs (hsz:=by lia) (intKind_is _ _ j t') (dictOf_at r3 hk ho) fun h' hD' hs'=>?_
  obtain ⟨o',ho',hd'⟩:=Heap.dictOf_iff.mp hD'
  obtain ⟨st4,r4⟩:=r3.at_change (s':={ s3 with heap:=h',toks:=s3.toks+1 }) hk (fun b ob hb e=>(hs'.2 b hb).trans e) ho' rfl rfl
  exact ⟨.next,_,_,hq _ ⟨Mine.hs,hd',hI.set hS,Nat.le_trans (stored_length_le _ _ _) (Nat.succ_le_succ hN)⟩,rfl,(Step.of_ext (x1.trans x3)).trans st4,r4⟩
theorem Rel.rebase {bad:Addr→Prop} {O:Str→Option Addr} {s:Shared} {key:Str} {a:Addr} {o:Obj} (r:Rel X bad O env ρ s) (hk:ρ.lookup key=some (.at a o)) :
    ∃ h',(∀ b o,X.h₀.get? b=some o→h'.get? b=some o)∧h'.get? a=some o∧Rel (X.on h' X.dat) bad (del O key) env (aH ρ key .free) s:=by
  obtain ⟨hO,hcur⟩:=r.pt _ _ _ hk
  obtain ⟨g1,g2,g3,_⟩:=r.good _ _ hO
  obtain ⟨h',p1,p2⟩:=exists_part s.heap fun b=>(∃ o,X.h₀.get? b=some o)∨b=a
  have sub:∀ b o,X.h₀.get? b=some o→h'.get? b=some o:=fun b o e=>p2 b o (.inl ⟨o,e⟩) (r.base b o e)
  have ha:h'.get? a=some o:=p2 a o (.inr rfl) hcur
  have none':∀ b,X.h₀.get? b=none→b ≠ a→h'.get? b=none:=fun b e hb=>by
    cases q:h'.get? b with
    | none=>rfl
    | some o =>
      rcases (p1 b o q).2 with ⟨o',e'⟩ | z
      · rw [e] at e';cases e'
      · exact absurd z hb
  exact ⟨h',sub,ha,{
    wf:=r.wf.on sub
    base:=fun b o e=>(p1 b o e).1
    gens:=r.gens
    os:=r.os
    ok:=r.ok
    frm:=⟨r.frm.ns,r.frm.cell,r.frm.ne,r.frm.inj,none' _ r.frm.new fun q=>g3 (.inl q.symm),fun n c e=>none' _ (r.frm.newc n c e) fun q=>g3 (.inr ⟨n,q ▸ e⟩)⟩
    holds:=fun y c e=>by
      rcases put_some e with ⟨_,h'⟩ | ⟨hy,e⟩
      · rw [h'];exact .free
      · exact (r.holds y c e).move (fun _ l=>l) (fun _=>del_ne hy) (fun _ _ _ e=>e) fun _ _ _ _ hb e _=>⟨fun h=>hb (badO_del h),e⟩
    inj:=fun y z l e e'=>r.inj y z l (del_some e).2 (del_some e').2
    low:=r.low
    good:=fun y l e=>by
      obtain ⟨hy,e1⟩:=del_some e
      obtain ⟨a1,a2,a3,b,a4,a5⟩:=r.good y l e1
      exact ⟨a1,none' _ a2 fun q=>hy (r.inj y key l e1 (q ▸ hO)),a3,b,hn2 hy a4,a5⟩
    dat:=fun d v e=>(r.dat d v e).keep fun b o _ _ _ e _=>sub b o e }⟩
theorem ev_rebase {key:Str} {a:Addr} {o:Obj} {e:Expr} {i:Int} (hk:ρ.lookup key=some (.at a o)) (h:∀ h',(∀ b o,X.h₀.get? b=some o→h'.get? b=some o)→h'.get? a=some o→Ev (X.on h' X.dat) k env (aH ρ key .free) e (.int i)):Ev X k env ρ e (.int i):=fun A bad O s R r=>by
  obtain ⟨h',sub,ha,r'⟩:=r.rebase hk
  refine wpAny_mono (h h' sub ha A bad (del O key) s R r') (fun v s' p=>⟨p.1,?_⟩) fun _ _ x=>x
  exact p.2.intE (P:=fun v=>Rep (aN bad O) s'.heap (.int i) v) fun t=>.int _ _
theorem evn_dict2 {pos:Pos} {e1 e2 u1 u2:Expr} {a b c d:Int} (h1:Ev X k env ρ e1 (.int a)) (h2:Ev X k env ρ u1 (.int b)) (h3:Ev X k env ρ e2 (.int c)) (h4:Ev X k env ρ u2 (.int d)) (hne:a ≠ c):EvN X k env ρ (.Dict [some e1,some e2] [u1,u2] pos) (fun o=>∃ t t',o.IsDictOf (DK X) [(a,.int b t),(c,.int d t')]):=fun A bad O s R r=>by
  refine wpAny_Dict_walk (knd:=DK X) (by rfl) rfl (by simp) (by simp) ?_
  have r0:=r.ext (Ext.push s { cls:=.type "dict",data:=.dict #[] })
  have hD0:({ s with heap:=s.heap.push { cls:=.type "dict",data:=.dict #[] } }:Shared).heap.DictOf (DK X) s.heap.objs.size []:=Heap.DictOf.new s.heap
  generalize hs0:({ s with heap:=s.heap.push { cls:=.type "dict",data:=.dict #[] } }:Shared)=s0 at *
  have x0:Ext s s0:=hs0 ▸ Ext.push s _
  refine pairTrees_cons_walk (h1.use R r0 fun v1 s1 x1 r1 q1=>h2.use R r1 fun v2 s2 x2 r2 q2=>pairTrees_cons_walk (h3.use R r2 fun v3 s3 x3 r3 q3=>h4.use R r3 fun v4 s4 x4 r4 q4=>pairTrees_nil_walk ?_))
  refine q1.intE fun t1=>q2.intE fun t2=>q3.intE fun t3=>q4.intE fun t4=>?_
  have x04:Ext s0 s4:=((x1.trans x2).trans x3).trans x4
  refine display_done_int (vs:=[(.int a t1,.int b t2),(.int c t3,.int d t4)]) rfl (by simp [intKeyPairs,hne]) (hD0.keep x04.keep) fun h' hm hsb=>?_
  obtain ⟨o',ho',hd'⟩:=Heap.dictOf_iff.mp hm
  refine ⟨⟨fun b o e=>(hsb.2 b fun z=>?_).trans ((x0.trans x04).keep _ _ e),(x0.trans x04).gens,(x0.trans x04).os⟩,_,o',rfl,get_size _,ho',new_low r (Nat.le_refl _),t2,t4,hd'⟩
  rw [z,get_size] at e;cases e
theorem ev_sum {p pos:Pos} {e:Expr} {ns:List Int} (hx:X.gl ("sum":Str)=some (.builtin "sum")) (hk:env.kindOf ("sum":Str)=some .globalImplicit) (he:Ev X (k+1) env ρ e (.list (ns.map .int)))
    (hs:starEach [e] env=[(false,eval e env)]:=by rfl):Ev X (k+1) env ρ (.Call (.Name "sum" p) [e] [] pos) (.int ns.sum):=fun A bad O s R r=>by
  refine wpAny_Call_Name_kw (glob_use r hx hk ?_)
  refine callWith_method1 (wpAny_items_cons (he.use R r fun v s1 x1 r1 q1=>wpAny_items_nil ?_) hs) hs
  refine q1.listE fun l xs n hb' hl q=>?_
  show wpAny _ _ (call (.builtin "sum") [.ref l]) _ _ s1
  refine call_sum_walkG (wpAny_mono (Q:=fun it s2=>Ext s1 s2∧∃ I P St,it=.ref I∧It X A.in1 bad O s1 s2 (ns.map .int) I [I,l] [I] P St) (it_list (X:=X) (bad:=bad) (O:=O) (s:=s1) R.in1 (Ext.refl s1) hl q fun s2 I x2 t=>by obtain ⟨P,St,t⟩:=t;exact ⟨x2,I,P,St,rfl,t⟩) (fun it s2 h2=>?_) fun _ _ x=>x)
  obtain ⟨x2,I,P,St,rfl,T⟩:=h2
  have hps:∀ m,preSum (fun j=>ns.getD j 0) m=(ns.take m).sum:=by
    intro m
    induction m with
    | zero=>rfl
    | succ m ih =>
      show preSum _ m+ns.getD m 0=_
      rw [ih,List.take_add_one,List.getD_eq_getElem?_getD]
      cases ns[m]? <;> simp
  refine ⟨I,[I,l],[I],_,P,St,fun j=>ns.getD j 0,rfl,T.walks,T.start,fun b hb=>?_,fun i v hP=>?_,fun h' tk t' hk'=>?_⟩
  · obtain ⟨o,ho⟩:=T.live 0 _ T.start b hb
    exact Heap.lt_size ho
  · obtain ⟨d,hd,qd⟩:=T.item i v hP
    rw [List.getElem?_map] at hd
    obtain ⟨m,hm,rfl⟩:=Option.map_eq_some_iff.mp hd
    refine qd.intE fun t=>⟨t,?_⟩
    show Value.int m t=Value.int (ns.getD i 0) t
    rw [List.getD_eq_getElem?_getD,hm];rfl
  · rw [hps,List.length_map,List.take_length]
    refine ⟨x1.trans ⟨fun b o e=>hk' b o (fun hb=>?_) (x2.keep _ _ e),x2.gens,x2.os⟩,.int _ _⟩
    rw [T.new b hb] at e;cases e
end
structure LG (X:Cx):Prop where
  df:DF X
  mf:MF X
  mg:MG X
  sm:X.gl ("SequenceMatcher":Str)=some (.ref 242)
  kp:keepIn X.K (.ref 242)=true
  made:makesIn X.K 242=true
  sum:X.gl ("sum":Str)=some (.builtin "sum")
  unf:LDef X 7 251 "_law_unfold" ["text","rules","parts"]
  rules:LDef X 8 258 "_law_rules" ["text","numbers"]
  nodes:LDef X 9 263 "_law_nodes" ["text","rules"]
  told:LDef X 10 270 "_law_told" ["size","edit"]
  ask:LDef X 11 277 "_law_ask" ["a","b"]
theorem makeR_take {ns:List Int} {x:Int}:∀ {i k:Nat} {s:RSt},ns[i]?=some x→makeR k (ns.take (i+1)) s=stepR (k+i) x (makeR k (ns.take i) s):=by
  induction ns with
  | nil=>intro i k s h;cases h
  | cons n ns ih =>
    intro i k s h
    cases i with
    | zero=>cases h;rfl
    | succ i =>
      rw [List.take_succ_cons,List.take_succ_cons]
      show makeR (k+1) (ns.take (i+1)) (stepR k n s)=_
      rw [ih h,show k+1+i=k+(i+1) by lia];rfl
theorem makeR_len {ns:List Int}:∀ {k:Nat} {s:RSt},(makeR k ns s).rules.length≤s.rules.length+ns.length:=by
  induction ns with
  | nil=>intro k s;exact Nat.le_refl _
  | cons n ns ih =>
    intro k s
    have h:=ih (k:=k+1) (s:=stepR k n s)
    have h2:(stepR k n s).rules.length≤s.rules.length+1:=by
      unfold stepR;simp only
      split
      · simp
      · lia
    rw [List.length_cons]
    show (makeR (k+1) ns (stepR k n s)).rules.length≤_
    lia
noncomputable def Old (s:RSt) (v:Int):Prop:=0≤v∧v < 2 * (s.rules.length:Int)+2
theorem fm {a b:Int} (h:0 < b):0≤a.fmod b∧a.fmod b < b:=⟨Int.fmod_nonneg_of_pos _ h,Int.fmod_lt_of_pos _ h⟩
theorem place_pos {m:Int} {n:Nat} (h:0≤m):placeOf m n=m.toNat:=by unfold placeOf;rw [if_neg (by lia)]
theorem wordD (x d:Int) (h:0≤d∧d < 4):[PyData.list ([x].map .int),.list ([x,x].map .int),.list ([x,x+1].map .int),.list ([x,x+1,x].map .int)][placeOf d 4]?=some (.list ((wordOf x d).map .int)):=by
  rw [place_pos h.1]
  have:d=0∨d=1∨d=2∨d=3:=by lia
  rcases this with rfl | rfl | rfl | rfl <;> rfl
section
variable {X:Cx} {k:Nat}
noncomputable abbrev rSt:Stmt:=aD topBody 8
noncomputable abbrev rEnv (a b c:Value) (L f:Addr):Env:=callEnvC (fdLaw 8 "_law_rules" a b c) L f
noncomputable abbrev rBd (i:Nat):Stmt:=aD (forBody (aD (aF rSt) 2)) i
structure RW (X:Cx) (ns:List Int) (d:Addr) (N:Nat) (s:RSt) (ρ:List (Str×B)):Prop where
  text:aI ρ "text" (.val (.list (s.text.map .int)))
  numbers:aI ρ "numbers" (.val (.list (ns.map .int)))
  rules:aI ρ "rules" (.own (s.rules.map rlD))
  whose:aI ρ "whose" (.raw (.ref d))
  dict:DN X "#w" d (Old s) s.whose N ρ
theorem RW.pt {ns:List Int} {d:Addr} {N:Nat} {s:RSt} {ρ:List (Str×B)} (T:RW X ns d N s ρ) {z:Str} {b:B} (h:(neS "text" z && (neS "numbers" z && (neS "rules" z && (neS "whose" z && neS "#w" z))))=true):RW X ns d N s (aH ρ z b):=by
  simp only [Bool.and_eq_true] at h
  exact ⟨hn T.text h.1,hn T.numbers h.2.1,hn T.rules h.2.2.1,hn T.whose h.2.2.2.1,T.dict.pt h.2.2.2.2⟩
structure RV (r:Rl) (x:Int) (ρ:List (Str×B)):Prop where
  letter:aI ρ "letter" (.val (.int r.1))
  word:aI ρ "word" (.val (.list (r.2.1.map .int)))
  part:aI ρ "part" (.val (.int r.2.2))
  x:aI ρ "x" (.val (.int x))
theorem RV.pt {r:Rl} {x:Int} {ρ:List (Str×B)} (T:RV r x ρ) {z:Str} {b:B} (h:(neS "letter" z && (neS "word" z && (neS "part" z && neS "x" z)))=true):RV r x (aH ρ z b):=by
  simp only [Bool.and_eq_true] at h
  exact ⟨hn T.letter h.1,hn T.word h.2.1,hn T.part h.2.2.1,hn T.x h.2.2.2⟩
theorem rules_head (F:LG X) {L f d:Addr} {a b c:Value} {ns:List Int} {s:RSt} {i N:Nat} {n:Int} {Q:Fl→List (Str×B)→Prop} {ρ:List (Str×B)} {ss:List Stmt} (I:RInv X0 s) (W:RW X ns d N s ρ) (hi:ns[i]?=some n) (hk:aI ρ "k" (.val (.int i))) (hN:ns.length≤100) (hr:s.rules.length≤100)
    (hq:∀ ρ',RW X ns d N s ρ'→RV (aW i n s) (2 * (s.rules.length:Int)+2) ρ'→Exs X (k+3) (rEnv a b c L f) ρ' ss Q) :
    Exs X (k+3) (rEnv a b c L f) ρ (rBd 0 :: rBd 1 :: rBd 2 :: rBd 3 :: ss) Q:=by
  have hsl:5000≤sizeLine:=by decide
  obtain ⟨hlt,hge⟩:=List.getElem?_eq_some_iff.mp hi
  have hn:ns.getD i 0=n:=by rw [List.getD_eq_getElem?_getD,hi];rfl
  have num:∀ {ρ:List (Str×B)} {p1 p2 p3:Pos},RW X ns d N s ρ→aI ρ "k" (.val (.int i))→Ev X (k+3) (rEnv a b c L f) ρ (.Subscript (.Name "numbers" p1) (.Name "k" p2) p3) (.int n):=fun W hk =>
    ev_item (n:=(i:Int)) (bK (aA W.numbers)) (aA hk) (by lia) (by rw [List.length_map];lia) (by rw [List.length_map];lia) (by rw [← hn];exact item_int hlt)
  have p12:∀ y:Int,Builtin.divisionGoesByPylong y 12=false:=fun y=>PyProof.noPylong_small (by decide)
  have p3:∀ y:Int,Builtin.divisionGoesByPylong y 3=false:=fun y=>PyProof.noPylong_small (by decide)
  have m2:∀ y:Int,IntMulOk 2 y:=fun y=>.of_left (by decide)
  have ht:0 < s.text.length:=List.length_pos_iff.mpr I.ri.pos
  have ht2:=I.ri.len
  have hm:=fm (a:=n.fdiv 12+2 * (i:Int)) (b:=(s.text.length:Int)) (by lia)
  refine aB (aR (d:=.int (aW i n s).1) (ev_item (ds:=s.text.map .int) (n:=(n.fdiv 12+2 * (i:Int)).fmod s.text.length) (bK (aA W.text)) (ev_mod (aT (ev_div (num W hk) aM (by decide) (p12 _)) (ev_mul aM (aA hk) (m2 _))) (ev_lenN F.df.len rfl W.text (by lia)) (by lia)) (by lia) (by rw [List.length_map];lia) (by rw [List.length_map];lia) ?_) (.inl rfl) ?_)
  · rw [place_pos hm.1,List.getElem?_map]
    have hx:((n.fdiv 12+2 * (i:Int)).fmod s.text.length).toNat < s.text.length:=by lia
    show _=some (PyData.int (s.text.getD _ 0))
    rw [List.getD_eq_getElem?_getD,List.getElem?_eq_getElem hx];rfl
  have hl:(aW i n s).1∈s.text:=by
    show s.text.getD _ 0∈s.text
    have hx:((n.fdiv 12+2 * (i:Int)).fmod s.text.length).toNat < s.text.length:=by lia
    rw [List.getD_eq_getElem?_getD,List.getElem?_eq_getElem hx]
    exact List.getElem_mem hx
  have hold:Old s (aW i n s).1:=I.ri.bnd _ hl
  have W1:=W.pt (z:="letter") (b:=.val (.int (aW i n s).1)) rfl
  have hk1:aI (aH ρ "letter" (.val (.int (aW i n s).1))) "k" (.val (.int i)):=has_skip hk (by decide)
  have hl1:aI (aH ρ "letter" (.val (.int (aW i n s).1))) "letter" (.val (.int (aW i n s).1)):=hs
  generalize aH ρ "letter" (.val (.int (aW i n s).1))=ρ1 at W1 hk1 hl1 ⊢
  clear W hk
  refine aB (aR (d:=.int (2 * (s.rules.length:Int)+2)) (aT (ev_mul aM (by rw [show (s.rules.length:Int)=((s.rules.map rlD).length:Int) by rw [List.length_map]];exact ev_len F.df.len rfl (evs_own W1.rules) (by rw [List.length_map];lia)) (m2 _)) aM) (.inl rfl) ?_)
  have W2:=W1.pt (z:="x") (b:=.val (.int (2 * (s.rules.length:Int)+2))) rfl
  have hk2:aI (aH ρ1 "x" (.val (.int (2 * (s.rules.length:Int)+2)))) "k" (.val (.int i)):=has_skip hk1 (by decide)
  have hl2:aI (aH ρ1 "x" (.val (.int (2 * (s.rules.length:Int)+2)))) "letter" (.val (.int (aW i n s).1)):=has_skip hl1 (by decide)
  have hx2:aI (aH ρ1 "x" (.val (.int (2 * (s.rules.length:Int)+2)))) "x" (.val (.int (2 * (s.rules.length:Int)+2))):=hs
  generalize aH ρ1 "x" (.val (.int (2 * (s.rules.length:Int)+2)))=ρ2 at W2 hk2 hl2 hx2 ⊢
  clear W1 hk1 hl1
  have h4:∀ j,j≤4→j≤sizeLine:=fun j hj=>by lia
  have hd:=fm (a:=n.fdiv 3) (b:=4) (by decide)
  refine aB (aR (d:=.list ((aW i n s).2.1.map .int)) (ev_item (n:=(n.fdiv 3).fmod 4) (ds:=[.list ([2 * (s.rules.length:Int)+2].map .int),.list ([2 * (s.rules.length:Int)+2,2 * (s.rules.length:Int)+2].map .int),.list ([2 * (s.rules.length:Int)+2,2 * (s.rules.length:Int)+2+1].map .int),.list ([2 * (s.rules.length:Int)+2,2 * (s.rules.length:Int)+2+1,2 * (s.rules.length:Int)+2].map .int)])
    (bK (ev_list (aC (ev_list (aC (aA hx2) aG) (h4 1 (by decide))) (aC (ev_list (aC (aA hx2) (aC (aA hx2) aG)) (h4 2 (by decide))) (aC (ev_list (aC (aA hx2) (aC (aT (aA hx2) aM) aG)) (h4 2 (by decide))) (aC (ev_list (aC (aA hx2) (aC (aT (aA hx2) aM) (aC (aA hx2) aG))) (h4 3 (by decide))) aG)))) (h4 4 (by decide))))
    (ev_mod (ev_div (num W2 hk2) aM (by decide) (p3 _)) aM (by decide)) (by simp only [List.length_cons,List.length_nil];lia) (by simp only [List.length_cons,List.length_nil];lia) (h4 4 (by decide)) (wordD _ _ hd)) (.inl rfl) ?_)
  have W3:=W2.pt (z:="word") (b:=.val (.list ((aW i n s).2.1.map .int))) rfl
  have hk3:aI (aH ρ2 "word" (.val (.list ((aW i n s).2.1.map .int)))) "k" (.val (.int i)):=has_skip hk2 (by decide)
  have hl3:aI (aH ρ2 "word" (.val (.list ((aW i n s).2.1.map .int)))) "letter" (.val (.int (aW i n s).1)):=has_skip hl2 (by decide)
  have hx3:aI (aH ρ2 "word" (.val (.list ((aW i n s).2.1.map .int)))) "x" (.val (.int (2 * (s.rules.length:Int)+2))):=has_skip hx2 (by decide)
  have hw3:aI (aH ρ2 "word" (.val (.list ((aW i n s).2.1.map .int)))) "word" (.val (.list ((aW i n s).2.1.map .int))):=hs
  generalize aH ρ2 "word" (.val (.list ((aW i n s).2.1.map .int)))=ρ3 at W3 hk3 hl3 hx3 hw3 ⊢
  clear W2 hk2 hl2 hx2
  refine aB (aR (d:=.int (aW i n s).2.2) (bG (ev_if (aJ (W3.dict.get W3.whose hold (aA hl3)) aM rfl) (fun _=>W3.dict.get W3.whose hold (aA hl3)) (fun _=>ev_mod (num W3 hk3) aM (by decide))) ?_) (.inl rfl) (hq _ (W3.pt rfl) ⟨by k_mem,by k_mem,by k_mem,by k_mem⟩))
  show (if decide _=true then _ else _)=PyData.int (if 0 < s.whose (aW i n s).1 then _ else _)
  by_cases h:0 < s.whose (aW i n s).1
  · rw [if_pos (decide_eq_true h),if_pos h]
    rfl
  · rw [if_neg (by simpa using h),if_neg h]
end
theorem unf_self (r:Rl) (T:List Int):unf [r.2.2] [r] T=aY r.1 r.2.1 T:=if_pos (.head _)
theorem sub1_len {r:Int} {wd:List Int} (hw:wd.length≤3) (hw0:wd ≠ []):∀ T:List Int,(aY r wd T).length≤3 * T.length
  | []=>Nat.le_refl _
  | x :: T=>by
    have h:=sub1_len (r:=r) hw hw0 T
    have e:aY r wd (x :: T)=(if x=r then wd else [x])++aY r wd T:=rfl
    rw [e,List.length_append,List.length_cons]
    split
    · lia
    · rw [List.length_singleton];lia
theorem wordOf_len (x d:Int):(wordOf x d).length≤3:=by
  unfold wordOf
  repeat' split
  all_goals simp
section
variable {X:Cx} {k:Nat}
theorem rules_tail (F:LG X) {L f d:Addr} {a b c:Value} {ns:List Int} {s:RSt} {i N:Nat} {n:Int} {Q:Fl→List (Str×B)→Prop} {ρ:List (Str×B)} (I:RInv X0 s) (W:RW X ns d N s ρ) (V:RV (aW i n s) (2 * (s.rules.length:Int)+2) ρ) (hN:N≤900) (hr:s.rules.length≤100)
    (hq:∀ ρ',RW X ns d (N+2) (stepR i n s) ρ'→Q .next ρ') :
    Exs X (k+3) (rEnv a b c L f) ρ [rBd 4,rBd 5] Q:=by
  have hsl:5000≤sizeLine:=by decide
  have h4:∀ j,j≤4→j≤sizeLine:=fun j hj=>by lia
  have hlen:=I.ri.len
  have hz:=sub1_len (r:=(aW i n s).1) (wd:=(aW i n s).2.1) (wordOf_len _ _) (wordOf_ne _ _) s.text
  have hq:∀ ρ',RW X ns d (N+2) (if (aY (aW i n s).1 (aW i n s).2.1 s.text).length≤40 then { text:=aY (aW i n s).1 (aW i n s).2.1 s.text,rules:=s.rules++[aW i n s],whose:=fun v=>if v=2 * (s.rules.length:Int)+3 then (aW i n s).2.2 else if v=2 * (s.rules.length:Int)+2 then (aW i n s).2.2 else s.whose v } else s) ρ'→Q .next ρ':=hq
  generalize aW i n s=r at V hz hq
  refine aB (aR (d:=.list ((aY r.1 r.2.1 s.text).map .int)) (ev_callB (k:=k+2) (ds:=[.list (s.text.map .int),.list ([r].map rlD),.list ([r.2.2].map .int)]) F.unf rfl (aC (aA W.text) (aC (ev_list (ds:=[rlD r]) (aC (aU (aC (aA V.letter) (aC (aA V.word) (aC (aA V.part) aG))) (h4 3 (by decide))) aG) (h4 1 (by decide))) (aC (ev_list (ds:=[.int r.2.2]) (aC (aA V.part) aG) (h4 1 (by decide))) aG))) rfl fun L a b c=>?_) (.inl rfl) ?_)
  · have h:=unfold_walk (X:=X) (k:=k+1) (L:=L) (f:=251) (a:=a) (b:=b) (c:=c) (T:=s.text) (P:=[r.2.2]) (rs:=[r]) fun j=>by
      cases j with
      | zero=>show s.text.length≤1000;lia
      | succ j=>rw [List.take_succ_cons,List.take_nil,unf_self];lia
    rw [unf_self] at h
    exact h
  have W1:=W.pt (z:="longer") (b:=.val (.list ((aY r.1 r.2.1 s.text).map .int))) rfl
  have V1:=V.pt (z:="longer") (b:=.val (.list ((aY r.1 r.2.1 s.text).map .int))) rfl
  have h1:aI (aH ρ "longer" (.val (.list ((aY r.1 r.2.1 s.text).map .int)))) "longer" (.val (.list ((aY r.1 r.2.1 s.text).map .int))):=hs
  generalize aH ρ "longer" (.val (.list ((aY r.1 r.2.1 s.text).map .int)))=ρ1 at W1 V1 h1 ⊢
  refine aB (ex_if (aJ (ev_lenN F.df.len rfl h1 (by lia)) aM rfl) (fun hb=>?_) fun hb=>?_)
  · have hc:(aY r.1 r.2.1 s.text).length≤40:=by
      have:=of_decide_eq_true hb
      lia
    rw [if_pos hc] at hq
    have hx:∀ y,y=2 * (s.rules.length:Int)+2∨Old s y→True:=fun _ _=>trivial
    refine aB (aR (aA h1) (.inl rfl) ?_)
    refine aB (bF (ds:=s.rules.map rlD) (d:=rlD r) (hn W1.rules rfl) (aU (aC (aA (hn V1.letter rfl)) (aC (aA (hn V1.word rfl)) (aC (aA (hn V1.part rfl)) aG))) (h4 3 (by decide))) (by rw [List.length_map];lia) ?_)
    have ht:aI (aH (aH ρ1 "text" (.val (.list ((aY r.1 r.2.1 s.text).map .int)))) "rules" (.own (s.rules.map rlD++[rlD r]))) "text" (.val (.list ((aY r.1 r.2.1 s.text).map .int))):=by k_mem
    have hru:aI (aH (aH ρ1 "text" (.val (.list ((aY r.1 r.2.1 s.text).map .int)))) "rules" (.own (s.rules.map rlD++[rlD r]))) "rules" (.own ((s.rules++[r]).map rlD)):=by rw [List.map_append];exact hs
    have hnu:aI (aH (aH ρ1 "text" (.val (.list ((aY r.1 r.2.1 s.text).map .int)))) "rules" (.own (s.rules.map rlD++[rlD r]))) "numbers" (.val (.list (ns.map .int))):=hn (hn W1.numbers rfl) rfl
    have hwh:aI (aH (aH ρ1 "text" (.val (.list ((aY r.1 r.2.1 s.text).map .int)))) "rules" (.own (s.rules.map rlD++[rlD r]))) "whose" (.raw (.ref d)):=hn (hn W1.whose rfl) rfl
    have D2:DN X "#w" d (Old s) s.whose N (aH (aH ρ1 "text" (.val (.list ((aY r.1 r.2.1 s.text).map .int)))) "rules" (.own (s.rules.map rlD++[rlD r]))):=(W1.dict.pt rfl).pt rfl
    have V2:RV r (2 * (s.rules.length:Int)+2) (aH (aH ρ1 "text" (.val (.list ((aY r.1 r.2.1 s.text).map .int)))) "rules" (.own (s.rules.map rlD++[rlD r]))):=(V1.pt rfl).pt rfl
    generalize aH (aH ρ1 "text" (.val (.list ((aY r.1 r.2.1 s.text).map .int)))) "rules" (.own (s.rules.map rlD++[rlD r]))=ρ2 at ht hru hnu hwh D2 V2 ⊢
    refine aB (ex_dset (S':=fun v=>v=2 * (s.rules.length:Int)+2∨Old s v) (aA V2.part) hwh (aA V2.x) D2 (by lia) (fun y hy=>hy) fun b D3=>?_)
    refine aB (ex_dset (S':=Old { text:=aY r.1 r.2.1 s.text,rules:=s.rules++[r],whose:=fun v=>if v=2 * (s.rules.length:Int)+3 then r.2.2 else if v=2 * (s.rules.length:Int)+2 then r.2.2 else s.whose v }) (aA (hn V2.part rfl)) (hn hwh rfl) (aT (aA (hn V2.x rfl)) aM) D3 (by lia) (fun y hy=>?_) fun b' D4=>?_)
    · obtain ⟨y0,y1⟩:=hy
      simp only [List.length_append,List.length_singleton] at y1
      by_cases e:y=2 * (s.rules.length:Int)+2+1
      · exact .inl e
      · by_cases e':y=2 * (s.rules.length:Int)+2
        · exact .inr (.inl e')
        · exact .inr (.inr ⟨y0,by lia⟩)
    · refine aE (aE (hq _ ⟨hn (hn ht rfl) rfl,hn (hn hnu rfl) rfl,hn (hn hru rfl) rfl,hn (hn hwh rfl) rfl,D4.congr fun y _=>?_⟩))
      show _=if y=2 * (s.rules.length:Int)+3 then r.2.2 else if y=2 * (s.rules.length:Int)+2 then r.2.2 else s.whose y
      rw [show 2 * (s.rules.length:Int)+2+1=2 * (s.rules.length:Int)+3 by lia]
  · have hc:¬ (aY r.1 r.2.1 s.text).length≤40:=fun h=>by
      have:=of_decide_eq_false hb
      lia
    rw [if_neg hc] at hq
    refine aE (aE (hq _ ⟨W1.text,W1.numbers,W1.rules,W1.whose,?_⟩))
    obtain ⟨a1,a2,a3,a4⟩:=W1.dict
    exact ⟨a1,a2,a3,by lia⟩
theorem rules_walk (F:LG X) {L f:Addr} {a b c:Value} {ns:List Int} (hN:ns.length≤100) :
    Exs X (k+3) (rEnv a b c L f) [("text",.val (.list (X0.map .int))),("numbers",.val (.list (ns.map .int)))] (aF rSt) fun fl _=>fl=.ret (.list ((makeR 0 ns start0).rules.map rlD)):=by
  have hsl:5000≤sizeLine:=by decide
  refine aB (ex_assignF (evf_list aG (by decide)) (.inl rfl) ?_)
  refine aB (ex_assignN "#w" (evn_dict2 aM aM aM aM (by decide)) fun d o hlow ho=>bI (.inl rfl) ?_)
  obtain ⟨t,t',ho⟩:=ho
  have W0:RW X ns d 2 start0 (aH (aH (aH [("text",.val (.list (X0.map .int))),("numbers",.val (.list (ns.map .int)))] "rules" (.own [])) "#w" (.at d o)) "whose" (.raw (.ref d))):=by
    refine ⟨by k_mem,by k_mem,by k_mem,by k_mem,⟨by k_mem,ho,fun x hx=>?_,Nat.le_refl 2⟩⟩
    obtain ⟨x0,x1⟩:=hx
    have:x=0∨x=1:=by simp [start0] at x1;lia
    rcases this with rfl | rfl
    · exact ⟨t,rfl⟩
    · exact ⟨t',rfl⟩
  generalize aH (aH (aH [("text",B.val (.list (X0.map .int))),("numbers",.val (.list (ns.map .int)))] "rules" (.own [])) "#w" (.at d o)) "whose" (.raw (.ref d))=ρ0 at W0 ⊢
  refine aB (ex_for (items:=intsBy 0 1 ns.length) (evi_of_eq (evi_range1 (n:=(ns.length:Int)) F.df.range rfl (ev_lenN F.df.len rfl W0.numbers (by lia)) (by lia)) (by rw [Int.toNat_natCast])) (fun i ρ=>RW X ns d (2+2 * i) (makeR 0 (ns.take i) start0) ρ) W0 ?_ ?_)
  · intro i dd ρ1 hd W Q1 H1
    obtain ⟨j,hj,rfl⟩:=ints_mem (List.mem_of_getElem? hd)
    have hji:j=i:=by
      rw [intsBy_get (by have:=(List.getElem?_eq_some_iff.mp hd).1;rwa [intsBy_length] at this)] at hd
      injection hd with hd;injection hd with hd;lia
    subst hji
    refine ⟨_,aL (.inl rfl),?_⟩
    rw [show 0+(j:Int) * 1=(j:Int) by lia]
    have hx:ns[j]?=some ns[j]:=List.getElem?_eq_getElem hj
    have I:RInv X0 (makeR 0 (ns.take j) start0):=RInv.make _ _ start_inv
    have hr:(makeR 0 (ns.take j) start0).rules.length≤100:=by
      have:=makeR_len (ns:=ns.take j) (k:=0) (s:=start0)
      rw [List.length_take] at this
      simp [start0] at this
      simp only [start0]
      lia
    have hnx:∀ ρ,RW X ns d (2+2 * j+2) (stepR j ns[j] (makeR 0 (ns.take j) start0)) ρ→RW X ns d (2+2 * (j+1)) (makeR 0 (ns.take (j+1)) start0) ρ:=fun ρ h=>by
      rw [makeR_take hx,Nat.zero_add];exact h
    generalize makeR 0 (ns.take j) start0=s at W I hr hnx
    exact rules_head F I (W.pt rfl) hx hs hN hr fun ρ' W' V'=>rules_tail F I W' V' (by lia) hr fun ρ'' W''=>H1.next (hnx _ W'')
  · intro ρ1 W
    rw [intsBy_length,List.take_length] at W
    exact aB (ex_returnOwn W.rules rfl)
end
noncomputable def plF (w:Int→Nat):Nat→List Int→Nat
  | p,[]=>p
  | p,x :: r=>if x < 0 then plF w p r else plF w (p+w x) r
theorem ndF_cons (w:Int→Nat) (p:Nat) (x:Int) (R:List Int):ndF w p (x :: R)=if x < 0 then x :: ndF w p R else (64 * x+(p:Int)) :: ndF w (p+w x) R:=rfl
theorem plF_cons (w:Int→Nat) (p:Nat) (x:Int) (R:List Int):plF w p (x :: R)=if x < 0 then plF w p R else plF w (p+w x) R:=rfl
theorem ndF_append {w:Int→Nat} {B:List Int}:∀ {A:List Int} {p:Nat},ndF w p (A++B)=ndF w p A++ndF w (plF w p A) B
  | [],_=>rfl
  | x :: A,p=>by
    rw [List.cons_append,ndF_cons,ndF_cons,plF_cons]
    split
    · rw [ndF_append];rfl
    · rw [ndF_append];rfl
theorem plF_append {w:Int→Nat} {B:List Int}:∀ {A:List Int} {p:Nat},plF w p (A++B)=plF w (plF w p A) B
  | [],_=>rfl
  | x :: A,p=>by
    rw [List.cons_append,plF_cons,plF_cons]
    split
    · exact plF_append
    · exact plF_append
noncomputable def RlOk (M:Int) (rs:List Rl):Prop:=∀ r∈rs,(0≤r.1∧r.1 < M)∧r.2.1.length≤3∧∀ c∈r.2.1,0≤c∧c < M
theorem sum_cast (f:Int→Nat):∀ l:List Int,(l.map fun c=>(f c:Int)).sum=((l.map f).sum:Nat)
  | []=>rfl
  | x :: l=>by rw [List.map_cons,List.map_cons,List.sum_cons,List.sum_cons,sum_cast f l];rfl
noncomputable def gS (f:Int→Int):PyData→List PyData
  | .int c=>[.int (f c)]
  | _=>[]
theorem gS_data (f:Int→Int) (l:List Int):(l.map PyData.int).flatMap (gS f)=(l.map f).map .int:=by
  rw [List.flatMap_map,List.map_map,List.map_eq_flatMap];rfl
section
variable {X:Cx} {k:Nat}
noncomputable abbrev nSt:Stmt:=aD topBody 9
noncomputable abbrev nEnv (a b c:Value) (L f:Addr):Env:=callEnvC (fdLaw 9 "_law_nodes" a b c) L f
noncomputable abbrev nBd (i:Nat):Stmt:=aD (aF nSt) i
noncomputable def In0 (M:Int) (v:Int):Prop:=0≤v∧v < M
structure NI (X:Cx) (T:List Int) (rs:List Rl) (d:Addr) (S:Int→Prop) (f:Int→Int) (N:Nat) (ρ:List (Str×B)):Prop where
  text:aI ρ "text" (.val (.list (T.map .int)))
  rules:aI ρ "rules" (.val (.list (rs.map rlD)))
  size:aI ρ "size" (.raw (.ref d))
  dict:DN X "#w" d S f N ρ
theorem NI.pt {T:List Int} {rs:List Rl} {d:Addr} {S:Int→Prop} {f:Int→Int} {N:Nat} {ρ:List (Str×B)} (I:NI X T rs d S f N ρ) {z:Str} {b:B} (h:(neS "text" z && (neS "rules" z && (neS "size" z && neS "#w" z)))=true):NI X T rs d S f N (aH ρ z b):=by
  simp only [Bool.and_eq_true] at h
  exact ⟨hn I.text h.1,hn I.rules h.2.1,hn I.size h.2.2.1,I.dict.pt h.2.2.2⟩
theorem nodes_sum (F:LG X) {L f d:Addr} {a b c:Value} {T:List Int} {rs:List Rl} {r:Rl} {S:Int→Prop} {w:Int→Int} {N:Nat} {ρ:List (Str×B)} (I:NI X T rs d S w N ρ) (hw:aI ρ "word" (.val (.list (r.2.1.map .int)))) (hl:r.2.1.length≤3) (hc:∀ c∈r.2.1,S c) :
    Ev X (k+3) (nEnv a b c L f) ρ (asgVal (aD (forBody (nBd 2)) 0)) (.int (r.2.1.map w).sum):=by
  have hsl:5000≤sizeLine:=by decide
  obtain ⟨h1,h2,h3,h4⟩:=I.dict
  refine ev_rebase h1 fun h' sub ha=>?_
  refine ev_sum (k:=k+2) F.sum rfl ?_
  rw [← gS_data]
  refine EvF.ev (evf_comp (ρc:=[("size",.raw (.ref d))]) (items:=r.2.1.map .int) (gS w) (evi_list (aA (hn hw rfl))).weak ⟨rfl,by decide,rfl,by decide,SubL.sub ⟨rfl,trivial⟩,CapL.cap ⟨⟨fun h=>h,hn I.size rfl,rfl,rfl,_,rfl⟩,trivial⟩⟩ ?_ (by rw [gS_data,List.length_map,List.length_map];lia))
  intro C dd hd
  obtain ⟨v,hv,rfl⟩:=List.mem_map.mp hd
  obtain ⟨t,ht⟩:=h3 v (hc v hv)
  exact ifs_nil rfl rfl (cmb_item (ev_dget (by k_mem) (.inr ha) h2 ht (aA (by k_mem))))
theorem nodes_sizes (F:LG X) {L f:Addr} {a b c:Value} {T:List Int} {rs:List Rl} {Q:Fl→List (Str×B)→Prop} (hr:rs.length≤100) (ok:RlOk (2 * (rs.length:Int)+2) rs)
    (hq:∀ ρ d N,NI X T rs d (In0 (2 * (rs.length:Int)+2)) (fun v=>(szF rs v:Int)) N ρ→Exs X (k+3) (nEnv a b c L f) ρ ((aF nSt).drop 3) Q) :
    Exs X (k+3) (nEnv a b c L f) [("text",.val (.list (T.map .int))),("rules",.val (.list (rs.map rlD)))] (aF nSt) Q:=by
  have hsl:5000≤sizeLine:=by decide
  refine aB (ex_assignN "#w" evn_dict fun d o hlow ho=>bI (.inr ⟨rfl,_,rfl⟩) ?_)
  subst ho
  have I0:NI X T rs d (In0 0) (fun _=>1) 0 (aH (aH [("text",.val (.list (T.map .int))),("rules",.val (.list (rs.map rlD)))] "#w" (.at d { cls:=.type "dict",data:=.dict #[] })) "size" (.raw (.ref d))) :=
    ⟨by k_mem,by k_mem,by k_mem,⟨by k_mem,⟨#[],0,⟨rfl,rfl,rfl⟩,rfl,fun _ he=>by simp at he,.nil,by simp⟩,fun x hx=>by have:=hx.1;have:=hx.2;lia,Nat.le_refl 0⟩⟩
  generalize aH (aH [("text",B.val (.list (T.map .int))),("rules",.val (.list (rs.map rlD)))] "#w" (.at d { cls:=.type "dict",data:=.dict #[] })) "size" (.raw (.ref d))=ρ0 at I0 ⊢
  refine aB (ex_for (items:=intsBy 0 1 (2 * rs.length+2)) (evi_of_eq (evi_range1 (n:=2 * (rs.length:Int)+2) F.df.range rfl (aT (ev_mul aM (by rw [show (rs.length:Int)=((rs.map rlD).length:Int) by rw [List.length_map]];exact ev_len F.df.len rfl (bK (aA I0.rules)) (by rw [List.length_map];lia)) (.of_left (by decide))) aM) (by lia)) (by congr 1)) (fun i ρ=>NI X T rs d (In0 i) (fun _=>1) i ρ) I0 ?_ ?_)
  · intro i dd ρ1 hd I Q1 H1
    have hlt:=(List.getElem?_eq_some_iff.mp hd).1
    rw [intsBy_length] at hlt
    rw [intsBy_get hlt] at hd
    injection hd with hd
    subst hd
    refine ⟨_,aL (.inl rfl),?_⟩
    have I1:=I.pt (z:="x") (b:=.val (.int (0+(i:Int) * 1))) rfl
    have hx:aI (aH ρ1 "x" (.val (.int (0+(i:Int) * 1)))) "x" (.val (.int (0+(i:Int) * 1))):=hs
    generalize aH ρ1 "x" (.val (.int (0+(i:Int) * 1)))=ρ2 at I1 hx ⊢
    refine aB (ex_dset (S':=In0 ((i+1:Nat):Int)) aM I1.size (aA hx) I1.dict (by lia) (fun y hy=>?_) fun b D=>aE (H1.next ⟨hn I1.text rfl,hn I1.rules rfl,hn I1.size rfl,D.congr fun y _=>?_⟩))
    · obtain ⟨y0,y1⟩:=hy
      by_cases e:y=0+(i:Int) * 1
      · exact .inl e
      · exact .inr ⟨y0,by lia⟩
    · split <;> rfl
  intro ρ1 I
  rw [intsBy_length] at I
  have I:NI X T rs d (In0 (2 * (rs.length:Int)+2)) (fun v=>(szF (rs.drop (rs.length - 0)) v:Int)) (2 * rs.length+2+0) ρ1:=by
    rw [Nat.sub_zero,List.drop_length]
    exact ⟨I.text,I.rules,I.size,I.dict⟩
  refine aB (ex_for (items:=(rs.map rlD).reverse) (evi_list (bG (ev_slice (bK (aA I.rules)) evp_none evp_none (evp_some (ev_neg aM)) (by decide) (by rw [List.length_map];lia)) (by rw [pickD_rev]))) (fun i ρ=>i≤rs.length∧NI X T rs d (In0 (2 * (rs.length:Int)+2)) (fun v=>(szF (rs.drop (rs.length - i)) v:Int)) (2 * rs.length+2+i) ρ) ⟨Nat.zero_le _,I⟩ ?_ ?_)
  · rintro i dd ρ2 hd ⟨hi,I⟩ Q1 H1
    have hlt:=(List.getElem?_eq_some_iff.mp hd).1
    rw [List.length_reverse,List.length_map] at hlt
    rw [← List.map_reverse,List.getElem?_map,List.getElem?_reverse hlt] at hd
    obtain ⟨r,hr',rfl⟩:=Option.map_eq_some_iff.mp hd
    have hm:=List.mem_of_getElem? hr'
    obtain ⟨k1,k2,k3⟩:=ok r hm
    have hdr:rs.drop (rs.length - (i+1))=r :: rs.drop (rs.length - i):=by
      rw [show rs.length - (i+1)=rs.length - 1 - i by lia,List.drop_eq_getElem_cons (by lia),show rs.length - 1 - i+1=rs.length - i by lia]
      congr 1
      exact (List.getElem?_eq_some_iff.mp hr').2
    refine ⟨_,asg_tuple (aV (aL (.inl rfl)) (aV (aL (.inl rfl)) (aV (aL (.inl rfl)) asgl_nil))) rfl rfl,?_⟩
    have I1:=((I.pt (z:="letter") (b:=.val (.int r.1)) rfl).pt (z:="word") (b:=.val (.list (r.2.1.map .int))) rfl).pt (z:="part") (b:=.val (.int r.2.2)) rfl
    have hl:aI (aH (aH (aH ρ2 "letter" (.val (.int r.1))) "word" (.val (.list (r.2.1.map .int)))) "part" (.val (.int r.2.2))) "letter" (.val (.int r.1)):=by k_mem
    have hw:aI (aH (aH (aH ρ2 "letter" (.val (.int r.1))) "word" (.val (.list (r.2.1.map .int)))) "part" (.val (.int r.2.2))) "word" (.val (.list (r.2.1.map .int))):=by k_mem
    generalize aH (aH (aH ρ2 "letter" (.val (.int r.1))) "word" (.val (.list (r.2.1.map .int)))) "part" (.val (.int r.2.2))=ρ3 at I1 hl hw ⊢
    have hs:=nodes_sum (k:=k) (L:=L) (f:=f) (a:=a) (b:=b) (c:=c) F I1 hw k2 k3
    refine aB (ex_dset (S':=In0 (2 * (rs.length:Int)+2)) hs I1.size (aA hl) I1.dict (by lia) (fun y hy=>.inr hy) fun b D=>aE (H1.next ⟨hlt,hn I1.text rfl,hn I1.rules rfl,hn I1.size rfl,D.congr fun y _=>?_⟩))
    rw [hdr,szF_cons]
    split
    · exact sum_cast _ _
    · rfl
  · rintro ρ2 ⟨_,I⟩
    rw [List.length_reverse,List.length_map,Nat.sub_self,List.drop_zero] at I
    exact hq _ _ _ I
theorem nodes_walk (F:LG X) {L f:Addr} {a b c:Value} {T:List Int} {rs:List Rl} (hr:rs.length≤100) (ok:RlOk (2 * (rs.length:Int)+2) rs) (hT:∀ v∈T,v < 2 * (rs.length:Int)+2) (hz:T.length≤1000) :
    Exs X (k+3) (nEnv a b c L f) [("text",.val (.list (T.map .int))),("rules",.val (.list (rs.map rlD)))] (aF nSt) fun fl _=>fl=.ret (.list ((ndF (szF rs) 0 T).map .int)):=by
  have hsl:5000≤sizeLine:=by decide
  refine nodes_sizes F hr ok fun ρ d N I=>?_
  refine aB (ex_assignF (evf_list aG (by decide)) (.inl rfl) ?_)
  refine aB (aR (d:=.int 0) aM (.inl rfl) ?_)
  refine aB (ex_for (items:=T.map .int) (evi_list (aA (hn (hn I.text rfl) rfl))) (fun i ρ=>NI X T rs d (In0 (2 * (rs.length:Int)+2)) (fun v=>(szF rs v:Int)) N ρ∧aI ρ "nodes" (.own ((ndF (szF rs) 0 (T.take i)).map .int))∧aI ρ "place" (.val (.int (plF (szF rs) 0 (T.take i))))) ⟨(I.pt rfl).pt rfl,by k_mem,by k_mem⟩ ?_ ?_)
  · rintro i dd ρ1 hd ⟨I,h1,h2⟩ Q1 H1
    rw [List.getElem?_map] at hd
    obtain ⟨x,hx,rfl⟩:=Option.map_eq_some_iff.mp hd
    have hxT:=hT x (List.mem_of_getElem? hx)
    have e:T.take (i+1)=T.take i++[x]:=by rw [List.take_add_one,hx];rfl
    have hl:(ndF (szF rs) 0 (T.take i)).length≤1000:=by rw [ndF_length,List.length_take];lia
    rw [e,ndF_append,plF_append,List.map_append] at H1
    generalize plF (szF rs) 0 (T.take i)=p at h2 H1
    generalize ndF (szF rs) 0 (T.take i)=ns at h1 hl H1
    refine ⟨_,aL (.inl rfl),?_⟩
    have hz':(ns.map PyData.int).length≤sizeLine:=by rw [List.length_map];lia
    refine aB (ex_if (aJ (aA (d:=.int x) (by k_mem)) aM rfl) (fun hb=>?_) fun hb=>?_)
    · have hc:x < 0:=of_decide_eq_true hb
      have e1:ndF (szF rs) p [x]=[x]:=if_pos hc
      have e2:plF (szF rs) p [x]=p:=if_pos hc
      rw [e1,e2] at H1
      exact aB (bF (ds:=ns.map .int) (d:=.int x) (by k_mem) (aA (by k_mem)) hz' (aE (aE (H1.next ⟨(I.pt rfl).pt rfl,by k_mem,by k_mem⟩))))
    · have hc:¬ x < 0:=of_decide_eq_false hb
      have e1:ndF (szF rs) p [x]=[64 * x+(p:Int)]:=if_neg hc
      have e2:plF (szF rs) p [x]=p+szF rs x:=if_neg hc
      rw [e1,e2] at H1
      refine aB (bF (ds:=ns.map .int) (d:=.int (64 * x+(p:Int))) (by k_mem) (aT (ev_mul aM (aA (d:=.int x) (by k_mem)) (.of_left (by decide))) (aA (d:=.int p) (by k_mem))) hz' ?_)
      have I2:=(I.pt (z:="x") (b:=.val (.int x)) rfl).pt (z:="nodes") (b:=.own (ns.map .int++[.int (64 * x+(p:Int))])) rfl
      refine aB (ex_iadd (a:=(p:Int)) (b:=(szF rs x:Int)) (by k_mem) (I2.dict.get I2.size ⟨Int.not_lt.mp hc,hxT⟩ (aA (by k_mem))) (.inl rfl) (aE (aE (H1.next ⟨I2.pt rfl,by k_mem,?_⟩))))
      rw [show ((p+szF rs x:Nat):Int)=(p:Int)+(szF rs x:Int) from rfl]
      exact hs
  · rintro ρ1 ⟨I,h1,h2⟩
    rw [List.length_map,List.take_length] at h1
    exact aB (ex_returnOwn h1 rfl)
end
noncomputable abbrev notDbg (x:Str):Bool:=!(x == ("__debug__":Str))
noncomputable def evA (N:List (Str×Int)):Nat→Expr→Option Int
  | 0,_=>none
  | n+1,e=>match e with
    | .Constant (.int i) _ _=>some i
    | .Name x _=>if notDbg x then N.lookup x else none
    | .BinOp l .Add r _=>match evA N n l,evA N n r with
      | some a,some b=>some (a+b)
      | _,_=>none
    | .BinOp l .Sub r _=>match evA N n l,evA N n r with
      | some a,some b=>some (a - b)
      | _,_=>none
    | .BinOp (.Constant (.int i) _ _) .Mult r _=>if Builtin.Int.intBits i≤64 then (match evA N n r with
      | some b=>some (i * b)
      | _=>none) else none
    | .UnaryOp .USub x _=>match evA N n x with
      | some a=>some (-a)
      | _=>none
    | _=>none
section
variable {X:Cx} {k:Nat} {env:Env} {ρ:List (Str×B)}
noncomputable def NumsAt (ρ:List (Str×B)) (N:List (Str×Int)):Prop:=∀ x v,N.lookup x=some v→aI ρ x (.val (.int v))
theorem ev_A {N:List (Str×Int)} (hN:NumsAt ρ N):∀ {n:Nat} {e:Expr} {v:Int},evA N n e=some v→Ev X k env ρ e (.int v)
  | 0,_,_,h=>by cases h
  | n+1,e,v,h=>by
    unfold evA at h
    split at h
    · cases h;exact aM
    · split at h
      · rename_i hd;exact aA (hN _ _ h) (by simpa [notDbg] using hd)
      · cases h
    · split at h
      · rename_i h1 h2;cases h;exact aT (ev_A hN h1) (ev_A hN h2)
      · cases h
    · split at h
      · rename_i h1 h2;cases h;exact ev_sub (ev_A hN h1) (ev_A hN h2)
      · cases h
    · split at h
      · rename_i hb
        split at h
        · rename_i h1;cases h;exact ev_mul aM (ev_A hN h1) (.of_left hb)
        · cases h
      · cases h
    · split at h
      · rename_i h1;cases h;exact ev_neg (ev_A hN h1)
      · cases h
    · cases h
noncomputable def evAs (N:List (Str×Int)):List Expr→Option (List Int)
  | []=>some []
  | e :: r=>match evA N 6 e,evAs N r with
    | some a,some b=>some (a :: b)
    | _,_=>none
noncomputable def plainE:Expr→Bool
  | .Starred _ _=>false
  | _=>true
theorem star_plain {e:Expr} {r:List Expr} (h:plainE e=true):starEach (e :: r) env=(false,eval e env) :: starEach r env:=by
  cases e <;> first | rfl | cases h
theorem evA_plain {N:List (Str×Int)} {n:Nat} {e:Expr} {v:Int} (h:evA N n e=some v):plainE e=true:=by
  cases e <;> first | rfl | (cases n <;> cases h)
theorem evl_As {N:List (Str×Int)} (hN:NumsAt ρ N) {pos:Pos}:∀ {es:List Expr} {ns:List Int},evAs N es=some ns→EvL X k env ρ pos es (ns.map .int)
  | [],_,h=>by cases h;exact aG
  | e :: r,_,h=>by
    unfold evAs at h
    split at h
    · rename_i h1 h2;cases h;exact aC (ev_A hN h1) (evl_As hN h2) (star_plain (evA_plain h1))
    · cases h
noncomputable def evLs (N:List (Str×List Int)):Nat→Expr→Option (List Int)
  | 0,_=>none
  | n+1,e=>match e with
    | .Name x _=>if notDbg x then N.lookup x else none
    | .BinOp l .Add r _=>match evLs N n l,evLs N n r with
      | some a,some b=>some (a++b)
      | _,_=>none
    | .List es _=>evAs [] es
    | _=>none
noncomputable def ListsAt (ρ:List (Str×B)) (N:List (Str×List Int)):Prop:=∀ x v,N.lookup x=some v→aI ρ x (.val (.list (v.map .int)))
theorem ev_Ls {N:List (Str×List Int)} (hN:ListsAt ρ N):∀ {n:Nat} {e:Expr} {v:List Int},evLs N n e=some v→v.length≤5000→Ev X k env ρ e (.list (v.map .int))
  | 0,_,_,h,_=>by cases h
  | n+1,e,v,h,hz=>by
    have hsl:5000≤sizeLine:=by decide
    unfold evLs at h
    split at h
    · split at h
      · rename_i hd;exact aA (hN _ _ h) (by simpa [notDbg] using hd)
      · cases h
    · split at h
      · rename_i a b h1 h2
        cases h
        rw [List.length_append] at hz
        rw [List.map_append]
        exact ev_cat (bK (ev_Ls hN h1 (by lia))) (bK (ev_Ls hN h2 (by lia))) (by rw [List.length_map,List.length_map];lia)
      · cases h
    · exact ev_list (evl_As (fun _ _ q=>by cases q) h) (by rw [List.length_map];lia)
    · cases h
theorem evLs_plain {N:List (Str×List Int)} {n:Nat} {e:Expr} {v:List Int} (h:evLs N n e=some v):plainE e=true:=by
  cases e <;> first | rfl | (cases n <;> cases h)
noncomputable def aO (t:Str) (a b c d:Int):PyData:=.tuple [.str t,.int a,.int b,.int c,.int d]
noncomputable def codeA (N:List (Str×Int)):Expr→Option PyData
  | .Tuple [.Constant (.str t) _ _,e1,e2,e3,e4] _ _=>match evA N 6 e1,evA N 6 e2,evA N 6 e3,evA N 6 e4 with
    | some a,some b,some c,some d=>some (aO t a b c d)
    | _,_,_,_=>none
  | _=>none
noncomputable def codesA (N:List (Str×Int)):List Expr→Option (List PyData)
  | []=>some []
  | e :: r=>match codeA N e,codesA N r with
    | some a,some b=>some (a :: b)
    | _,_=>none
theorem ev_codeA {N:List (Str×Int)} (hN:NumsAt ρ N) {e:Expr} {d:PyData} (h:codeA N e=some d):Ev X k env ρ e d:=by
  have hsl:5000≤sizeLine:=by decide
  unfold codeA at h
  split at h
  · split at h
    · rename_i h1 h2 h3 h4
      cases h
      exact aU (aC ev_str (aC (ev_A hN h1) (aC (ev_A hN h2) (aC (ev_A hN h3) (aC (ev_A hN h4) aG (star_plain (evA_plain h4))) (star_plain (evA_plain h3))) (star_plain (evA_plain h2))) (star_plain (evA_plain h1)))) (by simp only [List.length_cons,List.length_nil];lia)
    · cases h
  · cases h
theorem codeA_plain {N:List (Str×Int)} {e:Expr} {d:PyData} (h:codeA N e=some d):plainE e=true:=by
  cases e <;> first | rfl | cases h
theorem evl_codesA {N:List (Str×Int)} (hN:NumsAt ρ N) {pos:Pos}:∀ {es:List Expr} {ds:List PyData},codesA N es=some ds→EvL X k env ρ pos es ds
  | [],_,h=>by cases h;exact aG
  | e :: r,_,h=>by
    unfold codesA at h
    split at h
    · rename_i h1 h2;cases h;exact aC (ev_codeA hN h1) (evl_codesA hN h2) (star_plain (codeA_plain h1))
    · cases h
end
section
variable {X:Cx} {k:Nat} {env:Env} {ρ:List (Str×B)}
theorem ask_walk (F:LG X) {L f:Addr} {a b c:Value} {as bs:List Int} (hza:as.length≤1000) (hzb:bs.length≤1000) (h64:(ro (mm as bs) (bH as bs)).length < 64) :
    Exs X (k+6) (callEnvC (fdLaw 11 "_law_ask" a b c) L f) [("a",.val (.list (as.map .int))),("b",.val (.list (bs.map .int)))] (aF (aD topBody 11)) fun fl _=>fl=.ret (.list (opc as.length bs.length 0 0 (ro (mm as bs) (bH as bs)))) :=
  aB (ex_return (ev_opcodes F.df F.mf F.mg F.sm F.kp F.made rfl (aA (by k_mem)) (aA (by k_mem)) hza hzb h64) rfl)
theorem ev_ask (F:LG X) {p pos:Pos} {e e':Expr} {as bs:List Int} (hk:env.kindOf ("_law_ask":Str)=some .globalImplicit) (h1:Ev X (k+7) env ρ e (.list (as.map .int))) (h2:Ev X (k+7) env ρ e' (.list (bs.map .int))) (p1:plainE e=true) (p2:plainE e'=true)
    (hza:as.length≤1000) (hzb:bs.length≤1000) (h64:(ro (mm as bs) (bH as bs)).length < 64):Ev X (k+7) env ρ (.Call (.Name "_law_ask" p) [e,e'] [] pos) (.list (opc as.length bs.length 0 0 (ro (mm as bs) (bH as bs)))) :=
  ev_callB (k:=k+6) (ds:=[.list (as.map .int),.list (bs.map .int)]) F.ask hk (aC h1 (aC h2 aG (star_plain p2)) (star_plain p1)) rfl (fun L a b c=>ask_walk F hza hzb h64) (by decide) (star_plain p1)
end
noncomputable def tailN:List Int:=[9,4,8,-19]
noncomputable abbrev iD (l:List Int):PyData:=.list (l.map .int)
theorem sub1_ge {r:Int} {wd:List Int} (hw:wd ≠ []):∀ T:List Int,T.length≤(aY r wd T).length
  | []=>Nat.le_refl _
  | x :: T=>by
    have h:=sub1_ge (r:=r) hw T
    have h1:=List.length_pos_iff.mpr hw
    have e:aY r wd (x :: T)=(if x=r then wd else [x])++aY r wd T:=rfl
    rw [e,List.length_append,List.length_cons]
    split
    · lia
    · rw [List.length_singleton];lia
theorem unf_ge {P:List Int}:∀ {rs:List Rl},(∀ r∈rs,r.2.1 ≠ [])→∀ T:List Int,T.length≤(unf P rs T).length
  | [],_,T=>Nat.le_refl _
  | r :: rs,h,T=>by
    have h:=List.forall_mem_cons.mp h
    show _≤(unf P rs (if r.2.2∈P then aY r.1 r.2.1 T else T)).length
    refine Nat.le_trans ?_ (unf_ge h.2 _)
    split
    · exact sub1_ge h.1 _
    · exact Nat.le_refl _
theorem unf_cut {P:List Int} {rs:List Rl} (i:Nat) (T:List Int):unf P rs T=unf P (rs.drop i) (unf P (rs.take i) T):=by
  unfold unf
  rw [← List.foldl_append,List.take_append_drop]
theorem ROk.mem:∀ {rs:List Rl} {k:Nat},ROk k rs→∀ r∈rs,0≤r.1∧r.1 < 2 * ((k+rs.length:Nat):Int)+2∧r.2.1 ≠ []∧∀ c∈r.2.1,0≤c∧c < 2 * ((k+rs.length:Nat):Int)+2:=by
  intro rs
  induction rs with
  | nil=>intro k _ r h;cases h
  | cons q rs ih =>
    intro k ok
    refine List.forall_mem_cons.mpr ⟨?_,fun r h=>?_⟩
    · obtain ⟨h1,h2,h3,h4⟩:=ok.1
      rw [List.length_cons]
      refine ⟨h1,by lia,h3,fun c hc=>?_⟩
      rcases h4 c hc with e | e <;> lia
    · have:=ih ok.2 r h
      rw [List.length_cons,show k+(rs.length+1)=k+1+rs.length by lia]
      exact this
theorem makeR_word {ns:List Int}:∀ {k:Nat} {s:RSt},(∀ r∈s.rules,r.2.1.length≤3)→∀ r∈(makeR k ns s).rules,r.2.1.length≤3:=by
  induction ns with
  | nil=>intro k s h;exact h
  | cons n ns ih =>
    intro k s h
    refine ih (k:=k+1) (s:=stepR k n s) ?_
    unfold stepR
    simp only
    split
    · intro r hr
      rcases List.mem_append.mp hr with hr | hr
      · exact h r hr
      · rw [List.mem_singleton.mp hr];exact wordOf_len _ _
    · exact h
structure Gd (rs:List Rl):Prop where
  inv:∃ s,s.rules=rs∧RInv X0 s
  ok:RlOk (2 * (rs.length:Int)+2) rs
  len:rs.length≤100
  short:∀ P,(unf P rs X0).length≤40
  cut:∀ P i,(unf P (rs.take i) X0).length≤1000
  bnd:∀ P,∀ v∈unf P rs X0,0≤v∧v < 2 * (rs.length:Int)+2
theorem gd_of {ns:List Int} (hn:ns.length≤100):Gd (makeR 0 ns start0).rules:=by
  have I:=RInv.make (X0:=X0) ns 0 start_inv
  have hw:=makeR_word (ns:=ns) (k:=0) (s:=start0) (fun r h=>nomatch h)
  have hl:=makeR_len (ns:=ns) (k:=0) (s:=start0)
  have hl:(makeR 0 ns start0).rules.length≤100:=by
    have e:start0.rules.length=0:=rfl
    lia
  generalize makeR 0 ns start0=s at I hw hl
  have hm:=I.ri.ok.mem
  rw [Nat.zero_add] at hm
  have hs:∀ P,(unf P s.rules X0).length≤40:=fun P=>Nat.le_trans (I.ri.short P) I.ri.len
  refine ⟨⟨s,rfl,I⟩,fun r hr=>⟨⟨(hm r hr).1,(hm r hr).2.1⟩,hw r hr,(hm r hr).2.2.2⟩,hl,hs,fun P i=>?_,fun P v hv=>?_⟩
  · have h:=hs P
    rw [unf_cut i] at h
    have h2:=unf_ge (P:=P) (rs:=s.rules.drop i) (fun r hr=>(hm r (List.mem_of_mem_drop hr)).2.2.1) (unf P (s.rules.take i) X0)
    lia
  · have h:=Bnd.unf (parts:=P) I.ri.ok start_bnd v hv
    rw [Nat.zero_add] at h
    exact h
noncomputable def verL (rs:List Rl):List (List Int):=[bL rs 0,bL rs 1,bL rs 2,bL rs 3,bL rs 4]
section
variable {X:Cx} {k:Nat}
noncomputable abbrev lEnv (z1 z2 z3:Value) (L f:Addr):Env:=callEnvC (fdLaw 12 "law" z1 z2 z3) L f
noncomputable abbrev lBody:List Stmt:=aF (aD topBody 12)
theorem ev_unf (F:LG X) {L f:Addr} {z1 z2 z3:Value} {rs:List Rl} {ρ:List (Str×B)} {P:List Int} {es:List Expr} {p p1 p2 p3 p4:Pos} (G:Gd rs) (h1:aI ρ "text" (.val (iD X0))) (h2:aI ρ "rules" (.val (.list (rs.map rlD)))) (hP:evAs [] es=some P) (hz:P.length≤1000) :
    Ev X (k+10) (lEnv z1 z2 z3 L f) ρ (.Call (.Name "_law_unfold" p) [.Name "text" p1,.Name "rules" p2,.List es p3] [] p4) (iD (unf P rs X0)):=by
  have hsl:5000≤sizeLine:=by decide
  exact ev_callB (k:=k+9) (ds:=[iD X0,.list (rs.map rlD),iD P]) F.unf rfl (aC (aA h1) (aC (aA h2) (aC (ev_list (evl_As (fun _ _ q=>by cases q) hP) (by rw [List.length_map];lia)) aG))) rfl fun L a b c=>unfold_walk (k:=k+8) (G.cut P)
theorem law_head (F:LG X) {L f sa:Addr} {z1 z2 z3:Value} {vs:Array Value} {ns:List Int} {Q:Fl→List (Str×B)→Prop} (ha:X.h₀.IsList sa vs) (hv:IntsAre vs.toList ns) (hn:ns.length≤63)
    (hrest:∀ ρ rs,Gd rs→aI ρ "rules" (.val (.list (rs.map rlD)))→aI ρ "versions" (.own ((verL rs).map iD))→Exs X (k+10) (lEnv z1 z2 z3 L f) ρ (lBody.drop 6) Q) :
    Exs X (k+10) (lEnv z1 z2 z3 L f) [("script",.raw (.ref sa))] lBody Q:=by
  have hsl:5000≤sizeLine:=by decide
  have h4:∀ j,j≤5→j≤sizeLine:=fun j hj=>by lia
  have hnl:(ns++tailN).length≤100:=by rw [List.length_append];simp [tailN];lia
  refine aB (aR (d:=iD X0) (ev_list (evl_As (N:=[]) (fun _ _ q=>by cases q) rfl) (h4 5 (by decide))) (.inl rfl) ?_)
  have hs0:aI (aH [("script",B.raw (.ref sa))] "text" (.val (iD X0))) "script" (.raw (.ref sa)):=by k_mem
  have ht0:aI (aH [("script",B.raw (.ref sa))] "text" (.val (iD X0))) "text" (.val (iD X0)):=hs
  generalize aH [("script",B.raw (.ref sa))] "text" (.val (iD X0))=ρ0 at hs0 ht0 ⊢
  refine aB (aR (d:=.list ((makeR 0 (ns++tailN) start0).rules.map rlD)) (ev_callB (k:=k+9) (ds:=[iD X0,iD (ns++tailN)]) F.rules rfl (aC (aA ht0) (aC (bG (ev_catI hs0 ha hv (bK (ev_list (evl_As (N:=[]) (ns:=tailN) (fun _ _ q=>by cases q) rfl) (h4 4 (by decide)))) ?_) ?_) aG)) rfl fun L a b c=>rules_walk (k:=k+6) F hnl) (.inl rfl) ?_)
  · rw [List.length_map];show ns.length+4≤sizeLine;lia
  · show _=PyData.list ((ns++tailN).map .int)
    rw [List.map_append]
  have G:=gd_of hnl
  generalize (makeR 0 (ns++tailN) start0).rules=rs at G ⊢
  have ht1:aI (aH ρ0 "rules" (.val (.list (rs.map rlD)))) "text" (.val (iD X0)):=by k_mem
  have hr1:aI (aH ρ0 "rules" (.val (.list (rs.map rlD)))) "rules" (.val (.list (rs.map rlD))):=hs
  generalize aH ρ0 "rules" (.val (.list (rs.map rlD)))=ρ1 at ht1 hr1 ⊢
  refine aB (ex_assignF (ds:=[bL rs 0,bL rs 1].map iD) (evf_list (aC (aA ht1) (aC (ev_unf F G ht1 hr1 rfl (by decide)) aG)) (h4 2 (by decide))) (.inl rfl) ?_)
  have ht2:aI (aH ρ1 "versions" (.own ([bL rs 0,bL rs 1].map iD))) "text" (.val (iD X0)):=by k_mem
  have hr2:aI (aH ρ1 "versions" (.own ([bL rs 0,bL rs 1].map iD))) "rules" (.val (.list (rs.map rlD))):=by k_mem
  have hv2:aI (aH ρ1 "versions" (.own ([bL rs 0,bL rs 1].map iD))) "versions" (.own ([bL rs 0,bL rs 1].map iD)):=hs
  generalize aH ρ1 "versions" (.own ([bL rs 0,bL rs 1].map iD))=ρ2 at ht2 hr2 hv2 ⊢
  have one:∀ {ρ:List (Str×B)} {i:Int} {n:Nat} {p1 p2 p3:Pos},Ev X (k+10) (lEnv z1 z2 z3 L f) ρ (.List [.UnaryOp .USub (.Constant (.int i) n p1) p2] p3) (.list [.int (-i)]):=ev_list (aC (ev_neg aM) aG) (h4 1 (by decide))
  have z:∀ P,((unf P rs X0).map PyData.int).length≤40:=fun P=>by rw [List.length_map];exact G.short P
  refine aB (bF (ds:=[bL rs 0,bL rs 1].map iD) (d:=iD (bL rs 2)) hv2 (ev_cat (ds:=[.int (-1)]) (es:=(unf [0,1] rs X0).map .int) (bK one) (bK (ev_unf F G ht2 hr2 rfl (by decide))) (by have:=z [0,1];simp only [List.length_cons,List.length_nil];lia)) (h4 2 (by decide)) ?_)
  have ht3:aI (aH ρ2 "versions" (.own ([bL rs 0,bL rs 1].map iD++[iD (bL rs 2)]))) "text" (.val (iD X0)):=by k_mem
  have hr3:aI (aH ρ2 "versions" (.own ([bL rs 0,bL rs 1].map iD++[iD (bL rs 2)]))) "rules" (.val (.list (rs.map rlD))):=by k_mem
  have hv3:aI (aH ρ2 "versions" (.own ([bL rs 0,bL rs 1].map iD++[iD (bL rs 2)]))) "versions" (.own ([bL rs 0,bL rs 1,bL rs 2].map iD)):=hs
  generalize aH ρ2 "versions" (.own ([bL rs 0,bL rs 1].map iD++[iD (bL rs 2)]))=ρ3 at ht3 hr3 hv3 ⊢
  refine aB (bF (ds:=[bL rs 0,bL rs 1,bL rs 2].map iD) (d:=iD (bL rs 3)) hv3 (bG (ev_cat (ds:=(unf [0,2] rs X0).map .int) (es:=[.int (-2)]) (bK (ev_unf F G ht3 hr3 rfl (by decide))) (bK one) (by have:=z [0,2];simp only [List.length_cons,List.length_nil];lia)) ?_) (h4 3 (by decide)) ?_)
  · show _=PyData.list ((unf [0,2] rs X0++[-2]).map .int)
    rw [List.map_append];rfl
  have ht4:aI (aH ρ3 "versions" (.own ([bL rs 0,bL rs 1,bL rs 2].map iD++[iD (bL rs 3)]))) "text" (.val (iD X0)):=by k_mem
  have hr4:aI (aH ρ3 "versions" (.own ([bL rs 0,bL rs 1,bL rs 2].map iD++[iD (bL rs 3)]))) "rules" (.val (.list (rs.map rlD))):=by k_mem
  have hv4:aI (aH ρ3 "versions" (.own ([bL rs 0,bL rs 1,bL rs 2].map iD++[iD (bL rs 3)]))) "versions" (.own ([bL rs 0,bL rs 1,bL rs 2,bL rs 3].map iD)):=hs
  generalize aH ρ3 "versions" (.own ([bL rs 0,bL rs 1,bL rs 2].map iD++[iD (bL rs 3)]))=ρ4 at ht4 hr4 hv4 ⊢
  refine aB (bF (ds:=[bL rs 0,bL rs 1,bL rs 2,bL rs 3].map iD) (d:=iD (bL rs 4)) hv4 (bG (ev_cat (ds:=[.int (-1)]++(unf [0,1,2] rs X0).map .int) (es:=[.int (-2)]) (bK (ev_cat (ds:=[.int (-1)]) (es:=(unf [0,1,2] rs X0).map .int) (bK one) (bK (ev_unf F G ht4 hr4 rfl (by decide))) (by have:=z [0,1,2];simp only [List.length_cons,List.length_nil];lia))) (bK one) (by have:=z [0,1,2];simp only [List.length_append,List.length_cons,List.length_nil];lia)) ?_) (h4 4 (by decide)) ?_)
  · show _=PyData.list ((-1 :: (unf [0,1,2] rs X0++[-2])).map .int)
    rw [List.map_cons,List.map_append];rfl
  exact hrest _ rs G (by k_mem) hs
end
theorem ver_len {rs:List Rl} (G:Gd rs) (i:Nat):(bL rs i).length≤42:=by
  obtain ⟨P,hd,lst,e⟩:=ver_eq rs i
  have h:=G.short P
  rw [e]
  unfold vers
  cases hd <;> cases lst <;> simp <;> lia
theorem ver_bnd {rs:List Rl} (G:Gd rs) (i:Nat):∀ v∈bL rs i,v < 2 * (rs.length:Int)+2:=by
  obtain ⟨P,hd,lst,e⟩:=ver_eq rs i
  rw [e]
  intro v hv
  rcases mem_vers.mp hv with ⟨_,rfl⟩ | h | ⟨_,rfl⟩
  · lia
  · exact (G.bnd P v h).2
  · lia
theorem verL_get {rs:List Rl} {i:Nat} {A:List Int} (h:(verL rs)[i]?=some A):A=bL rs i:=by
  unfold verL at h
  match i with
  | 0=>cases h;rfl
  | 1=>cases h;rfl
  | 2=>cases h;rfl
  | 3=>cases h;rfl
  | 4=>cases h;rfl
  | i+5=>cases h
structure PairOk (rs:List Rl) (A B:List Int):Prop where
  ed:bA (idxs (ndF (szF rs) 0 A) (ndF (szF rs) 0 B)) 0 (ro (mm A B) (bH A B))
  cnt:(ro (mm A B) (bH A B)).length < 64
theorem pair_ok {rs:List Rl} (G:Gd rs) (i j:Nat):PairOk rs (bL rs i) (bL rs j):=by
  have h1:=ver_len G i
  obtain ⟨s,rfl,I⟩:=G.inv
  exact ⟨ver_edit I i j,by have:=(ro_count (bL s.rules i) (bL s.rules j)).1;lia⟩
section
variable {X:Cx} {k:Nat}
noncomputable abbrev aBody:List Stmt:=forBody (aD lBody 6)
noncomputable abbrev bBody:List Stmt:=forBody (aD aBody 1)
structure PI (rs:List Rl) (ρ:List (Str×B)):Prop where
  rules:aI ρ "rules" (.val (.list (rs.map rlD)))
  versions:aI ρ "versions" (.val (.list ((verL rs).map iD)))
theorem PI.pt {rs:List Rl} {ρ:List (Str×B)} (I:PI rs ρ) {z:Str} {b:B} (h:(neS "rules" z && neS "versions" z)=true):PI rs (aH ρ z b):=by
  simp only [Bool.and_eq_true] at h
  exact ⟨hn I.rules h.1,hn I.versions h.2⟩
structure VA (A nx:List Int) (ρ:List (Str×B)):Prop where
  a:aI ρ "a" (.val (iD A))
  nodes:aI ρ "nodes" (.val (iD nx))
theorem VA.pt {A nx:List Int} {ρ:List (Str×B)} (I:VA A nx ρ) {z:Str} {b:B} (h:(neS "a" z && neS "nodes" z)=true):VA A nx (aH ρ z b):=by
  simp only [Bool.and_eq_true] at h
  exact ⟨hn I.a h.1,hn I.nodes h.2⟩
theorem ev_nodes (F:LG X) {L f:Addr} {z1 z2 z3:Value} {rs:List Rl} {i:Nat} {x:Str} {ρ:List (Str×B)} {p p1 p2 p3:Pos} (G:Gd rs) (hx:aI ρ x (.val (iD (bL rs i)))) (I:PI rs ρ) (hd:(x == ("__debug__":Str))=false:=by decide) :
    Ev X (k+10) (lEnv z1 z2 z3 L f) ρ (.Call (.Name "_law_nodes" p) [.Name x p1,.Name "rules" p2] [] p3) (iD (ndF (szF rs) 0 (bL rs i))) :=
  ev_callB (k:=k+9) (ds:=[iD (bL rs i),.list (rs.map rlD)]) F.nodes rfl (aC (aA hx hd) (aC (aA I.rules) aG)) rfl fun L a b c=>nodes_walk (k:=k+6) F G.len G.ok (ver_bnd G i) (Nat.le_trans (ver_len G i) (by decide))
theorem pair_turn (F:LG X) {L f:Addr} {z1 z2 z3:Value} {rs:List Rl} {i j:Nat} {ρ:List (Str×B)} {Q:Fl→List (Str×B)→Prop} (G:Gd rs) (I:PI rs ρ) (W:VA (bL rs i) (ndF (szF rs) 0 (bL rs i)) ρ) (hb:aI ρ "b" (.val (iD (bL rs j))))
    (hq:∀ ρ',PI rs ρ'→VA (bL rs i) (ndF (szF rs) 0 (bL rs i)) ρ'→Q .next ρ'):Exs X (k+10) (lEnv z1 z2 z3 L f) ρ bBody Q:=by
  have hsl:5000≤sizeLine:=by decide
  have la:=ver_len G i
  have lb:=ver_len G j
  have E:=pair_ok G i j
  have hnx:(ndF (szF rs) 0 (bL rs i)).length=(bL rs i).length:=ndF_length
  have hny:(ndF (szF rs) 0 (bL rs j)).length=(bL rs j).length:=ndF_length
  have hnod:∀ p p1 p2 p3:Pos,Ev X (k+10) (lEnv z1 z2 z3 L f) ρ (.Call (.Name "_law_nodes" p) [.Name "b" p1,.Name "rules" p2] [] p3) (iD (ndF (szF rs) 0 (bL rs j))):=fun _ _ _ _=>ev_nodes F G hb I
  obtain ⟨e1,e2⟩:=E
  generalize ndF (szF rs) 0 (bL rs i)=nx at *
  generalize ndF (szF rs) 0 (bL rs j)=ny at *
  generalize bL rs i=A at *
  generalize bL rs j=B at *
  have hil:=idxs_len nx ny
  refine aB (ex_assignC (ρc:=[("nodes",.val (iD nx))]) (items:=ny.map .int) (gI nx) (evi_list (hnod _ _ _ _)).weak ⟨rfl,by decide,rfl,by decide,SubL.sub ⟨rfl,trivial⟩,CapL.cap ⟨⟨fun h=>h,W.nodes,rfl,rfl,_,rfl⟩,trivial⟩⟩ ?hb (by rw [gI_data,List.length_map];lia) (.inl rfl) ?_)
  case hb =>
    intro C d hd
    obtain ⟨v,hv,rfl⟩:=List.mem_map.mp hd
    refine ifs_nil rfl rfl (cmb_item (bG (ev_if (tst_in (v:=v) (ns:=nx) (aA (by k_mem)) (bK (aA (by k_mem)))) (fun hb=>ev_index (ns:=nx) (v:=v) (bK (aA (by k_mem))) (aA (by k_mem)) (of_decide_eq_true hb) (by lia)) (fun _=>ev_neg aM)) ?_))
    by_cases hc:v∈nx
    · rw [if_pos hc,if_pos (decide_eq_true hc)]
    · rw [if_neg hc,if_neg (by simpa using hc)]
  rw [gI_data]
  have I1:=(I.pt (z:="edit") (b:=.own ((idxs nx ny).map .int)) rfl).pt (z:="edit") (b:=.val (iD (idxs nx ny))) rfl
  have W1:=(W.pt (z:="edit") (b:=.own ((idxs nx ny).map .int)) rfl).pt (z:="edit") (b:=.val (iD (idxs nx ny))) rfl
  have hb1:aI (aH (aH ρ "edit" (.own ((idxs nx ny).map .int))) "edit" (.val (iD (idxs nx ny)))) "b" (.val (iD B)):=by k_mem
  have he1:aI (aH (aH ρ "edit" (.own ((idxs nx ny).map .int))) "edit" (.val (iD (idxs nx ny)))) "edit" (.val (iD (idxs nx ny))):=hs
  refine exs_freeze (x:="edit") (by k_mem) ?_
  change Exs X (k+10) _ (aH (aH ρ "edit" (.own ((idxs nx ny).map .int))) "edit" (.val (iD (idxs nx ny)))) _ _
  generalize aH (aH ρ "edit" (.own ((idxs nx ny).map .int))) "edit" (.val (iD (idxs nx ny)))=ρ1 at I1 W1 hb1 he1 ⊢
  have hro:=ro_spec (mm A B) (Nat.zero_le A.length) (Nat.zero_le B.length)
  refine aB (ex_if (tst_of_eq (b':=false) (tst_ne (db:=.list (opc A.length B.length 0 0 (ro (mm A B) (bH A B)))) (ev_ask (k:=k+3) F rfl (aA W1.a) (aA hb1) rfl rfl (by lia) (by lia) e2) (ev_callB (k:=k+9) (ds:=[.int A.length,iD (idxs nx ny)]) F.told rfl (aC (ev_lenN F.df.len rfl W1.a (by lia)) (aC (aA he1) aG)) rfl fun L a b c=>?_) (opc_shaped _ _ _ _ _) (opc_shaped _ _ _ _ _) (by lia)) ?_) (fun hb=>by cases hb) fun _=>aE (aE (hq _ I1 W1)))
  · have hw:=told_walk (X:=X) (k:=k+9) (L:=L) (f:=270) (a:=a) (b:=b) (c:=c) F.df.len (la:=A.length) (ed:=idxs nx ny) (bs:=ro (mm A B) (bH A B)) (by rw [hil,hny];exact hro.good') e1 (by lia) (by have:=opc_len (la:=A.length) (lb:=(idxs nx ny).length) (ro (mm A B) (bH A B)) 0 0;lia)
    rw [hil,hny] at hw
    exact hw
  · rw [eqv_self (opc_shaped _ _ _ _ _)];rfl
theorem law_pairs (F:LG X) {L f:Addr} {z1 z2 z3:Value} {rs:List Rl} {ρ:List (Str×B)} {Q:Fl→List (Str×B)→Prop} (G:Gd rs) (I:PI rs ρ)
    (hrest:∀ ρ',PI rs ρ'→Exs X (k+10) (lEnv z1 z2 z3 L f) ρ' (lBody.drop 7) Q):Exs X (k+10) (lEnv z1 z2 z3 L f) ρ (lBody.drop 6) Q:=by
  refine aB (ex_for (items:=(verL rs).map iD) (evi_list (aA I.versions)) (fun _ ρ=>PI rs ρ) I ?_ fun ρ1 I=>hrest _ I)
  intro i d ρ1 hd I Q1 H1
  rw [List.getElem?_map] at hd
  obtain ⟨A,hA,rfl⟩:=Option.map_eq_some_iff.mp hd
  obtain rfl:=verL_get hA
  refine ⟨_,aL (.inl rfl),aB (aR (ev_nodes F G hs (I.pt rfl)) (.inr ⟨rfl,_,rfl⟩) ?_)⟩
  have I1:=(I.pt (z:="a") (b:=.val (iD (bL rs i))) rfl).pt (z:="nodes") (b:=.val (iD (ndF (szF rs) 0 (bL rs i)))) rfl
  have W1:VA (bL rs i) (ndF (szF rs) 0 (bL rs i)) (aH (aH ρ1 "a" (.val (iD (bL rs i)))) "nodes" (.val (iD (ndF (szF rs) 0 (bL rs i))))):=⟨by k_mem,by k_mem⟩
  generalize aH (aH ρ1 "a" (.val (iD (bL rs i)))) "nodes" (.val (iD (ndF (szF rs) 0 (bL rs i))))=ρ2 at I1 W1 ⊢
  refine aB (ex_for (items:=(verL rs).map iD) (evi_list (aA I1.versions)) (fun _ ρ=>PI rs ρ∧VA (bL rs i) (ndF (szF rs) 0 (bL rs i)) ρ) ⟨I1,W1⟩ ?_ fun ρ3 J=>aE (H1.next J.1))
  rintro j d ρ3 hd ⟨I3,W3⟩ Q2 H2
  rw [List.getElem?_map] at hd
  obtain ⟨B,hB,rfl⟩:=Option.map_eq_some_iff.mp hd
  obtain rfl:=verL_get hB
  exact ⟨_,aL (.inl rfl),pair_turn F G (I3.pt rfl) (W3.pt rfl) hs fun ρ' I' W'=>H2.next ⟨I',W'⟩⟩
end
theorem gap0 {i ai j bj:Nat} (h1:i=ai) (h2:j=bj):gap i ai j bj=[]:=if_pos ⟨h1,h2⟩
theorem gapI {i ai j bj:Nat} (h1:ai=i) (h2:j ≠ bj):gap i ai j bj=[code "insert" i ai j bj]:=by
  unfold gap;rw [if_neg fun h=>h2 h.2,if_pos h1]
theorem gapD {i ai j bj:Nat} (h1:ai ≠ i) (h2:j=bj):gap i ai j bj=[code "delete" i ai j bj]:=by
  unfold gap;rw [if_neg fun h=>h1 h.1.symm,if_neg h1,if_pos h2]
theorem gapR {i ai j bj:Nat} (h1:ai ≠ i) (h2:j ≠ bj):gap i ai j bj=[code "replace" i ai j bj]:=by
  unfold gap;rw [if_neg fun h=>h2 h.2,if_neg h1,if_neg h2]
theorem aP {t:Str} {a b c d:Nat} {a' b' c' d':Int} {l l':List PyData} (h1:(a:Int)=a') (h2:(b:Int)=b') (h3:(c:Int)=c') (h4:(d:Int)=d') (h:l=l'):code t a b c d :: l=aO t a' b' c' d' :: l':=by
  subst h1 h2 h3 h4 h;rfl
theorem opc_one {la lb ai bj n:Nat}:opc la lb 0 0 [(ai,bj,n)]=gap 0 ai 0 bj++code "equal" ai (ai+n) bj (bj+n) :: gap (ai+n) la (bj+n) lb:=rfl
structure Ask (A B:List Int) (D:List PyData):Prop where
  za:A.length≤1000
  zb:B.length≤1000
  cnt:(ro (mm A B) (bH A B)).length < 64
  told:opc A.length B.length 0 0 (ro (mm A B) (bH A B))=D
structure Ls (J R S:List Int):Prop where
  hJ:Nn J
  hR:Nn R
  hS:Nn S
  lR:R.length≤J.length
  lS:S.length≤J.length
  lJ:J.length≤40
section
variable {J R S:List Int} {n m s:Nat} (H:Ls J R S) (en:n=J.length+2) (em:m=R.length+2) (es:s=S.length+2)
include H en
theorem told1:Ask (jn J) ((jn J++[-3])++jn J) [aO "equal" 0 n 0 n,aO "insert" n n n (2 * n+1)]:=by
  have hz:=bE J
  have lJ:=H.lJ
  have hw:=whole_l (Z:=jn J) (D:=-3 :: jn J) (by lia)
  rw [show (jn J++[-3])++jn J=jn J++(-3 :: jn J) by rw [List.append_assoc];rfl]
  refine ⟨by lia,by rw [List.length_append,List.length_cons];lia,by rw [hw];exact (by decide:1 < 64),?_⟩
  rw [hw,opc_one,List.length_append,List.length_cons,gap0 rfl rfl,gapI (by lia) (by lia)]
  exact aP (by lia) (by lia) (by lia) (by lia) (aP (by lia) (by lia) (by lia) (by lia) rfl)
theorem told2:Ask ((jn J++[-3])++jn J) (jn J) [aO "equal" 0 n 0 n,aO "delete" n (2 * n+1) n n]:=by
  have hz:=bE J
  have lJ:=H.lJ
  have hw:=whole_r (Z:=jn J) (D:=-3 :: jn J) (by lia)
  rw [show (jn J++[-3])++jn J=jn J++(-3 :: jn J) by rw [List.append_assoc];rfl]
  refine ⟨by rw [List.length_append,List.length_cons];lia,by lia,by rw [hw];exact (by decide:1 < 64),?_⟩
  rw [hw,opc_one,List.length_append,List.length_cons,gap0 rfl rfl,gapD (by lia) (by lia)]
  exact aP (by lia) (by lia) (by lia) (by lia) (aP (by lia) (by lia) (by lia) (by lia) rfl)
theorem told3:Ask ((jn J++[-3])++(jn J).map (·+1000)) (((jn J).map (·+1000)++[-4,-4])++jn J) [aO "insert" 0 0 0 (n+2),aO "equal" 0 n (n+2) (2 * n+2),aO "delete" n (2 * n+1) (2 * n+2) (2 * n+2)]:=by
  have hz:=bE J
  have lJ:=H.lJ
  have hl:((jn J).map (·+1000)).length=J.length+2:=by rw [List.length_map,hz]
  have hT:∀ v∈(jn J).map (·+1000),0≤v:=fun v hv=>by
    obtain ⟨u,hu,rfl⟩:=List.mem_map.mp hv
    have:=jn_ge H.hJ hu
    lia
  generalize (jn J).map (·+1000)=T at hl hT
  have hw:=ask_twin H.hJ hT hl
  rw [show (jn J++[-3])++T=jn J++(-3 :: T) by rw [List.append_assoc];rfl]
  refine ⟨by rw [List.length_append,List.length_cons];lia,by rw [List.length_append,List.length_append];simp only [List.length_cons,List.length_nil];lia,by rw [hw];exact (by decide:1 < 64),?_⟩
  rw [hw,opc_one,List.length_append,List.length_cons,List.length_append,List.length_append,gapI rfl (by lia),gapD (by lia) (by simp only [List.length_cons,List.length_nil];lia)]
  simp only [List.length_cons,List.length_nil]
  exact aP (by lia) (by lia) (by lia) (by lia) (aP (by lia) (by lia) (by lia) (by lia) (aP (by lia) (by lia) (by lia) (by lia) rfl))
theorem told7:Ask (([-5]++jn J)++[-6]) (([-5,-3]++jn J)++[-4,-6]) ([aO "equal" 0 1 0 1,aO "insert" 1 1 1 2,aO "equal" 1 (n+1) 2 (n+2)]++[aO "insert" (n+1) (n+1) (n+2) (n+3),aO "equal" (n+1) (n+2) (n+3) (n+4)]):=by
  have hz:=bE J
  have lJ:=H.lJ
  have hw:=(ask_ends H.hJ).1
  rw [List.append_assoc,List.append_assoc]
  refine ⟨by simp only [List.length_append,List.length_cons,List.length_nil];lia,by simp only [List.length_append,List.length_cons,List.length_nil];lia,by rw [hw];exact (by decide:3 < 64),?_⟩
  rw [hw]
  show gap 0 0 0 0++code "equal" 0 (0+1) 0 (0+1) :: (gap (0+1) 1 (0+1) 2++code "equal" 1 (1+(J.length+2)) 2 (2+(J.length+2)) :: (gap (1+(J.length+2)) (J.length+3) (2+(J.length+2)) (J.length+5)++code "equal" (J.length+3) (J.length+3+1) (J.length+5) (J.length+5+1) :: gap (J.length+3+1) _ (J.length+5+1) _))=_
  rw [gap0 rfl rfl,gapI (by lia) (by lia),gapI (by lia) (by lia),gap0 (by simp only [List.length_append,List.length_cons,List.length_nil];lia) (by simp only [List.length_append,List.length_cons,List.length_nil];lia)]
  exact aP (by lia) (by lia) (by lia) (by lia) (aP (by lia) (by lia) (by lia) (by lia) (aP (by lia) (by lia) (by lia) (by lia) (aP (by lia) (by lia) (by lia) (by lia) (aP (by lia) (by lia) (by lia) (by lia) rfl))))
theorem told8:Ask (([-5,-3]++jn J)++[-4,-6]) (([-5]++jn J)++[-6]) [aO "equal" 0 1 0 1,aO "delete" 1 2 1 1,aO "equal" 2 (n+2) 1 (n+1),aO "delete" (n+2) (n+3) (n+1) (n+1),aO "equal" (n+3) (n+4) (n+1) (n+2)]:=by
  have hz:=bE J
  have lJ:=H.lJ
  have hw:=(ask_ends H.hJ).2
  rw [List.append_assoc,List.append_assoc]
  refine ⟨by simp only [List.length_append,List.length_cons,List.length_nil];lia,by simp only [List.length_append,List.length_cons,List.length_nil];lia,by rw [hw];exact (by decide:3 < 64),?_⟩
  rw [hw]
  show gap 0 0 0 0++code "equal" 0 (0+1) 0 (0+1) :: (gap (0+1) 2 (0+1) 1++code "equal" 2 (2+(J.length+2)) 1 (1+(J.length+2)) :: (gap (2+(J.length+2)) (J.length+5) (1+(J.length+2)) (J.length+3)++code "equal" (J.length+5) (J.length+5+1) (J.length+3) (J.length+3+1) :: gap (J.length+5+1) _ (J.length+3+1) _))=_
  rw [gap0 rfl rfl,gapD (by lia) (by lia),gapD (by lia) (by lia),gap0 (by simp only [List.length_append,List.length_cons,List.length_nil];lia) (by simp only [List.length_append,List.length_cons,List.length_nil];lia)]
  exact aP (by lia) (by lia) (by lia) (by lia) (aP (by lia) (by lia) (by lia) (by lia) (aP (by lia) (by lia) (by lia) (by lia) (aP (by lia) (by lia) (by lia) (by lia) (aP (by lia) (by lia) (by lia) (by lia) rfl))))
include es in
theorem told6:Ask (((S++[-2])++[-3])++jn J) (jn J++(S++[-2])) [aO "delete" 0 s 0 0,aO "equal" s (s+n) 0 n,aO "insert" (s+n) (s+n) n (n+s - 1)]:=by
  have hz:=bE J
  have lJ:=H.lJ
  have lS:=H.lS
  have hw:=ask_branch H.hJ H.hS H.lS
  refine ⟨by simp only [List.length_append,List.length_cons,List.length_nil];lia,by simp only [List.length_append,List.length_cons,List.length_nil];lia,by rw [hw];exact (by decide:1 < 64),?_⟩
  rw [hw,opc_one]
  simp only [List.length_append,List.length_cons,List.length_nil]
  rw [gapD (by lia) (by lia),gapI (by lia) (by lia)]
  exact aP (by lia) (by lia) (by lia) (by lia) (aP (by lia) (by lia) (by lia) (by lia) (aP (by lia) (by lia) (by lia) (by lia) rfl))
include em
theorem told4:Ask ((jn J++[-3])++(-1 :: R)) ((-1 :: R)++jn J) [aO "insert" 0 0 0 (m - 1),aO "equal" 0 n (m - 1) (m+n - 1),aO "delete" n (n+m) (m+n - 1) (m+n - 1)]:=by
  have hz:=bE J
  have lJ:=H.lJ
  have lR:=H.lR
  have hw:=ask_trunk H.hJ H.hR H.lR
  rw [show (jn J++[-3])++(-1 :: R)=jn J++(-3 :: -1 :: R) by rw [List.append_assoc];rfl]
  refine ⟨by simp only [List.length_append,List.length_cons];lia,by simp only [List.length_append,List.length_cons];lia,by rw [hw];exact (by decide:1 < 64),?_⟩
  rw [hw,opc_one]
  simp only [List.length_append,List.length_cons]
  rw [gapI (by lia) (by lia),gapD (by lia) (by lia)]
  exact aP (by lia) (by lia) (by lia) (by lia) (aP (by lia) (by lia) (by lia) (by lia) (aP (by lia) (by lia) (by lia) (by lia) rfl))
theorem told5:Ask ((-1 :: R)++jn J) ((jn J++[-3])++(-1 :: R)) [aO "delete" 0 (m - 1) 0 0,aO "equal" (m - 1) (m+n - 1) 0 n,aO "insert" (m+n - 1) (m+n - 1) n (n+m)]:=by
  have hz:=bE J
  have lJ:=H.lJ
  have lR:=H.lR
  have hw:=ask_trunk' H.hJ H.hR H.lR
  rw [show (jn J++[-3])++(-1 :: R)=jn J++(-3 :: -1 :: R) by rw [List.append_assoc];rfl]
  refine ⟨by simp only [List.length_append,List.length_cons];lia,by simp only [List.length_append,List.length_cons];lia,by rw [hw];exact (by decide:1 < 64),?_⟩
  rw [hw,opc_one]
  simp only [List.length_append,List.length_cons]
  rw [gapD (by lia) (by lia),gapI (by lia) (by lia)]
  exact aP (by lia) (by lia) (by lia) (by lia) (aP (by lia) (by lia) (by lia) (by lia) (aP (by lia) (by lia) (by lia) (by lia) rfl))
theorem told9:Ask (((([-5]++jn J)++[-3])++(-1 :: R))++[-6]) (((([-7]++(-1 :: R))++[-4])++jn J)++[-8]) [aO "replace" 0 1 0 (m+1),aO "equal" 1 (n+1) (m+1) (m+n+1),aO "replace" (n+1) (n+m+2) (m+n+1) (m+n+2)] ∧
    Ask (((([-7]++(-1 :: R))++[-4])++jn J)++[-8]) (((([-5]++jn J)++[-3])++(-1 :: R))++[-6]) [aO "replace" 0 (m+1) 0 1,aO "equal" (m+1) (m+n+1) 1 (n+1),aO "replace" (m+n+1) (m+n+2) (n+1) (n+m+2)]:=by
  have hz:=bE J
  have lJ:=H.lJ
  have lR:=H.lR
  have hw:=ask_ahead H.hJ H.hR H.lR
  have eA:((([-5]++jn J)++[-3])++(-1 :: R))++[-6]=[-5]++(jn J++(-3 :: (-1 :: R++[-6]))):=by simp only [List.append_assoc,List.cons_append,List.nil_append]
  have eB:((([-7]++(-1 :: R))++[-4])++jn J)++[-8]=(-7 :: (-1 :: R++[-4]))++(jn J++[-8]):=by simp only [List.append_assoc,List.cons_append,List.nil_append]
  have lA:([-5]++(jn J++(-3 :: (-1 :: R++[-6])))).length=n+m+2:=by simp only [List.length_append,List.length_cons,List.length_nil];lia
  have lB:((-7 :: (-1 :: R++[-4]))++(jn J++[-8])).length=m+n+2:=by simp only [List.length_append,List.length_cons,List.length_nil];lia
  rw [eA,eB]
  obtain ⟨h1,h2⟩:=hw
  refine ⟨⟨by lia,by lia,by rw [h1];exact (by decide:1 < 64),?_⟩,⟨by lia,by lia,by rw [h2];exact (by decide:1 < 64),?_⟩⟩
  · rw [h1,opc_one,lA,lB,gapR (by lia) (by lia),gapR (by lia) (by lia)]
    exact aP (by lia) (by lia) (by lia) (by lia) (aP (by lia) (by lia) (by lia) (by lia) (aP (by lia) (by lia) (by lia) (by lia) rfl))
  · rw [h2,opc_one,lA,lB,gapR (by lia) (by lia),gapR (by lia) (by lia)]
    exact aP (by lia) (by lia) (by lia) (by lia) (aP (by lia) (by lia) (by lia) (by lia) (aP (by lia) (by lia) (by lia) (by lia) rfl))
end
theorem ls_of {rs:List Rl} (G:Gd rs):Ls (unf [0,1,2] rs X0) (unf [0,1] rs X0) (unf [0,2] rs X0):=by
  have hb:=G.bnd
  have hs:=G.short
  obtain ⟨s,rfl,I⟩:=G.inv
  have e:unf [0,1,2] s.rules X0=s.text:=(unf_all I.part).trans I.ri.txt.symm
  exact ⟨fun v hv=>(hb _ v hv).1,fun v hv=>(hb _ v hv).1,fun v hv=>(hb _ v hv).1,by rw [e];exact I.ri.short _,by rw [e];exact I.ri.short _,hs _⟩
theorem ListsAt.nil {ρ:List (Str×B)}:ListsAt ρ []:=fun _ _ h=>by cases h
theorem ListsAt.cons {ρ:List (Str×B)} {x:Str} {v:List Int} {N:List (Str×List Int)} (h:aI ρ x (.val (iD v))) (t:ListsAt ρ N):ListsAt ρ ((x,v) :: N):=fun y w e=>by
  rw [List.lookup_cons] at e
  split at e
  · rename_i hh;have:=eq_of_beq hh;subst this;cases e;exact h
  · exact t y w e
theorem NumsAt.nil {ρ:List (Str×B)}:NumsAt ρ []:=fun _ _ h=>by cases h
theorem NumsAt.cons {ρ:List (Str×B)} {x:Str} {v:Int} {N:List (Str×Int)} (h:aI ρ x (.val (.int v))) (t:NumsAt ρ N):NumsAt ρ ((x,v) :: N):=fun y w e=>by
  rw [List.lookup_cons] at e
  split at e
  · rename_i hh;have:=eq_of_beq hh;subst this;cases e;exact h
  · exact t y w e
structure QI (J R S:List Int) (n m s:Nat) (ρ:List (Str×B)):Prop where
  joined:aI ρ "joined" (.val (iD (jn J)))
  trunk:aI ρ "trunk" (.val (iD (-1 :: R)))
  branch:aI ρ "branch" (.val (iD (S++[-2])))
  n:aI ρ "n" (.val (.int n))
  m:aI ρ "m" (.val (.int m))
  s:aI ρ "s" (.val (.int s))
theorem QI.pt {J R S:List Int} {n m s:Nat} {ρ:List (Str×B)} (I:QI J R S n m s ρ) {z:Str} {b:B} (h:(neS "joined" z && (neS "trunk" z && (neS "branch" z && (neS "n" z && (neS "m" z && neS "s" z)))))=true):QI J R S n m s (aH ρ z b):=by
  simp only [Bool.and_eq_true] at h
  exact ⟨hn I.joined h.1,hn I.trunk h.2.1,hn I.branch h.2.2.1,hn I.n h.2.2.2.1,hn I.m h.2.2.2.2.1,hn I.s h.2.2.2.2.2⟩
noncomputable abbrev nl (J R S:List Int):List (Str×List Int):=[("joined",jn J),("trunk",-1 :: R),("branch",S++[-2])]
noncomputable abbrev nn (n m s:Nat):List (Str×Int):=[("n",(n:Int)),("m",(m:Int)),("s",(s:Int))]
theorem QI.ls {J R S:List Int} {n m s:Nat} {ρ:List (Str×B)} (I:QI J R S n m s ρ):ListsAt ρ (nl J R S):=.cons I.joined (.cons I.trunk (.cons I.branch .nil))
theorem QI.ns {J R S:List Int} {n m s:Nat} {ρ:List (Str×B)} (I:QI J R S n m s ρ):NumsAt ρ (nn n m s):=.cons I.n (.cons I.m (.cons I.s .nil))
theorem Ask.shaped {A B:List Int} {D:List PyData} (h:Ask A B D):SeqAt.shaped (.list D)=true:=by rw [← h.told];exact opc_shaped _ _ _ _ _
section
variable {X:Cx} {k:Nat}
theorem ev_askD (F:LG X) {L f:Addr} {z1 z2 z3:Value} {ρ:List (Str×B)} {N:List (Str×List Int)} {e e':Expr} {A B:List Int} {D:List PyData} {p p1:Pos} (hL:ListsAt ρ N) (h1:evLs N 9 e=some A) (h2:evLs N 9 e'=some B) (hA:Ask A B D) :
    Ev X (k+10) (lEnv z1 z2 z3 L f) ρ (.Call (.Name "_law_ask" p) [e,e'] [] p1) (.list D):=by
  have h:=ev_ask (X:=X) (k:=k+3) (env:=lEnv z1 z2 z3 L f) (ρ:=ρ) (p:=p) (pos:=p1) F rfl (ev_Ls hL h1 (by have:=hA.za;lia)) (ev_Ls hL h2 (by have:=hA.zb;lia)) (evLs_plain h1) (evLs_plain h2) hA.za hA.zb hA.cnt
  rw [hA.told] at h
  exact h
theorem ask_if (F:LG X) {L f:Addr} {z1 z2 z3:Value} {ρ:List (Str×B)} {Q:Fl→List (Str×B)→Prop} {N:List (Str×List Int)} {e e' r:Expr} {A B:List Int} {D:List PyData} {p p1 p3 p4:Pos} {body:List Stmt} (hL:ListsAt ρ N) (h1:evLs N 9 e=some A) (h2:evLs N 9 e'=some B) (hA:Ask A B D)
    (hr:Ev X (k+10) (lEnv z1 z2 z3 L f) ρ r (.list D)) (hq:Q .next ρ) (hm:behindInMarks .NotEq r=false:=by with_unfolding_all rfl) :
    Ex1 X (k+10) (lEnv z1 z2 z3 L f) ρ (.If (.Compare (.Call (.Name "_law_ask" p) [e,e'] [] p1) [.NotEq] [r] p3) body [] p4) Q:=by
  refine ex_if (tst_of_eq (b':=false) (tst_ne (ev_askD F hL h1 h2 hA) hr hA.shaped hA.shaped (Nat.succ_pos _) hm) ?_) (fun hb=>by cases hb) fun _=>aE hq
  rw [eqv_self hA.shaped];rfl
structure Xs (X:Cx) (k:Nat) (env:Env) (ρ:List (Str×B)) (ss:List Stmt) (Q:Fl→List (Str×B)→Prop):Prop where
  out:Exs X k env ρ ss Q
noncomputable def NxS (X:Cx) (k:Nat) (env:Env) (ss:List Stmt) (Q:Fl→List (Str×B)→Prop) (f:Fl) (ρ':List (Str×B)):Prop:=match f with | .next=>Xs X k env ρ' ss Q | f=>Q f ρ'
theorem xs_at {env:Env} {ρ:List (Str×B)} {Q:Fl→List (Str×B)→Prop} {l:List Stmt} (i:Nat) (hi:decide (i < l.length)=true) (h:Ex1 X k env ρ (aD l i) (NxS X k env (l.drop (i+1)) Q)):Xs X k env ρ (l.drop i) Q:=by
  have hi:=of_decide_eq_true hi
  have e:l.drop i=aD l i :: l.drop (i+1):=by
    rw [List.drop_eq_getElem_cons hi]
    congr 1
    unfold aD
    rw [List.getD_eq_getElem?_getD,List.getElem?_eq_getElem hi];rfl
  rw [e]
  have e2:NxS X k env (l.drop (i+1)) Q=Nx X k env (l.drop (i+1)) Q:=by
    funext f ρ'
    cases f with
    | next=>exact propext ⟨fun h=>h.out,fun h=>⟨h⟩⟩
    | _=>rfl
  rw [e2] at h
  exact ⟨aB h⟩
theorem nx {env:Env} {ρ:List (Str×B)} {Q:Fl→List (Str×B)→Prop} {ss:List Stmt} (h:Xs X k env ρ ss Q):NxS X k env ss Q .next ρ:=h
theorem xs_freeze {env:Env} {ρ:List (Str×B)} {Q:Fl→List (Str×B)→Prop} {ss:List Stmt} {x:Str} {ds:List PyData} (hx:ρ.lookup x=some (.own ds)) (h:Xs X k env (aH ρ x (.val (.list ds))) ss Q):Xs X k env ρ ss Q:=⟨exs_freeze hx h.out⟩
theorem ev_lit {env:Env} {ρ:List (Str×B)} {N:List (Str×Int)} {es:List Expr} {D:List PyData} {p:Pos} (hN:NumsAt ρ N) (h:codesA N es=some D) (hz:D.length≤1000):Ev X k env ρ (.List es p) (.list D):=by
  have hsl:5000≤sizeLine:=by decide
  exact ev_list (evl_codesA hN h) (by lia)
theorem evf_lit {env:Env} {ρ:List (Str×B)} {N:List (Str×Int)} {es:List Expr} {D:List PyData} {p:Pos} (hN:NumsAt ρ N) (h:codesA N es=some D) (hz:D.length≤1000):EvF X k env ρ (.List es p) D:=by
  have hsl:5000≤sizeLine:=by decide
  exact evf_list (evl_codesA hN h) (by lia)
theorem ev_both {env:Env} {ρ:List (Str×B)} {e e':Expr} {pos:Pos} (h:Ev X k env ρ e (.bool true)) (h':Ev X k env ρ e' (.bool true)):Ev X k env ρ (.BoolOp .And [e,e'] pos) (.bool true):=fun A bad O s R r =>
  BoolOp_and (h.use R r fun v s1 x1 r1 q1=>by
    cases q1
    refine wpAny_truthy_bool ?_
    rw [if_pos rfl]
    exact BoolOp_one (h'.use R r1 fun v s2 x2 r2 q2=>⟨x1.trans x2,q2⟩))
noncomputable def gV:PyData→List PyData
  | .tuple [.str t,.int a,.int b,.int c,.int d]=>[aO (if PyData.eqv (.str t) (.str "insert")=true then "delete" else t) c d a b]
  | _=>[]
noncomputable def gW:PyData→List PyData
  | .tuple [.str t,.int a,.int b,.int c,.int d]=>[aO t c d a b]
  | _=>[]
noncomputable def gT:PyData→List PyData
  | .int x=>[.int (x+1000)]
  | _=>[]
theorem gT_data (l:List Int):(l.map PyData.int).flatMap gT=(l.map (·+1000)).map .int:=by
  rw [List.flatMap_map,List.map_map,List.map_eq_flatMap];rfl
theorem law_names (F:LG X) {L f:Addr} {z1 z2 z3:Value} {rs:List Rl} {ρ:List (Str×B)} {Q:Fl→List (Str×B)→Prop} (G:Gd rs) (I:PI rs ρ)
    (hrest:∀ ρ',QI (unf [0,1,2] rs X0) (unf [0,1] rs X0) (unf [0,2] rs X0) ((unf [0,1,2] rs X0).length+2) ((unf [0,1] rs X0).length+2) ((unf [0,2] rs X0).length+2) ρ'→Exs X (k+10) (lEnv z1 z2 z3 L f) ρ' (lBody.drop 9) Q) :
    Exs X (k+10) (lEnv z1 z2 z3 L f) ρ (lBody.drop 7) Q:=by
  have hsl:5000≤sizeLine:=by decide
  have h4:∀ j,j≤5→j≤sizeLine:=fun j hj=>by lia
  have H:=ls_of G
  have e2:bL rs 2=-1 :: unf [0,1] rs X0:=rfl
  have e3:bL rs 3=unf [0,2] rs X0++[-2]:=rfl
  have e4:bL rs 4=jn (unf [0,1,2] rs X0):=rfl
  have it:∀ {i:Nat} {A:List Int} {n:Nat} {p1 p2 p3:Pos},(verL rs)[i]?=some A→Ev X (k+10) (lEnv z1 z2 z3 L f) ρ (.Subscript (.Name "versions" p1) (.Constant (.int (i:Int)) n p2) p3) (iD A):=fun {i A n p1 p2 p3} h=>by
    have hlt:=(List.getElem?_eq_some_iff.mp h).1
    have h5:(verL rs).length=5:=rfl
    refine ev_item (n:=(i:Int)) (bK (aA I.versions)) aM (by lia) (by rw [List.length_map];lia) (by rw [List.length_map];lia) ?_
    rw [place_pos (by lia),Int.toNat_natCast,List.getElem?_map,h];rfl
  refine aB (ex_swap (xs:=["trunk","branch","joined"]) (ds:=[iD (bL rs 2),iD (bL rs 3),iD (bL rs 4)]) (aU (aC (it (i:=2) rfl) (aC (it (i:=3) rfl) (aC (it (i:=4) rfl) aG))) (h4 3 (by decide))) (aS (.inl rfl) (aS (.inl rfl) (aS (.inl rfl) asgn_nil))) ?_ rfl rfl rfl)
  rw [e2,e3,e4]
  clear it
  generalize unf [0,1,2] rs X0=J at *
  generalize unf [0,1] rs X0=R at *
  generalize unf [0,2] rs X0=S at *
  have hj:aI (aH (aH (aH ρ "joined" (.val (iD (jn J)))) "branch" (.val (iD (S++[-2])))) "trunk" (.val (iD (-1 :: R)))) "joined" (.val (iD (jn J))):=by k_mem
  have hb:aI (aH (aH (aH ρ "joined" (.val (iD (jn J)))) "branch" (.val (iD (S++[-2])))) "trunk" (.val (iD (-1 :: R)))) "branch" (.val (iD (S++[-2]))):=by k_mem
  have ht:aI (aH (aH (aH ρ "joined" (.val (iD (jn J)))) "branch" (.val (iD (S++[-2])))) "trunk" (.val (iD (-1 :: R)))) "trunk" (.val (iD (-1 :: R))):=by k_mem
  change Exs X (k+10) _ (aH (aH (aH ρ "joined" (.val (iD (jn J)))) "branch" (.val (iD (S++[-2])))) "trunk" (.val (iD (-1 :: R)))) _ _
  generalize aH (aH (aH ρ "joined" (.val (iD (jn J)))) "branch" (.val (iD (S++[-2])))) "trunk" (.val (iD (-1 :: R)))=ρ1 at hj hb ht ⊢
  have lJ:=H.lJ
  have lR:=H.lR
  have lS:=H.lS
  have hz:=bE J
  refine aB (ex_swap (xs:=["n","m","s"]) (ds:=[.int ((J.length+2:Nat):Int),.int ((R.length+2:Nat):Int),.int ((S.length+2:Nat):Int)]) (aU (aC (bG (ev_lenN F.df.len rfl hj (by lia)) (by rw [hz])) (aC (bG (aT (ev_lenN F.df.len rfl ht (by rw [List.length_cons];lia)) aM) (by rw [List.length_cons];congr 1)) (aC (bG (aT (ev_lenN F.df.len rfl hb (by rw [List.length_append,List.length_singleton];lia)) aM) (by rw [List.length_append,List.length_singleton];congr 1)) aG))) (h4 3 (by decide))) (aS (.inl rfl) (aS (.inl rfl) (aS (.inl rfl) asgn_nil))) ?_ rfl rfl rfl)
  exact hrest _ ⟨by k_mem,by k_mem,by k_mem,by k_mem,by k_mem,by k_mem⟩
end
theorem Ask.mem {A B:List Int} {D:List PyData} (h:Ask A B D) {x:PyData} (hx:x∈D):∃ t a b c d,x=aO t a b c d∧SeqAt.shaped (.str t)=true:=by
  rw [← h.told] at hx
  obtain ⟨t,i1,i2,j1,j2,rfl,ht⟩:=opc_mem hx
  exact ⟨t,i1,i2,j1,j2,rfl,by rcases ht with rfl | rfl | rfl | rfl <;> first | rfl | decide +kernel⟩
theorem gV_ins (a b c d:Int):gV (aO "insert" a b c d)=[aO "delete" c d a b]:=by
  show [aO (if PyData.eqv (.str ("insert":Str)) (.str "insert")=true then "delete" else "insert") c d a b]=_
  rw [if_pos (by decide)]
theorem gV_eq (a b c d:Int):gV (aO "equal" a b c d)=[aO "equal" c d a b]:=by
  show [aO (if PyData.eqv (.str ("equal":Str)) (.str "insert")=true then "delete" else "equal") c d a b]=_
  rw [if_neg (by decide)]
section
variable {X:Cx} {k:Nat}
theorem ev_eqT {env:Env} {ρ:List (Str×B)} {l r:Expr} {pos:Pos} {d:PyData} (hl:Ev X (k+1) env ρ l d) (hr:Ev X (k+1) env ρ r d) (sa:SeqAt.shaped d=true) (hm:behindInMarks .Eq r=false:=by with_unfolding_all rfl):Ev X (k+1) env ρ (.Compare l [.Eq] [r] pos) (.bool true):=by
  have h:=ev_eq (pos:=pos) hl hr sa sa (Nat.succ_pos _) hm
  rw [eqv_self sa] at h
  exact h
theorem ev_litA {env:Env} {ρ:List (Str×B)} {N:List (Str×Int)} {A C:List Int} {es:List Expr} {D:List PyData} {p:Pos} (_:Ask A C D) (hN:NumsAt ρ N) (h:codesA N es=some D) (hz:D.length≤1000):Ev X k env ρ (.List es p) (.list D):=ev_lit hN h hz
theorem asks_head (F:LG X) {L f:Addr} {z1 z2 z3:Value} {J R S:List Int} {n m s:Nat} {ρ:List (Str×B)} {Q:Fl→List (Str×B)→Prop} (H:Ls J R S) (en:n=J.length+2) (em:m=R.length+2) (es:s=S.length+2) (I:QI J R S n m s ρ)
    (hrest:∀ ρ',QI J R S n m s ρ'→Xs X (k+10) (lEnv z1 z2 z3 L f) ρ' (lBody.drop 20) Q) :
    Xs X (k+10) (lEnv z1 z2 z3 L f) ρ (lBody.drop 9) Q:=by
  have lJ:=H.lJ
  have hz:=bE J
  have hsl:5000≤sizeLine:=by decide
  refine xs_at 9 (by kernel_rfl) (ask_if F I.ls (by kernel_rfl) (by kernel_rfl) (told1 H en) (ev_lit I.ns (by kernel_rfl) (by exact (by decide:2≤1000))) (nx ?_))
  refine xs_at 10 (by kernel_rfl) (ask_if F I.ls (by kernel_rfl) (by kernel_rfl) (told2 H en) (ev_lit I.ns (by kernel_rfl) (by exact (by decide:2≤1000))) (nx ?_))
  refine xs_at 11 (by kernel_rfl) (ex_assignC (ρc:=[]) (cl:=[]) (items:=(jn J).map .int) gT (evi_list (aA I.joined)).weak ⟨rfl,by decide,rfl,by decide,(fun n c e=>by cases e),(fun y b e=>by cases e)⟩ ?hb (by rw [gT_data,List.length_map,List.length_map];lia) (.inl rfl) (nx ?_))
  case hb =>
    intro C d hd
    obtain ⟨x,hx,rfl⟩:=List.mem_map.mp hd
    exact ifs_nil rfl rfl (cmb_item (aT (aA (by k_mem)) aM))
  rw [gT_data]
  refine xs_freeze (x:="twin") (by k_mem) ?_
  have I1:=(I.pt (z:="twin") (b:=.own (((jn J).map (·+1000)).map .int)) rfl).pt (z:="twin") (b:=.val (iD ((jn J).map (·+1000)))) rfl
  have T1:aI (aH (aH ρ "twin" (.own (((jn J).map (·+1000)).map .int))) "twin" (.val (iD ((jn J).map (·+1000))))) "twin" (.val (iD ((jn J).map (·+1000)))):=hs
  change Xs X (k+10) _ (aH (aH ρ "twin" (.own (((jn J).map (·+1000)).map .int))) "twin" (.val (iD ((jn J).map (·+1000))))) _ _
  generalize aH (aH ρ "twin" (.own (((jn J).map (·+1000)).map .int))) "twin" (.val (iD ((jn J).map (·+1000))))=ρ1 at I1 T1 ⊢
  clear I
  refine xs_at 12 (by kernel_rfl) (aR (d:=.list _) (ev_litA (told3 H en) I1.ns (by kernel_rfl) (by exact (by decide:3≤1000))) (.inl rfl) (nx ?_))
  refine xs_at 13 (by kernel_rfl) (ask_if F (ListsAt.cons (hn T1 rfl) (I1.pt rfl).ls) (by kernel_rfl) (by kernel_rfl) (told3 H en) (aA (by k_mem)) (nx ?_))
  refine xs_at 14 (by kernel_rfl) (aR (d:=.list _) (ev_litA (told4 H en em) (I1.pt rfl).ns (by kernel_rfl) (by exact (by decide:3≤1000))) (.inl rfl) (nx ?_))
  refine xs_at 15 (by kernel_rfl) (ask_if F ((I1.pt rfl).pt rfl).ls (by kernel_rfl) (by kernel_rfl) (told4 H en em) (aA (by k_mem)) (nx ?_))
  refine xs_at 16 (by kernel_rfl) (aR (d:=.list _) (ev_litA (told5 H en em) ((I1.pt rfl).pt rfl).ns (by kernel_rfl) (by exact (by decide:3≤1000))) (.inl rfl) (nx ?_))
  refine xs_at 17 (by kernel_rfl) (ask_if F (((I1.pt rfl).pt rfl).pt rfl).ls (by kernel_rfl) (by kernel_rfl) (told5 H en em) (aA (by k_mem)) (nx ?_))
  refine xs_at 18 (by kernel_rfl) (aR (d:=.list _) (ev_litA (told6 H en es) (((I1.pt rfl).pt rfl).pt rfl).ns (by kernel_rfl) (by exact (by decide:3≤1000))) (.inl rfl) (nx ?_))
  refine xs_at 19 (by kernel_rfl) (ask_if F ((((I1.pt rfl).pt rfl).pt rfl).pt rfl).ls (by kernel_rfl) (by kernel_rfl) (told6 H en es) (aA (by k_mem)) (nx ?_))
  exact hrest _ ((((I1.pt rfl).pt rfl).pt rfl).pt rfl)
end
theorem flat5 (g:PyData→List PyData) (a b c d e:PyData):[a,b,c,d,e].flatMap g=g a++(g b++(g c++(g d++(g e++[])))):=rfl
section
variable {X:Cx} {k:Nat}
theorem asks_ends (F:LG X) {L f:Addr} {z1 z2 z3:Value} {J R S:List Int} {n m s:Nat} {ρ:List (Str×B)} {Q:Fl→List (Str×B)→Prop} (H:Ls J R S) (en:n=J.length+2) (I:QI J R S n m s ρ)
    (hrest:∀ ρ',QI J R S n m s ρ'→Xs X (k+10) (lEnv z1 z2 z3 L f) ρ' (lBody.drop 25) Q) :
    Xs X (k+10) (lEnv z1 z2 z3 L f) ρ (lBody.drop 20) Q:=by
  have hsl:5000≤sizeLine:=by decide
  have A7:=told7 H en
  have A8:=told8 H en
  refine xs_at 20 (by kernel_rfl) (ex_assignF (ds:=[aO "equal" 0 1 0 1,aO "insert" 1 1 1 2,aO "equal" 1 (n+1) 2 (n+2)]) (evf_lit I.ns (by kernel_rfl) (by exact (by decide:3≤1000))) (.inl rfl) (nx ?_))
  have I1:=I.pt (z:="told") (b:=.own [aO "equal" 0 1 0 1,aO "insert" 1 1 1 2,aO "equal" 1 (n+1) 2 (n+2)]) rfl
  have h1:aI (aH ρ "told" (.own [aO "equal" 0 1 0 1,aO "insert" 1 1 1 2,aO "equal" 1 (n+1) 2 (n+2)])) "told" (.own [aO "equal" 0 1 0 1,aO "insert" 1 1 1 2,aO "equal" 1 (n+1) 2 (n+2)]):=hs
  generalize aH ρ "told" (.own [aO "equal" 0 1 0 1,aO "insert" 1 1 1 2,aO "equal" 1 (n+1) 2 (n+2)])=ρ1 at I1 h1 ⊢
  clear I
  refine xs_at 21 (by kernel_rfl) (ex_extend (es:=[aO "insert" (n+1) (n+1) (n+2) (n+3),aO "equal" (n+1) (n+2) (n+3) (n+4)]) h1 (ev_lit I1.ns (by kernel_rfl) (by exact (by decide:2≤1000))) (by exact Nat.le_trans (by decide:5≤5000) hsl) (nx ?_))
  generalize hD:[aO "equal" 0 1 0 1,aO "insert" 1 1 1 2,aO "equal" 1 ((n:Int)+1) 2 (n+2)]++[aO "insert" (n+1) (n+1) (n+2) (n+3),aO "equal" (n+1) (n+2) (n+3) (n+4)]=D at A7 ⊢
  refine xs_freeze (x:="told") hs ?_
  have I2:=(I1.pt (z:="told") (b:=.own D) rfl).pt (z:="told") (b:=.val (.list D)) rfl
  have h2:aI (aH (aH ρ1 "told" (.own D)) "told" (.val (.list D))) "told" (.val (.list D)):=hs
  generalize aH (aH ρ1 "told" (.own D)) "told" (.val (.list D))=ρ2 at I2 h2 ⊢
  clear I1 h1
  refine xs_at 22 (by kernel_rfl) (ask_if F I2.ls (by kernel_rfl) (by kernel_rfl) A7 (aA h2) (nx ?_))
  have hD2:D.flatMap gV=[aO "equal" 0 1 0 1,aO "delete" 1 2 1 1,aO "equal" 2 (n+2) 1 (n+1),aO "delete" (n+2) (n+3) (n+1) (n+1),aO "equal" (n+3) (n+4) (n+1) (n+2)]:=by
    rw [← hD]
    show [aO "equal" 0 1 0 1,aO "insert" 1 1 1 2,aO "equal" 1 ((n:Int)+1) 2 (n+2),aO "insert" (n+1) (n+1) (n+2) (n+3),aO "equal" (n+1) (n+2) (n+3) (n+4)].flatMap gV=_
    rw [flat5,gV_eq,gV_ins,gV_eq,gV_ins,gV_eq]
    rfl
  refine xs_at 23 (by kernel_rfl) (ex_assignC (ρc:=[]) (cl:=[]) (items:=D) gV (evi_list (aA h2)).weak ⟨rfl,by decide,rfl,by decide,(fun n c e=>by cases e),(fun y b e=>by cases e)⟩ ?hb (by rw [hD2];exact Nat.le_trans (by decide:5≤5000) hsl) (.inl rfl) (nx ?_))
  case hb =>
    intro C x hx
    obtain ⟨t,a,b,c,d,rfl,hsh⟩:=A7.mem hx
    refine ⟨_,true,asgc_tuple (asgcl_cons (asgc_name rfl) (asgcl_cons (asgc_name rfl) (asgcl_cons (asgc_name rfl) (asgcl_cons (asgc_name rfl) (asgcl_cons (asgc_name rfl) asgcl_nil))))) rfl rfl,(fun y c e=>by cases e),tstl_nil,fun _=>cmb_item (aU (aC (bG (ev_if (tst_eq (aA (d:=.str t) (by k_mem)) ev_str hsh (by first | rfl | decide +kernel) (Nat.succ_pos _)) (fun _=>ev_str) fun _=>aA (d:=.str t) (by k_mem)) ?_) (aC (aA (by k_mem)) (aC (aA (by k_mem)) (aC (aA (by k_mem)) (aC (aA (by k_mem)) aG))))) (by exact Nat.le_trans (by decide:5≤5000) hsl)),fun hb=>by cases hb⟩
    split <;> rfl
  rw [hD2]
  generalize [aO "equal" 0 1 0 1,aO "delete" 1 2 1 1,aO "equal" 2 ((n:Int)+2) 1 (n+1),aO "delete" (n+2) (n+3) (n+1) (n+1),aO "equal" (n+3) (n+4) (n+1) (n+2)]=D2 at A8 ⊢
  refine xs_freeze (x:="told") hs ?_
  have I3:=(I2.pt (z:="told") (b:=.own D2) rfl).pt (z:="told") (b:=.val (.list D2)) rfl
  have h3:aI (aH (aH ρ2 "told" (.own D2)) "told" (.val (.list D2))) "told" (.val (.list D2)):=hs
  generalize aH (aH ρ2 "told" (.own D2)) "told" (.val (.list D2))=ρ3 at I3 h3 ⊢
  refine xs_at 24 (by kernel_rfl) (ask_if F I3.ls (by kernel_rfl) (by kernel_rfl) A8 (aA h3) (nx ?_))
  exact hrest _ I3
theorem asks_tail (F:LG X) {L f:Addr} {z1 z2 z3:Value} {J R S:List Int} {n m s:Nat} {ρ:List (Str×B)} (H:Ls J R S) (en:n=J.length+2) (em:m=R.length+2) (I:QI J R S n m s ρ) :
    Xs X (k+10) (lEnv z1 z2 z3 L f) ρ (lBody.drop 25) fun fl _=>fl=.ret (.bool true):=by
  have hsl:5000≤sizeLine:=by decide
  obtain ⟨A9,B9⟩:=told9 H en em
  have zA:=A9.za
  have zB:=A9.zb
  have hA:evLs (nl J R S) 9 (asgVal (aD lBody 25))=some ((((([-5]++jn J)++[-3])++(-1 :: R))++[-6])):=by kernel_rfl
  have hB:evLs (nl J R S) 9 (asgVal (aD lBody 26))=some ((((([-7]++(-1 :: R))++[-4])++jn J)++[-8])):=by kernel_rfl
  generalize (((([-5]++jn J)++[-3])++(-1 :: R))++[-6])=A at A9 B9 hA zA
  generalize (((([-7]++(-1 :: R))++[-4])++jn J)++[-8])=C at A9 B9 hB zB
  refine xs_at 25 (by kernel_rfl) (aR (ev_Ls I.ls hA (by lia)) (.inl rfl) (nx ?_))
  refine xs_at 26 (by kernel_rfl) (aR (ev_Ls (I.pt rfl).ls hB (by lia)) (.inl rfl) (nx ?_))
  have I1:=(I.pt (z:="ahead") (b:=.val (iD A)) rfl).pt (z:="behind") (b:=.val (iD C)) rfl
  have ha:aI (aH (aH ρ "ahead" (.val (iD A))) "behind" (.val (iD C))) "ahead" (.val (iD A)):=by k_mem
  have hb:aI (aH (aH ρ "ahead" (.val (iD A))) "behind" (.val (iD C))) "behind" (.val (iD C)):=hs
  change Xs X (k+10) _ (aH (aH ρ "ahead" (.val (iD A))) "behind" (.val (iD C))) _ _
  generalize aH (aH ρ "ahead" (.val (iD A))) "behind" (.val (iD C))=ρ1 at I1 ha hb ⊢
  clear I
  refine xs_at 27 (by kernel_rfl) (ex_assignF (ds:=[aO "replace" 0 1 0 (m+1),aO "equal" 1 (n+1) (m+1) (m+n+1)]) (evf_lit I1.ns (by kernel_rfl) (by exact (by decide:2≤1000))) (.inl rfl) (nx ?_))
  refine xs_at 28 (by kernel_rfl) (bF (d:=aO "replace" (n+1) (n+m+2) (m+n+1) (m+n+2)) hs (ev_codeA (I1.pt rfl).ns (by kernel_rfl)) (by exact Nat.le_trans (by decide:2≤5000) hsl) (nx ?_))
  have hD:([aO "replace" 0 1 0 ((m:Int)+1),aO "equal" 1 (n+1) (m+1) (m+n+1)]++[aO "replace" (n+1) (n+m+2) (m+n+1) (m+n+2)]).flatMap gW=[aO "replace" 0 (m+1) 0 1,aO "equal" (m+1) (m+n+1) 1 (n+1),aO "replace" (m+n+1) (m+n+2) (n+1) (n+m+2)]:=rfl
  have A9:Ask A C ([aO "replace" 0 1 0 ((m:Int)+1),aO "equal" 1 (n+1) (m+1) (m+n+1)]++[aO "replace" (n+1) (n+m+2) (m+n+1) (m+n+2)]):=A9
  rw [← hD] at B9
  have hl:(([aO "replace" 0 1 0 ((m:Int)+1),aO "equal" 1 (n+1) (m+1) (m+n+1)]++[aO "replace" (n+1) (n+m+2) (m+n+1) (m+n+2)]).flatMap gW).length≤sizeLine:=by rw [hD];exact Nat.le_trans (by decide:3≤5000) hsl
  clear hD
  generalize [aO "replace" 0 1 0 ((m:Int)+1),aO "equal" 1 (n+1) (m+1) (m+n+1)]++[aO "replace" (n+1) (n+m+2) (m+n+1) (m+n+2)]=D at A9 B9 hl ⊢
  refine xs_freeze (x:="told") hs ?_
  refine xs_at 29 (by kernel_rfl) (ex_return (ev_both (ev_eqT (ev_askD F (.cons (x:="ahead") (hn (hn (hn ha rfl) rfl) rfl) (.cons (x:="behind") (hn (hn (hn hb rfl) rfl) rfl) .nil)) (by kernel_rfl) (by kernel_rfl) A9) (aA hs) A9.shaped) (ev_eqT (ev_askD F (.cons (x:="ahead") (hn (hn (hn ha rfl) rfl) rfl) (.cons (x:="behind") (hn (hn (hn hb rfl) rfl) rfl) .nil)) (by kernel_rfl) (by kernel_rfl) B9)
    (EvF.ev (evf_comp (ρc:=[]) (cl:=[]) (items:=D) gW (evi_list (aA hs)).weak ⟨rfl,by decide,rfl,by decide,(fun n c e=>by cases e),(fun y b e=>by cases e)⟩ ?hb hl)) B9.shaped)) rfl)
  case hb =>
    intro C x hx
    obtain ⟨t,a,b,c,d,rfl,hsh⟩:=A9.mem hx
    exact ⟨_,true,asgc_tuple (asgcl_cons (asgc_name rfl) (asgcl_cons (asgc_name rfl) (asgcl_cons (asgc_name rfl) (asgcl_cons (asgc_name rfl) (asgcl_cons (asgc_name rfl) asgcl_nil))))) rfl rfl,(fun y c e=>by cases e),tstl_nil,fun _=>cmb_item (aU (aC (aA (by k_mem)) (aC (aA (by k_mem)) (aC (aA (by k_mem)) (aC (aA (by k_mem)) (aC (aA (by k_mem)) aG))))) (by exact Nat.le_trans (by decide:5≤5000) hsl)),fun hb=>by cases hb⟩
theorem law_walk (F:LG X) {L f sa:Addr} {z1 z2 z3:Value} {vs:Array Value} {ns:List Int} (ha:X.h₀.IsList sa vs) (hv:IntsAre vs.toList ns) (hn:ns.length≤63) :
    Exs X (k+10) (lEnv z1 z2 z3 L f) [("script",.raw (.ref sa))] lBody fun fl _=>fl=.ret (.bool true):=by
  refine law_head F ha hv hn fun ρ rs G h1 h2=>exs_freeze h2 ?_
  refine law_pairs F G ⟨Mine.hn h1 rfl,hs⟩ fun ρ' I=>law_names F G I fun ρ2 I2=>?_
  have H:=ls_of G
  have h:Xs X (k+10) (lEnv z1 z2 z3 L f) ρ2 (lBody.drop 9) fun fl _=>fl=.ret (.bool true):=asks_head F H rfl rfl rfl I2 fun ρ3 I3=>asks_ends F H rfl I3 fun ρ4 I4=>asks_tail F H rfl rfl I4
  exact h.out
end
universe u
noncomputable def anyL {α:Type u} (p:α→Bool) (l:List α):Bool :=
  @List.rec α (fun _=>Bool) false (fun a _ ih=>@Bool.rec (fun _=>Bool) ih true (p a)) l
theorem anyL_eq {α:Type u} (p:α→Bool):∀ l:List α,l.any p=anyL p l
  | []=>rfl
  | a :: l=>by
    rw [List.any_cons,anyL_eq p l]
    show _=@Bool.rec (fun _=>Bool) (anyL p l) true (p a)
    cases p a <;> rfl
noncomputable def anyA {α:Type u} (as:Array α) (p:α→Bool) (start stop:Nat):Bool :=
  @Bool.rec (fun _=>Bool) (Array.any as p start stop) (@Bool.rec (fun _=>Bool) (Array.any as p start stop) (anyL p as.toList) (Nat.beq stop as.toList.length)) (Nat.beq start 0)
theorem anyA_eq:@Array.any.{u}=@anyA.{u}:=by
  funext α as p start stop
  unfold anyA
  cases h0:Nat.beq start 0 with
  | false=>rfl
  | true =>
    show _=@Bool.rec (fun _=>Bool) (Array.any as p start stop) (anyL p as.toList) (Nat.beq stop as.toList.length)
    cases h1:Nat.beq stop as.toList.length with
    | false=>rfl
    | true =>
      have e0:=Nat.eq_of_beq_eq_true h0
      have e1:=Nat.eq_of_beq_eq_true h1
      subst e0 e1
      show _=anyL p as.toList
      rw [← anyL_eq,Array.any_toList]
      rfl
noncomputable def tabOf (tn:Builtin) (id:String):Option Builtin :=
  @Bool.rec (fun _=>Option Builtin) (PySem.W.Fast.tw14364793385576792824 id) (some tn) (Nat.beq (PySem.W.Fast.tw13482112738370960269 id) 29827186395103491166823348853)
theorem tabOf_eq:treeTable=tabOf PySem.W.Fast.tw4202317264376624991:=by
  rw [← PySem.W.Fast.te4202317264376624991]
  funext id
  unfold tabOf
  rw [← PySem.W.Fast.te14364793385576792824,← PySem.W.Fast.te13482112738370960269]
  cases h:Nat.beq (PySem.code id) 29827186395103491166823348853 with
  | false=>rfl
  | true =>
    have e:=Nat.eq_of_beq_eq_true h
    show entriesT.find (PySem.code id)=some _
    rw [e]
    kernel_rfl
noncomputable def KG (f:String→Str) (tb:List Stmt) (P:Params):Frag :=
[  (2,⟨.none,none,.dict [].toArray 0,#[]⟩),
  (3,⟨.type "dict",none,.dict [⟨PyData.keyHash P (f "__name__"),.str (f "__name__") 165,.str (f "law_mt0008_02") 583⟩,⟨PyData.keyHash P (f "__doc__"),.str (f "__doc__") 166,.none⟩,⟨PyData.keyHash P (f "__package__"),.str (f "__package__") 167,.none⟩,⟨PyData.keyHash P (f "__loader__"),.str (f "__loader__") 168,.builtin "__main__.__loader__#opaque"⟩,⟨PyData.keyHash P (f "__spec__"),.str (f "__spec__") 169,.none⟩,⟨PyData.keyHash P (f "__annotations__"),.str (f "__annotations__") 170,.ref 6⟩,⟨PyData.keyHash P (f "__builtins__"),.str (f "__builtins__") 171,.ref 4⟩,⟨PyData.keyHash P (f "__file__"),.str (f "__file__") 173,.str (f "/claim/cut.py") 172⟩,⟨PyData.keyHash P (f "__cached__"),.str (f "__cached__") 174,.none⟩,⟨PyData.keyHash P (f "_wall"),.str (f "_wall") 193,.ref 21⟩,⟨PyData.keyHash P (f "_tuplegetter"),.str (f "_tuplegetter") 252,.ref 60⟩,⟨PyData.keyHash P (f "Match"),.str (f "Match") 380,.ref 135⟩,⟨PyData.keyHash P (f "_calculate_ratio"),.str (f "_calculate_ratio") 388,.ref 145⟩,⟨PyData.keyHash P (f "SequenceMatcher"),.str (f "SequenceMatcher") 582,.ref 242⟩,⟨PyData.keyHash P (f "_law_unfold"),.str (f "_law_unfold") 590,.ref 251⟩,⟨PyData.keyHash P (f "_law_rules"),.str (f "_law_rules") 606,.ref 258⟩,⟨PyData.keyHash P (f "_law_nodes"),.str (f "_law_nodes") 612,.ref 263⟩,⟨PyData.keyHash P (f "_law_told"),.str (f "_law_told") 626,.ref 270⟩,⟨PyData.keyHash P (f "_law_ask"),.str (f "_law_ask") 634,.ref 277⟩,⟨PyData.keyHash P (f "law"),.str (f "law") 640,.ref 282⟩].toArray 20,#[]⟩),
  (81,⟨.type "code",none,.fields #[.str (f "__new__") 274,.str (f "Match.__new__") 275,.str (f "/claim/cut.py") 276,.int (29) 0,.int (4) 0,.int (0) 0,.int (0) 0,.int (3) 0,.ref 76,.bool true,.int (181) 0,.ref 77,.none,.ref 78,.ref 79,.ref 80,.int (281) 0,.int (29) 0,.str (f "/claim/cut.py") 282],#[]⟩),
  (82,⟨.type "function",none,.func (fnOf (f "__new__") (f "Match.__new__") (bN (aD (aK (aD tb 3)) 4)) (aF (aD (aK (aD tb 3)) 4)) (bD (aD (aK (aD tb 3)) 4)) (.none) (.none) (docV (aF (aD (aK (aD tb 3)) 4)) 283) (.str (f "cpy313.difflib") 194) none (.ref 81) (.none)),#[]⟩),
  (88,⟨.type "code",none,.fields #[.str (f "_make") 285,.str (f "Match._make") 286,.str (f "/claim/cut.py") 287,.int (33) 0,.int (2) 0,.int (0) 0,.int (0) 0,.int (3) 0,.ref 83,.bool true,.int (181) 0,.ref 84,.none,.ref 85,.ref 86,.ref 87,.int (291) 0,.int (33) 0,.str (f "/claim/cut.py") 292],#[]⟩),
  (89,⟨.type "function",none,.func (fnOf (f "_make") (f "Match._make") (bN (aD (aK (aD tb 3)) 5)) (aF (aD (aK (aD tb 3)) 5)) (bD (aD (aK (aD tb 3)) 5)) (.none) (.none) (docV (aF (aD (aK (aD tb 3)) 5)) 293) (.str (f "cpy313.difflib") 194) (some 92) (.ref 88) (.none)),#[]⟩),
  (91,⟨.type "classmethod",(some 90),.fields #[.ref 89,.bool false],#[]⟩),
  (134,⟨.type "dict",none,.dict [⟨PyData.keyHash P (f "__module__"),.str (f "__module__") 260,.str (f "cpy313.difflib") 194⟩,⟨PyData.keyHash P (f "__firstlineno__"),.str (f "__firstlineno__") 264,.int (23) 263⟩,⟨PyData.keyHash P (f "__doc__"),.str (f "__doc__") 266,docV (aK (aD tb 3)) 265⟩,⟨PyData.keyHash P (f "__slots__"),.str (f "__slots__") 268,.ref 73⟩,⟨PyData.keyHash P (f "_fields"),.str (f "_fields") 272,.ref 74⟩,⟨PyData.keyHash P (f "_field_defaults"),.str (f "_field_defaults") 273,.ref 75⟩,⟨PyData.keyHash P (f "__new__"),.str (f "__new__") 284,.ref 136⟩,⟨PyData.keyHash P (f "_make"),.str (f "_make") 306,.ref 91⟩,⟨PyData.keyHash P (f "_replace"),.str (f "_replace") 317,.ref 100⟩,⟨PyData.keyHash P (f "__replace__"),.str (f "__replace__") 318,.ref 100⟩,⟨PyData.keyHash P (f "__repr__"),.str (f "__repr__") 326,.ref 107⟩,⟨PyData.keyHash P (f "_asdict"),.str (f "_asdict") 333,.ref 114⟩,⟨PyData.keyHash P (f "__getnewargs__"),.str (f "__getnewargs__") 341,.ref 121⟩,⟨PyData.keyHash P (f "__match_args__"),.str (f "__match_args__") 345,.ref 122⟩,⟨PyData.keyHash P (f "a"),.str (f "a") 355,.ref 124⟩,⟨PyData.keyHash P (f "b"),.str (f "b") 365,.ref 127⟩,⟨PyData.keyHash P (f "size"),.str (f "size") 375,.ref 130⟩,⟨PyData.keyHash P (f "__static_attributes__"),.str (f "__static_attributes__") 376,.ref 132⟩].toArray 2,#[]⟩),
  (135,⟨.type "type",none,.cls { name:=(f "Match"),bases:=[.type "tuple"],mro:=[.ref 135,.type "tuple",.type "object"],ns:=134,qualname:=(f "Match"),hasDict:=false,slotNames:=[],subclasses:=[],abstract:=false,collection:=none,hasDel:=false },#[some (.ref 65),none,some (.str (f "Match") 253),some (.str (f "Match") 261),some (.none),some (.bool false)]⟩),
  (136,⟨.type "staticmethod",none,.fields #[.ref 82],#[]⟩),
  (153,⟨.type "tuple",none,.seq #[.none,.str (f "") 404,.str (f "") 405,.bool true] 0,#[]⟩),
  (159,⟨.type "code",none,.fields #[.str (f "__init__") 406,.str (f "SequenceMatcher.__init__") 407,.str (f "/claim/cut.py") 408,.int (145) 0,.int (5) 0,.int (0) 0,.int (0) 0,.int (3) 0,.ref 154,.bool true,.int (181) 0,.ref 155,.none,.ref 156,.ref 157,.ref 158,.int (414) 0,.int (145) 0,.str (f "/claim/cut.py") 415],#[]⟩),
  (160,⟨.type "function",none,.func (fnOf (f "__init__") (f "SequenceMatcher.__init__") (bN (aD (aK (aD tb 5)) 1)) (aF (aD (aK (aD tb 5)) 1)) (bD (aD (aK (aD tb 5)) 1)) (.ref 153) (.none) (docV (aF (aD (aK (aD tb 5)) 1)) 416) (.str (f "cpy313.difflib") 194) none (.ref 159) (.none)),#[]⟩),
  (166,⟨.type "code",none,.fields #[.str (f "set_seqs") 418,.str (f "SequenceMatcher.set_seqs") 419,.str (f "/claim/cut.py") 420,.int (173) 0,.int (3) 0,.int (0) 0,.int (0) 0,.int (3) 0,.ref 161,.bool true,.int (181) 0,.ref 162,.none,.ref 163,.ref 164,.ref 165,.int (424) 0,.int (173) 0,.str (f "/claim/cut.py") 425],#[]⟩),
  (167,⟨.type "function",none,.func (fnOf (f "set_seqs") (f "SequenceMatcher.set_seqs") (bN (aD (aK (aD tb 5)) 2)) (aF (aD (aK (aD tb 5)) 2)) (bD (aD (aK (aD tb 5)) 2)) (.none) (.none) (docV (aF (aD (aK (aD tb 5)) 2)) 426) (.str (f "cpy313.difflib") 194) none (.ref 166) (.none)),#[]⟩),
  (173,⟨.type "code",none,.fields #[.str (f "set_seq1") 428,.str (f "SequenceMatcher.set_seq1") 429,.str (f "/claim/cut.py") 430,.int (184) 0,.int (2) 0,.int (0) 0,.int (0) 0,.int (3) 0,.ref 168,.bool true,.int (181) 0,.ref 169,.none,.ref 170,.ref 171,.ref 172,.int (433) 0,.int (184) 0,.str (f "/claim/cut.py") 434],#[]⟩),
  (174,⟨.type "function",none,.func (fnOf (f "set_seq1") (f "SequenceMatcher.set_seq1") (bN (aD (aK (aD tb 5)) 3)) (aF (aD (aK (aD tb 5)) 3)) (bD (aD (aK (aD tb 5)) 3)) (.none) (.none) (docV (aF (aD (aK (aD tb 5)) 3)) 435) (.str (f "cpy313.difflib") 194) none (.ref 173) (.none)),#[]⟩),
  (180,⟨.type "code",none,.fields #[.str (f "set_seq2") 437,.str (f "SequenceMatcher.set_seq2") 438,.str (f "/claim/cut.py") 439,.int (209) 0,.int (2) 0,.int (0) 0,.int (0) 0,.int (3) 0,.ref 175,.bool true,.int (181) 0,.ref 176,.none,.ref 177,.ref 178,.ref 179,.int (442) 0,.int (209) 0,.str (f "/claim/cut.py") 443],#[]⟩),
  (181,⟨.type "function",none,.func (fnOf (f "set_seq2") (f "SequenceMatcher.set_seq2") (bN (aD (aK (aD tb 5)) 4)) (aF (aD (aK (aD tb 5)) 4)) (bD (aD (aK (aD tb 5)) 4)) (.none) (.none) (docV (aF (aD (aK (aD tb 5)) 4)) 444) (.str (f "cpy313.difflib") 194) none (.ref 180) (.none)),#[]⟩),
  (187,⟨.type "code",none,.fields #[.str (f "__chain_b") 446,.str (f "SequenceMatcher.__chain_b") 447,.str (f "/claim/cut.py") 448,.int (236) 0,.int (1) 0,.int (0) 0,.int (0) 0,.int (3) 0,.ref 182,.bool true,.int (181) 0,.ref 183,.none,.ref 184,.ref 185,.ref 186,.int (461) 0,.int (236) 0,.str (f "/claim/cut.py") 462],#[]⟩),
  (188,⟨.type "function",none,.func (fnOf (f "__chain_b") (f "SequenceMatcher.__chain_b") (bN (aD (aK (aD tb 5)) 5)) (aF (aD (aK (aD tb 5)) 5)) (bD (aD (aK (aD tb 5)) 5)) (.none) (.none) (.none) (.str (f "cpy313.difflib") 194) none (.ref 187) (.none)),#[]⟩),
  (189,⟨.type "tuple",none,.seq #[.int (0) 464,.none,.int (0) 465,.none] 0,#[]⟩),
  (195,⟨.type "code",none,.fields #[.str (f "find_longest_match") 466,.str (f "SequenceMatcher.find_longest_match") 467,.str (f "/claim/cut.py") 468,.int (260) 0,.int (5) 0,.int (0) 0,.int (0) 0,.int (3) 0,.ref 190,.bool true,.int (181) 0,.ref 191,.none,.ref 192,.ref 193,.ref 194,.int (488) 0,.int (260) 0,.str (f "/claim/cut.py") 489],#[]⟩),
  (196,⟨.type "function",none,.func (fnOf (f "find_longest_match") (f "SequenceMatcher.find_longest_match") (bN (aD (aK (aD tb 5)) 6)) (aF (aD (aK (aD tb 5)) 6)) (bD (aD (aK (aD tb 5)) 6)) (.ref 189) (.none) (docV (aF (aD (aK (aD tb 5)) 6)) 490) (.str (f "cpy313.difflib") 194) none (.ref 195) (.none)),#[]⟩),
  (202,⟨.type "code",none,.fields #[.str (f "get_matching_blocks") 492,.str (f "SequenceMatcher.get_matching_blocks") 493,.str (f "/claim/cut.py") 494,.int (335) 0,.int (1) 0,.int (0) 0,.int (0) 0,.int (3) 0,.ref 197,.bool true,.int (181) 0,.ref 198,.none,.ref 199,.ref 200,.ref 201,.int (515) 0,.int (335) 0,.str (f "/claim/cut.py") 516],#[]⟩),
  (203,⟨.type "function",none,.func (fnOf (f "get_matching_blocks") (f "SequenceMatcher.get_matching_blocks") (bN (aD (aK (aD tb 5)) 7)) (aF (aD (aK (aD tb 5)) 7)) (bD (aD (aK (aD tb 5)) 7)) (.none) (.none) (docV (aF (aD (aK (aD tb 5)) 7)) 517) (.str (f "cpy313.difflib") 194) none (.ref 202) (.none)),#[]⟩),
  (209,⟨.type "code",none,.fields #[.str (f "get_opcodes") 519,.str (f "SequenceMatcher.get_opcodes") 520,.str (f "/claim/cut.py") 521,.int (383) 0,.int (1) 0,.int (0) 0,.int (0) 0,.int (3) 0,.ref 204,.bool true,.int (181) 0,.ref 205,.none,.ref 206,.ref 207,.ref 208,.int (530) 0,.int (383) 0,.str (f "/claim/cut.py") 531],#[]⟩),
  (210,⟨.type "function",none,.func (fnOf (f "get_opcodes") (f "SequenceMatcher.get_opcodes") (bN (aD (aK (aD tb 5)) 8)) (aF (aD (aK (aD tb 5)) 8)) (bD (aD (aK (aD tb 5)) 8)) (.none) (.none) (docV (aF (aD (aK (aD tb 5)) 8)) 532) (.str (f "cpy313.difflib") 194) none (.ref 209) (.none)),#[]⟩),
  (241,⟨.type "dict",none,.dict [⟨PyData.keyHash P (f "__module__"),.str (f "__module__") 396,.str (f "cpy313.difflib") 194⟩,⟨PyData.keyHash P (f "__firstlineno__"),.str (f "__firstlineno__") 400,.int (70) 399⟩,⟨PyData.keyHash P (f "__doc__"),.str (f "__doc__") 402,docV (aK (aD tb 5)) 401⟩,⟨PyData.keyHash P (f "__init__"),.str (f "__init__") 417,.ref 160⟩,⟨PyData.keyHash P (f "set_seqs"),.str (f "set_seqs") 427,.ref 167⟩,⟨PyData.keyHash P (f "set_seq1"),.str (f "set_seq1") 436,.ref 174⟩,⟨PyData.keyHash P (f "set_seq2"),.str (f "set_seq2") 445,.ref 181⟩,⟨PyData.keyHash P (f "_SequenceMatcher__chain_b"),.str (f "_SequenceMatcher__chain_b") 463,.ref 188⟩,⟨PyData.keyHash P (f "find_longest_match"),.str (f "find_longest_match") 491,.ref 196⟩,⟨PyData.keyHash P (f "get_matching_blocks"),.str (f "get_matching_blocks") 518,.ref 203⟩,⟨PyData.keyHash P (f "get_opcodes"),.str (f "get_opcodes") 533,.ref 210⟩,⟨PyData.keyHash P (f "get_grouped_opcodes"),.str (f "get_grouped_opcodes") 542,.ref 218⟩,⟨PyData.keyHash P (f "ratio"),.str (f "ratio") 551,.ref 225⟩,⟨PyData.keyHash P (f "quick_ratio"),.str (f "quick_ratio") 558,.ref 232⟩,⟨PyData.keyHash P (f "real_quick_ratio"),.str (f "real_quick_ratio") 565,.ref 239⟩,⟨PyData.keyHash P (f "__static_attributes__"),.str (f "__static_attributes__") 576,.ref 240⟩,⟨PyData.keyHash P (f "__dict__"),.str (f "__dict__") 578,.ref 243⟩,⟨PyData.keyHash P (f "__weakref__"),.str (f "__weakref__") 580,.ref 244⟩].toArray 3,#[]⟩),
  (242,⟨.type "type",none,.cls { name:=(f "SequenceMatcher"),bases:=[.type "object"],mro:=[.ref 242,.type "object"],ns:=241,qualname:=(f "SequenceMatcher"),hasDict:=true,slotNames:=[],subclasses:=[],abstract:=false,collection:=none,hasDel:=false },#[none,none,some (.str (f "SequenceMatcher") 389),some (.str (f "SequenceMatcher") 397),some (.builtin "object.__new__"),some (.bool true)]⟩),
  (251,⟨.type "function",none,.func (fnOf (f "_law_unfold") (f "_law_unfold") (bN (aD tb 7)) (aF (aD tb 7)) (bD (aD tb 7)) (.none) (.none) (.none) (.str (f "law_mt0008_02") 583) none (.ref 250) (.none)),#[]⟩),
  (250,⟨.type "code",none,.fields #[.str (f "_law_unfold") 585,.str (f "_law_unfold") 586,.str (f "/claim/cut.py") 587,.int (463) 0,.int (3) 0,.int (0) 0,.int (0) 0,.int (3) 0,.ref 247,.bool true,.int (181) 0,.ref 248,.none,.none,.none,.ref 249,.int (588) 0,.int (463) 0,.str (f "/claim/cut.py") 589],#[]⟩),
  (258,⟨.type "function",none,.func (fnOf (f "_law_rules") (f "_law_rules") (bN (aD tb 8)) (aF (aD tb 8)) (bD (aD tb 8)) (.none) (.none) (.none) (.str (f "law_mt0008_02") 583) none (.ref 257) (.none)),#[]⟩),
  (257,⟨.type "code",none,.fields #[.str (f "_law_rules") 591,.str (f "_law_rules") 592,.str (f "/claim/cut.py") 593,.int (468) 0,.int (2) 0,.int (0) 0,.int (0) 0,.int (3) 0,.ref 252,.bool true,.int (181) 0,.ref 253,.none,.ref 254,.ref 255,.ref 256,.int (604) 0,.int (468) 0,.str (f "/claim/cut.py") 605],#[]⟩),
  (263,⟨.type "function",none,.func (fnOf (f "_law_nodes") (f "_law_nodes") (bN (aD tb 9)) (aF (aD tb 9)) (bD (aD tb 9)) (.none) (.none) (.none) (.str (f "law_mt0008_02") 583) none (.ref 262) (.none)),#[]⟩),
  (262,⟨.type "code",none,.fields #[.str (f "_law_nodes") 607,.str (f "_law_nodes") 608,.str (f "/claim/cut.py") 609,.int (483) 0,.int (2) 0,.int (0) 0,.int (0) 0,.int (3) 0,.ref 259,.bool true,.int (181) 0,.ref 260,.none,.none,.none,.ref 261,.int (610) 0,.int (483) 0,.str (f "/claim/cut.py") 611],#[]⟩),
  (270,⟨.type "function",none,.func (fnOf (f "_law_told") (f "_law_told") (bN (aD tb 10)) (aF (aD tb 10)) (bD (aD tb 10)) (.none) (.none) (.none) (.str (f "law_mt0008_02") 583) none (.ref 269) (.none)),#[]⟩),
  (269,⟨.type "code",none,.fields #[.str (f "_law_told") 613,.str (f "_law_told") 614,.str (f "/claim/cut.py") 615,.int (498) 0,.int (2) 0,.int (0) 0,.int (0) 0,.int (3) 0,.ref 264,.bool true,.int (181) 0,.ref 265,.none,.ref 266,.ref 267,.ref 268,.int (624) 0,.int (498) 0,.str (f "/claim/cut.py") 625],#[]⟩),
  (277,⟨.type "function",none,.func (fnOf (f "_law_ask") (f "_law_ask") (bN (aD tb 11)) (aF (aD tb 11)) (bD (aD tb 11)) (.none) (.none) (.none) (.str (f "law_mt0008_02") 583) none (.ref 276) (.none)),#[]⟩),
  (276,⟨.type "code",none,.fields #[.str (f "_law_ask") 627,.str (f "_law_ask") 628,.str (f "/claim/cut.py") 629,.int (516) 0,.int (2) 0,.int (0) 0,.int (0) 0,.int (3) 0,.ref 271,.bool true,.int (181) 0,.ref 272,.none,.ref 273,.ref 274,.ref 275,.int (632) 0,.int (516) 0,.str (f "/claim/cut.py") 633],#[]⟩),
  (282,⟨.type "function",none,.func (fnOf (f "law") (f "law") (bN (aD tb 12)) (aF (aD tb 12)) (bD (aD tb 12)) (.none) (.none) (.none) (.str (f "law_mt0008_02") 583) none (.ref 281) (.none)),#[]⟩),
  (281,⟨.type "code",none,.fields #[.str (f "law") 635,.str (f "law") 636,.str (f "/claim/cut.py") 637,.int (518) 0,.int (1) 0,.int (0) 0,.int (0) 0,.int (3) 0,.ref 278,.bool true,.int (181) 0,.ref 279,.none,.none,.none,.ref 280,.int (638) 0,.int (518) 0,.str (f "/claim/cut.py") 639],#[]⟩)]
noncomputable def K (P:Params):Frag:=KG Str.ofString topBody P
noncomputable def kAddrs:List Addr:=[2,3,81,82,88,89,91,134,135,136,153,159,160,166,167,173,174,180,181,187,188,189,195,196,202,203,209,210,241,242,251,250,258,257,263,262,270,269,277,276,282,281]
noncomputable def loose:List Str:=["_wall","_tuplegetter","Match","_calculate_ratio","SequenceMatcher","_law_unfold","_law_rules","_law_nodes","_law_told","_law_ask"]
noncomputable def q:Program:=view pw [12]

noncomputable def natsOf (l:List UInt8):List Nat:=@List.rec UInt8 (fun _=>List Nat) [] (fun b _ ih=>b.toNat :: ih) l
noncomputable def ofStrQ (s:String):Str:=@Bool.rec (fun _=>Str) (Str.ofString s) ⟨⟨natsOf (S.bytesOf s)⟩⟩ (S.allLow (S.bytesOf s))
theorem natsOf_eq:∀ l,S.allLow l=true→natsOf l=(S.decA l).map Char.toNat
  | [],_=>rfl
  | b :: l,h=>by
    rw [S.allLow_cons] at h
    have h2:=(Bool.and_eq_true _ _ ▸ h:_∧_)
    have e:(Char.ofNat b.toNat).toNat=b.toNat:=by
      have:b.toNat≤127:=Nat.le_of_ble_eq_true h2.1
      have:b.toNat.isValidChar:=.inl (by exact lq1 0xf11d8002901f7f0900f rfl this)
      unfold Char.ofNat
      rw [dif_pos this]
      rfl
    show b.toNat :: natsOf l=(Char.ofNat b.toNat).toNat :: (S.decA l).map Char.toNat
    rw [natsOf_eq l h2.2,e]
theorem ofStr_eq:Str.ofString=ofStrQ:=by
  funext s
  have e:S.toListS s=@Bool.rec (fun _=>List Char) s.toList (S.decA (S.bytesOf s)) (S.allLow (S.bytesOf s)):=rfl
  unfold ofStrQ
  cases hv:S.allLow (S.bytesOf s) with
  | false=>rfl
  | true =>
    rw [Str.ofString_eq_toList,S.toListS_eq,e,hv]
    show Str.mk ⟨(S.decA (S.bytesOf s)).map Char.toNat⟩=⟨⟨natsOf (S.bytesOf s)⟩⟩
    rw [natsOf_eq _ hv]
noncomputable def docS (p:Program):Str:=((docOf (aK (aD p.main.body 5))).getD Str.empty)
noncomputable def sel0 {a Y:Str} (_:a=Y):Str:=Y
noncomputable def docX:Str:=by
  refine' sel0 (a:=docS pw) ?_
  rotate_left
  have hD:docS pw=Str.ofString _:=rfl
  exact hD.trans (PySem.W.Fast.ofString_ofList _)
theorem docX_eq:docS pw=docX:=by
  have hD:docS pw=Str.ofString _:=rfl
  exact hD.trans (PySem.W.Fast.ofString_ofList _)
noncomputable def sel {α β γ:Type} {a:α} {X:β→γ→α} {b:β} {d:γ} (_:a=X b d) (b':β) (d':γ):α:=X b' d'
noncomputable def pwG (f:String→Str) (D:Str):Program:=by
  refine' sel (a:=PySem.Challenge.pw_mt0008_02) (b:=Str.ofString) (d:=docS pw) ?_ f D
  rotate_left
  have hD:docS pw=Str.ofString _:=rfl
  delta PySem.Challenge.pw_mt0008_02
  rw [← hD]
  generalize docS pw=D
  generalize Str.ofString=g
  exact rfl
theorem pwG_eq:pw=pwG Str.ofString (docS pw):=by kernel_rfl
noncomputable def pwF:Program:=pwG ofStrQ docX
theorem pw_eq:pw=pwF:=by
  unfold pwF
  rw [← ofStr_eq,← docX_eq]
  exact pwG_eq
noncomputable def KF (P:Params):Frag:=KG ofStrQ pwF.main.body P
theorem K_eq:KF=K:=by
  unfold KF
  rw [← pw_eq,← ofStr_eq]
  rfl
theorem check (w:World) (os:OsState):(topFrom (tabOf PySem.W.Fast.tw4202317264376624991) pwF w 5000 ⟨boot_heap w.params,⟨[]⟩,boot_drawn,boot_toks,os⟩).map
    (fun s=>(openSeen (view pwF [12]) loose (importedModules pwF.main.body) (fun s=>xlAt (view pwF [12]) [] s && recOk [] s) true s,kAddrs.map s.heap.get?)) =
    some (openGood (view pwF [12]) loose,(KF w.params).map fun p=>some p.2):=by
  unfold topFrom
  rw [PySem.W.Fast.te14082659384304107361,PySem.W.Fast.te4187177175401517315]
  delta PySem.W.Fast.tw4202317264376624991
  rw [anyA_eq]
  kernel_rfl
theorem opening_eq:opening pw=plainProg pw.main.scope.names:=by kernel_rfl
theorem fence_eq:∀ s,fenceModules? pw s=some s:=fun s=>by kernel_rfl
theorem kAddrs_eq:∀ P,kAddrs=(K P).map (·.1):=fun _=>by kernel_rfl
theorem left:LeftO pw q loose (fun s=>xlAt q [] s && recOk [] s) (fun s=>kAddrs.map s.heap.get?) (fun w=>(K w.params).map fun p=>some p.2) 5000:=fun w=>by
  obtain ⟨⟨h,gs,dr,k,os⟩,e,e'⟩:=Option.map_eq_some_iff.mp (boot_open (p:=pw) (N:=5000) opening_eq (by decide) fence_eq w)
  obtain ⟨rfl,rfl,rfl,rfl⟩:h=boot_heap w.params∧gs=Array.mk []∧dr=boot_drawn∧k=boot_toks:=by simpa using e'
  have c:=check w os
  rw [K_eq,← pw_eq,← tabOf_eq] at c
  unfold openEnds
  rw [e,Option.bind_some]
  exact c
theorem lawSaid:OpenLaw.wellSaid PySem.Challenge.rw_mt0008_02=true:=by
  have e:PySem.Challenge.rw_mt0008_02={ PySem.Challenge.rw_mt0008_02 with prog:=pwF }:=by rw [← pw_eq];rfl
  rw [e,PySem.W.Fast.te9446332074065402090]
  kernel_rfl
noncomputable def lawDef:DefRec:={ name:="law",params:=bN (aD topBody 12),body:=aF (aD topBody 12),scope:=bD (aD topBody 12),pos:=defPos (aD topBody 12) }
theorem head (hc:WalkO q loose (XL q []) (InK K) PySem.Challenge.rw_mt0008_02.row.toRowW lawDef [] (fun f vs=>PySem.call f vs)):PySem.Challenge.rw_mt0008_02.Holds:=by
  refine holds_law lawSaid fun said=>?_
  refine PySem.W.holds_open (q:=q) (loose:=loose) (Xt:=fun s=>xlAt q [] s && recOk [] s) (XP:=XL q []) (YP:=InK K) (d:=lawDef) (kwd:=[]) (N:=5000) left (InK.of kAddrs_eq) InK.keeps (fun s e=>xl_of s (Bool.and_eq_true_iff.mp e).1) XL.keeps (by kernel_rfl) (by kernel_rfl) (by kernel_rfl) (fun s e=>recFacts_of (Bool.and_eq_true_iff.mp e).2) (by rfl) said (by decide +kernel) ⟨rfl,rfl,rfl,rfl,rfl,by decide +kernel⟩ ?hw hc
  case hw=>w_witness2
theorem args_ints {R:WRecords} {args:List WData} (h:WShape.hasAll R args [.list .int]=true):∃ ns:List Int,args=[.list (ns.map WData.int)]:=by
  obtain ⟨d,r,rfl,h1,h2⟩:=hasAllW_cons h
  obtain rfl:=hasAllW_nil h2
  obtain ⟨xs,rfl,h3⟩:=hasW_list h1
  obtain ⟨ns,rfl⟩:=items_int h3
  exact ⟨ns,rfl⟩
theorem reads_ints {R:WRecords} {cl:Str→Option Addr} {h:Heap} (ns:List Int):∀ {vs:List Value} {as:List Addr},ReadsAllW R cl h vs (ns.map WData.int) as→IntsAre vs ns:=by
  induction ns with
  | nil=>intro vs as r;rw [(readsAllW_nil_inv r).1];exact .nil
  | cons n ns ih =>
    intro vs as r
    obtain ⟨v,us,a,b,rfl,_,r1,r2⟩:=readsAllW_cons_inv r
    obtain ⟨t,rfl,_⟩:=readsW_int_inv r1
    exact .cons _ _ (ih r2)
theorem vals_ints {R:WRecords} {cl:Str→Option Addr} {h:Heap} {ns:List Int} {vals:List Value} {as:List Addr} (r:ReadsAllW R cl h vals [.list (ns.map WData.int)] as):∃ a vs,vals=[.ref a]∧h.IsList a vs∧IntsAre vs.toList ns:=by
  obtain ⟨v,us,_,_,rfl,_,r1,r2⟩:=readsAllW_cons_inv r
  obtain ⟨a,vs,_,rfl,hl,r3,_⟩:=readsW_list_inv r1
  exact ⟨a,vs,by rw [(readsAllW_nil_inv r2).1],hl,reads_ints ns r3⟩
theorem pre_len {l:OpenLaw} (hm:l.most=some 63) (hb:l.bound=none) {ns:List Int} (h:l.pre.holds [] { args:=[.list (ns.map WData.int)] }=true):ns.length≤63:=by
  unfold OpenLaw.pre at h
  rw [hm,hb] at h
  rcases Nat.lt_or_ge 63 ns.length with hlt | hge
  · exfalso
    have e1:(WTm.lt (.lit (.int ((63:Nat):Int))) (.len (.arg 0))).value [] { args:=[.list (ns.map WData.int)] }=some (.bool (decide ((63:Int) < ((ns.map WData.int).length:Int)))):=by rfl
    rw [List.length_map,decide_eq_true (by exact lq1 0xf110c3f094f03f091f rfl hlt:(63:Int) < (ns.length:Int))] at e1
    have e2:(WTm.and (.not (.lt (.lit (.int ((63:Nat):Int))) (.len (.arg 0)))) (.lit (.bool true))).value [] { args:=[.list (ns.map WData.int)] }=some (.bool false):=by
      have e3:(WTm.not (.lt (.lit (.int ((63:Nat):Int))) (.len (.arg 0)))).value [] { args:=[.list (ns.map WData.int)] }=some (.bool false):=by
        rw [WTm.value,e1];rfl
      rw [WTm.value,e3]
    change (match (WTm.and (.not (.lt (.lit (.int ((63:Nat):Int))) (.len (.arg 0)))) (.lit (.bool true))).value [] { args:=[.list (ns.map WData.int)] } with
      | some (.bool true)=>true
      | _=>false)=true at h
    rw [e2] at h
    cases h
  · exact hge
noncomputable def glList:List (Str×Value):=[("SequenceMatcher",.ref 242),("Match",.ref 135),("_law_unfold",.ref 251),("_law_rules",.ref 258),("_law_nodes",.ref 263),("_law_told",.ref 270),("_law_ask",.ref 277),("law",.ref 282)]
noncomputable def blList:List (Str×Value):=[("sum",.builtin "sum"),("len",.builtin "len"),("range",.type "range"),("enumerate",.type "enumerate"),("set",.type "set"),("list",.type "list"),("map",.type "map"),("tuple",.type "tuple")]
noncomputable def glOf (x:Str):Option Value:=(glList++blList).lookup x
theorem len1 {α:Type} {vs:List α} (h:vs.length=1):∃ a,vs=[a]:=by
  cases vs with
  | nil=>cases h
  | cons a r=>exact ⟨a,by rw [List.eq_nil_of_length_eq_zero (Nat.succ.inj h)]⟩
theorem len_s {α:Type} {n:Nat} {vs:List α} (h:vs.length=n+1):∃ a r,vs=a :: r∧r.length=n:=by
  cases vs with
  | nil=>cases h
  | cons a r=>exact ⟨a,r,rfl,Nat.succ.inj h⟩
theorem len2 {α:Type} {vs:List α} (h:vs.length=2):∃ a b,vs=[a,b]:=let ⟨a,_,e,h⟩:=len_s h;let ⟨b,e'⟩:=len1 h;⟨a,b,e.trans (e' ▸ rfl)⟩
theorem len3 {α:Type} {vs:List α} (h:vs.length=3):∃ a b c,vs=[a,b,c]:=let ⟨a,_,e,h⟩:=len_s h;let ⟨b,c,e'⟩:=len2 h;⟨a,b,c,e.trans (e' ▸ rfl)⟩
theorem len4 {α:Type} {vs:List α} (h:vs.length=4):∃ a b c d,vs=[a,b,c,d]:=let ⟨a,_,e,h⟩:=len_s h;let ⟨b,c,d,e'⟩:=len3 h;⟨a,b,c,d,e.trans (e' ▸ rfl)⟩
theorem len5 {α:Type} {vs:List α} (h:vs.length=5):∃ a b c d e,vs=[a,b,c,d,e]:=let ⟨a,_,e,h⟩:=len_s h;let ⟨b,c,d,f,e'⟩:=len4 h;⟨a,b,c,d,f,e.trans (e' ▸ rfl)⟩
noncomputable def parsOk (sc:Scope) (names:List Str) (n:Nat):Bool:=names.all fun x=>decide (sc.names.lookup x=some .local) || (decide (sc.names.lookup x=some .cell) && ((cellsFrom n sc.names []).lookup x).isSome)
theorem pars_of {sc:Scope} {names:List Str} (h:∀ n,parsOk sc names n=true) (x:Str) (hx:x∈names):sc.names.lookup x=some .local∨(sc.names.lookup x=some .cell∧∀ n,((cellsFrom n sc.names []).lookup x).isSome=true):=by
  have k:=fun n=>List.all_eq_true.mp (h n) x hx
  simp only [Bool.or_eq_true,Bool.and_eq_true,decide_eq_true_eq] at k
  exact (k 0).imp id fun h0=>⟨h0.1,fun n=>(k n).elim (fun e=>by rw [h0.1] at e;cases e) fun e=>e.2⟩
theorem bO {X:Cx} {f:Addr} {o:Obj} {fd:FuncData} {body:List Stmt} {names:List Str} (Kin:X.K.In X.h₀) (ho:X.K.lookup f=some o) (hd:o.data=.func fd) (hc:codeIn X.K fd.code fd.qualname=true) (hb:fd.body=.stmts body) (hcl:fd.closure=[]) (hg:fd.globals=mainGlobals) (hbt:fd.builtins=builtinsNs)
    (hbind:∀ (s:Shared) (vs:List Value),(∀ b o,X.h₀.get? b=some o→s.heap.get? b=some o)→vs.length=names.length→BindsTo s fd ⟨vs,[]⟩ (names.zip vs)) (hnd:names.Nodup) (hpar:∀ n,parsOk fd.scope names n=true)
    (hco:fd.scope.isCoroutine=false) (hgen:fd.scope.isGenerator=false) (hk:fd.scope.kind=.function):DefAt X f fd body names :=
  ⟨⟨o,Kin _ _ ho,hd⟩,codeRec_of Kin hc,hb,hcl,hg,hbt,hbind,hnd,pars_of hpar,hco,hgen,hk⟩
section
variable {w:World} {h₀:Heap} {os₀:OsState} {mg mb:Str→Option Value}
noncomputable abbrev XC (w:World) (h₀:Heap) (os₀:OsState) (mg mb:Str→Option Value):Cx:={ prog:=pw,w:=w,h₀:=h₀,os₀:=os₀,mg:=mg,mb:=mb,gl:=glOf,K:=K w.params,dat:=fun _ _=>False }
theorem unf_def (Kin:(K w.params).In h₀):LDef (XC w h₀ os₀ mg mb) 7 251 "_law_unfold" ["text","rules","parts"]:=by
  have hb:∀ vs:List Value,vs.length=3→bindArgs (fdLaw 7 "_law_unfold" (.str "law_mt0008_02" 583) (.ref 250) .none) ⟨vs,[]⟩=pure ([("text":Str),("rules":Str),("parts":Str)].zip vs):=fun vs h=>by
    obtain ⟨a,b,c,rfl⟩:=len3 h;rfl
  exact ⟨rfl,.str "law_mt0008_02" 583,.ref 250,.none,bO (o:=⟨.type "function",none,.func (fdLaw 7 "_law_unfold" (.str "law_mt0008_02" 583) (.ref 250) .none),#[]⟩) Kin rfl rfl rfl rfl rfl rfl rfl (fun s vs _ h=>BindsTo.of_eq (hb vs h)) (by decide) (fun n=>by kernel_rfl) rfl rfl rfl,hb⟩
theorem rules_def (Kin:(K w.params).In h₀):LDef (XC w h₀ os₀ mg mb) 8 258 "_law_rules" ["text","numbers"]:=by
  have hb:∀ vs:List Value,vs.length=2→bindArgs (fdLaw 8 "_law_rules" (.str "law_mt0008_02" 583) (.ref 257) .none) ⟨vs,[]⟩=pure ([("text":Str),("numbers":Str)].zip vs):=fun vs h=>by
    obtain ⟨a,b,rfl⟩:=len2 h;rfl
  exact ⟨rfl,.str "law_mt0008_02" 583,.ref 257,.none,bO (o:=⟨.type "function",none,.func (fdLaw 8 "_law_rules" (.str "law_mt0008_02" 583) (.ref 257) .none),#[]⟩) Kin rfl rfl rfl rfl rfl rfl rfl (fun s vs _ h=>BindsTo.of_eq (hb vs h)) (by decide) (fun n=>by kernel_rfl) rfl rfl rfl,hb⟩
theorem nodes_def (Kin:(K w.params).In h₀):LDef (XC w h₀ os₀ mg mb) 9 263 "_law_nodes" ["text","rules"]:=by
  have hb:∀ vs:List Value,vs.length=2→bindArgs (fdLaw 9 "_law_nodes" (.str "law_mt0008_02" 583) (.ref 262) .none) ⟨vs,[]⟩=pure ([("text":Str),("rules":Str)].zip vs):=fun vs h=>by
    obtain ⟨a,b,rfl⟩:=len2 h;rfl
  exact ⟨rfl,.str "law_mt0008_02" 583,.ref 262,.none,bO (o:=⟨.type "function",none,.func (fdLaw 9 "_law_nodes" (.str "law_mt0008_02" 583) (.ref 262) .none),#[]⟩) Kin rfl rfl rfl rfl rfl rfl rfl (fun s vs _ h=>BindsTo.of_eq (hb vs h)) (by decide) (fun n=>by kernel_rfl) rfl rfl rfl,hb⟩
theorem told_def (Kin:(K w.params).In h₀):LDef (XC w h₀ os₀ mg mb) 10 270 "_law_told" ["size","edit"]:=by
  have hb:∀ vs:List Value,vs.length=2→bindArgs (fdLaw 10 "_law_told" (.str "law_mt0008_02" 583) (.ref 269) .none) ⟨vs,[]⟩=pure ([("size":Str),("edit":Str)].zip vs):=fun vs h=>by
    obtain ⟨a,b,rfl⟩:=len2 h;rfl
  exact ⟨rfl,.str "law_mt0008_02" 583,.ref 269,.none,bO (o:=⟨.type "function",none,.func (fdLaw 10 "_law_told" (.str "law_mt0008_02" 583) (.ref 269) .none),#[]⟩) Kin rfl rfl rfl rfl rfl rfl rfl (fun s vs _ h=>BindsTo.of_eq (hb vs h)) (by decide) (fun n=>by kernel_rfl) rfl rfl rfl,hb⟩
theorem ask_def (Kin:(K w.params).In h₀):LDef (XC w h₀ os₀ mg mb) 11 277 "_law_ask" ["a","b"]:=by
  have hb:∀ vs:List Value,vs.length=2→bindArgs (fdLaw 11 "_law_ask" (.str "law_mt0008_02" 583) (.ref 276) .none) ⟨vs,[]⟩=pure ([("a":Str),("b":Str)].zip vs):=fun vs h=>by
    obtain ⟨a,b,rfl⟩:=len2 h;rfl
  exact ⟨rfl,.str "law_mt0008_02" 583,.ref 276,.none,bO (o:=⟨.type "function",none,.func (fdLaw 11 "_law_ask" (.str "law_mt0008_02" 583) (.ref 276) .none),#[]⟩) Kin rfl rfl rfl rfl rfl rfl rfl (fun s vs _ h=>BindsTo.of_eq (hb vs h)) (by decide) (fun n=>by kernel_rfl) rfl rfl rfl,hb⟩
theorem law_def (Kin:(K w.params).In h₀):LDef (XC w h₀ os₀ mg mb) 12 282 "law" ["script"]:=by
  have hb:∀ vs:List Value,vs.length=1→bindArgs (fdLaw 12 "law" (.str "law_mt0008_02" 583) (.ref 281) .none) ⟨vs,[]⟩=pure ([("script":Str)].zip vs):=fun vs h=>by
    obtain ⟨a,rfl⟩:=len1 h;rfl
  exact ⟨rfl,.str "law_mt0008_02" 583,.ref 281,.none,bO (o:=⟨.type "function",none,.func (fdLaw 12 "law" (.str "law_mt0008_02" 583) (.ref 281) .none),#[]⟩) Kin rfl rfl rfl rfl rfl rfl rfl (fun s vs _ h=>BindsTo.of_eq (hb vs h)) (by decide) (fun n=>by kernel_rfl) rfl rfl rfl,hb⟩
theorem init_def (Kin:(K w.params).In h₀):SMeth (XC w h₀ os₀ mg mb) 1 160 "__init__" "__init__" ["self","isjunk","a","b","autojunk"]:=by
  refine ⟨by kernel_rfl,by kernel_rfl,(_,_,_,_),bO Kin (by rfl) (by rfl) (by rfl) rfl rfl rfl rfl (fun s vs kb h=>?_) (by decide) (fun n=>by kernel_rfl) rfl rfl rfl⟩
  obtain ⟨a,b,c,d,e,rfl⟩:=len5 h
  exact BindsTo.of_defaults (T:=153) rfl (kb _ _ (Kin 153 _ rfl)) rfl rfl rfl
theorem seqs_def (Kin:(K w.params).In h₀):SMeth (XC w h₀ os₀ mg mb) 2 167 "set_seqs" "set_seqs" ["self","a","b"]:=by
  refine ⟨by kernel_rfl,by kernel_rfl,(_,_,_,_),bO Kin (by rfl) (by rfl) (by rfl) rfl rfl rfl rfl (fun s vs kb h=>?_) (by decide) (fun n=>by kernel_rfl) rfl rfl rfl⟩
  obtain ⟨a,b,c,rfl⟩:=len3 h
  exact BindsTo.of_eq rfl
theorem seq1_def (Kin:(K w.params).In h₀):SMeth (XC w h₀ os₀ mg mb) 3 174 "set_seq1" "set_seq1" ["self","a"]:=by
  refine ⟨by kernel_rfl,by kernel_rfl,(_,_,_,_),bO Kin (by rfl) (by rfl) (by rfl) rfl rfl rfl rfl (fun s vs kb h=>?_) (by decide) (fun n=>by kernel_rfl) rfl rfl rfl⟩
  obtain ⟨a,b,rfl⟩:=len2 h
  exact BindsTo.of_eq rfl
theorem seq2_def (Kin:(K w.params).In h₀):SMeth (XC w h₀ os₀ mg mb) 4 181 "set_seq2" "set_seq2" ["self","b"]:=by
  refine ⟨by kernel_rfl,by kernel_rfl,(_,_,_,_),bO Kin (by rfl) (by rfl) (by rfl) rfl rfl rfl rfl (fun s vs kb h=>?_) (by decide) (fun n=>by kernel_rfl) rfl rfl rfl⟩
  obtain ⟨a,b,rfl⟩:=len2 h
  exact BindsTo.of_eq rfl
theorem chain_def (Kin:(K w.params).In h₀):SMeth (XC w h₀ os₀ mg mb) 5 188 "__chain_b" "_SequenceMatcher__chain_b" ["self"]:=by
  refine ⟨by kernel_rfl,by kernel_rfl,(_,_,_,_),bO Kin (by rfl) (by rfl) (by rfl) rfl rfl rfl rfl (fun s vs kb h=>?_) (by decide) (fun n=>by kernel_rfl) rfl rfl rfl⟩
  obtain ⟨a,rfl⟩:=len1 h
  exact BindsTo.of_eq rfl
theorem find_def (Kin:(K w.params).In h₀):SMeth (XC w h₀ os₀ mg mb) 6 196 "find_longest_match" "find_longest_match" ["self","alo","ahi","blo","bhi"]:=by
  refine ⟨by kernel_rfl,by kernel_rfl,(_,_,_,_),bO Kin (by rfl) (by rfl) (by rfl) rfl rfl rfl rfl (fun s vs kb h=>?_) (by decide) (fun n=>by kernel_rfl) rfl rfl rfl⟩
  obtain ⟨a,b,c,d,e,rfl⟩:=len5 h
  exact BindsTo.of_defaults (T:=189) rfl (kb _ _ (Kin 189 _ rfl)) rfl rfl rfl
theorem blocks_def (Kin:(K w.params).In h₀):SMeth (XC w h₀ os₀ mg mb) 7 203 "get_matching_blocks" "get_matching_blocks" ["self"]:=by
  refine ⟨by kernel_rfl,by kernel_rfl,(_,_,_,_),bO Kin (by rfl) (by rfl) (by rfl) rfl rfl rfl rfl (fun s vs kb h=>?_) (by decide) (fun n=>by kernel_rfl) rfl rfl rfl⟩
  obtain ⟨a,rfl⟩:=len1 h
  exact BindsTo.of_eq rfl
theorem codes_def (Kin:(K w.params).In h₀):SMeth (XC w h₀ os₀ mg mb) 8 210 "get_opcodes" "get_opcodes" ["self"]:=by
  refine ⟨by kernel_rfl,by kernel_rfl,(_,_,_,_),bO Kin (by rfl) (by rfl) (by rfl) rfl rfl rfl rfl (fun s vs kb h=>?_) (by decide) (fun n=>by kernel_rfl) rfl rfl rfl⟩
  obtain ⟨a,rfl⟩:=len1 h
  exact BindsTo.of_eq rfl
end
section
variable {w:World} {h₀:Heap} {os₀:OsState} {mg mb:Str→Option Value}
theorem df_of (Kin:(K w.params).In h₀):DF (XC w h₀ os₀ mg mb) where
  cls:=⟨_,by rfl,by rfl,by kernel_rfl,by kernel_rfl,by kernel_rfl,by kernel_rfl⟩
  own:=fun name hn=>by
    have h:=List.all_eq_true.mp (show (smAttrs.all fun name=>decide (findIn (K w.params) (.ref 242) name=some none) && decide (takerIn (K w.params) 242 name=some none))=true by kernel_rfl) name hn
    simpa only [Bool.and_eq_true,decide_eq_true_eq] using h
  init:=init_def Kin
  seqs:=seqs_def Kin
  seq1:=seq1_def Kin
  seq2:=seq2_def Kin
  chain:=chain_def Kin
  find:=find_def Kin
  blocks:=blocks_def Kin
  codes:=codes_def Kin
  len:=rfl
  range:=rfl
  enumerate:=rfl
  set:=rfl
  list:=rfl
  map:=rfl
  tuple:=rfl
  mtch:=rfl
theorem mnew_def (Kin:(K w.params).In h₀):∃ z,DefAt (XC w h₀ os₀ mg mb) 82 (fdMT 4 "__new__" z) (aF (mtSt 4)) ["_cls","a","b","size"]:=by
  refine ⟨(_,_,_,_),bO Kin (by rfl) (by rfl) (by rfl) rfl rfl rfl rfl (fun s vs kb h=>?_) (by decide) (fun n=>by kernel_rfl) rfl rfl rfl⟩
  obtain ⟨a,b,c,d,rfl⟩:=len4 h
  exact BindsTo.of_eq rfl
theorem mmake_def (Kin:(K w.params).In h₀):∃ z,DefAt (XC w h₀ os₀ mg mb) 89 (fdMT 5 "_make" z) (aF (mtSt 5)) ["cls","iterable"]:=by
  refine ⟨(_,_,_,_),bO Kin (by rfl) (by rfl) (by rfl) rfl rfl rfl rfl (fun s vs kb h=>?_) (by decide) (fun n=>by kernel_rfl) rfl rfl rfl⟩
  obtain ⟨a,b,rfl⟩:=len2 h
  exact BindsTo.of_eq rfl
theorem mf_of (Kin:(K w.params).In h₀):MF (XC w h₀ os₀ mg mb) where
  obj:=⟨_,_,_,by rfl,by rfl,by rfl,by rfl,by rfl⟩
  reads:=by kernel_rfl
  new:=by kernel_rfl
  srec:=by kernel_rfl
  call:=by kernel_rfl
  typ:=by kernel_rfl
  init:=by kernel_rfl
  tnew:=by kernel_rfl
  keep:=by kernel_rfl
  iter:=by kernel_rfl
  ltm:=by kernel_rfl
  dnew:=mnew_def Kin
theorem mg_of (Kin:(K w.params).In h₀):MG (XC w h₀ os₀ mg mb) where
  make:=by kernel_rfl
  crec:=⟨_,by rfl⟩
  len:=by kernel_rfl
  dmake:=mmake_def Kin
theorem lg_of (Kin:(K w.params).In h₀):LG (XC w h₀ os₀ mg mb) where
  df:=df_of Kin
  mf:=mf_of Kin
  mg:=mg_of Kin
  sm:=rfl
  kp:=by kernel_rfl
  made:=by kernel_rfl
  sum:=rfl
  unf:=unf_def Kin
  rules:=rules_def Kin
  nodes:=nodes_def Kin
  told:=told_def Kin
  ask:=ask_def Kin
end
theorem gl_mem {x:Str} {v:Value} (h:glOf x=some v):(x,v)∈glList++blList:=mem_of_lookup h
noncomputable def mainEs (P:Params):Array DictEntry:=match (K P).lookup mainGlobals with
  | some ⟨_,_,.dict es _,_⟩=>es
  | _=>#[]
noncomputable def mainEp (P:Params):Nat:=match (K P).lookup mainGlobals with
  | some ⟨_,_,.dict _ n,_⟩=>n
  | _=>0
theorem mg_of_K {w:World} {h:Heap} {mg:Str→Option Value} (Kin:(K w.params).In h) (g:h.Ns mainGlobals mg) (x:Str):nsFind (mainEs w.params) x=mg x:=by
  obtain ⟨o,es,ep,h1,h2,h3,h4⟩:=g
  have h5:h.get? mainGlobals=some ⟨.type "dict",none,.dict (mainEs w.params) (mainEp w.params),#[]⟩:=Kin mainGlobals _ (by rfl)
  rw [h1] at h5
  have h6:o.data=.dict (mainEs w.params) (mainEp w.params):=congrArg Obj.data (Option.some.inj h5)
  rw [h2] at h6
  injection h6 with e1 e2
  rw [← e1]
  exact h4 x
theorem wf_of {w:World} {h:Heap} {os₀:OsState} {mg mb:Str→Option Value} (Kin:(K w.params).In h) (g:h.Ns mainGlobals mg) (b:h.Ns builtinsNs mb) (nl:h.NoLimit) (hb:∀ x:Str,x ≠ "__name__"→mb x=bootBuiltins x):Wf (XC w h os₀ mg mb) where
  nolimit:=nl
  g:=g
  b:=b
  kin:=Kin
  gl:=fun x v e=>by
    have h1:=mg_of_K Kin g
    have hm:=gl_mem e
    show mg x=some v∨(mg x=none∧mb x=some v)
    rw [← h1]
    rcases List.mem_append.mp hm with hm | hm
    · have h:=List.all_eq_true.mp (show (glList.all fun p=>decide (nsFind (mainEs w.params) p.1=some p.2))=true by kernel_rfl) _ hm
      exact .inl (of_decide_eq_true h)
    · have h:=List.all_eq_true.mp (show (blList.all fun p=>decide (nsFind (mainEs w.params) p.1=none) && (decide (bootBuiltins p.1=some p.2) && !decide (p.1="__name__")))=true by kernel_rfl) _ hm
      simp only [Bool.and_eq_true,Bool.not_eq_true',decide_eq_true_eq,decide_eq_false_iff_not] at h
      exact .inr ⟨h.1,(hb _ h.2.2).trans h.2.1⟩
theorem walked:WalkO q loose (XL q []) (InK K) PySem.Challenge.rw_mt0008_02.row.toRowW lawDef [] (fun f vs=>PySem.call f vs):=by
  intro w s₀ s₁ mg mb G Y a o pm cd doc dV kV ha ho hcode hdf hmg hgens args vals as hpre hlay hreads hwell has
  have Kin:(K w.params).In s₁.heap:=Y
  obtain ⟨p1,p2⟩:=pre_splitW hpre
  obtain ⟨ns,rfl⟩:=args_ints p1
  have hn:ns.length≤63:=pre_len (l:=PySem.Challenge.rw_mt0008_02) rfl rfl p2
  obtain ⟨sa,vs,rfl,hl,hi⟩:=vals_ints hreads
  have W:Wf (XC w s₁.heap s₁.os mg mb):=wf_of Kin G.T.g G.T.b G.T.nolimit G.T.builtins
  have F:LG (XC w s₁.heap s₁.os mg mb):=lg_of Kin
  have hlaw:=law_def (os₀:=s₁.os) (mg:=mg) (mb:=mb) Kin
  have ha':a=282:=by
    have h1:mg "law"=some (.ref 282):=by rw [← mg_of_K Kin G.T.g];kernel_rfl
    have h2:mg "law"=some (.ref a):=hmg
    rw [h1] at h2
    injection h2 with h2
    injection h2 with h2
    exact h2.symm
  subst ha'
  obtain ⟨_,z1,z2,z3,D,_⟩:=hlaw
  refine enter_call ?_
  have A0:At (XC w s₁.heap s₁.os mg mb) s₁:=⟨W,fun _ _ e=>e,hgens,rfl⟩
  refine call_body (X:=XC w s₁.heap s₁.os mg mb) (k:=10) D (bad:=fun _=>False) (bs:=[.raw (.ref sa)]) ⟨rfl,by decide +kernel,by decide +kernel⟩ A0 (fun _ h=>h.elim) (fun _ _ h=>h.elim) ?_ rfl fun L A' s2 R r hk hp hg hos=>?_
  · exact .cons (.raw _) .nil
  · refine wpAny_mono (law_walk (k:=0) F hl hi hn A' (fun _=>False) nO s2 R r) (fun fl s' h=>?_) fun _ _ h=>h
    obtain ⟨f,ρ',O',rfl,hf,st,r'⟩:=h
    obtain ⟨v,rfl,hv⟩:=hf
    cases hv
    exact ⟨.inl ⟨.bool true,.bool true,[],rfl,fun cls=>rfl,.bool true,by kernel_rfl,fun _=>⟨.nil,fun _ h=>by cases h⟩⟩,.of_keep r'.base,r'.os,.of_eq r'.gens⟩
theorem done:PySem.Challenge.rw_mt0008_02.Holds:=head walked
end Mine
theorem PySem.Challenge.cw_mt0008_02_holds : PySem.Challenge.rw_mt0008_02.Holds :=
  Mine.done
