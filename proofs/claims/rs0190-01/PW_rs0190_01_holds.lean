import PyProof.Rows.All
import Wide.All
import OpenK.AllK
import KE.KPar
import Wide.FinOn
import PySem.Challenge.RW_rs0190_01
set_option Elab.async false
set_option linter.all false
set_option maxRecDepth 100000
set_option genSizeOf false
set_option genInjectivity false
set_option genCtorIdx false
namespace Mine
theorem i9 {α β : Type _} (a : α) (f : α → Option β) : (some a).bind f = f a := rfl
theorem n6 {α β : Type _} (a : α) (f : α → β) : Option.map f (some a) = some (f a) := rfl
theorem u4 : (false = true) = False := Bool.false_eq_true
theorem A0 {α : Type _} {a : α} {l : List α} : (a :: l).length = l.length + 1 := rfl
theorem A5 {α : Type _} : ([] : List α).length = 0 := rfl
theorem B5 {α : Type _} {x : α} {l : List α} {a : α} : (x :: l).set 0 a = a :: l := rfl
theorem D3 {α : Type _} {x : α} {l : List α} {i : Nat} {a : α} : (x :: l).set (i + 1) a = x :: l.set i a := rfl
theorem z5 (a b : Bool) : ((a && b) = true) = (a = true ∧ b = true) := Bool.and_eq_true a b
theorem B8 {α : Type _} {a : α} : ¬ a ∈ [] := List.not_mem_nil
theorem G6 {α : Type _} (y : α) {a : α} {l : List α} : a ∈ l → a ∈ y :: l := List.mem_cons_of_mem y
theorem z4 {α : Type _} {p : α → Bool} {l : List α} : l.all p = true ↔ ∀ x,x ∈ l → p x = true := List.all_eq_true
open PySem.Builtin.Int (intBits)
open PySem
set_option genInjectivity true in
set_option genCtorIdx true in
inductive PV where
 | unb | none | bool (b : Bool) | int (i : Int) | str (l : List Nat)
 | tup (l : List PV) | list (l : List PV) | box (n : Nat)
 | glob (a : Nat) | clo (k : Nat) (cap : List PV)
abbrev Sto := List (List PV)
abbrev Rho := List PV
inductive Y0 where
 | add | sub | mul | fdiv | mod | pow | shl | shr | band | bor | bxor
 | neg | inv | not
 | eq | ne | lt | le | gt | ge | isc (c : PV) | inn | notin
 | idx | slice (lo hi st : Bool)
 | len | sum | sorted | min | divmod
 | join | count | bitlen
mutual
inductive ME where
 | lit (v : PV)
 | var (i : Nat)
 | glob (a : Nat)
 | tup (es : MEs)
 | list (es : MEs)
 | prim (p : Y0) (es : MEs)
 | and (a b : ME)
 | ite (c a b : ME)
 | comp (elt : ME) (ts : MT) (it : MI) (cond : Option ME)
 | comp2 (elt : ME) (t1 : MT) (i1 : MI) (t2 : MT) (i2 : MI) (cond : ME)
 | call (f : ME) (es : MEs) (kw : Option ME)
 | lam (k : Nat) (cap : List Nat)
 | rep (c : Int) (e : ME)
inductive MEs where
 | nil
 | cons (e : ME) (es : MEs)
inductive MI where
 | val (e : ME)
 | boxl (e : ME)
 | range (es : MEs)
 | enum (e : ME)
 | zip (a b : ME)
 | rev (e : ME)
 | gen (e : ME)
inductive MT where
 | one (i : Nat)
 | two (i j : Nat)
end
inductive MS where
 | assign (t : MT) (e : ME)
 | own (i : Nat) (e : ME)
 | own2 (i j : Nat) (e1 e2 : ME)
 | aug (i : Nat) (p : Y0) (e : ME)
 | append (i : Nat) (e : ME)
 | insert (i : Nat) (e1 e2 : ME)
 | reverse (i : Nat)
 | setat (i : Nat) (k e : ME)
 | set2 (i : Nat) (k1 k2 : ME) (e1 e2 : ME)
 | scall (f : ME) (es : MEs) (kw : Option ME)
 | ite (c : ME) (a b : List MS)
 | wh (c : ME) (b : List MS)
 | for (t : MT) (it : MI) (b : List MS)
 | ret (e : ME)
 | defn (i : Nat) (k : Nat) (cap : List Nat)
 | fail
set_option genCtorIdx true in
inductive Fl where
 | next
 | ret (v : PV)
mutual
noncomputable def PV.noBox : PV → Bool
 | .box _ => false
 | .tup l => i8 l
 | .list l => i8 l
 | .clo _ cap => i8 cap
 | _ => true
noncomputable def i8 : List PV → Bool
 | [] => true
 | v :: r => v.noBox && i8 r
end
noncomputable def PV.scalar : PV → Bool
 | .none | .bool _ | .int _ | .str _ => true
 | _ => false
noncomputable def PV.isBox : PV → Bool
 | .box _ => true
 | _ => false
noncomputable def PV.isUnb : PV → Bool
 | .unb => true
 | _ => false
noncomputable def toD : Nat → PV → Option PyData
 | 0,_ => Option.none
 | n + 1,v => match v with
  | .none => some .none
  | .bool b => some (.bool b)
  | .int i => some (.int i)
  | .str l => if l.all (· < 0x110000) then some (.str ⟨l.toArray⟩) else Option.none
  | .tup l => (l.mapM (toD n)).map .tuple
  | .list l => (l.mapM (toD n)).map .list
  | _ => Option.none
noncomputable def ug (n : Nat) (l : List PV) : Option (List PyData) := l.mapM (toD n)
noncomputable def L1 (σ : Sto) : PV → PV
 | .box n => match σ[n]? with
  | some xs => .list xs
  | Option.none => .unb
 | v => v
noncomputable def asL (σ : Sto) : PV → Option (List PV)
 | .list xs => some xs
 | .box n => σ[n]?
 | _ => Option.none
noncomputable def W8 : List PV → Option (List Int)
 | [] => some []
 | .int i :: r => (W8 r).map (i :: ·)
 | _ => Option.none
noncomputable def U5 : List PV → Option (List (List Nat))
 | [] => some []
 | .str i :: r => (U5 r).map (i :: ·)
 | _ => Option.none
noncomputable def C8 (i : Int) : Bool := decide (intBits i ≤ 1000000)
noncomputable def a8 : Nat := 1000000
noncomputable def M9 {α : Type} (xs : List α) (i : Int) : Option α :=
 if 0 ≤ i then xs[i.toNat]? else if -(xs.length : Int) ≤ i then xs[(i + xs.length).toNat]? else Option.none
noncomputable def M2 {α : Type} (xs : List α) (lo k : Nat) : List α :=
 (List.range ((xs.length - lo + k - 1) / k)).filterMap fun i => xs[lo + i * k]?
noncomputable def tN {α : Type} (lt : Nat → Nat → Bool) : PySem.W.KasT α → α
 | .ret a => a
 | .ask i j k => tN lt (k (lt i j))
noncomputable def nv (x y : Int × Int) : Bool := if x.1 = y.1 then decide (x.2 < y.2) else decide (x.1 < y.1)
noncomputable def I6 (l : List (Int × Int)) : List Nat := (tN (fun i j => nv (l.getD i (0,0)) (l.getD j (0,0))) (PySem.W.kas_sort l.length)).toList
noncomputable def L8 : List PV → Option (List (Int × Int))
 | [] => some []
 | .tup [.int a,.int b] :: r => (L8 r).map ((a,b) :: ·)
 | _ => Option.none
noncomputable def N8 (x : List Nat) (c : Nat) : Int := ((x.filter (· == c)).length : Int)
noncomputable def cH : Int → List Int → Int
 | m,[] => m
 | m,x :: r => cH (if x < m then x else m) r
noncomputable def M6 {α : Type} (l : List α) (lo hi st : Option Int) : Option (List α) := match lo,hi,st with
 | Option.none,some y,Option.none => if 0 ≤ y then some (l.take y.toNat) else Option.none
 | some x,Option.none,Option.none => if 0 ≤ x then some (l.drop x.toNat) else Option.none
 | some x,some y,Option.none => if 0 ≤ x ∧ x ≤ y ∧ y ≤ l.length then some ((l.drop x.toNat).take (y - x).toNat) else Option.none
 | some x,Option.none,some k => if 0 ≤ x ∧ 0 < k then some (M2 l x.toNat k.toNat) else Option.none
 | _,_,_ => Option.none
noncomputable def N5 (a : PV) (lo hi st : Option Int) (σ : Sto) : Option PV := match a with
 | .str l => if st.isNone = true ∧ lo.getD 0 ≤ l.length ∧ hi.getD 0 ≤ l.length ∧ l.length ≤ a8 then (M6 l lo hi st).map .str else Option.none
 | a => (asL σ a).bind fun l => if l.length ≤ a8 ∧ i8 l = true then (M6 l lo hi st).map .list else Option.none
noncomputable def uV : List PV → Option PV
 | [.int a,.int b] => some (.int (a + b))
 | [.str a,.str b] => if a.length + b.length ≤ a8 then some (.str (a ++ b)) else Option.none
 | [.list a,.list b] => if a.length + b.length ≤ a8 then some (.list (a ++ b)) else Option.none
 | _ => Option.none
noncomputable def eI2 (f : Int → Int → Option PV) : List PV → Option PV
 | [.int a,.int b] => f a b
 | _ => Option.none
noncomputable def eI1 (f : Int → Option PV) : List PV → Option PV
 | [.int a] => f a
 | _ => Option.none
noncomputable def uP : List PV → Option PV
 | [.bool b] => some (.bool (!b))
 | _ => Option.none
noncomputable def eEq (f : PyData → PyData → Bool) (σ : Sto) : List PV → Option PV
 | [a,b] => (toD 8 (L1 σ a)).bind fun da => (toD 8 (L1 σ b)).map fun db => .bool (f da db)
 | _ => Option.none
noncomputable def uB : PV → Option PV
 | .unb => Option.none
 | .none => some (.bool true)
 | _ => some (.bool false)
noncomputable def uo : PV → List PV → Option PV
 | .none,[a] => uB a
 | .bool c,[.bool b] => some (.bool (b == c))
 | _,_ => Option.none
noncomputable def tX : List PV → Option PV
 | [a,.list xs] => (toD 8 a).bind fun d => (ug 8 xs).map fun ds => .bool (ds.any fun y => PyData.eqv y d)
 | _ => Option.none
noncomputable def iX : List PV → Option PV
 | [a,.list xs] => (toD 8 a).bind fun d => (ug 8 xs).map fun ds => .bool (!ds.any fun y => PyData.eqv y d)
 | [.str [c],.str y] => some (.bool (!y.contains c))
 | _ => Option.none
noncomputable def eAt (σ : Sto) (a : PV) (i : Int) : Option PV := match a with
 | .str l => if -1000000 ≤ i ∧ i ≤ 1000000 then (M9 l i).map fun c => .str [c] else Option.none
 | .tup l => if -1000000 ≤ i ∧ i ≤ 1000000 then M9 l i else Option.none
 | a => if -1000000 ≤ i ∧ i ≤ 1000000 then (asL σ a).bind fun l => M9 l i else Option.none
noncomputable def uD (σ : Sto) : List PV → Option PV
 | [a,.int i] => eAt σ a i
 | _ => Option.none
noncomputable def tF (f : PV → Int → Option PV) : List PV → Option PV
 | [a,.int x] => f a x
 | _ => Option.none
noncomputable def te (f : PV → Int → Int → Option PV) : List PV → Option PV
 | [a,.int x,.int y] => f a x y
 | _ => Option.none
noncomputable def sN (σ : Sto) : Bool → Bool → Bool → List PV → Option PV
 | false,true,false => tF fun a y => N5 a Option.none (some y) Option.none σ
 | true,false,false => tF fun a x => N5 a (some x) Option.none Option.none σ
 | true,true,false => te fun a x y => N5 a (some x) (some y) Option.none σ
 | true,false,true => te fun a x k => N5 a (some x) Option.none (some k) σ
 | _,_,_ => fun _ => Option.none
noncomputable def eLn (σ : Sto) (a : PV) : Option PV := match a with
 | .str l => if l.length ≤ a8 then some (.int l.length) else Option.none
 | a => (asL σ a).bind fun l => if l.length ≤ a8 then some (.int l.length) else Option.none
noncomputable def vt (σ : Sto) : List PV → Option PV
 | [a] => eLn σ a
 | _ => Option.none
noncomputable def eL1 (f : List PV → Option PV) : List PV → Option PV
 | [.list l] => f l
 | _ => Option.none
noncomputable def eMn : List Int → Option PV
 | [] => Option.none
 | x :: r => some (.int (cH x r))
noncomputable def tE (σ : Sto) : List PV → Option PV
 | [.str [],a] => (asL σ a).bind fun l => (U5 l).bind fun l => if (l.map List.length).sum + l.length ≤ a8 then some (.str l.flatten) else Option.none
 | _ => Option.none
noncomputable def ly : List PV → Option PV
 | [.str l,.str [c]] => some (.int (N8 l c))
 | _ => Option.none
noncomputable def evP (p : Y0) (l : List PV) (σ : Sto) : Option PV := match p with
 | .add => uV l
 | .sub => eI2 (fun a b => some (.int (a - b))) l
 | .mul => eI2 (fun a b => if C8 a && C8 b then some (.int (a * b)) else Option.none) l
 | .fdiv => eI2 (fun a b => if 0 < b ∧ b < 65536 then some (.int (a / b)) else Option.none) l
 | .mod => eI2 (fun a b => if 0 < b then some (.int (a % b)) else Option.none) l
 | .pow => eI2 (fun a b => if 0 ≤ b ∧ (intBits a : Int) * b ≤ 1000000 then some (.int (a ^ b.toNat)) else Option.none) l
 | .shl => eI2 (fun a b => if 0 ≤ b ∧ b ≤ 1000000 ∧ C8 a = true then some (.int (a * 2 ^ b.toNat)) else Option.none) l
 | .shr => eI2 (fun a b => if 0 ≤ b then some (.int (a / 2 ^ b.toNat)) else Option.none) l
 | .band => eI2 (fun a b => some (.int (Builtin.bitAnd a b))) l
 | .bor => eI2 (fun a b => some (.int (Builtin.bitOr a b))) l
 | .bxor => eI2 (fun a b => some (.int (Builtin.bitXor a b))) l
 | .neg => eI1 (fun a => some (.int (-a))) l
 | .inv => eI1 (fun a => some (.int (-a - 1))) l
 | .not => uP l
 | .eq => eEq (fun a b => PyData.eqv a b) σ l
 | .ne => eEq (fun a b => !PyData.eqv a b) σ l
 | .lt => eI2 (fun a b => some (.bool (decide (a < b)))) l
 | .le => eI2 (fun a b => some (.bool (decide (a ≤ b)))) l
 | .gt => eI2 (fun a b => some (.bool (decide (a > b)))) l
 | .ge => eI2 (fun a b => some (.bool (decide (a ≥ b)))) l
 | .isc c => uo c l
 | .inn => tX l
 | .notin => iX l
 | .idx => uD σ l
 | .slice x y z => sN σ x y z l
 | .len => vt σ l
 | .sum => eL1 (fun l => (W8 l).map fun l => .int l.sum) l
 | .sorted => eL1 (fun l => (L8 l).bind fun ps => if l.length = 5 then some (.list ((I6 ps).map fun i => l.getD i .none)) else Option.none) l
 | .min => eL1 (fun l => (W8 l).bind eMn) l
 | .divmod => eI2 (fun a b => if 0 < b ∧ Builtin.divisionGoesByPylong a b = false then some (.tup [.int (a / b),.int (a % b)]) else Option.none) l
 | .join => tE σ l
 | .count => ly l
 | .bitlen => eI1 (fun a => some (.int (intBits a))) l
noncomputable def I5 (_σ : Sto) : PV → Option Bool
 | .bool b => some b
 | .int i => some (i != 0)
 | .list l => if l.length ≤ a8 then some (!l.isEmpty) else Option.none
 | _ => Option.none
noncomputable def I7 : MT → PV → Rho → Option Rho
 | .one i,v,ρ => if i < ρ.length then some (ρ.set i v) else Option.none
 | .two i j,.tup [a,b],ρ => if i < ρ.length ∧ j < ρ.length then some ((ρ.set i a).set j b) else Option.none
 | _,_,_ => Option.none
noncomputable def df : MT → Rho → Bool
 | .one i,ρ => (ρ[i]?.map PV.isUnb).getD false
 | .two i j,ρ => (ρ[i]?.map PV.isUnb).getD false && (ρ[j]?.map PV.isUnb).getD false
noncomputable def l7 (esc : Bool) (pos : Nat) (last : Nat) : List Nat → List PV
 | [] => if esc then [.tup [.int last,.str [92]]] else []
 | c :: r =>
  if esc then .tup [.int pos,.str [92,c]] :: l7 false (pos + 1) pos r
  else if c = 92 then l7 true (pos + 1) pos r
  else .tup [.int pos,.str [c]] :: l7 false (pos + 1) pos r
noncomputable def J3 : Nat → List PV → List PV
 | _,[] => []
 | n,v :: r => .tup [.int n,v] :: J3 (n + 1) r
noncomputable def Q6 (a b c : Int) : Option (List PV) :=
 if 0 < c ∧ -1000000 ≤ a ∧ a ≤ 1000000 ∧ -1000000 ≤ b ∧ b ≤ 1000000 ∧ c ≤ 1000 then some ((List.range (Builtin.Range.rangeSize a b c).toNat).map fun (i : Nat) => .int (a + (i : Int) * c)) else Option.none
abbrev Orc := PV → List PV → Option PV → Sto → Option (PV × Sto)
noncomputable def freeze (σ : Sto) : PV → Option PV
 | .box n => (σ[n]?).bind fun xs => if i8 xs then some (.list xs) else Option.none
 | v => if v.noBox && !v.isUnb then some v else Option.none
noncomputable def z1 (σ : Sto) : List PV → Option (List PV)
 | [] => some []
 | v :: r => (freeze σ v).bind fun v' => (z1 σ r).map (v' :: ·)
noncomputable def H6 (v : PV) : Bool := v.noBox && !v.isUnb
noncomputable def bv : Option PV → Bool
 | Option.none => true
 | some v => H6 v
noncomputable def B3 (C : Orc) (f : PV) (args : List PV) (kw : Option PV) (σ : Sto) : Option PV :=
 if H6 f && bv kw then (z1 σ args).bind fun args' =>
  (C f args' kw []).bind fun r => (freeze r.2 r.1).bind fun v =>
   if args.any PV.isBox && !v.scalar then Option.none else some v
 else Option.none
noncomputable def n7 (ρ : Rho) (i : Nat) : Option PV :=
 match ρ[i]? with
 | some .unb => Option.none
 | r => r
noncomputable def dh (ρ : Rho) : List Nat → Option (List PV)
 | [] => some []
 | i :: r => (n7 ρ i).bind fun v => (dh ρ r).map (v :: ·)
noncomputable def D8 (test : Rho → Option Bool) (el : Rho → Option (List PV)) (ts : MT) (ρ : Rho) : List PV → Option (List PV)
 | [] => some []
 | x :: r => (I7 ts x ρ).bind fun ρ' => (test ρ').bind fun t => if t then (el ρ').bind fun vs => (D8 test el ts ρ r).map (vs ++ ·) else D8 test el ts ρ r
mutual
noncomputable def evE (C : Orc) : ME → Rho → Sto → Option PV
 | .lit v,_,_ => some v
 | .var i,ρ,_ => n7 ρ i
 | .glob a,_,_ => some (.glob a)
 | .tup es,ρ,σ => (Q3 C es ρ σ).map .tup
 | .list es,ρ,σ => (Q3 C es ρ σ).bind fun l => if i8 l then some (.list l) else Option.none
 | .prim p es,ρ,σ => (Q3 C es ρ σ).bind fun l => evP p l σ
 | .and a b,ρ,σ => (evE C a ρ σ).bind fun v => match v with
   | .bool true => (evE C b ρ σ).bind fun w => match w with
    | .bool x => some (.bool x)
    | _ => Option.none
   | .bool false => some (.bool false)
   | _ => Option.none
 | .ite c a b,ρ,σ => (evE C c ρ σ).bind fun v => (I5 σ v).bind fun t => if t then evE C a ρ σ else evE C b ρ σ
 | .comp elt ts it cond,ρ,σ => (evI C it ρ σ).bind fun xs => if df ts ρ = false then Option.none else
   (D8 (fun ρ' => match cond with
    | Option.none => some true
    | some c => (evE C c ρ' σ).bind (I5 σ)) (fun ρ' => (evE C elt ρ' σ).map fun v => [v]) ts ρ xs).bind fun l => if i8 l = true ∧ l.length ≤ a8 then some (.list l) else Option.none
 | .comp2 elt t1 i1 t2 i2 cond,ρ,σ => (evI C i1 ρ σ).bind fun xs => if df t1 ρ = false ∨ df t2 ρ = false then Option.none else
   (D8 (fun _ => some true) (fun ρ₁ => (evI C i2 ρ₁ σ).bind fun ys => if df t2 ρ₁ = false then Option.none else
     D8 (fun ρ' => (evE C cond ρ' σ).bind (I5 σ)) (fun ρ' => (evE C elt ρ' σ).map fun v => [v]) t2 ρ₁ ys) t1 ρ xs).bind fun l => if i8 l = true ∧ l.length ≤ a8 then some (.list l) else Option.none
 | .call f es kw,ρ,σ => (evE C f ρ σ).bind fun fv => (Q3 C es ρ σ).bind fun l => 
   (match kw with
    | Option.none => some Option.none
    | some e => (evE C e ρ σ).map some).bind fun k => B3 C fv l k σ
 | .lam k cap,ρ,_ => (dh ρ cap).bind fun l => if i8 l then some (.clo k l) else Option.none
 | .rep c e,ρ,σ => (evE C e ρ σ).bind fun v => match v with
   | .int n => if n ≤ a8 ∧ -a8 ≤ n then some (.list (List.replicate n.toNat (.int c))) else Option.none
   | _ => Option.none
noncomputable def Q3 (C : Orc) : MEs → Rho → Sto → Option (List PV)
 | .nil,_,_ => some []
 | .cons e es,ρ,σ => (evE C e ρ σ).bind fun v => (Q3 C es ρ σ).map (v :: ·)
noncomputable def evI (C : Orc) : MI → Rho → Sto → Option (List PV)
 | .val e,ρ,σ => (evE C e ρ σ).bind fun v => match v with
   | .tup l => if l.length ≤ a8 then some l else Option.none
   | .str l => if l.length ≤ a8 then some (l.map fun c => .str [c]) else Option.none
   | .list l => if l.length ≤ a8 then some l else Option.none
   | _ => Option.none
 | .boxl e,ρ,σ => (evE C e ρ σ).bind fun v => match v with
   | .box n => (σ[n]?).bind fun l => if l.length ≤ a8 then some l else Option.none
   | _ => Option.none
 | .range es,ρ,σ => (Q3 C es ρ σ).bind fun l => match l with
   | [.int b] => Q6 0 b 1
   | [.int a,.int b] => Q6 a b 1
   | [.int a,.int b,.int c] => Q6 a b c
   | _ => Option.none
 | .enum e,ρ,σ => (evE C e ρ σ).bind fun v => match v with
   | .list l => if l.length ≤ a8 then some (J3 0 l) else Option.none
   | _ => Option.none
 | .zip a b,ρ,σ => (evE C a ρ σ).bind fun v => (evE C b ρ σ).bind fun w => match v,w with
   | .list l,.list m => if l.length = m.length ∧ l.length ≤ a8 then some (List.zipWith (fun x y => .tup [x,y]) l m) else Option.none
   | _,_ => Option.none
 | .rev e,ρ,σ => (evE C e ρ σ).bind fun v => match v with
   | .list l => if l.length ≤ a8 then some l.reverse else Option.none
   | _ => Option.none
 | .gen e,ρ,σ => (evE C e ρ σ).bind fun v => match v with
   | .str l => if l.length ≤ a8 then some (l7 false 0 0 l) else Option.none
   | _ => Option.none
end
inductive Bd {α β : Type} (o : Option α) (f : α → Option β) (b : β) : Prop
 | mk (a : α) (e : o = some a) (h : f a = some b) : Bd o f b
theorem bd {α β : Type} {o : Option α} {f : α → Option β} {b : β} (h : o.bind f = some b) : Bd o f b := match o,h with
 | some a,h => ⟨a,rfl,h⟩
inductive Mq {α β : Type} (o : Option α) (f : α → β) (b : β) : Prop
 | mk (a : α) (e : o = some a) (h : f a = b) : Mq o f b
theorem mq {α β : Type} {o : Option α} {f : α → β} {b : β} (h : o.map f = some b) : Mq o f b := match o,h with
 | some a,h => ⟨a,rfl,Option.some.inj h⟩
theorem zea {C : Orc} {ρ : Rho} {σ : Sto} {v} : evE C (.lit v) ρ σ = (some v) := rfl
theorem zeb {C : Orc} {ρ : Rho} {σ : Sto} {i} : evE C (.var i) ρ σ = (n7 ρ i) := rfl
theorem zec {C : Orc} {ρ : Rho} {σ : Sto} {a} : evE C (.glob a) ρ σ = (some (.glob a)) := rfl
theorem zed {C : Orc} {ρ : Rho} {σ : Sto} {es} : evE C (.tup es) ρ σ = ((Q3 C es ρ σ).map .tup) := rfl
theorem zee {C : Orc} {ρ : Rho} {σ : Sto} {es} : evE C (.list es) ρ σ = ((Q3 C es ρ σ).bind fun l => if i8 l then some (.list l) else Option.none) := rfl
theorem zef {C : Orc} {ρ : Rho} {σ : Sto} {p} {es} : evE C (.prim p es) ρ σ = ((Q3 C es ρ σ).bind fun l => evP p l σ) := rfl
theorem zeg {C : Orc} {ρ : Rho} {σ : Sto} {a} {b} : evE C (.and a b) ρ σ = ((evE C a ρ σ).bind fun v => match v with
   | .bool true => (evE C b ρ σ).bind fun w => match w with
    | .bool x => some (.bool x)
    | _ => Option.none
   | .bool false => some (.bool false)
   | _ => Option.none) := rfl
theorem zeh {C : Orc} {ρ : Rho} {σ : Sto} {c} {a} {b} : evE C (.ite c a b) ρ σ = ((evE C c ρ σ).bind fun v => (I5 σ v).bind fun t => if t then evE C a ρ σ else evE C b ρ σ) := rfl
theorem zei {C : Orc} {ρ : Rho} {σ : Sto} {elt} {ts} {it} {cond} : evE C (.comp elt ts it cond) ρ σ = ((evI C it ρ σ).bind fun xs => if df ts ρ = false then Option.none else
   (D8 (fun ρ' => match cond with
    | Option.none => some true
    | some c => (evE C c ρ' σ).bind (I5 σ)) (fun ρ' => (evE C elt ρ' σ).map fun v => [v]) ts ρ xs).bind fun l => if i8 l = true ∧ l.length ≤ a8 then some (.list l) else Option.none) := by cases cond <;> rfl
theorem zek {C : Orc} {ρ : Rho} {σ : Sto} {f} {es} {kw} : evE C (.call f es kw) ρ σ = ((evE C f ρ σ).bind fun fv => (Q3 C es ρ σ).bind fun l => 
   (match kw with
    | Option.none => some Option.none
    | some e => (evE C e ρ σ).map some).bind fun k => B3 C fv l k σ) := by cases kw <;> rfl
theorem zem {C : Orc} {ρ : Rho} {σ : Sto} {c} {e} : evE C (.rep c e) ρ σ = ((evE C e ρ σ).bind fun v => match v with
   | .int n => if n ≤ a8 ∧ -a8 ≤ n then some (.list (List.replicate n.toNat (.int c))) else Option.none
   | _ => Option.none) := rfl
theorem zsa {C : Orc} {ρ : Rho} {σ : Sto} : Q3 C .nil ρ σ = (some []) := rfl
theorem zsb {C : Orc} {ρ : Rho} {σ : Sto} {e} {es} : Q3 C (.cons e es) ρ σ = ((evE C e ρ σ).bind fun v => (Q3 C es ρ σ).map (v :: ·)) := rfl
theorem zia {C : Orc} {ρ : Rho} {σ : Sto} {e} : evI C (.val e) ρ σ = ((evE C e ρ σ).bind fun v => match v with
   | .tup l => if l.length ≤ a8 then some l else Option.none
   | .str l => if l.length ≤ a8 then some (l.map fun c => .str [c]) else Option.none
   | .list l => if l.length ≤ a8 then some l else Option.none
   | _ => Option.none) := rfl
theorem zib {C : Orc} {ρ : Rho} {σ : Sto} {e} : evI C (.boxl e) ρ σ = ((evE C e ρ σ).bind fun v => match v with
   | .box n => (σ[n]?).bind fun l => if l.length ≤ a8 then some l else Option.none
   | _ => Option.none) := rfl
theorem zic {C : Orc} {ρ : Rho} {σ : Sto} {es} : evI C (.range es) ρ σ = ((Q3 C es ρ σ).bind fun l => match l with
   | [.int b] => Q6 0 b 1
   | [.int a,.int b] => Q6 a b 1
   | [.int a,.int b,.int c] => Q6 a b c
   | _ => Option.none) := rfl
theorem zie {C : Orc} {ρ : Rho} {σ : Sto} {a} {b} : evI C (.zip a b) ρ σ = ((evE C a ρ σ).bind fun v => (evE C b ρ σ).bind fun w => match v,w with
   | .list l,.list m => if l.length = m.length ∧ l.length ≤ a8 then some (List.zipWith (fun x y => .tup [x,y]) l m) else Option.none
   | _,_ => Option.none) := rfl
theorem zif {C : Orc} {ρ : Rho} {σ : Sto} {e} : evI C (.rev e) ρ σ = ((evE C e ρ σ).bind fun v => match v with
   | .list l => if l.length ≤ a8 then some l.reverse else Option.none
   | _ => Option.none) := rfl
theorem zig {C : Orc} {ρ : Rho} {σ : Sto} {e} : evI C (.gen e) ρ σ = ((evE C e ρ σ).bind fun v => match v with
   | .str l => if l.length ≤ a8 then some (l7 false 0 0 l) else Option.none
   | _ => Option.none) := rfl
theorem nxx {α : Type} {x : Option α} {a : α} {P : Prop} (h : x = Option.none) (e : x = some a) : P := nomatch h.symm.trans e
theorem sxx {α : Type} {x : Option α} {a b : α} (h : x = some a) (e : x = some b) : a = b := Option.some.inj (h.symm.trans e)
theorem nbb {x : Bool} {P : Prop} (h : x = true) (e : x = false) : P := nomatch h.symm.trans e
theorem zca {t} {el : Rho → Option (List PV)} {ts ρ} : D8 t el ts ρ [] = some [] := rfl
theorem zcb {t el ts ρ x r} : D8 t el ts ρ (x :: r) = (I7 ts x ρ).bind fun ρ' => (t ρ').bind fun b => if b then (el ρ').bind fun vs => (D8 t el ts ρ r).map (vs ++ ·) else D8 t el ts ρ r := rfl
theorem zna : i8 [] = true := rfl
theorem znb {v r} : i8 (v :: r) = (v.noBox && i8 r) := rfl
theorem znc {l} : (PV.list l).noBox = i8 l := rfl
theorem znd {l} : (PV.tup l).noBox = i8 l := rfl
theorem zne {i} : (PV.int i).noBox = true := rfl
theorem znf {s} : (PV.str s).noBox = true := rfl
theorem zng {k c} : (PV.clo k c).noBox = i8 c := rfl
theorem zfa {σ : Sto} : z1 σ [] = some [] := rfl
theorem zfb {σ : Sto} {v r} : z1 σ (v :: r) = (freeze σ v).bind fun w => (z1 σ r).map (w :: ·) := rfl
theorem zla {σ : Sto} {xs} : asL σ (.list xs) = some xs := rfl
theorem zlb {σ : Sto} {n} : asL σ (.box n) = σ[n]? := rfl
theorem zxa {b p l} : l7 b p l [] = if b then [.tup [.int l,.str [92]]] else [] := rfl
theorem zxb {b p l c r} : l7 b p l (c :: r) = if b then .tup [.int p,.str [92,c]] :: l7 false (p + 1) p r else if c = 92 then l7 true (p + 1) p r else .tup [.int p,.str [c]] :: l7 false (p + 1) p r := rfl
theorem zqa {α : Type} {l : List α} {y : Int} : M6 l Option.none (some y) Option.none = if 0 ≤ y then some (l.take y.toNat) else Option.none := rfl
theorem zqb {α : Type} {l : List α} {x : Int} : M6 l (some x) Option.none Option.none = if 0 ≤ x then some (l.drop x.toNat) else Option.none := rfl
theorem zqc {α : Type} {l : List α} {x y : Int} : M6 l (some x) (some y) Option.none = if 0 ≤ x ∧ x ≤ y ∧ y ≤ l.length then some ((l.drop x.toNat).take (y - x).toNat) else Option.none := rfl
theorem zqd {α : Type} {l : List α} {x k : Int} : M6 l (some x) Option.none (some k) = if 0 ≤ x ∧ 0 < k then some (M2 l x.toNat k.toNat) else Option.none := rfl
theorem frz {σ : Sto} {v : PV} (h : H6 v = true) : freeze σ v = some v := by
 cases v with
 | box n => cases h
 | unb => cases h
 | _ => exact if_pos (e := Option.none) h
theorem oG {v : PV} (h : H6 v = true) : v.isBox = false := by
 cases v <;> first | rfl | cases h
theorem jJ {v : PV} (h : v.scalar = true) : H6 v = true := by
 cases v <;> first | rfl | cases h
theorem lp {σ : Sto} : ∀ {l : List PV},l.all H6 = true → z1 σ l = some l ∧ l.any PV.isBox = false
 | [],_ => ⟨rfl,rfl⟩
 | x :: r,h => by
  obtain ⟨h1,h2⟩ := Bool.and_eq_true_iff.mp (show (H6 x && r.all H6) = true from h)
  obtain ⟨i1,i2⟩ := lp (σ := σ) h2
  refine ⟨by rw [zfb,frz h1,i1]; rfl,?_⟩
  show (x.isBox || r.any PV.isBox) = false
  rw [oG h1,i2]; rfl
theorem zva {ρ : Rho} : dh ρ [] = some [] := rfl
theorem zvb {ρ : Rho} {i} {r} : dh ρ (i :: r) = (n7 ρ i).bind fun v => (dh ρ r).map (v :: ·) := rfl
structure St where
 ρ : Rho
 σ : Sto
noncomputable def eY (i : Nat) (v : PV) (s : St) : Option St :=
 if i < s.ρ.length ∧ v.isUnb = false then some ⟨s.ρ.set i v,s.σ⟩ else Option.none
noncomputable def M5 (s : St) (i : Nat) : Option (Nat × List PV) :=
 match n7 s.ρ i with
 | some (.box n) => (s.σ[n]?).map fun xs => (n,xs)
 | _ => Option.none
noncomputable def mR (c : St → Option Bool) (b : St → Option (Fl × St)) : Nat → St → Option (Fl × St)
 | 0,_ => Option.none
 | n + 1,s => (c s).bind fun t => if t then (b s).bind fun r => match r.1 with
   | .next => mR c b n r.2
   | .ret v => some (.ret v,r.2)
  else some (.next,s)
noncomputable def G1 (t : MT) (b : St → Option (Fl × St)) : List PV → St → Option (Fl × St)
 | [],s => some (.next,s)
 | x :: r,s => (I7 t x s.ρ).bind fun ρ' => (b ⟨ρ',s.σ⟩).bind fun q => match q.1 with
   | .next => G1 t b r q.2
   | .ret v => some (.ret v,q.2)
noncomputable def MI.isBoxl : MI → Bool
 | .boxl _ => true
 | _ => false
noncomputable def kwE (C : Orc) (kw : Option ME) (ρ : Rho) (σ : Sto) : Option (Option PV) :=
 match kw with
 | Option.none => some Option.none
 | some e => (evE C e ρ σ).map some
mutual
noncomputable def exS (C : Orc) : MS → St → Option (Fl × St)
 | .assign t e,s => (evE C e s.ρ s.σ).bind fun v => (I7 t v s.ρ).map fun ρ' => (.next,⟨ρ',s.σ⟩)
 | .own i e,s => (evE C e s.ρ s.σ).bind fun v => match v with
   | .list xs => if i8 xs then (eY i (.box s.σ.length) ⟨s.ρ,s.σ ++ [xs]⟩).map fun s' => (.next,s') else Option.none
   | _ => Option.none
 | .own2 i j e1 e2,s => (evE C e1 s.ρ s.σ).bind fun w => (evE C e2 s.ρ s.σ).bind fun v => match v with
   | .list xs => if i8 xs then (eY i w s).bind fun s₁ => (eY j (.box s₁.σ.length) ⟨s₁.ρ,s₁.σ ++ [xs]⟩).map fun s' => (.next,s') else Option.none
   | _ => Option.none
 | .aug i p e,s => (n7 s.ρ i).bind fun o => (evE C e s.ρ s.σ).bind fun v => match o,v with
   | .int a,.int b => (evP p [.int a,.int b] s.σ).bind fun r => (eY i r s).map fun s' => (.next,s')
   | _,_ => Option.none
 | .append i e,s => (M5 s i).bind fun q => (evE C e s.ρ s.σ).bind fun v =>
   if v.noBox = true ∧ q.2.length ≤ a8 then some (.next,⟨s.ρ,s.σ.set q.1 (q.2 ++ [v])⟩) else Option.none
 | .insert i e1 e2,s => (M5 s i).bind fun q => (evE C e1 s.ρ s.σ).bind fun k => (evE C e2 s.ρ s.σ).bind fun v => match k with
   | .int k => if v.noBox = true ∧ q.2.length ≤ a8 ∧ 0 ≤ k ∧ k ≤ q.2.length then some (.next,⟨s.ρ,s.σ.set q.1 (q.2.take k.toNat ++ v :: q.2.drop k.toNat)⟩) else Option.none
   | _ => Option.none
 | .reverse i,s => (M5 s i).bind fun q => if q.2.length ≤ a8 then some (.next,⟨s.ρ,s.σ.set q.1 q.2.reverse⟩) else Option.none
 | .setat i k e,s => (evE C e s.ρ s.σ).bind fun v => (M5 s i).bind fun q => (evE C k s.ρ s.σ).bind fun k => match k with
   | .int k => if v.noBox = true ∧ 0 ≤ k ∧ k < q.2.length ∧ k ≤ 1000000 then some (.next,⟨s.ρ,s.σ.set q.1 (q.2.set k.toNat v)⟩) else Option.none
   | _ => Option.none
 | .set2 i k1 k2 e1 e2,s => (evE C e1 s.ρ s.σ).bind fun v1 => (evE C e2 s.ρ s.σ).bind fun v2 => (M5 s i).bind fun q => (evE C k1 s.ρ s.σ).bind fun k1 => (evE C k2 s.ρ s.σ).bind fun k2 => match k1,k2 with
   | .int k1,.int k2 => if v1.noBox = true ∧ v2.noBox = true ∧ 0 ≤ k1 ∧ k1 < q.2.length ∧ k1 ≤ 1000000 ∧ 0 ≤ k2 ∧ k2 < q.2.length ∧ k2 ≤ 1000000 then some (.next,⟨s.ρ,s.σ.set q.1 ((q.2.set k1.toNat v1).set k2.toNat v2)⟩) else Option.none
   | _,_ => Option.none
 | .scall f es kw,s => (evE C f s.ρ s.σ).bind fun fv => (Q3 C es s.ρ s.σ).bind fun l => (kwE C kw s.ρ s.σ).bind fun k => (C fv l k s.σ).bind fun r => match r.1 with
   | .none => some (.next,⟨s.ρ,r.2⟩)
   | _ => Option.none
 | .ite c a b,s => (evE C c s.ρ s.σ).bind fun v => (I5 s.σ v).bind fun t => if t then exB C a s else exB C b s
 | .wh c b,s => mR (fun s => (evE C c s.ρ s.σ).bind (I5 s.σ)) (fun s => exB C b s) 64 s
 | .for t it b,s => (evI C it s.ρ s.σ).bind fun xs => if i8 xs = true ∧ it.isBoxl = false then G1 t (fun s => exB C b s) xs s else Option.none
 | .ret e,s => (evE C e s.ρ s.σ).bind fun v => if v.isUnb then Option.none else some (.ret v,s)
 | .defn i k cap,s => (dh s.ρ cap).bind fun l => (eY i (.clo k l) s).map fun s' => (.next,s')
 | .fail,_ => Option.none
noncomputable def exB (C : Orc) : List MS → St → Option (Fl × St)
 | [],s => some (.next,s)
 | m :: r,s => (exS C m s).bind fun q => match q.1 with
   | .next => exB C r q.2
   | .ret v => some (.ret v,q.2)
end
inductive SI where
 | arg (i : Nat) | key | cap (i : Nat) | self | unb
structure FD where
 np : Nat
 key : Bool
 dfl : List PV
 init : List SI
 body : List MS
noncomputable def FD.fill (fd : FD) (args : List PV) : Option (List PV) :=
 if args.length ≤ fd.np ∧ fd.np ≤ args.length + fd.dfl.length then some (args ++ fd.dfl.drop (args.length + fd.dfl.length - fd.np)) else Option.none
noncomputable def SI.val (args : List PV) (key : PV) (cap : List PV) (self : PV) : SI → PV
 | .arg i => args.getD i .unb
 | .key => key
 | .cap i => cap.getD i .unb
 | .self => self
 | .unb => .unb
noncomputable def FD.start (fd : FD) (args : List PV) (key : PV) (cap : List PV) (self : PV) : Rho := fd.init.map (SI.val args key cap self)
noncomputable def vm (G Cl : Nat → Option FD) : PV → Option (FD × List PV)
 | .glob a => (G a).map fun d => (d,[])
 | .clo k cap => (Cl k).map fun d => (d,cap)
 | _ => Option.none
noncomputable def Fl.val : Fl → PV
 | .next => .none
 | .ret v => v
noncomputable def td (G Cl : Nat → Option FD) : Nat → Orc
 | 0 => fun _ _ _ _ => Option.none
 | n + 1 => fun f args kw σ => (vm G Cl f).bind fun q => (if kw.isSome != q.1.key then Option.none else q.1.fill args).bind fun as =>
   (exB (td G Cl n) q.1.body ⟨q.1.start as (kw.getD .none) q.2 f,σ⟩).map fun r => (r.1.val,r.2.σ)
theorem zta {C : Orc} {s : St} {t} {e} : exS C (.assign t e) s = ((evE C e s.ρ s.σ).bind fun v => (I7 t v s.ρ).map fun ρ' => (.next,⟨ρ',s.σ⟩)) := rfl
theorem ztb {C : Orc} {s : St} {i} {e} : exS C (.own i e) s = ((evE C e s.ρ s.σ).bind fun v => match v with
   | .list xs => if i8 xs then (eY i (.box s.σ.length) ⟨s.ρ,s.σ ++ [xs]⟩).map fun s' => (.next,s') else Option.none
   | _ => Option.none) := rfl
theorem ztc {C : Orc} {s : St} {i} {j} {e1} {e2} : exS C (.own2 i j e1 e2) s = ((evE C e1 s.ρ s.σ).bind fun w => (evE C e2 s.ρ s.σ).bind fun v => match v with
   | .list xs => if i8 xs then (eY i w s).bind fun s₁ => (eY j (.box s₁.σ.length) ⟨s₁.ρ,s₁.σ ++ [xs]⟩).map fun s' => (.next,s') else Option.none
   | _ => Option.none) := rfl
theorem ztd {C : Orc} {s : St} {i} {p} {e} : exS C (.aug i p e) s = ((n7 s.ρ i).bind fun o => (evE C e s.ρ s.σ).bind fun v => match o,v with
   | .int a,.int b => (evP p [.int a,.int b] s.σ).bind fun r => (eY i r s).map fun s' => (.next,s')
   | _,_ => Option.none) := rfl
theorem zte {C : Orc} {s : St} {i} {e} : exS C (.append i e) s = ((M5 s i).bind fun q => (evE C e s.ρ s.σ).bind fun v =>
   if v.noBox = true ∧ q.2.length ≤ a8 then some (.next,⟨s.ρ,s.σ.set q.1 (q.2 ++ [v])⟩) else Option.none) := rfl
theorem ztg {C : Orc} {s : St} {i} : exS C (.reverse i) s = ((M5 s i).bind fun q => if q.2.length ≤ a8 then some (.next,⟨s.ρ,s.σ.set q.1 q.2.reverse⟩) else Option.none) := rfl
theorem zth {C : Orc} {s : St} {i} {k} {e} : exS C (.setat i k e) s = ((evE C e s.ρ s.σ).bind fun v => (M5 s i).bind fun q => (evE C k s.ρ s.σ).bind fun k => match k with
   | .int k => if v.noBox = true ∧ 0 ≤ k ∧ k < q.2.length ∧ k ≤ 1000000 then some (.next,⟨s.ρ,s.σ.set q.1 (q.2.set k.toNat v)⟩) else Option.none
   | _ => Option.none) := rfl
theorem zti {C : Orc} {s : St} {i} {k1} {k2} {e1} {e2} : exS C (.set2 i k1 k2 e1 e2) s = ((evE C e1 s.ρ s.σ).bind fun v1 => (evE C e2 s.ρ s.σ).bind fun v2 => (M5 s i).bind fun q => (evE C k1 s.ρ s.σ).bind fun k1 => (evE C k2 s.ρ s.σ).bind fun k2 => match k1,k2 with
   | .int k1,.int k2 => if v1.noBox = true ∧ v2.noBox = true ∧ 0 ≤ k1 ∧ k1 < q.2.length ∧ k1 ≤ 1000000 ∧ 0 ≤ k2 ∧ k2 < q.2.length ∧ k2 ≤ 1000000 then some (.next,⟨s.ρ,s.σ.set q.1 ((q.2.set k1.toNat v1).set k2.toNat v2)⟩) else Option.none
   | _,_ => Option.none) := rfl
theorem ztj {C : Orc} {s : St} {f} {es} {kw} : exS C (.scall f es kw) s = ((evE C f s.ρ s.σ).bind fun fv => (Q3 C es s.ρ s.σ).bind fun l => (kwE C kw s.ρ s.σ).bind fun k => (C fv l k s.σ).bind fun r => match r.1 with
   | .none => some (.next,⟨s.ρ,r.2⟩)
   | _ => Option.none) := rfl
theorem ztk {C : Orc} {s : St} {c} {a} {b} : exS C (.ite c a b) s = ((evE C c s.ρ s.σ).bind fun v => (I5 s.σ v).bind fun t => if t then exB C a s else exB C b s) := rfl
theorem ztl {C : Orc} {s : St} {c} {b} : exS C (.wh c b) s = (mR (fun s => (evE C c s.ρ s.σ).bind (I5 s.σ)) (fun s => exB C b s) 64 s) := rfl
theorem ztm {C : Orc} {s : St} {t} {it} {b} : exS C (.for t it b) s = ((evI C it s.ρ s.σ).bind fun xs => if i8 xs = true ∧ it.isBoxl = false then G1 t (fun s => exB C b s) xs s else Option.none) := rfl
theorem ztn {C : Orc} {s : St} {e} : exS C (.ret e) s = ((evE C e s.ρ s.σ).bind fun v => if v.isUnb then Option.none else some (.ret v,s)) := rfl
theorem zto {C : Orc} {s : St} {i} {k} {cap} : exS C (.defn i k cap) s = ((dh s.ρ cap).bind fun l => (eY i (.clo k l) s).map fun s' => (.next,s')) := rfl
theorem zba {C : Orc} {s : St} : exB C [] s = (some (.next,s)) := rfl
theorem zbb {C : Orc} {s : St} {m} {r} : exB C (m :: r) s = ((exS C m s).bind fun q => match q.1 with
   | .next => exB C r q.2
   | .ret v => some (.ret v,q.2)) := rfl
theorem zoa {t : MT} {b : St → Option (Fl × St)} {s : St} : G1 t b [] s = some (.next,s) := rfl
theorem zob {t : MT} {b : St → Option (Fl × St)} {x r} {s : St} : G1 t b (x :: r) s = (I7 t x s.ρ).bind fun ρ' => (b ⟨ρ',s.σ⟩).bind fun q => match q.1 with
   | .next => G1 t b r q.2
   | .ret v => some (.ret v,q.2) := rfl
theorem zpa {c : St → Option Bool} {b : St → Option (Fl × St)} {s : St} : mR c b 0 s = Option.none := rfl
theorem zpb {c : St → Option Bool} {b : St → Option (Fl × St)} {n} {s : St} : mR c b (n + 1) s = (c s).bind fun t => if t then (b s).bind fun r => match r.1 with
   | .next => mR c b n r.2
   | .ret v => some (.ret v,r.2)
  else some (.next,s) := rfl
theorem zka {C : Orc} {ρ : Rho} {σ : Sto} : kwE C Option.none ρ σ = some Option.none := rfl
theorem zwa : Fl.val .next = .none := rfl
theorem zwb {v} : Fl.val (.ret v) = v := rfl
theorem dv2 {D : Int} : (D / 2).natAbs ≤ D.natAbs := by
 cases D with
 | ofNat n => exact Nat.div_le_self n 2
 | negSucc n => exact Nat.succ_le_succ (Nat.div_le_self n 2)
theorem dv3 {D : Int} (h : D ≠ 0) (h1 : D ≠ -1) : 0 ≤ D / 2 ∧ D / 2 < D ∨ D / 2 ≤ 0 ∧ D < D / 2 := by
 cases D with
 | ofNat n => exact .inl ⟨Int.natCast_nonneg _,Int.ofNat_lt.mpr (Nat.div_lt_self (Nat.pos_of_ne_zero fun e => h (congrArg Int.ofNat e)) (by decide))⟩
 | negSucc n => exact .inr ⟨Int.le_of_lt (Int.negSucc_lt_zero _),Int.neg_lt_neg (Int.ofNat_lt.mpr (Nat.succ_lt_succ (Nat.div_lt_self (Nat.pos_of_ne_zero fun e => h1 (congrArg Int.negSucc e)) (by decide))))⟩
theorem la1 {n i m : Nat} (h : i < n) (hm : n - i = m + 1) : n - 1 - (m + 1 - 1) = i := by
 have e : n = i + (m + 1) := by rw [← hm]; exact (Nat.add_sub_cancel' (Nat.le_of_lt h)).symm
 rw [e]; exact Nat.add_sub_cancel i m
theorem la2 {n i m : Nat} (hm : n - i = m + 1) : n - (i + 1) = m := by rw [Nat.sub_add_eq,hm]; rfl
theorem la3 {n i : Nat} (h : i < n) : n - i = n - i - 1 + 1 := (Nat.succ_pred_eq_of_pos (Nat.sub_pos_of_lt h)).symm
theorem la4 {n i : Nat} (h : i < n) : n - (i + 1) < n - i := Nat.sub_lt_sub_left h (Nat.lt_succ_self i)
theorem la5 {n : Nat} {y : Int} (h : 0 ≤ y) : ((n : Int) - y).toNat = n - y.toNat := by
 obtain ⟨k,rfl⟩ := Int.eq_ofNat_of_zero_le h; exact Int.toNat_sub n k
theorem qU {j : Int} {n : Nat} (h : 0 ≤ j) (h2 : j < n) : j.natAbs < n := by
 obtain ⟨k,rfl⟩ := Int.eq_ofNat_of_zero_le h; exact Int.ofNat_lt.mp h2
open PySem PySem.W PySem.Calls PyProof.Rows
abbrev Tabs : List Addr := [58,65,144]
abbrev str (l : List Nat) : Str := ⟨l.toArray⟩
structure Tm where
 name : Str
 qual : Str
 params : Arguments
 body : FuncBody
 scope : Scope
 caps : List Str
 self : Option Str
 c : Addr
 P : Addr
 pos : Pos
abbrev qQ (t : Tm) (clos : List (Str × Addr)) (pm doc cdv ct : Value) : FuncData :=
 { name := t.name,qualname := t.qual,params := t.params,body := t.body,scope := t.scope,globals := mainGlobals,closure := clos,defaults := .none,kwdefaults := .none,doc := doc,pyModule := pm,annotations := none,code := cdv,closureTuple := ct,builtins := builtinsNs }
abbrev Tms := Nat → Option Tm
abbrev U3 (v : Option Value) : Obj := { cls := .type "cell",data := .cell v }
abbrev af (vs : Array Value) (n : Nat) : Obj := { cls := .type "list",data := .seq vs n }
mutual
inductive n4 (Θ : Tms) (X : Addr → Prop) (μ : List Addr) (h : Heap) : PV → Value → Prop
 | none : n4 Θ X μ h .none .none
 | bool (b : Bool) : n4 Θ X μ h (.bool b) (.bool b)
 | int (i : Int) (t : Tok) : n4 Θ X μ h (.int i) (.int i t)
 | str (l : List Nat) (t : Tok) : n4 Θ X μ h (.str l) (.str (str l) t)
 | tup {l : List PV} {a : Addr} {vs : List Value} : h.IsTuple a vs.toArray → ¬ X a → a ∉ μ → g9 Θ X μ h l vs → n4 Θ X μ h (.tup l) (.ref a)
 | list {l : List PV} {a : Addr} {vs : List Value} : h.IsList a vs.toArray → ¬ X a → a ∉ μ → g9 Θ X μ h l vs → n4 Θ X μ h (.list l) (.ref a)
 | box {n : Nat} {a : Addr} : μ[n]? = some a → n4 Θ X μ h (.box n) (.ref a)
 | glob (a : Addr) : n4 Θ X μ h (.glob a) (.ref a)
 | clo {k : Nat} {cap : List PV} {a c : Addr} {t : Tm} {clos : List (Str × Addr)} {pm ct doc : Value} {cs : List Addr} {vs : List Value} : Θ k = some t →
   h.get? a = some { cls := .type "function",data := .func (qQ t clos pm doc (.ref c) ct) } → ¬ X a → a ∉ μ →
   h.CodeRec (.ref c) t.qual → ¬ X c → c ∉ μ →
   t.caps.map (fun x => clos.lookup x) = cs.map some → cs.map h.get? = vs.map (fun v => some (U3 (some v))) → (∀ d ∈ cs,¬ X d ∧ d ∉ μ) →
   (∀ x,t.self = some x → ∃ d,clos.lookup x = some d ∧ h.get? d = some (U3 (some (.ref a))) ∧ ¬ X d ∧ d ∉ μ) →
   g9 Θ X μ h cap vs → n4 Θ X μ h (.clo k cap) (.ref a)
inductive g9 (Θ : Tms) (X : Addr → Prop) (μ : List Addr) (h : Heap) : List PV → List Value → Prop
 | nil : g9 Θ X μ h [] []
 | cons {p : PV} {v : Value} {ps : List PV} {vs : List Value} : n4 Θ X μ h p v → g9 Θ X μ h ps vs → g9 Θ X μ h (p :: ps) (v :: vs)
end
section
variable {Θ : Tms} {X X' : Addr → Prop} {μ μ' : List Addr} {h h' : Heap}
noncomputable def VK (o : Obj) : Prop := (∃ xs n,o.data = .seq xs n) ∨ (∃ f,o.data = .func f) ∨ (∃ v,o.data = .cell v) ∨ (∃ vs q t,o.data = .fields vs ∧ vs[1]? = some (.str q t))
theorem au (hk : ∀ b o,h.get? b = some o → VK o → ¬ X b → b ∉ μ → h'.get? b = some o ∧ ¬ X' b ∧ b ∉ μ') (hμ : ∀ (n : Nat) (a : Addr),μ[n]? = some a → μ'[n]? = some a) :
  ∀ {p : PV} {v : Value},n4 Θ X μ h p v → n4 Θ X' μ' h' p v := by
 intro p v hv
 refine n4.rec (motive_1 := fun p v _ => n4 Θ X' μ' h' p v) (motive_2 := fun ps vs _ => g9 Θ X' μ' h' ps vs)
  .none .bool .int .str ?_ ?_ ?_ .glob ?_ .nil ?_ hv
 ·intro l a vs ⟨o,ho,rc,n,rd⟩ hx hm _ ih
  obtain ⟨h1,h2,h3⟩ := hk a o ho (.inl ⟨_,n,rd⟩) hx hm
  exact .tup ⟨o,h1,rc,n,rd⟩ h2 h3 ih
 ·intro l a vs ⟨o,ho,rc,n,rd⟩ hx hm _ ih
  obtain ⟨h1,h2,h3⟩ := hk a o ho (.inl ⟨_,n,rd⟩) hx hm
  exact .list ⟨o,h1,rc,n,rd⟩ h2 h3 ih
 ·intro n a e; exact .box (hμ n a e)
 ·intro k cap a c t clos pm ct doc cs vs ht ho hx hm hc hxc hmc hcl hcs hd hs _ ih
  obtain ⟨h1,h2,h3⟩ := hk a _ ho (.inr (.inl ⟨_,rfl⟩)) hx hm
  obtain ⟨c',oc,ws,tk,ec,goc,dc,vc⟩ := hc
  cases ec
  obtain ⟨k1,k2,k3⟩ := hk c oc goc (.inr (.inr (.inr ⟨ws,_,tk,dc,vc⟩))) hxc hmc
  refine .clo ht h1 h2 h3 ⟨c,oc,ws,tk,rfl,k1,dc,vc⟩ k2 k3 hcl ?_ (fun d hd' => ?_) (fun x hx' => ?_) ih
  ·rw [← hcs]
   refine List.map_congr_left fun d hd' => ?_
   have hd'' : h.get? d ∈ cs.map h.get? := List.mem_map_of_mem hd'
   rw [hcs] at hd''
   obtain ⟨v,_,e⟩ := List.mem_map.mp hd''
   rw [← e]
   exact (hk d _ e.symm (.inr (.inr (.inl ⟨_,rfl⟩))) (hd d hd').1 (hd d hd').2).1
  ·have hd'' : h.get? d ∈ cs.map h.get? := List.mem_map_of_mem hd'
   rw [hcs] at hd''
   obtain ⟨v,_,e⟩ := List.mem_map.mp hd''
   exact (hk d _ e.symm (.inr (.inr (.inl ⟨_,rfl⟩))) (hd d hd').1 (hd d hd').2).2
  ·obtain ⟨d,e1,e2,e3,e4⟩ := hs x hx'
   obtain ⟨f1,f2,f3⟩ := hk d _ e2 (.inr (.inr (.inl ⟨_,rfl⟩))) e3 e4
   exact ⟨d,e1,f1,f2,f3⟩
 ·intro p v ps vs _ _ ih1 ih2; exact .cons ih1 ih2
inductive VSh : PV → Value → Prop
 | none : VSh .none .none
 | bool (b : Bool) : VSh (.bool b) (.bool b)
 | int (i : Int) (t : Tok) : VSh (.int i) (.int i t)
 | str (l : List Nat) (t : Tok) : VSh (.str l) (.str (str l) t)
 | tup (l : List PV) (a : Addr) : VSh (.tup l) (.ref a)
 | list (l : List PV) (a : Addr) : VSh (.list l) (.ref a)
 | box (n : Nat) (a : Addr) : VSh (.box n) (.ref a)
 | glob (a : Addr) : VSh (.glob a) (.ref a)
 | clo (k : Nat) (cap : List PV) (a : Addr) : VSh (.clo k cap) (.ref a)
theorem n4.sh {p : PV} {v : Value} (r : n4 Θ X μ h p v) : VSh p v :=
 n4.rec (motive_1 := fun p v _ => VSh p v) (motive_2 := fun _ _ _ => True) .none .bool .int .str (fun _ _ _ _ _ => .tup _ _) (fun _ _ _ _ _ => .list _ _)
  (fun _ => .box _ _) .glob (fun _ _ _ _ _ _ _ _ _ _ _ _ _ => .clo _ _ _) trivial (fun _ _ _ _ => trivial) r
theorem g9.ind {M : List PV → List Value → Prop} (a : M [] []) (b : ∀ {p : PV} {v : Value} {ps : List PV} {vs : List Value},n4 Θ X μ h p v → g9 Θ X μ h ps vs → M ps vs → M (p :: ps) (v :: vs))
  {ps : List PV} {vs : List Value} (r : g9 Θ X μ h ps vs) : M ps vs :=
 g9.rec (motive_1 := fun _ _ _ => True) (motive_2 := fun ps vs _ => M ps vs) trivial (fun _ => trivial) (fun _ _ => trivial) (fun _ _ => trivial) (fun _ _ _ _ _ => trivial) (fun _ _ _ _ _ => trivial)
  (fun _ => trivial) (fun _ => trivial) (fun _ _ _ _ _ _ _ _ _ _ _ _ _ => trivial) a (fun x y _ ih => b x y ih) r
theorem M3 (hk : ∀ b o,h.get? b = some o → ¬ X b → b ∉ μ → h'.get? b = some o ∧ ¬ X' b ∧ b ∉ μ') (hμ : ∀ (n : Nat) (a : Addr),μ[n]? = some a → μ'[n]? = some a) {p : PV} {v : Value} (r : n4 Θ X μ h p v) : n4 Θ X' μ' h' p v :=
 au (fun b o e _ => hk b o e) hμ r
theorem bO (hk : ∀ b o,h.get? b = some o → VK o → ¬ X b → b ∉ μ → h'.get? b = some o ∧ ¬ X' b ∧ b ∉ μ') (hμ : ∀ (n : Nat) (a : Addr),μ[n]? = some a → μ'[n]? = some a) :
  ∀ {ps : List PV} {vs : List Value},g9 Θ X μ h ps vs → g9 Θ X' μ' h' ps vs :=
 fun r => r.ind (M := g9 Θ X' μ' h') .nil fun a _ ih => .cons (au hk hμ a) ih
theorem J9 (hk : ∀ b o,h.get? b = some o → ¬ X b → b ∉ μ → h'.get? b = some o ∧ ¬ X' b ∧ b ∉ μ') (hμ : ∀ (n : Nat) (a : Addr),μ[n]? = some a → μ'[n]? = some a) :
  ∀ {ps : List PV} {vs : List Value},g9 Θ X μ h ps vs → g9 Θ X' μ' h' ps vs :=
 bO (fun b o e _ => hk b o e) hμ
inductive ul (i : Int) : Value → Prop | mk (t : Tok) : ul i (.int i t)
inductive uF (l : List Nat) : Value → Prop | mk (t : Tok) : uF l (.str (Mine.str l) t)
inductive uQ (μ : List Addr) (n : Nat) : Value → Prop | mk (a : Addr) (e : μ[n]? = some a) : uQ μ n (.ref a)
inductive uG (Θ : Tms) (X : Addr → Prop) (μ : List Addr) (h : Heap) (l : List PV) : Value → Prop
 | mk (a : Addr) (vs : List Value) (hl : h.IsTuple a vs.toArray) (hx : ¬ X a) (hm : a ∉ μ) (rs : g9 Θ X μ h l vs) : uG Θ X μ h l (.ref a)
inductive sj (Θ : Tms) (X : Addr → Prop) (μ : List Addr) (h : Heap) (l : List PV) : Value → Prop
 | mk (a : Addr) (vs : List Value) (hl : h.IsList a vs.toArray) (hx : ¬ X a) (hm : a ∉ μ) (rs : g9 Θ X μ h l vs) : sj Θ X μ h l (.ref a)
inductive rR (Θ : Tms) (X : Addr → Prop) (μ : List Addr) (h : Heap) (p : PV) (ps : List PV) : List Value → Prop
 | mk (v : Value) (ws : List Value) (r : n4 Θ X μ h p v) (rs : g9 Θ X μ h ps ws) : rR Θ X μ h p ps (v :: ws)
inductive V1 (Θ : Tms) (X : Addr → Prop) (μ : List Addr) (h : Heap) (a : PV) : List Value → Prop
 | mk (v : Value) (r : n4 Θ X μ h a v) : V1 Θ X μ h a [v]
inductive V2 (Θ : Tms) (X : Addr → Prop) (μ : List Addr) (h : Heap) (a b : PV) : List Value → Prop
 | mk (v w : Value) (r : n4 Θ X μ h a v) (s : n4 Θ X μ h b w) : V2 Θ X μ h a b [v,w]
inductive V3 (Θ : Tms) (X : Addr → Prop) (μ : List Addr) (h : Heap) (a b c : PV) : List Value → Prop
 | mk (v w x : Value) (r : n4 Θ X μ h a v) (s : n4 Θ X μ h b w) (t : n4 Θ X μ h c x) : V3 Θ X μ h a b c [v,w,x]
inductive V4 (Θ : Tms) (X : Addr → Prop) (μ : List Addr) (h : Heap) (a b c d : PV) : List Value → Prop
 | mk (v w x y : Value) (r : n4 Θ X μ h a v) (s : n4 Θ X μ h b w) (t : n4 Θ X μ h c x) (u : n4 Θ X μ h d y) : V4 Θ X μ h a b c d [v,w,x,y]
inductive V6 (Θ : Tms) (X : Addr → Prop) (μ : List Addr) (h : Heap) (a b c d e f : PV) : List Value → Prop
 | mk (v w x y z z' : Value) (r : n4 Θ X μ h a v) (s : n4 Θ X μ h b w) (t : n4 Θ X μ h c x) (u : n4 Θ X μ h d y) (r5 : n4 Θ X μ h e z) (r6 : n4 Θ X μ h f z') : V6 Θ X μ h a b c d e f [v,w,x,y,z,z']
theorem n4.int_inv {i : Int} {v : Value} (r : n4 Θ X μ h (.int i) v) : ul i v := by
 cases r; exact ⟨_⟩
theorem n4.str_inv {l : List Nat} {v : Value} (r : n4 Θ X μ h (.str l) v) : uF l v := by
 cases r; exact ⟨_⟩
theorem n4.bool_inv {b : Bool} {v : Value} (r : n4 Θ X μ h (.bool b) v) : v = .bool b := by
 cases r; rfl
theorem n4.glob_inv {a : Addr} {v : Value} (r : n4 Θ X μ h (.glob a) v) : v = .ref a := by
 cases r; rfl
theorem n4.tup_inv {l : List PV} {v : Value} (r : n4 Θ X μ h (.tup l) v) : uG Θ X μ h l v := by
 cases r with | tup x1 x2 x3 x4 => exact ⟨_,_,x1,x2,x3,x4⟩
theorem n4.list_inv {l : List PV} {v : Value} (r : n4 Θ X μ h (.list l) v) : sj Θ X μ h l v := by
 cases r with | list x1 x2 x3 x4 => exact ⟨_,_,x1,x2,x3,x4⟩
theorem n4.box_inv {n : Nat} {v : Value} (r : n4 Θ X μ h (.box n) v) : uQ μ n v := by
 cases r with | box x1 => exact ⟨_,x1⟩
theorem g9.nil_inv {vs : List Value} (r : g9 Θ X μ h [] vs) : vs = [] := by
 cases r; rfl
theorem g9.cons_inv {p : PV} {ps : List PV} {vs : List Value} (r : g9 Θ X μ h (p :: ps) vs) : rR Θ X μ h p ps vs := by
 cases r with | cons x1 x2 => exact ⟨_,_,x1,x2⟩
theorem g9.inv1 {a : PV} {vs : List Value} (r : g9 Θ X μ h [a] vs) : V1 Θ X μ h a vs := by
 obtain ⟨v,ws,r1,r2⟩ := r.cons_inv
 rw [r2.nil_inv]
 exact ⟨v,r1⟩
theorem g9.inv2 {a b : PV} {vs : List Value} (r : g9 Θ X μ h [a,b] vs) : V2 Θ X μ h a b vs := by
 obtain ⟨v,ws,r1,r2⟩ := r.cons_inv
 obtain ⟨w,r3⟩ := r2.inv1
 exact ⟨v,w,r1,r3⟩
theorem g9.inv3 {a b c : PV} {vs : List Value} (r : g9 Θ X μ h [a,b,c] vs) : V3 Θ X μ h a b c vs := by
 obtain ⟨v,ws,r1,r2⟩ := r.cons_inv
 obtain ⟨w,x,r3,r4⟩ := r2.inv2
 exact ⟨v,w,x,r1,r3,r4⟩
theorem g9.inv4 {a b c d : PV} {vs : List Value} (r : g9 Θ X μ h [a,b,c,d] vs) : V4 Θ X μ h a b c d vs := by
 obtain ⟨v,ws,r1,r2⟩ := r.cons_inv
 obtain ⟨w,x,y,r3,r4,r5⟩ := r2.inv3
 exact ⟨v,w,x,y,r1,r3,r4,r5⟩
theorem g9.inv6 {a b c d e f : PV} {vs : List Value} (r : g9 Θ X μ h [a,b,c,d,e,f] vs) : V6 Θ X μ h a b c d e f vs := by
 obtain ⟨u,ws,r1,r2⟩ := r.cons_inv
 obtain ⟨v,ws',r3,r4⟩ := r2.cons_inv
 obtain ⟨w,x,y,z,r5,r6,r7,r8⟩ := r4.inv4
 exact ⟨u,v,w,x,y,z,r1,r3,r5,r6,r7,r8⟩
theorem oP {α : Type} {l : List α} {n : Nat} (h : l.length = n + 1) : ∃ a r,l = a :: r ∧ r.length = n := by
 cases l with
 | nil => cases h
 | cons a r => exact ⟨a,r,rfl,Nat.succ.inj h⟩
theorem nY {α : Type} {l : List α} (h : l.length = 1) : ∃ a,l = [a] := List.length_eq_one_iff.mp h
theorem mS {α : Type} {l : List α} (h : l.length = 2) : ∃ a b,l = [a,b] := by
 obtain ⟨a,r,rfl,h1⟩ := oP h
 obtain ⟨b,rfl⟩ := nY h1
 exact ⟨a,b,rfl⟩
theorem tl {α : Type} {l : List α} (h : l.length = 3) : ∃ a b c,l = [a,b,c] := by
 obtain ⟨a,r,rfl,h1⟩ := oP h
 obtain ⟨b,c,rfl⟩ := mS h1
 exact ⟨a,b,c,rfl⟩
theorem uv {α : Type} {l : List α} (h : l.length = 4) : ∃ a b c d,l = [a,b,c,d] := by
 obtain ⟨a,r,rfl,h1⟩ := oP h
 obtain ⟨b,c,d,rfl⟩ := tl h1
 exact ⟨a,b,c,d,rfl⟩
theorem vw {α : Type} {l : List α} (h : l.length = 6) : ∃ a b c d e f,l = [a,b,c,d,e,f] := by
 obtain ⟨a,r,rfl,h1⟩ := oP h
 obtain ⟨b,q,rfl,h2⟩ := oP h1
 obtain ⟨c,d,e,f,rfl⟩ := uv h2
 exact ⟨a,b,c,d,e,f,rfl⟩
theorem g9.length {ps : List PV} {vs : List Value} (r : g9 Θ X μ h ps vs) : ps.length = vs.length :=
 r.ind (M := fun ps vs => ps.length = vs.length) rfl fun _ _ ih => congrArg Nat.succ ih
theorem g9.get {ps : List PV} {vs : List Value} (r : g9 Θ X μ h ps vs) : ∀ (i : Nat) p,ps[i]? = some p → ∃ v,vs[i]? = some v ∧ n4 Θ X μ h p v :=
 r.ind (M := fun ps vs => ∀ (i : Nat) p,ps[i]? = some p → ∃ v,vs[i]? = some v ∧ n4 Θ X μ h p v) (fun _ _ e => nomatch e)
  fun a _ ih i p e => match i,e with
   | 0,e => ⟨_,rfl,Option.some.inj e ▸ a⟩
   | i + 1,e => ih i p e
theorem g9.append {ps qs : List PV} {vs ws : List Value} (r : g9 Θ X μ h ps vs) (y : g9 Θ X μ h qs ws) : g9 Θ X μ h (ps ++ qs) (vs ++ ws) :=
 r.ind (M := fun ps vs => g9 Θ X μ h (ps ++ qs) (vs ++ ws)) y fun a _ ih => .cons a ih
theorem g9.take {ps : List PV} {vs : List Value} (n : Nat) (r : g9 Θ X μ h ps vs) : g9 Θ X μ h (ps.take n) (vs.take n) :=
 r.ind (M := fun ps vs => ∀ n,g9 Θ X μ h (ps.take n) (vs.take n)) (fun n => match n with | 0 => .nil | _ + 1 => .nil) (fun a _ ih n => match n with | 0 => .nil | n + 1 => .cons a (ih n)) n
theorem g9.drop {ps : List PV} {vs : List Value} (n : Nat) (r : g9 Θ X μ h ps vs) : g9 Θ X μ h (ps.drop n) (vs.drop n) :=
 r.ind (M := fun ps vs => ∀ n,g9 Θ X μ h (ps.drop n) (vs.drop n)) (fun n => match n with | 0 => .nil | _ + 1 => .nil) (fun a r ih n => match n with | 0 => .cons a r | n + 1 => ih n) n
theorem g9.reverse {ps : List PV} {vs : List Value} (x : g9 Θ X μ h ps vs) : g9 Θ X μ h ps.reverse vs.reverse :=
 x.ind (M := fun ps vs => g9 Θ X μ h ps.reverse vs.reverse) .nil fun {p v ps vs} a _ ih => by
  rw [List.reverse_cons,List.reverse_cons]; exact ih.append (.cons a .nil)
theorem g9.set {ps : List PV} {vs : List Value} (n : Nat) {p v} (r : g9 Θ X μ h ps vs) (y : n4 Θ X μ h p v) : g9 Θ X μ h (ps.set n p) (vs.set n v) :=
 r.ind (M := fun ps vs => ∀ n,g9 Θ X μ h (ps.set n p) (vs.set n v)) (fun _ => .nil) (fun a r ih n => match n with | 0 => .cons y r | n + 1 => .cons a (ih n)) n
theorem g9.map {α : Type} {f : α → PV} {g : α → Value} {l : List α} (e : ∀ x ∈ l,n4 Θ X μ h (f x) (g x)) : g9 Θ X μ h (l.map f) (l.map g) := by
 induction l with
 | nil => exact .nil
 | cons x r ih => exact .cons (e x (by simp)) (ih fun y hy => e y (by simp [hy]))
theorem g9.replicate {p : PV} {v : Value} (e : n4 Θ X μ h p v) : ∀ n,g9 Θ X μ h (List.replicate n p) (List.replicate n v)
 | 0 => .nil
 | n + 1 => .cons e (g9.replicate e n)
theorem g9.filterMapIdx {ps : List PV} {vs : List Value} (x : g9 Θ X μ h ps vs) : ∀ (l : List Nat),g9 Θ X μ h (l.filterMap (ps[·]?)) (l.filterMap (vs[·]?))
 | [] => .nil
 | i :: r => by
  rw [List.filterMap_cons,List.filterMap_cons]
  cases e : ps[i]? with
  | none =>
   have : vs[i]? = none := by
    rw [List.getElem?_eq_none_iff] at e ⊢; rw [← x.length]; exact e
   rw [this]; exact x.filterMapIdx r
  | some p =>
   obtain ⟨v,e2,e3⟩ := x.get i p e
   rw [e2]; exact .cons e3 (x.filterMapIdx r)
theorem g9.ints {ps : List PV} {vs : List Value} {ns : List Int} (r : g9 Θ X μ h ps vs) (e : W8 ps = some ns) : IntsAre vs ns :=
 r.ind (M := fun ps vs => ∀ ns,W8 ps = some ns → IntsAre vs ns) (fun _ e => by cases e; exact .nil) (fun {p v ps vs} a _ ih ns e => by
  cases p with
  | int i =>
   obtain ⟨t⟩ := a.int_inv
   obtain ⟨m,e1,rfl⟩ := mq (show (W8 ps).map (i :: ·) = some ns from e)
   exact .cons _ _ (ih m e1)
  | _ => exact nomatch (show none = some ns from e)) ns e
end
noncomputable def L9 (h h' : Heap) : Prop := ∀ b o,h.get? b = some o → b ∉ Tabs → h'.get? b = some o
theorem L9.refl (h : Heap) : L9 h h := fun _ _ e _ => e
theorem L9.trans {a b c : Heap} (x : L9 a b) (y : L9 b c) : L9 a c := fun p o e t => y p o (x p o e t) t
theorem L9.of {h h' : Heap} (k : ∀ b o,h.get? b = some o → h'.get? b = some o) : L9 h h' := fun b o e _ => k b o e
inductive gT (X : Addr → Prop) (μ : List Addr) (h : Heap) (t : Tm) : Prop
 | mk (hp : t.P ∈ Tabs) (ps : Array Value) (h1 : h.get? t.P = some (tabObj ps)) (h2 : TriplesOk ps.toList)
  (h3 : ∀ cv,codeAmong t.pos ps.toList = some cv → ∃ c',cv = .ref c' ∧ h.CodeRec (.ref c') t.qual ∧ ¬ X c' ∧ c' ∉ μ) : gT X μ h t
noncomputable def sP (Θ : Tms) (X : Addr → Prop) (μ : List Addr) (h : Heap) : Prop :=
 ∀ k t,Θ k = some t → gT X μ h t
structure Run where
 prog : Program
 w : World
 Θ : Tms
 base : Heap
 os : OsState
structure Inv (R : Run) (X : Addr → Prop) (μ : List Addr) (s : Shared) : Prop where
 keep : L9 R.base s.heap
 tabs : sP R.Θ X μ s.heap
 os : s.os = R.os
 bare : AllBare s.gens
 xt : ∀ b ∈ Tabs,X b
 xlo : ∀ b,X b → b ∈ Tabs ∨ R.base.get? b = Option.none
 xex : ∀ b,X b → ∃ o,s.heap.get? b = some o
 mulo : ∀ b ∈ μ,R.base.get? b = Option.none
 muex : ∀ b ∈ μ,∃ o,s.heap.get? b = some o
inductive uJ (R : Run) (X : Addr → Prop) (μ : List Addr) (h : Heap) (n : Nat) (xs : List PV) : Prop
 | mk (a : Addr) (vs : Array Value) (k : Nat) (h1 : μ[n]? = some a) (h2 : h.get? a = some (af vs k)) (h3 : ¬ X a) (h4 : g9 R.Θ X μ h xs vs.toList) : uJ R X μ h n xs
structure N9 (R : Run) (X : Addr → Prop) (μ : List Addr) (h : Heap) (σ : Sto) : Prop where
 len : μ.length = σ.length
 nd : μ.Nodup
 bx : ∀ (n : Nat) (xs : List PV),σ[n]? = some xs → uJ R X μ h n xs
set_option genCtorIdx true in
inductive Kd | loc | cel | frz | glo | cod
abbrev Lay := List (Str × Kd × Nat)
inductive ry (R : Run) (lay : Lay) (env : Env) (X : Addr → Prop) (μ : List Addr) (h : Heap) (ρ : Rho) : Prop
 | mk (m : Str → Option Value) (hn : h.Ns env.locals m) (hl : ∀ x i,(x,Kd.loc,i) ∈ lay → env.kindOf x = some .local ∧ ∀ v,ρ[i]? = some v → v.isUnb = false → ∃ v',m x = some v' ∧ n4 R.Θ X μ h v v') : ry R lay env X μ h ρ
inductive qV (R : Run) (env : Env) (X : Addr → Prop) (μ : List Addr) (h : Heap) (ρ : Rho) (x : Str) (k : Kd) (i : Nat) : Prop
 | mk (h0 : env.kindOf x = some .cell ∨ (k = .frz ∧ env.kindOf x = some .free)) (c : Addr) (w : Option Value) (h1 : env.cells.lookup x = some c) (h2 : h.get? c = some (U3 w)) (h3 : c ∉ μ)
  (h4 : ∀ v,ρ[i]? = some v → v.isUnb = false → ∃ v',w = some v' ∧ n4 R.Θ X μ h v v') (h5 : (k = .cel → X c ∧ R.base.get? c = Option.none) ∧ (k = .frz → ¬ X c)) : qV R env X μ h ρ x k i
structure FR (R : Run) (lay : Lay) (env : Env) (X : Addr → Prop) (μ : List Addr) (h : Heap) (ρ : Rho) : Prop where
 kind : env.scope.kind = .function
 glob : env.globals = mainGlobals
 blt : env.builtins = builtinsNs
 llo : R.base.get? env.locals = Option.none
 lx : X env.locals
 lmu : env.locals ∉ μ
 loc : ry R lay env X μ h ρ
 glo : ∀ x i,(x,Kd.glo,i) ∈ lay → env.kindOf x = some .globalImplicit
 cel : ∀ x k i,(x,k,i) ∈ lay → k = .cel ∨ k = .frz → qV R env X μ h ρ x k i
 cod : ∀ x c,(x,Kd.cod,c) ∈ lay → env.code = .ref c ∧ env.qual = x
 apart : ∀ x i y j c,(x,Kd.cel,i) ∈ lay → (y,Kd.cel,j) ∈ lay → env.cells.lookup x = some c → env.cells.lookup y = some c → x = y
noncomputable def H8 (s s' : Shared) : Prop := ∀ (g : Nat) (st : GenState),s.gens[g]? = some st → s'.gens[g]? = some st
theorem H8.refl (s : Shared) : H8 s s := fun _ _ e => e
theorem H8.trans {a b c : Shared} (x : H8 a b) (y : H8 b c) : H8 a c := fun g st e => y g st (x g st e)
structure w5 (R : Run) (X : Addr → Prop) (μ : List Addr) (s s' : Shared) : Prop where
 keep : L9 s.heap s'.heap
 inv : Inv R X μ s'
 gens : H8 s s'
noncomputable def du (A : Around) (d : Nat) : Prop := A.handled = none ∧ A.depth + d < recursionLimit ∧ A.units + 40 * d + 40 < cLine
section
variable {R : Run} {X : Addr → Prop} {μ : List Addr} {s s' s'' : Shared} {lay : Lay} {env : Env} {ρ : Rho} {σ : Sto}
theorem w5.refl (I : Inv R X μ s) : w5 R X μ s s := ⟨.refl _,I,.refl _⟩
theorem w5.trans (x : w5 R X μ s s') (y : w5 R X μ s' s'') : w5 R X μ s s'' := ⟨x.keep.trans y.keep,y.inv,x.gens.trans y.gens⟩
theorem jo {h h' : Heap} (xt : ∀ b ∈ Tabs,X b) (k : L9 h h') {p : PV} {v : Value} (x : n4 R.Θ X μ h p v) : n4 R.Θ X μ h' p v :=
 M3 (fun b o e hx hm => ⟨k b o e fun ht => hx (xt b ht),hx,hm⟩) (fun _ _ e => e) x
theorem gV {h h' : Heap} (xt : ∀ b ∈ Tabs,X b) (k : L9 h h') {p : List PV} {v : List Value} (x : g9 R.Θ X μ h p v) : g9 R.Θ X μ h' p v :=
 J9 (fun b o e hx hm => ⟨k b o e fun ht => hx (xt b ht),hx,hm⟩) (fun _ _ e => e) x
theorem n9 (S : w5 R X μ s s') {p : PV} {v : Value} (x : n4 R.Θ X μ s.heap p v) : n4 R.Θ X μ s'.heap p v := jo S.inv.xt S.keep x
theorem B4 (S : w5 R X μ s s') {p : List PV} {v : List Value} (x : g9 R.Θ X μ s.heap p v) : g9 R.Θ X μ s'.heap p v := gV S.inv.xt S.keep x
theorem N9.step (S : w5 R X μ s s') (x : N9 R X μ s.heap σ) : N9 R X μ s'.heap σ :=
 by
 refine ⟨x.len,x.nd,fun n xs e => ?_⟩
 obtain ⟨a,vs,k,h1,h2,h3,h4⟩ := x.bx n xs e
 exact ⟨a,vs,k,h1,S.keep a _ h2 fun ht => h3 (S.inv.xt a ht),h3,B4 S h4⟩
noncomputable def d3 (R : Run) : Prop := ∀ t ∈ Tabs,∃ o,R.base.get? t = some o
theorem d3.no {R : Run} (hT : d3 R) {a : Addr} (h : a ∈ Tabs) (h0 : R.base.get? a = Option.none) : False := by
 obtain ⟨o,e⟩ := hT a h
 exact nxx h0 e
theorem FR.step (hT : d3 R) (S : w5 R X μ s s') (x : FR R lay env X μ s.heap ρ) : FR R lay env X μ s'.heap ρ where
 kind := x.kind
 glob := x.glob
 blt := x.blt
 llo := x.llo
 lx := x.lx
 lmu := x.lmu
 loc := by
  obtain ⟨m,hn,h⟩ := x.loc
  refine ⟨m,hn.at' fun o e => S.keep _ o e fun ht => (hT.no ht x.llo).elim,fun y i hy => ⟨(h y i hy).1,fun v e hu => ?_⟩⟩
  obtain ⟨v',e1,e2⟩ := (h y i hy).2 v e hu
  exact ⟨v',e1,n9 S e2⟩
 glo := x.glo
 apart := x.apart
 cod := x.cod
 cel := by
  intro y k i hy hk
  obtain ⟨h0,c,w,h1,h2,h3,h4,h5,h6⟩ := x.cel y k i hy hk
  refine ⟨h0,c,w,h1,S.keep _ _ h2 (fun ht => ?_),h3,(fun v e hu => ?_),h5,h6⟩
  ·cases k with
   | loc => rcases hk with hk | hk <;> cases hk
   | glo => rcases hk with hk | hk <;> cases hk
   | cod => rcases hk with hk | hk <;> cases hk
   | cel => exact hT.no ht (h5 rfl).2
   | frz => exact h6 rfl (S.inv.xt c ht)
  ·obtain ⟨v',e1,e2⟩ := h4 v e hu
   exact ⟨v',e1,n9 S e2⟩
theorem Inv.grow (I : Inv R X μ s) {h' : Heap} {tk : Nat} (k : ∀ b o,s.heap.get? b = some o → h'.get? b = some o) : Inv R X μ { s with heap := h',toks := tk } where
 keep := I.keep.trans (.of k)
 tabs := fun j t e => let ⟨hp,ps,h1,h2,h3⟩ := I.tabs j t e; ⟨hp,ps,k _ _ h1,h2,fun cv e => let ⟨c',e1,e2,e3⟩ := h3 cv e; ⟨c',e1,e2.keeps k,e3⟩⟩
 os := I.os
 bare := I.bare
 xt := I.xt
 xlo := I.xlo
 xex := fun b hb => let ⟨o,e⟩ := I.xex b hb; ⟨o,k _ _ e⟩
 mulo := I.mulo
 muex := fun b hb => let ⟨o,e⟩ := I.muex b hb; ⟨o,k _ _ e⟩
theorem w5.grow (I : Inv R X μ s) {h' : Heap} {tk : Nat} (k : ∀ b o,s.heap.get? b = some o → h'.get? b = some o) : w5 R X μ s { s with heap := h',toks := tk } :=
 ⟨.of k,I.grow k,fun _ _ e => e⟩
theorem w5.toks (I : Inv R X μ s) {tk : Nat} : w5 R X μ s { s with toks := tk } := w5.grow I (fun _ _ e => e)
theorem w5.push (I : Inv R X μ s) {o : Obj} {tk : Nat} : w5 R X μ s { s with heap := s.heap.push o,toks := tk } :=
 w5.grow I (fun _ _ e => Heap.get?_push_of_some _ e)
theorem Inv.fresh_of (I : Inv R X μ s) {a : Addr} (h : s.heap.get? a = Option.none) : ¬ X a ∧ a ∉ μ := by
 constructor
 ·intro hx
  obtain ⟨o,e⟩ := I.xex _ hx
  exact nxx h e
 ·intro hm
  obtain ⟨o,e⟩ := I.muex _ hm
  exact nxx h e
theorem Inv.fresh_base (I : Inv R X μ s) {a : Addr} (h : s.heap.get? a = Option.none) : R.base.get? a = Option.none := by
 cases e : R.base.get? a with
 | none => rfl
 | some o =>
  by_cases ht : a ∈ Tabs
  ·obtain ⟨o,e⟩ := I.xex _ (I.xt _ ht); exact nxx h e
  ·exact nxx h (I.keep a o e ht)
theorem Heap.none_at_size (h : Heap) : h.get? h.objs.size = Option.none := Heap.get?_none_of_le (Nat.le_refl _)
theorem nsz {h : Heap} {b : Addr} {o : Obj} {P : Prop} (hb : b = h.objs.size) (e : h.get? b = some o) : P := by
 subst hb; exact nxx (Heap.none_at_size _) e
theorem Inv.fresh (I : Inv R X μ s) : ¬ X s.heap.objs.size ∧ s.heap.objs.size ∉ μ := I.fresh_of (Heap.none_at_size _)
end
structure Cx (R : Run) (d : Nat) (lay : Lay) (env : Env) (A : Around) (X : Addr → Prop) (μ : List Addr) (s : Shared) (ρ : Rho) (σ : Sto) : Prop where
 fr : FR R lay env X μ s.heap ρ
 st : N9 R X μ s.heap σ
 inv : Inv R X μ s
 room : du A d
abbrev noE : Value → Shared → Prop := fun _ _ => False
noncomputable def ES (R : Run) (C : Orc) (d : Nat) (lay : Lay) (e : Expr) (m : ME) : Prop :=
 ∀ env A X μ s ρ σ v,Cx R d lay env A X μ s ρ σ → evE C m ρ σ = some v →
  wpAny (model R.prog R.w) A (eval e env) (fun v' s' => n4 R.Θ X μ s'.heap v v' ∧ w5 R X μ s s') noE s
noncomputable def ET (R : Run) (C : Orc) (d : Nat) (lay : Lay) (e : Expr) (m : ME) : Prop :=
 ∀ env A X μ s ρ σ v t,Cx R d lay env A X μ s ρ σ → evE C m ρ σ = some v → I5 σ v = some t →
  wpAny (model R.prog R.w) A (isTrue e env (eval e env)) (fun b s' => b = t ∧ w5 R X μ s s') noE s
noncomputable def n8 (e : Expr) : Prop := (fun (r : List Expr) (env : Env) => starEach (e :: r) env) = fun r env => (false,eval e env) :: starEach r env
theorem o9 {e : Expr} (h : n8 e) (r : List Expr) (env : Env) : starEach (e :: r) env = (false,eval e env) :: starEach r env := congrFun (congrFun h r) env
inductive ESs (R : Run) (C : Orc) (d : Nat) (lay : Lay) : List Expr → MEs → Prop
 | nil : ESs R C d lay [] .nil
 | cons {e m es ms} : n8 e → ES R C d lay e m → ESs R C d lay es ms → ESs R C d lay (e :: es) (.cons m ms)
section
variable {R : Run} {C : Orc} {d : Nat} {lay : Lay} {env : Env} {A : Around} {X : Addr → Prop} {μ : List Addr} {s s' : Shared} {ρ : Rho} {σ : Sto}
theorem Cx.step (hT : d3 R) (c : Cx R d lay env A X μ s ρ σ) (S : w5 R X μ s s') : Cx R d lay env A X μ s' ρ σ := ⟨c.fr.step hT S,c.st.step S,S.inv,c.room⟩
theorem K3 (hT : d3 R) {es : List Expr} {ms : MEs} (h : ESs R C d lay es ms) : ∀ {s : Shared} {vs : List PV} (pos : Pos),Cx R d lay env A X μ s ρ σ → Q3 C ms ρ σ = some vs →
  wpAny (model R.prog R.w) A (spliced (backTo pos (starEach es env))) (fun vs' s' => g9 R.Θ X μ s'.heap vs vs' ∧ w5 R X μ s s') noE s := by
 induction h with
 | nil =>
  intro s vs pos c e
  cases e
  exact wpAny_items_nil ⟨.nil,.refl c.inv⟩
 | @cons e m es ms hs he _ ih =>
  intro s vs pos c ev
  obtain ⟨v,ev1,ev2⟩ := bd ev
  obtain ⟨r,ev3,rfl⟩ := mq ev2
  refine wpAny_items_cons (wpAny_mono (he env A X μ s ρ σ v c ev1) (fun v' s₁ h₁ => ?_) fun _ _ x => x) (o9 hs es env)
  refine wpAny_mono (ih pos (c.step hT h₁.2) ev3) (fun vs' s₂ h₂ => ?_) fun _ _ x => x
  exact ⟨.cons (n9 h₂.2 h₁.1) h₂.1,h₁.2.trans h₂.2⟩
theorem ES.none {k : Nat} {pos : Pos} : ES R C d lay (.Constant .none k pos) (.lit .none) := fun env A X μ s ρ σ v c e => by
 cases e; exact wpAny_Constant_none ⟨.none,.refl c.inv⟩
theorem ES.bool {b : Bool} {k : Nat} {pos : Pos} : ES R C d lay (.Constant (.bool b) k pos) (.lit (.bool b)) := fun env A X μ s ρ σ v c e => by
 cases e; exact wpAny_Constant_bool ⟨.bool b,.refl c.inv⟩
theorem ES.int {i : Int} {k : Nat} {pos : Pos} : ES R C d lay (.Constant (.int i) k pos) (.lit (.int i)) := fun env A X μ s ρ σ v c e => by
 cases e; exact wpAny_Constant_int ⟨.int i _,.toks c.inv⟩
theorem ES.str {x : Str} {k : Nat} {pos : Pos} : ES R C d lay (.Constant (.str x) k pos) (.lit (.str x.cps.toList)) := fun env A X μ s ρ σ v c e => by
 cases e
 exact PySem.wpAny_Constant_str ⟨.str x.cps.toList _,.toks c.inv⟩
theorem cf {i : Nat} {v : PV} (h : n7 ρ i = some v) : ρ[i]? = some v ∧ v.isUnb = false := by
 have h' : (match ρ[i]? with | some .unb => Option.none | r => r) = some v := h
 generalize ρ[i]? = o at h'
 cases o with
 | none => cases h'
 | some w => cases w <;> cases h' <;> exact ⟨rfl,rfl⟩
theorem ES.var {x : Str} {k : Kd} {i : Nat} {pos : Pos} (hm : (x,k,i) ∈ lay) (hk : k = .loc ∨ k = .cel ∨ k = .frz) (hd : (x == ("__debug__" : Str)) = false) (hc : (x == ("__classdict__" : Str)) = false) : ES R C d lay (.Name x pos) (.var i) := fun env A X μ s ρ σ v c e => by
 have hv := cf (ρ := ρ) e
 cases k with
 | glo => rcases hk with hk | hk | hk <;> cases hk
 | cod => rcases hk with hk | hk | hk <;> cases hk
 | loc =>
  obtain ⟨m,hn,h⟩ := c.fr.loc
  obtain ⟨v',e1,e2⟩ := (h x i hm).2 v hv.1 hv.2
  exact wpAny_Name (wpAny_loadName_local c.fr.kind (h x i hm).1 hn e1 ⟨e2,.refl c.inv⟩) hd
 | cel =>
  obtain ⟨h0,ca,w,h1,h2,h3,h4,h5,h6⟩ := c.fr.cel x .cel i hm (.inl rfl)
  obtain ⟨v',rfl,e2⟩ := h4 v hv.1 hv.2
  rcases h0 with h0 | ⟨_,h0⟩
  ·exact wpAny_Name (wpAny_loadName_cell c.fr.kind h0 h1 ⟨_,h2,rfl⟩ ⟨e2,.refl c.inv⟩) hd
  ·exact wpAny_Name (wpAny_loadName_free c.fr.kind h0 h1 ⟨_,h2,rfl⟩ ⟨e2,.refl c.inv⟩ hc) hd
 | frz =>
  obtain ⟨h0,ca,w,h1,h2,h3,h4,h5,h6⟩ := c.fr.cel x .frz i hm (.inr rfl)
  obtain ⟨v',rfl,e2⟩ := h4 v hv.1 hv.2
  rcases h0 with h0 | ⟨_,h0⟩
  ·exact wpAny_Name (wpAny_loadName_cell c.fr.kind h0 h1 ⟨_,h2,rfl⟩ ⟨e2,.refl c.inv⟩) hd
  ·exact wpAny_Name (wpAny_loadName_free c.fr.kind h0 h1 ⟨_,h2,rfl⟩ ⟨e2,.refl c.inv⟩ hc) hd
theorem ln {es : List Expr} {ms : MEs} (h : ESs R C d lay es ms) : ∀ {vs},Q3 C ms ρ σ = some vs → vs.length = es.length := by
 induction h with
 | nil => intro vs e; cases e; rfl
 | cons _ _ _ ih =>
  intro vs e
  obtain ⟨v,_,e2⟩ := bd e
  obtain ⟨r,e3,rfl⟩ := mq e2
  simp [ih e3]
theorem ES.tup (hT : d3 R) {es : List Expr} {ms : MEs} {k : Nat} {pos : Pos} (h : ESs R C d lay es ms) (hl : es.length ≤ 1000) : ES R C d lay (.Tuple es k pos) (.tup ms) := fun env A X μ s ρ σ v c e => by
 obtain ⟨vs,e1,rfl⟩ := mq e
 refine wpAny_Tuple (wpAny_mono (K3 hT h pos c e1) (fun vs' s₁ h₁ => ?_) fun _ _ x => x)
 have f := h₁.2.inv.fresh
 refine ⟨?_,?_,?_⟩
 ·have := h₁.1.length
  have := ln h e1
  have : sizeLine = 16777216 := rfl
  lia
 ·have S := w5.push h₁.2.inv (o := { cls := .type "tuple",data := .seq vs'.toArray }) (tk := s₁.toks)
  exact .tup ⟨_,Heap.get?_push_size _ rfl,rfl,0,rfl⟩ f.1 f.2 (B4 S h₁.1)
 ·exact h₁.2.trans (w5.push h₁.2.inv)
end
noncomputable def O2 (R : Run) (f : Value → Value → Sem Value) (p : Y0) : Prop :=
 ∀ A X μ s σ a b a' b' r,Inv R X μ s → N9 R X μ s.heap σ → du A 0 → evP p [a,b] σ = some r → n4 R.Θ X μ s.heap a a' → n4 R.Θ X μ s.heap b b' →
  wpAny (model R.prog R.w) A (f a' b') (fun r' s' => n4 R.Θ X μ s'.heap r r' ∧ w5 R X μ s s') noE s
noncomputable def O1 (R : Run) (f : Value → Sem Value) (p : Y0) : Prop :=
 ∀ A X μ s σ a a' r,Inv R X μ s → N9 R X μ s.heap σ → du A 0 → evP p [a] σ = some r → n4 R.Θ X μ s.heap a a' →
  wpAny (model R.prog R.w) A (f a') (fun r' s' => n4 R.Θ X μ s'.heap r r' ∧ w5 R X μ s s') noE s
section
variable {R : Run} {C : Orc} {d : Nat} {lay : Lay}
theorem du.zero {A : Around} {d : Nat} (h : du A d) : du A 0 := ⟨h.1,by have := h.2.1; lia,by have := h.2.2; lia⟩
theorem ev1 {e : ME} {ρ : Rho} {σ : Sto} {vs : List PV} (h : Q3 C (.cons e .nil) ρ σ = some vs) : ∃ v,evE C e ρ σ = some v ∧ vs = [v] := by
 obtain ⟨v,h1,h2⟩ := bd h
 cases h2
 exact ⟨v,h1,rfl⟩
theorem ev2 {e f : ME} {ρ : Rho} {σ : Sto} {vs : List PV} (h : Q3 C (.cons e (.cons f .nil)) ρ σ = some vs) : ∃ v w,evE C e ρ σ = some v ∧ evE C f ρ σ = some w ∧ vs = [v,w] := by
 obtain ⟨v,h1,h2⟩ := bd h
 obtain ⟨r,h3,rfl⟩ := mq h2
 obtain ⟨w,h4,rfl⟩ := ev1 h3
 exact ⟨v,w,h1,h4,rfl⟩
theorem jI {p : Y0} {e : ME} {ρ : Rho} {σ : Sto} {v : PV} (h : evE C (.prim p (.cons e .nil)) ρ σ = some v) : ∃ a,evE C e ρ σ = some a ∧ evP p [a] σ = some v := by
 obtain ⟨vs,e1,e2⟩ := bd (show (Q3 C (.cons e .nil) ρ σ).bind (evP p · σ) = some v from h)
 obtain ⟨a,ea,rfl⟩ := ev1 e1
 exact ⟨a,ea,e2⟩
theorem fo {p : Y0} {e f : ME} {ρ : Rho} {σ : Sto} {v : PV} (h : evE C (.prim p (.cons e (.cons f .nil))) ρ σ = some v) : ∃ a b,evE C e ρ σ = some a ∧ evE C f ρ σ = some b ∧ evP p [a,b] σ = some v := by
 obtain ⟨vs,e1,e2⟩ := bd (show (Q3 C (.cons e (.cons f .nil)) ρ σ).bind (evP p · σ) = some v from h)
 obtain ⟨a,b,ea,eb,rfl⟩ := ev2 e1
 exact ⟨a,b,ea,eb,e2⟩
theorem ES.bin (hT : d3 R) {l r : Expr} {ml mr : ME} {op : Operator} {p : Y0} {pos : Pos} (hl : ES R C d lay l ml) (hr : ES R C d lay r mr) (ho : O2 R (binaryOp op) p) :
  ES R C d lay (.BinOp l op r pos) (.prim p (.cons ml (.cons mr .nil))) := fun env A X μ s ρ σ v c e => by
 obtain ⟨a,b,ea,eb,e2⟩ := fo e
 refine wpAny_BinOp (wpAny_mono (hl env A X μ s ρ σ a c ea) (fun a' s₁ h₁ => ?_) fun _ _ x => x)
 have c₁ := c.step hT h₁.2
 refine wpAny_mono (hr env A X μ s₁ ρ σ b c₁ eb) (fun b' s₂ h₂ => ?_) fun _ _ x => x
 have c₂ := c₁.step hT h₂.2
 exact wpAny_mono (ho A X μ s₂ σ a b a' b' v c₂.inv c₂.st c₂.room.zero e2 (n9 h₂.2 h₁.1) h₂.1) (fun r' s₃ h₃ => ⟨h₃.1,(h₁.2.trans h₂.2).trans h₃.2⟩) fun _ _ x => x
theorem ES.un (hT : d3 R) {x : Expr} {m : ME} {op : UnaryOp} {p : Y0} {pos : Pos} (hx : ES R C d lay x m) (ho : O1 R (unaryOp op) p) :
  ES R C d lay (.UnaryOp op x pos) (.prim p (.cons m .nil)) := fun env A X μ s ρ σ v c e => by
 obtain ⟨a,ea,e2⟩ := jI e
 refine wpAny_UnaryOp (wpAny_mono (hx env A X μ s ρ σ a c ea) (fun a' s₁ h₁ => ?_) fun _ _ x => x)
 have c₁ := c.step hT h₁.2
 exact wpAny_mono (ho A X μ s₁ σ a a' v c₁.inv c₁.st c₁.room.zero e2 h₁.1) (fun r' s₃ h₃ => ⟨h₃.1,h₁.2.trans h₃.2⟩) fun _ _ x => x
theorem ES.cmp (hT : d3 R) {l r : Expr} {ml mr : ME} {op : CmpOp} {p : Y0} {pos : Pos} (hl : ES R C d lay l ml) (hr : ES R C d lay r mr) (ho : O2 R (compareOp op) p) (hm : behindInMarks op r = false) :
  ES R C d lay (.Compare l [op] [r] pos) (.prim p (.cons ml (.cons mr .nil))) := fun env A X μ s ρ σ v c e => by
 obtain ⟨a,b,ea,eb,e2⟩ := fo e
 refine wpAny_Compare1 (wpAny_mono (hl env A X μ s ρ σ a c ea) (fun a' s₁ h₁ => ?_) fun _ _ x => x) hm
 have c₁ := c.step hT h₁.2
 refine wpAny_mono (hr env A X μ s₁ ρ σ b c₁ eb) (fun b' s₂ h₂ => ?_) fun _ _ x => x
 have c₂ := c₁.step hT h₂.2
 exact wpAny_mono (ho A X μ s₂ σ a b a' b' v c₂.inv c₂.st c₂.room.zero e2 (n9 h₂.2 h₁.1) h₂.1) (fun r' s₃ h₃ => ⟨h₃.1,(h₁.2.trans h₂.2).trans h₃.2⟩) fun _ _ x => x
theorem ET.cmp (hT : d3 R) {l r : Expr} {ml mr : ME} {op : CmpOp} {p : Y0} {pos : Pos} (hl : ES R C d lay l ml) (hr : ES R C d lay r mr) (ho : O2 R (compareOp op) p) (hm : behindInMarks op r = false)
  (hb : ∀ a b σ v,evP p [a,b] σ = some v → ∃ b,v = .bool b) :
  ET R C d lay (.Compare l [op] [r] pos) (.prim p (.cons ml (.cons mr .nil))) := fun env A X μ s ρ σ v t c e ht => by
 obtain ⟨a,b,ea,eb,e2⟩ := fo e
 obtain ⟨bb,rfl⟩ := hb _ _ _ _ e2
 cases ht
 refine wpAny_isTrue_Compare1 (wpAny_mono (hl env A X μ s ρ σ a c ea) (fun a' s₁ h₁ => ?_) fun _ _ x => x) hm
 have c₁ := c.step hT h₁.2
 refine wpAny_mono (hr env A X μ s₁ ρ σ b c₁ eb) (fun b' s₂ h₂ => ?_) fun _ _ x => x
 have c₂ := c₁.step hT h₂.2
 refine wpAny_mono (ho A X μ s₂ σ a b a' b' _ c₂.inv c₂.st c₂.room.zero e2 (n9 h₂.2 h₁.1) h₂.1) (fun r' s₃ h₃ => ?_) fun _ _ x => x
 rw [h₃.1.bool_inv]
 exact wpAny_truthy_bool ⟨rfl,(h₁.2.trans h₂.2).trans h₃.2⟩
theorem nos {P : Prop} {α : Type} {x : α} (e : none = some x) : P := nomatch e
theorem j9 {α : Type} {c : Prop} [Decidable c] {x r : α} (e : (if c then some x else none) = some r) : c ∧ r = x := by
 by_cases h : c
 ·rw [if_pos h] at e; exact ⟨h,(Option.some.inj e).symm⟩
 ·rw [if_neg h] at e; exact nos e
noncomputable def Two (a b : PV) : Prop := ∃ i j,a = .int i ∧ b = .int j
theorem qf {f : Int → Int → Option PV} {a b r : PV} (e : eI2 f [a,b] = some r) : Two a b := by
 cases a with
 | int i => cases b with
  | int j => exact ⟨i,j,rfl,rfl⟩
  | _ => exact nos e
 | _ => exact nos e
theorem iP {f : Int → Int → Option PV} {a b r : PV} (e : eI2 f [a,b] = some r) : ∃ i j,a = .int i ∧ b = .int j ∧ f i j = some r := by
 obtain ⟨i,j,rfl,rfl⟩ := qf e
 exact ⟨i,j,rfl,rfl,e⟩
theorem iR {f : Int → Option PV} {a r : PV} (e : eI1 f [a] = some r) : ∃ i,a = .int i ∧ f i = some r := by
 cases a with
 | int i => exact ⟨i,rfl,e⟩
 | _ => exact nos e
theorem O2.ii {f : Value → Value → Sem Value} {p : Y0} (g : Int → Int → Option PV) (hp : ∀ l σ,evP p l σ = eI2 g l)
  (h : ∀ A X μ s i j ti tj r,Inv R X μ s → du A 0 → g i j = some r → wpAny (model R.prog R.w) A (f (.int i ti) (.int j tj)) (fun r' s' => n4 R.Θ X μ s'.heap r r' ∧ w5 R X μ s s') noE s) : O2 R f p :=
 fun A X μ s σ a b a' b' r I _ hr e ha hb => by
  rw [hp] at e
  obtain ⟨i,j,rfl,rfl,e⟩ := iP e
  obtain ⟨ta⟩ := ha.int_inv
  obtain ⟨tb⟩ := hb.int_inv
  exact h A X μ s i j ta tb r I hr e
theorem O1.i {f : Value → Sem Value} {p : Y0} (g : Int → Option PV) (hp : ∀ l σ,evP p l σ = eI1 g l)
  (h : ∀ A X μ s i ti r,Inv R X μ s → du A 0 → g i = some r → wpAny (model R.prog R.w) A (f (.int i ti)) (fun r' s' => n4 R.Θ X μ s'.heap r r' ∧ w5 R X μ s s') noE s) : O1 R f p :=
 fun A X μ s σ a a' r I _ hr e ha => by
  rw [hp] at e
  obtain ⟨i,rfl,e⟩ := iR e
  obtain ⟨ta⟩ := ha.int_inv
  exact h A X μ s i ta r I hr e
theorem O2.lt : O2 R (compareOp .Lt) .lt := .ii _ (fun _ _ => rfl) fun A X μ s i j ti tj r I _ e => by
 cases e; exact lt_int ⟨.bool _,.refl I⟩
theorem O2.le : O2 R (compareOp .LtE) .le := .ii _ (fun _ _ => rfl) fun A X μ s i j ti tj r I _ e => by
 cases e; exact le_int ⟨.bool _,.refl I⟩
theorem O2.gt : O2 R (compareOp .Gt) .gt := .ii _ (fun _ _ => rfl) fun A X μ s i j ti tj r I _ e => by
 cases e; exact gt_int ⟨.bool _,.refl I⟩
theorem O2.ge : O2 R (compareOp .GtE) .ge := .ii _ (fun _ _ => rfl) fun A X μ s i j ti tj r I _ e => by
 cases e; exact ge_int ⟨.bool _,.refl I⟩
theorem O2.sub : O2 R (binaryOp .Sub) .sub := .ii _ (fun _ _ => rfl) fun A X μ s i j ti tj r I _ e => by
 cases e; exact sub_int ⟨.int _ _,.toks I⟩
theorem O2.mul : O2 R (binaryOp .Mult) .mul := .ii _ (fun _ _ => rfl) fun A X μ s i j ti tj r I _ e => by
 obtain ⟨h,rfl⟩ := j9 e
 simp only [C8,z5,decide_eq_true_eq] at h
 exact mul_int ⟨.int _ _,.toks I⟩ (PySem.IntMulOk.of_le h.1 h.2 (by lia))
theorem O2.fdiv : O2 R (binaryOp .FloorDiv) .fdiv := .ii _ (fun _ _ => rfl) fun A X μ s i j ti tj r I hr e => by
 obtain ⟨h,rfl⟩ := j9 e
 refine floordiv_int_or hr.1 (fun h0 => ?_) (fun _ => ⟨?_,.toks I⟩) (fun _ => .inl (PyProof.noPylong_small (qU (Int.le_of_lt h.1) (Int.lt_trans h.2 (by decide)))))
 ·exfalso; lia
 ·rw [Int.fdiv_eq_ediv_of_nonneg _ (by lia)]; exact .int _ _
theorem O2.mod : O2 R (binaryOp .Mod) .mod := .ii _ (fun _ _ => rfl) fun A X μ s i j ti tj r I hr e => by
 obtain ⟨h,rfl⟩ := j9 e
 refine mod_int' (by lia) ⟨?_,.toks I⟩
 rw [Int.fmod_eq_emod_of_nonneg _ (by lia)]; exact .int _ _
theorem O2.pow : O2 R (binaryOp .Pow) .pow := .ii _ (fun _ _ => rfl) fun A X μ s i j ti tj r I hr e => by
 obtain ⟨h,rfl⟩ := j9 e
 exact pow_int h.1 (by have := h.2; lia) ⟨.int _ _,.toks I⟩
theorem O2.shl : O2 R (binaryOp .LShift) .shl := .ii _ (fun _ _ => rfl) fun A X μ s i j ti tj r I hr e => by
 obtain ⟨⟨h1,h2,h⟩,rfl⟩ := j9 e
 simp only [C8,decide_eq_true_eq] at h
 refine lshift_int_or hr.1 (fun h0 => ?_) (fun _ => ?_) (fun _ => ⟨.int _ _,.toks I⟩)
 ·exfalso; lia
 ·lia
theorem O2.shr : O2 R (binaryOp .RShift) .shr := .ii _ (fun _ _ => rfl) fun A X μ s i j ti tj r I hr e => by
 obtain ⟨h,rfl⟩ := j9 e
 refine rshift_int h ⟨?_,.toks I⟩
 rw [Int.fdiv_eq_ediv_of_nonneg _ (Int.pow_nonneg (by lia))]; exact .int _ _
theorem O2.band : O2 R (binaryOp .BitAnd) .band := .ii _ (fun _ _ => rfl) fun A X μ s i j ti tj r I hr e => by
 cases e; exact and_int ⟨.int _ _,.toks I⟩
theorem O2.bor : O2 R (binaryOp .BitOr) .bor := .ii _ (fun _ _ => rfl) fun A X μ s i j ti tj r I hr e => by
 cases e; exact or_int ⟨.int _ _,.toks I⟩
theorem O2.bxor : O2 R (binaryOp .BitXor) .bxor := .ii _ (fun _ _ => rfl) fun A X μ s i j ti tj r I hr e => by
 cases e; exact xor_int ⟨.int _ _,.toks I⟩
theorem O1.neg : O1 R (unaryOp .USub) .neg := .i _ (fun _ _ => rfl) fun A X μ s i ti r I _ e => by
 cases e; exact neg_int ⟨.int _ _,.toks I⟩
theorem O1.inv : O1 R (unaryOp .Invert) .inv := .i _ (fun _ _ => rfl) fun A X μ s i ti r I _ e => by
 cases e; exact invert_int ⟨.int _ _,.toks I⟩
inductive tm : PV → PV → PV → Prop
 | int (i j : Int) : tm (.int i) (.int j) (.int (i + j))
 | str (l k : List Nat) (h : l.length + k.length ≤ a8) : tm (.str l) (.str k) (.str (l ++ k))
 | list (l k : List PV) (h : l.length + k.length ≤ a8) : tm (.list l) (.list k) (.list (l ++ k))
theorem lL {a b r : PV} (e : uV [a,b] = some r) : tm a b r := by
 cases a with
 | int i => cases b with
  | int j => obtain rfl := Option.some.inj e; exact .int i j
  | _ => exact nos e
 | str l => cases b with
  | str k => obtain ⟨h,rfl⟩ := j9 e; exact .str l k h
  | _ => exact nos e
 | list l => cases b with
  | list k => obtain ⟨h,rfl⟩ := j9 e; exact .list l k h
  | _ => exact nos e
 | _ => exact nos e
theorem kQ {A : Around} {X : Addr → Prop} {μ : List Addr} {s : Shared} {l k : List PV} {v w : Value} (I : Inv R X μ s) (h : l.length + k.length ≤ a8) (ha : n4 R.Θ X μ s.heap (.list l) v) (hb : n4 R.Θ X μ s.heap (.list k) w) :
  wpAny (model R.prog R.w) A (binaryOp .Add v w) (fun r' s' => n4 R.Θ X μ s'.heap (.list (l ++ k)) r' ∧ w5 R X μ s s') noE s := by
 obtain ⟨a1,vs,⟨⟨cls,dd,data,sl⟩,ho,hc,n,hd⟩,-,-,hr1⟩ := ha.list_inv
 obtain ⟨a2,ws,⟨⟨cls2,dd2,data2,sl2⟩,ho2,hc2,n2,hd2⟩,-,-,hr2⟩ := hb.list_inv
 simp only at hc hd hc2 hd2
 subst hc hd hc2 hd2
 have hz : vs.toArray.size + ws.toArray.size ≤ sizeLine := by
  rw [List.size_toArray,List.size_toArray,← hr1.length,← hr2.length]
  exact Nat.le_trans h (by decide)
 refine concat_meets ⟨_,ho,rfl⟩ ⟨_,ho2,rfl⟩ noFill_list_add seq_list_add PySem.F.slot_list_add PySem.F.entry_list_add (PySem.F.args_list_add_2 _ _) (list_addW a1 a2 vs.toArray ws.toArray n n2 dd dd2 sl sl2 hz) ⟨ho,ho2,?_⟩
 rw [List.append_toArray]
 have f := I.fresh
 have S := w5.push I (o := { cls := .type "list",data := .seq (vs ++ ws).toArray }) (tk := s.toks)
 exact ⟨.list ⟨_,Heap.get?_push_size _ rfl,rfl,0,rfl⟩ f.1 f.2 ((B4 S hr1).append (B4 S hr2)),S⟩
theorem O2.add : O2 R (binaryOp .Add) .add := fun A X μ s σ a b a' b' r I _ hr e ha hb => by
 cases lL e with
 | int i j =>
  obtain ⟨ti⟩ := ha.int_inv
  obtain ⟨tj⟩ := hb.int_inv
  exact add_int ⟨.int _ _,.toks I⟩
 | str l k h =>
  obtain ⟨ti⟩ := ha.str_inv
  obtain ⟨tj⟩ := hb.str_inv
  refine PyProof.Rows.add_str (fun t' tk => ⟨?_,.toks I⟩) ?_
  ·have e2 : str (l ++ k) = str l ++ str k := congrArg Str.mk (List.append_toArray _ _).symm
   rw [← e2]; exact .str _ _
  ·exact Nat.le_trans (by rw [show (str l).length = l.length from rfl,show (str k).length = k.length from rfl]; exact h) (by decide)
 | list l k h => exact kQ I h ha hb
end
section
variable {Θ : Tms} {X : Addr → Prop} {μ : List Addr} {h : Heap}
theorem aq {n : Nat} {p : PV} {d : PyData} (e : toD n p = some d) : ∃ m,n = m + 1 :=
 match n,e with
 | n + 1,_ => ⟨n,rfl⟩
noncomputable def qz (h : Heap) (p : PV) (v : Value) : Prop := ∀ n d,toD n p = some d → ∃ as,Reads h v d as ∧ d.canLay0 = true ∧ d.depth ≤ n
noncomputable def gy (h : Heap) (ps : List PV) (vs : List Value) : Prop := ∀ n ds,ps.mapM (toD n) = some ds → ∃ as,ReadsAll h vs ds as ∧ PyData.canLayAll0 ds = true ∧ PyData.depthAll ds ≤ n
theorem qz.tup {l : List PV} {a : Addr} {vs : List Value} (hT : h.IsTuple a vs.toArray) (ih : gy h l vs) : qz h (.tup l) (.ref a) := fun n d e => by
 obtain ⟨m,rfl⟩ := aq e
 obtain ⟨ds,e1,rfl⟩ := mq (show (l.mapM (toD m)).map PyData.tuple = some d from e)
 obtain ⟨as,ra,hc,hd⟩ := ih m ds e1
 obtain ⟨o,ho,hcls,k,hdat⟩ := hT
 exact ⟨_,.tuple ho hcls hdat ra,hc,Nat.succ_le_succ hd⟩
theorem qz.list {l : List PV} {a : Addr} {vs : List Value} (hT : h.IsList a vs.toArray) (ih : gy h l vs) : qz h (.list l) (.ref a) := fun n d e => by
 obtain ⟨m,rfl⟩ := aq e
 obtain ⟨ds,e1,rfl⟩ := mq (show (l.mapM (toD m)).map PyData.list = some d from e)
 obtain ⟨as,ra,hc,hd⟩ := ih m ds e1
 obtain ⟨o,ho,hcls,k,hdat⟩ := hT
 exact ⟨_,.list ho hcls hdat ra,hc,Nat.succ_le_succ hd⟩
theorem gy.cons {p : PV} {v : Value} {ps : List PV} {vs : List Value} (a : qz h p v) (ih : gy h ps vs) : gy h (p :: ps) (v :: vs) := fun n ds e => by
 rw [List.mapM_cons] at e
 obtain ⟨d,e1,e2⟩ := bd e
 obtain ⟨dr,e3,e4⟩ := bd e2
 cases e4
 obtain ⟨as,ra,hc,hd⟩ := a n d e1
 obtain ⟨bs,rb,hc2,hd2⟩ := ih n dr e3
 exact ⟨_,.cons ra rb,by rw [PyData.canLayAll0,hc,hc2]; rfl,Nat.max_le.mpr ⟨hd,hd2⟩⟩
theorem dN {p : PV} {v : Value} (r : n4 Θ X μ h p v) : qz h p v := by
 refine n4.rec (motive_1 := fun p v _ => qz h p v) (motive_2 := fun ps vs _ => gy h ps vs) ?_ ?_ ?_ ?_ (fun a _ _ _ ih => .tup a ih) (fun a _ _ _ ih => .list a ih) ?_ ?_ ?_ ?_ (fun _ _ a b => .cons a b) r
 ·intro n d e
  obtain ⟨m,rfl⟩ := aq e
  cases (show some _ = some d from e); exact ⟨_,.none,rfl,Nat.zero_le _⟩
 ·intro b n d e
  obtain ⟨m,rfl⟩ := aq e
  cases (show some _ = some d from e); exact ⟨_,.bool b,rfl,Nat.zero_le _⟩
 ·intro i t n d e
  obtain ⟨m,rfl⟩ := aq e
  cases (show some _ = some d from e); exact ⟨_,.int i t,rfl,Nat.zero_le _⟩
 ·intro l t n d e
  obtain ⟨m,rfl⟩ := aq e
  obtain ⟨hl,rfl⟩ := j9 e
  refine ⟨_,.str _ t,?_,Nat.zero_le _⟩
  show PyData.strOk ⟨l.toArray⟩ = true
  unfold PyData.strOk
  simpa using hl
 ·intro n a _ m d e; cases m <;> exact nos e
 ·intro a m d e; cases m <;> exact nos e
 ·intros; intro m d e; cases m <;> exact nos e
 ·intro n ds e; cases (show some [] = some ds from e); exact ⟨_,.nil,rfl,Nat.zero_le _⟩
theorem cw (n : Nat) {p : PV} {v : Value} {d : PyData} (r : n4 Θ X μ h p v) (e : toD n p = some d) : ∃ as,Reads h v d as ∧ d.canLay0 = true ∧ d.depth ≤ n := dN r n d e
theorem dP (n : Nat) {ps : List PV} {vs : List Value} {ds : List PyData} (r : g9 Θ X μ h ps vs) : ps.mapM (toD n) = some ds → ∃ as,ReadsAll h vs ds as ∧ PyData.canLayAll0 ds = true ∧ PyData.depthAll ds ≤ n :=
 r.ind (M := gy h) (fun n ds e => by cases (show some [] = some ds from e); exact ⟨_,.nil,rfl,Nat.zero_le _⟩) (fun a _ ih => .cons (dN a) ih) n ds
end
section
variable {R : Run} {C : Orc} {d : Nat} {lay : Lay} {X : Addr → Prop} {μ : List Addr} {s : Shared} {σ : Sto}
theorem N3 (st : N9 R X μ s.heap σ) {p : PV} {v : Value} {d : PyData} (r : n4 R.Θ X μ s.heap p v) (e : toD 8 (L1 σ p) = some d) : ∃ as,Reads s.heap v d as ∧ d.canLay0 = true ∧ d.depth ≤ 8 := by
 by_cases hb : ∃ n,p = .box n
 ·obtain ⟨n,rfl⟩ := hb
  obtain ⟨a,hb⟩ := r.box_inv
  cases hx : σ[n]? with
  | none => rw [L1,hx] at e; exact nos e
  | some xs =>
   rw [L1,hx] at e
   obtain ⟨a',vs,k,h1,h2,h3,h4⟩ := st.bx n xs hx
   cases sxx hb h1
   obtain ⟨ds,e1,rfl⟩ := mq (show (xs.mapM (toD 7)).map PyData.list = some d from e)
   obtain ⟨as,ra,hc,hd⟩ := dP 7 h4 e1
   exact ⟨_,.list h2 rfl rfl ra,hc,Nat.succ_le_succ hd⟩
 ·refine cw 8 r ?_
  rw [← e]
  cases p with
  | box n => exact absurd ⟨n,rfl⟩ hb
  | _ => rfl
theorem iU {A : Around} {m n : Nat} (na : m ≤ 8) (hr : du A 0) : A.units + min m n < cLine :=
 Nat.lt_of_le_of_lt (Nat.add_le_add_left (Nat.le_trans (Nat.min_le_left _ _) (Nat.le_trans na (by decide : 8 ≤ 40))) A.units) hr.2.2
theorem O2.eq : O2 R (compareOp .Eq) .eq := fun A X μ s σ a b a' b' r I st hr e ha hb => by
 obtain ⟨da,e1,e2⟩ := bd e
 obtain ⟨db,e3,rfl⟩ := mq e2
 obtain ⟨as,ra,ca,na⟩ := N3 st ha e1
 obtain ⟨bs,rb,cb,nb⟩ := N3 st hb e3
 exact SeqAt.compareEq_reads ra rb ca cb (iU na hr) ⟨.bool _,.refl I⟩
theorem O2.ne : O2 R (compareOp .NotEq) .ne := fun A X μ s σ a b a' b' r I st hr e ha hb => by
 obtain ⟨da,e1,e2⟩ := bd e
 obtain ⟨db,e3,rfl⟩ := mq e2
 obtain ⟨as,ra,ca,na⟩ := N3 st ha e1
 obtain ⟨bs,rb,cb,nb⟩ := N3 st hb e3
 exact SeqAt.compareNe_reads ra rb ca cb (iU na hr) ⟨.bool _,.refl I⟩
theorem dA {b v : Value} {xs : List PV} {ds : List PyData} (hb : n4 R.Θ X μ s.heap (.list xs) v) (e : xs.mapM (toD 8) = some ds) : ∃ as,Reads s.heap v (.list ds) as ∧ PyData.canLayAll0 ds = true ∧ PyData.depthAll ds ≤ 8 := by
 obtain ⟨a,vs,⟨o,ho,hcls,k,hdat⟩,-,-,rs⟩ := hb.list_inv
 obtain ⟨bs,rb,cb,nb⟩ := dP 8 rs e
 exact ⟨_,.list ho hcls hdat rb,cb,nb⟩
theorem fU {a b r : PV} (e : tX [a,b] = some r) : ∃ xs d ds,b = .list xs ∧ toD 8 a = some d ∧ xs.mapM (toD 8) = some ds ∧ r = .bool (ds.any fun y => PyData.eqv y d) := by
 cases b with
 | list xs =>
  obtain ⟨d,e1,e2⟩ := bd e
  obtain ⟨ds,e3,rfl⟩ := mq e2
  exact ⟨xs,d,ds,rfl,e1,e3,rfl⟩
 | _ => exact nos e
theorem O2.inn : O2 R (compareOp .In) .inn := fun A X μ s σ a b a' b' r I st hr e ha hb => by
 obtain ⟨xs,da,ds,rfl,e1,e3,rfl⟩ := fU e
 obtain ⟨as,ra,ca,na⟩ := cw 8 ha e1
 obtain ⟨bs,rb,cb,nb⟩ := dA (b := b') hb e3
 exact SeqAt.in_list_reads rb ra cb ca (by have := hr.2.2; lia) ⟨.bool _,.refl I⟩
noncomputable def rI (a b : PV) : Prop := (∃ xs,b = .list xs) ∨ ∃ c y,a = .str [c] ∧ b = .str y
theorem mC {a b r : PV} (e : iX [a,b] = some r) : rI a b := by
 cases b with
 | list xs => exact .inl ⟨xs,rfl⟩
 | str y => cases a with
  | str x => cases x with
   | cons c x => cases x with
    | nil => exact .inr ⟨c,y,rfl,rfl⟩
    | cons _ _ => exact nos e
   | nil => exact nos e
  | _ => exact nos e
 | _ => cases a <;> exact nos e
theorem cT {a b r : PV} (e : iX [a,b] = some r) : (∃ xs d ds,b = .list xs ∧ toD 8 a = some d ∧ xs.mapM (toD 8) = some ds ∧ r = .bool (!ds.any fun y => PyData.eqv y d)) ∨
  ∃ c y,a = .str [c] ∧ b = .str y ∧ r = .bool (!y.contains c) := by
 rcases mC e with ⟨xs,rfl⟩ | ⟨c,y,rfl,rfl⟩
 ·obtain ⟨d,e1,e2⟩ := bd (show (toD 8 a).bind (fun d => (ug 8 xs).map fun ds => PV.bool (!ds.any fun y => PyData.eqv y d)) = some r by cases a <;> exact e)
  obtain ⟨ds,e3,rfl⟩ := mq e2
  exact .inl ⟨xs,d,ds,rfl,e1,e3,rfl⟩
 ·exact .inr ⟨c,y,rfl,rfl,(Option.some.inj e).symm⟩
theorem O2.notin : O2 R (compareOp .NotIn) .notin := fun A X μ s σ a b a' b' r I st hr e ha hb => by
 rcases cT e with ⟨xs,da,ds,rfl,e1,e3,rfl⟩ | ⟨c,y,rfl,rfl,rfl⟩
 ·obtain ⟨as,ra,ca,na⟩ := cw 8 ha e1
  obtain ⟨bs,rb,cb,nb⟩ := dA (b := b') hb e3
  exact SeqAt.notIn_list_reads rb ra cb ca (by have := hr.2.2; lia) ⟨.bool _,.refl I⟩
 ·obtain ⟨tx⟩ := ha.str_inv
  obtain ⟨ty⟩ := hb.str_inv
  refine P.notIn_str ⟨?_,.refl I⟩
  have := StrLaws.found_one (str y) c
  show n4 _ _ _ _ _ (.bool (!(!(Builtin.Str.occurrences (str y) ⟨#[c]⟩ 0 (str y).length 1).isEmpty)))
  rw [this]
  have e2 : decide (c ∈ (str y).cps.toList) = y.contains c := by
   show decide (c ∈ y.toArray.toList) = _
   simp
  rw [e2]
  exact .bool _
theorem n4.isN {Θ : Tms} {h : Heap} {p q : PV} {v : Value} (r : n4 Θ X μ h p v) (e : uB p = some q) : q = .bool (v == Value.none) := by
 cases r.sh <;> exact (Option.some.inj e).symm
theorem fI {b : Bool} {a r : PV} (e : uo (.bool b) [a] = some r) : ∃ c,a = .bool c ∧ r = .bool (c == b) := by
 cases a with
 | bool c => exact ⟨c,rfl,(Option.some.inj e).symm⟩
 | _ => exact nos e
theorem ES.isBool (hT : d3 R) {l : Expr} {ml : ME} {b : Bool} {k : Nat} {p1 pos : Pos} (hl : ES R C d lay l ml) :
  ES R C d lay (.Compare l [.Is] [.Constant (.bool b) k p1] pos) (.prim (.isc (.bool b)) (.cons ml .nil)) := fun env A X μ s ρ σ v c e => by
 obtain ⟨a,ea,e2⟩ := jI e
 obtain ⟨x,rfl,rfl⟩ := fI e2
 refine wpAny_Compare1 (wpAny_mono (hl env A X μ s ρ σ _ c ea) (fun a' s₁ h₁ => wpAny_Constant_bool ?_) fun _ _ x => x) rfl
 rw [h₁.1.bool_inv]
 exact is_bool ⟨.bool _,h₁.2⟩
theorem ET.isNone (hT : d3 R) {l : Expr} {ml : ME} {k : Nat} {p1 pos : Pos} (hl : ES R C d lay l ml) :
  ET R C d lay (.Compare l [.Is] [.Constant .none k p1] pos) (.prim (.isc .none) (.cons ml .nil)) := fun env A X μ s ρ σ v t c e ht => by
 obtain ⟨a,ea,e2⟩ := jI e
 refine wpAny_isTrue_Compare1 (wpAny_mono (hl env A X μ s ρ σ a c ea) (fun a' s₁ h₁ => wpAny_Constant_none (is_none_gen ?_)) fun _ _ x => x) rfl
 refine wpAny_truthy_bool ⟨?_,h₁.2⟩
 rw [h₁.1.isN e2] at ht
 exact Option.some.inj ht
theorem ET.isBool (hT : d3 R) {l : Expr} {ml : ME} {b : Bool} {k : Nat} {p1 pos : Pos} (hl : ES R C d lay l ml) :
  ET R C d lay (.Compare l [.Is] [.Constant (.bool b) k p1] pos) (.prim (.isc (.bool b)) (.cons ml .nil)) := fun env A X μ s ρ σ v t c e ht => by
 obtain ⟨a,ea,e2⟩ := jI e
 obtain ⟨x,rfl,rfl⟩ := fI e2
 refine wpAny_isTrue_Compare1 (wpAny_mono (hl env A X μ s ρ σ _ c ea) (fun a' s₁ h₁ => wpAny_Constant_bool ?_) fun _ _ x => x) rfl
 rw [h₁.1.bool_inv]
 exact is_bool (wpAny_truthy_bool ⟨Option.some.inj ht,h₁.2⟩)
theorem jA {p : PV} {t : Bool} (e : I5 σ p = some t) : p = .bool t ∨ (∃ i,p = .int i ∧ t = (i != 0)) ∨ ∃ l,p = .list l ∧ l.length ≤ a8 ∧ t = !l.isEmpty := by
 cases p with
 | bool b => exact .inl (by rw [Option.some.inj e])
 | int i => exact .inr (.inl ⟨i,rfl,(Option.some.inj e).symm⟩)
 | list l => exact .inr (.inr ⟨l,rfl,j9 e⟩)
 | _ => exact nos e
theorem mD {A : Around} (I : Inv R X μ s) {p : PV} {v : Value} {t : Bool} (r : n4 R.Θ X μ s.heap p v) (e : I5 σ p = some t) :
  wpAny (model R.prog R.w) A (truthy v) (fun b s' => b = t ∧ w5 R X μ s s') noE s := by
 rcases jA e with rfl | ⟨i,rfl,rfl⟩ | ⟨l,rfl,hlen,rfl⟩
 ·rw [r.bool_inv]; exact wpAny_truthy_bool ⟨rfl,.refl I⟩
 ·obtain ⟨ti⟩ := r.int_inv
  exact truthy_int ⟨rfl,.refl I⟩
 ·obtain ⟨a,vs,hl,-,-,rs⟩ := r.list_inv
  refine wpAny_truthy_list hl ?_ ⟨?_,.toks I⟩
  ·have := rs.length
   have : a8 = 1000000 := rfl
   rw [List.size_toArray]; lia
  ·have := rs.length
   cases l <;> cases vs <;> simp_all
theorem ET.of (hT : d3 R) {e : Expr} {m : ME} (h : ES R C d lay e m) (he : ∀ env whole,isTrue e env whole = (do let v ← whole; standAt e.pos; holding [v] (truthy v))) : ET R C d lay e m := fun env A X μ s ρ σ v t c ev ht =>
 wpAny_isTrue_value (wpAny_mono (h env A X μ s ρ σ v c ev) (fun v' s₁ h₁ => wpAny_mono (mD h₁.2.inv h₁.1 ht) (fun b s₂ h₂ => ⟨h₂.1,h₁.2.trans h₂.2⟩) fun _ _ x => x) fun _ _ x => x) (he env _)
theorem kr {a r : PV} (e : uP [a] = some r) : ∃ b,a = .bool b ∧ r = .bool (!b) := by
 cases a with
 | bool c => exact ⟨c,rfl,(Option.some.inj e).symm⟩
 | _ => exact nos e
theorem ET.not (hT : d3 R) {x : Expr} {m : ME} {pos : Pos} (h : ET R C d lay x m) : ET R C d lay (.UnaryOp .Not x pos) (.prim .not (.cons m .nil)) := fun env A X μ s ρ σ v t c ev ht => by
 obtain ⟨a,ea,e2⟩ := jI ev
 obtain ⟨x,rfl,rfl⟩ := kr e2
 cases ht
 exact wpAny_isTrue_Not (wpAny_mono (h env A X μ s ρ σ _ _ c ea rfl) (fun b s₁ h₁ => ⟨by rw [h₁.1],h₁.2⟩) fun _ _ x => x)
inductive tP (C : Orc) (mx my : ME) (ρ : Rho) (σ : Sto) : PV → Prop
 | no (ea : evE C mx ρ σ = some (.bool false)) : tP C mx my ρ σ (.bool false)
 | yes (y : Bool) (ea : evE C mx ρ σ = some (.bool true)) (ew : evE C my ρ σ = some (.bool y)) : tP C mx my ρ σ (.bool y)
theorem pU {mx my : ME} {ρ : Rho} {v : PV} (e : evE C (.and mx my) ρ σ = some v) : tP C mx my ρ σ v := by
 obtain ⟨a,ea,e2⟩ := bd e
 cases a with
 | bool b =>
  cases b with
  | false => cases e2; exact .no ea
  | true =>
   obtain ⟨w,ew,e3⟩ := bd e2
   cases w with
   | bool y => cases e3; exact .yes y ea ew
   | _ => exact nos e3
 | _ => exact nos e2
theorem ET.and (hT : d3 R) {x : Expr} {rest : List Expr} {mx my : ME} {pos : Pos} (hx : ET R C d lay x mx)
  (hy : ∀ env A X μ s ρ σ v t,Cx R d lay env A X μ s ρ σ → evE C my ρ σ = some v → I5 σ v = some t → wpAny (model R.prog R.w) A (allTrue .And rest env) (fun b s' => b = t ∧ w5 R X μ s s') noE s) :
  ∀ env A X μ s ρ σ v t,Cx R d lay env A X μ s ρ σ → evE C (.and mx my) ρ σ = some v → I5 σ v = some t → wpAny (model R.prog R.w) A (allTrue .And (x :: rest) env) (fun b s' => b = t ∧ w5 R X μ s s') noE s := by
 intro env A X μ s ρ σ v t c e ht
 cases pU e with
 | no ea =>
  refine wpAny_allTrue_And_cons (wpAny_mono (hx env A X μ s ρ σ _ false c ea rfl) (fun b s₁ h₁ => ?_) fun _ _ x => x)
  obtain ⟨rfl,S⟩ := h₁
  exact ⟨Option.some.inj ht,S⟩
 | yes y ea ew =>
  refine wpAny_allTrue_And_cons (wpAny_mono (hx env A X μ s ρ σ _ true c ea rfl) (fun b s₁ h₁ => ?_) fun _ _ x => x)
  obtain ⟨rfl,S⟩ := h₁
  exact wpAny_mono (hy env A X μ s₁ ρ σ _ _ (c.step hT S) ew ht) (fun b s₂ h₂ => ⟨h₂.1,S.trans h₂.2⟩) fun _ _ x => x
theorem ET.and2 (hT : d3 R) {x y : Expr} {mx my : ME} {pos : Pos} (hx : ET R C d lay x mx) (hy : ET R C d lay y my) : ET R C d lay (.BoolOp .And [x,y] pos) (.and mx my) :=
 fun env A X μ s ρ σ v t c e ht => wpAny_isTrue_BoolOp (ET.and (pos := pos) hT hx (fun env A X μ s ρ σ v t c e ht =>
  wpAny_allTrue_And_cons (wpAny_mono (hy env A X μ s ρ σ v t c e ht) (fun b s₁ h₁ => by
   cases b with
   | false => exact h₁
   | true => exact wpAny_allTrue_And_nil h₁) fun _ _ x => x)) env A X μ s ρ σ v t c e ht)
theorem ET.and3 (hT : d3 R) {x y z : Expr} {mx my mz : ME} {pos : Pos} (hx : ET R C d lay x mx) (hy : ET R C d lay y my) (hz : ET R C d lay z mz) : ET R C d lay (.BoolOp .And [x,y,z] pos) (.and mx (.and my mz)) :=
 fun env A X μ s ρ σ v t c e ht => wpAny_isTrue_BoolOp (ET.and (pos := pos) hT hx (ET.and (pos := pos) hT hy (fun env A X μ s ρ σ v t c e ht =>
  wpAny_allTrue_And_cons (wpAny_mono (hz env A X μ s ρ σ v t c e ht) (fun b s₁ h₁ => by
   cases b with
   | false => exact h₁
   | true => exact wpAny_allTrue_And_nil h₁) fun _ _ x => x))) env A X μ s ρ σ v t c e ht)
theorem ES.ite (hT : d3 R) {t a b : Expr} {mt ma mb : ME} {pos : Pos} (ht : ET R C d lay t mt) (ha : ES R C d lay a ma) (hb : ES R C d lay b mb) : ES R C d lay (.IfExp t a b pos) (.ite mt ma mb) := fun env A X μ s ρ σ v c e => by
 obtain ⟨w,ew,e2⟩ := bd e
 obtain ⟨tt,et,e3⟩ := bd e2
 refine wpAny_IfExp (wpAny_mono (ht env A X μ s ρ σ w tt c ew et) (fun bb s₁ h₁ => ?_) fun _ _ x => x)
 obtain ⟨rfl,S⟩ := h₁
 cases bb
 ·exact wpAny_mono (hb env A X μ s₁ ρ σ v (c.step hT S) e3) (fun r s₂ h₂ => ⟨h₂.1,S.trans h₂.2⟩) fun _ _ x => x
 ·exact wpAny_mono (ha env A X μ s₁ ρ σ v (c.step hT S) e3) (fun r s₂ h₂ => ⟨h₂.1,S.trans h₂.2⟩) fun _ _ x => x
end
theorem fC {α : Type} {xs : List α} {i : Int} {v : α} (h : M9 xs i = some v) : ∃ j,seqIndex? i xs.length = some j ∧ xs[j]? = some v := by
 unfold M9 at h
 unfold seqIndex?
 split at h
 ·rename_i h0
  have hl : i.toNat < xs.length := by
   rcases Nat.lt_or_ge i.toNat xs.length with h1 | h1
   ·exact h1
   ·exact nxx (List.getElem?_eq_none h1) h
  have h1 : ¬ i < 0 := Int.not_lt.mpr h0
  have h2 : 0 ≤ i ∧ i < xs.length := ⟨h0,(Int.toNat_lt h0).mp hl⟩
  exact ⟨i.toNat,by simp [h1,h2],h⟩
 ·split at h
  ·rename_i h0 h1
   have h2 : i < 0 := Int.not_le.mp h0
   have h3 : 0 ≤ i + xs.length ∧ i + xs.length < xs.length := by
    have a := Int.add_le_add_right h1 xs.length
    have b := Int.add_lt_add_right h2 xs.length
    rw [Int.add_left_neg] at a
    rw [Int.zero_add] at b
    exact ⟨a,b⟩
   exact ⟨(i + xs.length).toNat,by simp [h2,h3],h⟩
  ·cases h
noncomputable def iF (e : Expr) : Prop := (fun (o i : Value) => subscripted e false o i) = fun o i => operate [o,i] (getItem o i)
theorem aD {e : Expr} (h : iF e) (o i : Value) : subscripted e false o i = operate [o,i] (getItem o i) := congrFun (congrFun h o) i
section
variable {R : Run} {C : Orc} {d : Nat} {lay : Lay} {X : Addr → Prop} {μ : List Addr} {s : Shared} {σ : Sto}
theorem ES.list (hT : d3 R) {es : List Expr} {ms : MEs} {pos : Pos} (h : ESs R C d lay es ms) (hl : es.length ≤ 1000) : ES R C d lay (.List es pos) (.list ms) := fun env A X μ s ρ σ v c e => by
 obtain ⟨vs,e1,e2⟩ := bd e
 split at e2 <;> cases e2
 have hlen : ∀ {es : List Expr} {ms : MEs},ESs R C d lay es ms → ∀ {vs},Q3 C ms ρ σ = some vs → vs.length = es.length := by
  intro es ms h
  induction h with
  | nil => intro vs e; cases e; rfl
  | cons _ _ _ ih =>
   intro vs e
   obtain ⟨v,_,e2⟩ := bd e
   obtain ⟨r,e3,rfl⟩ := mq e2
   simp [ih e3]
 refine wpAny_List (wpAny_mono (K3 hT h pos c e1) (fun vs' s₁ h₁ => ?_) fun _ _ x => x)
 have f := h₁.2.inv.fresh
 refine ⟨?_,?_,?_⟩
 ·have := h₁.1.length
  have := hlen h e1
  have : sizeLine = 16777216 := rfl
  lia
 ·have S := w5.push h₁.2.inv (o := { cls := .type "list",data := .seq vs'.toArray }) (tk := s₁.toks)
  exact .list ⟨_,Heap.get?_push_size _ rfl,rfl,0,rfl⟩ f.1 f.2 (B4 S h₁.1)
 ·exact h₁.2.trans (w5.push h₁.2.inv)
theorem io (st : N9 R X μ s.heap σ) {p : PV} {v : Value} {l : List PV} (r : n4 R.Θ X μ s.heap p v) (e : asL σ p = some l) :
  ∃ a vs,v = .ref a ∧ s.heap.IsList a vs.toArray ∧ g9 R.Θ X μ s.heap l vs := by
 cases p with
 | list l' =>
  cases e
  obtain ⟨a,vs,hl,-,-,rs⟩ := r.list_inv
  exact ⟨_,_,rfl,hl,rs⟩
 | box n =>
  obtain ⟨a,hb⟩ := r.box_inv
  obtain ⟨a',vs,k,h1,h2,h3,h4⟩ := st.bx _ _ e
  cases sxx hb h1
  exact ⟨_,vs.toList,rfl,⟨_,h2,rfl,k,by simp⟩,h4⟩
 | _ => exact nos e
theorem C5 {α : Type} {c : Prop} [Decidable c] {x : Option α} {r : α} (e : (if c then x else none) = some r) : c ∧ x = some r := by
 by_cases h : c
 ·rw [if_pos h] at e; exact ⟨h,e⟩
 ·rw [if_neg h] at e; exact nos e
theorem kj {a b r : PV} (e : uD σ [a,b] = some r) : ∃ k,b = .int k ∧ eAt σ a k = some r := by
 cases b with
 | int k => exact ⟨k,rfl,e⟩
 | _ => exact nos e
theorem nt {a q : PV} {i : Int} (e : eAt σ a i = some q) : (-1000000 ≤ i ∧ i ≤ 1000000) ∧ ((∃ l c,a = .str l ∧ M9 l i = some c ∧ q = .str [c]) ∨ (∃ l,a = .tup l ∧ M9 l i = some q) ∨ ∃ l,asL σ a = some l ∧ M9 l i = some q) := by
 have other : (if -1000000 ≤ i ∧ i ≤ 1000000 then (asL σ a).bind fun l => M9 l i else Option.none) = some q → (-1000000 ≤ i ∧ i ≤ 1000000) ∧ ((∃ l c,a = .str l ∧ M9 l i = some c ∧ q = .str [c]) ∨ (∃ l,a = .tup l ∧ M9 l i = some q) ∨ ∃ l,asL σ a = some l ∧ M9 l i = some q) := fun e => by
  obtain ⟨h,e⟩ := C5 e
  obtain ⟨l,e1,e2⟩ := bd e
  exact ⟨h,.inr (.inr ⟨l,e1,e2⟩)⟩
 cases a with
 | str l =>
  obtain ⟨h,e⟩ := C5 e
  obtain ⟨c,e1,rfl⟩ := mq e
  exact ⟨h,.inl ⟨l,c,rfl,e1,rfl⟩⟩
 | tup l =>
  obtain ⟨h,e⟩ := C5 e
  exact ⟨h,.inr (.inl ⟨l,rfl,e⟩)⟩
 | _ => exact other e
theorem fY {a q : PV} {lo hi stp : Option Int} (e : N5 a lo hi stp σ = some q) :
  (∃ l q',a = .str l ∧ (stp.isNone = true ∧ lo.getD 0 ≤ l.length ∧ hi.getD 0 ≤ l.length ∧ l.length ≤ a8) ∧ M6 l lo hi stp = some q' ∧ q = .str q') ∨
  ∃ l q',asL σ a = some l ∧ (l.length ≤ a8 ∧ i8 l = true) ∧ M6 l lo hi stp = some q' ∧ q = .list q' := by
 by_cases h : ∃ l,a = .str l
 ·obtain ⟨l,rfl⟩ := h
  obtain ⟨h,e⟩ := C5 e
  obtain ⟨q',e1,rfl⟩ := mq e
  exact .inl ⟨l,q',rfl,h,e1,rfl⟩
 ·have e' : (asL σ a).bind (fun l => if l.length ≤ a8 ∧ i8 l = true then (M6 l lo hi stp).map .list else Option.none) = some q := by
   rw [← e]
   cases a with
   | str l => exact absurd ⟨l,rfl⟩ h
   | _ => rfl
  obtain ⟨l,e1,e2⟩ := bd e'
  obtain ⟨h,e3⟩ := C5 e2
  obtain ⟨q',e4,rfl⟩ := mq e3
  exact .inr ⟨l,q',e1,h,e4,rfl⟩
theorem dX {α : Type} {l q : List α} {lo hi stp : Option Int} (e : M6 l lo hi stp = some q) :
  (∃ y,lo = none ∧ hi = some y ∧ stp = none ∧ 0 ≤ y ∧ q = l.take y.toNat) ∨ (∃ x,lo = some x ∧ hi = none ∧ stp = none ∧ 0 ≤ x ∧ q = l.drop x.toNat) ∨
  (∃ x y,lo = some x ∧ hi = some y ∧ stp = none ∧ (0 ≤ x ∧ x ≤ y ∧ y ≤ l.length) ∧ q = (l.drop x.toNat).take (y - x).toNat) ∨ ∃ x k,lo = some x ∧ hi = none ∧ stp = some k ∧ (0 ≤ x ∧ 0 < k) ∧ q = M2 l x.toNat k.toNat := by
 cases lo <;> cases hi <;> cases stp
 ·exact nos e
 ·exact nos e
 ·exact .inl ⟨_,rfl,rfl,rfl,j9 e⟩
 ·exact nos e
 ·exact .inr (.inl ⟨_,rfl,rfl,rfl,j9 e⟩)
 ·exact .inr (.inr (.inr ⟨_,_,rfl,rfl,rfl,j9 e⟩))
 ·exact .inr (.inr (.inl ⟨_,_,rfl,rfl,rfl,j9 e⟩))
 ·exact nos e
theorem jM {A : Around} (I : Inv R X μ s) (st : N9 R X μ s.heap σ) {p : PV} {v : Value} {i : Int} {t : Tok} {q : PV} (r : n4 R.Θ X μ s.heap p v) (e : evP .idx [p,.int i] σ = some q) :
  wpAny (model R.prog R.w) A (getItem v (.int i t)) (fun r' s' => n4 R.Θ X μ s'.heap q r' ∧ w5 R X μ s s') noE s ∧ ∃ T id,s.TypeIs v T ∧ typeLookup (.type T) "__getitem__" = pure (some (.builtin id)) := by
 have list : ∀ l,M9 l i = some q → asL σ p = some l → -1000000 ≤ i ∧ i ≤ 1000000 →
   wpAny (model R.prog R.w) A (getItem v (.int i t)) (fun r' s' => n4 R.Θ X μ s'.heap q r' ∧ w5 R X μ s s') noE s ∧ ∃ T id,s.TypeIs v T ∧ typeLookup (.type T) "__getitem__" = pure (some (.builtin id)) := by
  intro l e1 e2 hi
  obtain ⟨a,vs,rfl,hL,rs⟩ := io st r e2
  unfold M9 at e1
  have hlen := rs.length
  refine ⟨?_,"list",_,hL.typeIs,slot_list_getitem.lookup⟩
  split at e1
  ·obtain ⟨x,hx,rx⟩ := rs.get _ _ e1
   exact wpAny_getItem_list hL (by lia) (by lia) (by simpa using hx) ⟨rx,.refl I⟩
  ·split at e1
   ·rw [hlen] at e1
    obtain ⟨x,hx,rx⟩ := rs.get _ _ e1
    exact wpAny_getItem_list_neg hL (by lia) (by simp only [List.size_toArray]; lia) (by lia) (by simpa using hx) ⟨rx,.refl I⟩
   ·cases e1
 obtain ⟨hi,⟨l,c,rfl,e1,rfl⟩ | ⟨l,rfl,e1⟩ | ⟨l,e2,e1⟩⟩ := nt e
 ·obtain ⟨tk⟩ := r.str_inv
  obtain ⟨j,h1,h2⟩ := fC e1
  refine ⟨PyProof.Rows.getItem_str (by simp; lia) (c := c) ?_ ⟨.str [c] _,.toks I⟩,"str",_,typeIs_str s _ _,F.slot_str_getitem.lookup⟩
  rw [show (str l).length = l.length from rfl,h1]
  exact (List.getElem?_toArray ..).trans h2
 ·obtain ⟨a,vs,hT,-,-,rs⟩ := r.tup_inv
  obtain ⟨j,h1,h2⟩ := fC e1
  obtain ⟨x,h3,rx⟩ := rs.get _ _ h2
  refine ⟨getItem_tuple hT (by lia) (by lia) (j := j) ?_ (by simpa using h3) ⟨rx,.refl I⟩,"tuple",_,hT.typeIs,slot_tuple_getitem.lookup⟩
  rw [List.size_toArray,← rs.length]; exact h1
 ·exact list l e1 e2 hi
theorem ES.idx (hT : d3 R) {x i : Expr} {mx mi : ME} {pos : Pos} (hx : ES R C d lay x mx) (hi : ES R C d lay i mi) (hn : iF i) :
  ES R C d lay (.Subscript x i pos) (.prim .idx (.cons mx (.cons mi .nil))) := fun env A X μ s ρ σ v c e => by
 obtain ⟨a,b,ea,eb,e2⟩ := fo e
 obtain ⟨k,rfl,-⟩ := kj e2
 refine Subscript_ (wpAny_mono (hx env A X μ s ρ σ a c ea) (fun a' s₁ h₁ => ?_) fun _ _ x => x)
 have c₁ := c.step hT h₁.2
 refine wpAny_mono (hi env A X μ s₁ ρ σ _ c₁ eb) (fun b' s₂ h₂ => ?_) fun _ _ x => x
 have c₂ := c₁.step hT h₂.2
 obtain ⟨t⟩ := h₂.1.int_inv
 obtain ⟨hg,T,id,ht,hl⟩ := jM (A := A) (t := t) c₂.inv c₂.st (n9 h₂.2 h₁.1) e2
 refine tail_any ht hl ?_ (aD hn _ _)
 exact wpAny_mono hg (fun r' s₃ h₃ => ⟨h₃.1,(h₁.2.trans h₂.2).trans h₃.2⟩) fun _ _ x => x
theorem jr (items : Array Value) (x k : Nat) (hk : 0 < k) : (slicePick items (some (x : Int)) none (some (k : Int))).toList = M2 items.toList x k := by
 unfold slicePick M2
 simp only [sliceBounds,Option.getD_some]
 have h1 : ¬ ((x : Int) < 0) := Int.not_lt.mpr (Int.natCast_nonneg x)
 have hk' : ((k : Int)) > 0 := Int.ofNat_lt.mpr hk
 simp only [h1,if_false,hk',if_true]
 unfold sliceRange
 simp only [hk',if_true,Array.length_toList]
 by_cases hx : x < items.size
 ·have e1 : max 0 (min (x : Int) (items.size : Int)) = x := by rw [Int.min_eq_left (Int.ofNat_le.mpr (Nat.le_of_lt hx)),Int.max_eq_right (Int.natCast_nonneg _)]
  rw [e1]
  have h2 : (x : Int) < items.size := Int.ofNat_lt.mpr hx
  simp only [h2,if_true]
  have e2 : (((items.size : Int) - x + k - 1) / k).toNat = (items.size - x + k - 1) / k := by
   obtain ⟨y,hy⟩ := Nat.exists_eq_add_of_le (Nat.le_of_lt hx)
   obtain ⟨z,hz⟩ := Nat.exists_eq_add_of_le hk
   have e3 : (items.size : Int) - x + k - 1 = ((y + z : Nat) : Int) := by lia
   have e4 : items.size - x + k - 1 = y + z := by rw [hy,Nat.add_sub_cancel_left,hz,Nat.add_comm 1 z]; rfl
   rw [e3,e4,← Int.natCast_ediv,Int.toNat_natCast]
  rw [e2,List.filterMap_map]
  congr 1
  funext i
  have e4 : ((x : Int) + (k : Int) * (i : Int)).toNat = x + i * k := by
   rw [← Int.natCast_mul,← Int.natCast_add,Int.toNat_natCast,Nat.mul_comm]
  simp [e4]
 ·have e1 : max 0 (min (x : Int) (items.size : Int)) = items.size := by
   rw [Int.min_eq_right (Int.ofNat_le.mpr (Nat.le_of_not_lt hx)),Int.max_eq_right (Int.natCast_nonneg _)]
  rw [e1]
  have e2 : (items.size - x + k - 1) / k = 0 := by
   have : items.size - x = 0 := Nat.sub_eq_zero_of_le (Nat.le_of_not_lt hx)
   rw [this]
   exact Nat.div_eq_of_lt (by rw [Nat.zero_add]; exact Nat.sub_lt hk (by decide))
  rw [e2]
  simp
theorem lf {A : Around} (I : Inv R X μ s) (st : N9 R X μ s.heap σ) {p : PV} {a : Addr} {l q : List PV} {vs : List Value} (hL : s.heap.IsList a vs.toArray) (rs : g9 R.Θ X μ s.heap l vs) (hlen : l.length ≤ a8)
  {lo hi stp : Option Int} {vl vu vk : Value} (pl : IsPart vl lo) (pu : IsPart vu hi) (pk : IsPart vk stp) (h0 : stp ≠ some 0) (hq : g9 R.Θ X μ s.heap q (slicePick vs.toArray lo hi stp).toList) {sl : Addr} (hs : s.heap.IsSliceOf sl vl vu vk) :
  wpAny (model R.prog R.w) A (getItem (.ref a) (.ref sl)) (fun r' s' => n4 R.Θ X μ s'.heap (.list q) r' ∧ w5 R X μ s s') noE s := by
 have hz : vs.toArray.size ≤ sizeLine := by
  have := rs.length
  have : a8 = 1000000 := rfl
  have : sizeLine = 16777216 := rfl
  simp only [List.size_toArray]; lia
 have S := w5.push I (o := { cls := .type "list",data := .seq (slicePick vs.toArray lo hi stp) }) (tk := s.toks)
 refine wpAny_getItem_list_slice hL hs pl pu pk h0 ⟨?_,S⟩ hz
 have f := I.fresh
 exact .list (vs := (slicePick vs.toArray lo hi stp).toList) ⟨_,Heap.get?_push_size _ rfl,rfl,0,by simp⟩ f.1 f.2 (B4 S hq)
theorem E7 {lo hi : Option Expr} {p : Pos} (o i : Value) : subscripted (.Slice lo hi none p) false o i = operate [i,o] (getItem o i) := rfl
theorem X5 {lo hi : Option Expr} {k : Expr} {p : Pos} (o i : Value) : subscripted (.Slice lo hi (some k) p) false o i = operate [o,i] (getItem o i) := rfl
theorem qw {x : List Nat} {y : Int} (h : 0 ≤ y ∧ y ≤ x.length) : Txt.slice (str x) none (some y) = str (x.take y.toNat) := by
 have e := StrLaws.sliceText_to (x := str x) (j := y) (by show 0 ≤ y ∧ y ≤ x.toArray.toList.length; simpa using h)
 refine Eq.trans (show Txt.slice (str x) none (some y) = StrLaws.sliceText (str x) none (some y) from rfl) (e.trans ?_)
 show (⟨((x.toArray.toList.drop 0).take (y - 0).toNat).toArray⟩ : Str) = ⟨(x.take y.toNat).toArray⟩
 congr 1
 simp
theorem pE {x : List Nat} {y : Int} (h : 0 ≤ y ∧ y ≤ x.length) : Txt.slice (str x) (some y) none = str (x.drop y.toNat) := by
 have e := StrLaws.sliceText_from (x := str x) (i := y) (by show 0 ≤ y ∧ y ≤ x.toArray.toList.length; simpa using h)
 refine Eq.trans (show Txt.slice (str x) (some y) none = StrLaws.sliceText (str x) (some y) none from rfl) (e.trans ?_)
 show (⟨((x.toArray.toList.drop y.toNat).take ((x.toArray.toList.length : Int) - y).toNat).toArray⟩ : Str) = ⟨(x.drop y.toNat).toArray⟩
 congr 1
 simp only [List.toList_toArray]
 rw [List.take_of_length_le (by rw [List.length_drop]; exact Nat.le_of_eq (la5 h.1).symm)]
theorem sy {x : List Nat} {i j : Int} (h : 0 ≤ i ∧ i ≤ j ∧ j ≤ x.length) : Txt.slice (str x) (some i) (some j) = str ((x.drop i.toNat).take (j - i).toNat) := by
 have e := StrLaws.sliceText_plain (x := str x) (i := i) (j := j) (by show 0 ≤ i ∧ i ≤ j ∧ j ≤ x.toArray.toList.length; simpa using h)
 refine Eq.trans (show Txt.slice (str x) (some i) (some j) = StrLaws.sliceText (str x) (some i) (some j) from rfl) (e.trans ?_)
 show (⟨((x.toArray.toList.drop i.toNat).take (j - i).toNat).toArray⟩ : Str) = ⟨((x.drop i.toNat).take (j - i).toNat).toArray⟩
 congr 1
theorem mj {h : Heap} {lo hi stp : Option Int} {l q : List PV} {vs : List Value} (rs : g9 R.Θ X μ h l vs) (e : M6 l lo hi stp = some q) : g9 R.Θ X μ h q (slicePick vs.toArray lo hi stp).toList ∧ stp ≠ some 0 := by
 have hlen := rs.length
 rcases dX e with ⟨y,rfl,rfl,rfl,h0,rfl⟩ | ⟨x,rfl,rfl,rfl,h0,rfl⟩ | ⟨x,y,rfl,rfl,rfl,⟨h0,h1,h2⟩,rfl⟩ | ⟨x,k,rfl,rfl,rfl,⟨h0,h1⟩,rfl⟩
 ·refine ⟨?_,nofun⟩
  obtain ⟨n,rfl⟩ := Int.eq_ofNat_of_zero_le h0
  rw [slicePick_upto']
  simpa using rs.take n
 ·refine ⟨?_,nofun⟩
  obtain ⟨n,rfl⟩ := Int.eq_ofNat_of_zero_le h0
  rw [slicePick_from']
  simpa using rs.drop n
 ·refine ⟨?_,nofun⟩
  obtain ⟨n,rfl⟩ := Int.eq_ofNat_of_zero_le h0
  obtain ⟨m,rfl⟩ := Int.eq_ofNat_of_zero_le (Int.le_trans h0 h1)
  have e5 := slicePick_run vs.toArray n m (by simp only [List.size_toArray]; lia) (by lia)
  rw [e5,show ((m : Int) - n).toNat = m - n from Int.toNat_sub m n]
  simpa using (rs.drop n).take (m - n)
 ·refine ⟨?_,fun h => by cases h; cases h1⟩
  obtain ⟨n,rfl⟩ := Int.eq_ofNat_of_zero_le h0
  obtain ⟨m,rfl⟩ := Int.eq_ofNat_of_zero_le (Int.le_of_lt h1)
  rw [jr vs.toArray n m (by lia)]
  unfold M2
  simp only [hlen,List.toList_toArray,Int.toNat_natCast]
  have e9 := rs.filterMapIdx ((List.range ((vs.length - n + m - 1) / m)).map fun i => n + i * m)
  simpa [List.filterMap_map,Function.comp_def] using e9
theorem fB {A : Around} (I : Inv R X μ s) {l q : List Nat} {ts : Tok} {lo hi stp : Option Int} {vl vu vk : Value} (pl : IsPart vl lo) (pu : IsPart vu hi) (pk : IsPart vk stp)
  (hc : stp.isNone = true ∧ lo.getD 0 ≤ l.length ∧ hi.getD 0 ≤ l.length ∧ l.length ≤ a8) (e3 : M6 l lo hi stp = some q) {sl : Addr} (hs : s.heap.IsSliceOf sl vl vu vk) :
  wpAny (model R.prog R.w) A (getItem (.str (str l) ts) (.ref sl)) (fun r' s' => n4 R.Θ X μ s'.heap (.str q) r' ∧ w5 R X μ s s') noE s := by
 have hz : (str l).length ≤ sizeLine := Nat.le_trans (show l.length ≤ a8 from hc.2.2.2) (by decide)
 have fin : ∀ x' : Str,x'.length ≤ (str l).length → x' = str q → x'.length ≤ sizeLine ∧ ∀ t' k,n4 R.Θ X μ s.heap (.str q) (.str x' t') ∧ w5 R X μ s { s with toks := k } := fun x' hx' e => ⟨Nat.le_trans hx' hz,fun t' k => ⟨e ▸ .str _ _,.toks I⟩⟩
 rcases dX e3 with ⟨y,rfl,rfl,rfl,h0,rfl⟩ | ⟨x,rfl,rfl,rfl,h0,rfl⟩ | ⟨x,y,rfl,rfl,rfl,h0,rfl⟩ | ⟨x,k,rfl,rfl,rfl,h0,rfl⟩
 ·cases pl; cases pu with | int _ ty => cases pk; exact wpAny_getItem_str_slice (l := Option.none) (u := some (y,ty)) (st := Option.none) hs rfl (post_val_or_str (fin _ (Txt.slice_le (str l) Option.none (some y)) (qw ⟨h0,hc.2.2.1⟩)))
 ·cases pu; cases pl with | int _ tx => cases pk; exact wpAny_getItem_str_slice (l := some (x,tx)) (u := Option.none) (st := Option.none) hs rfl (post_val_or_str (fin _ (Txt.slice_le (str l) (some x) Option.none) (pE ⟨h0,hc.2.1⟩)))
 ·cases pl with | int _ tx => cases pu with | int _ ty => cases pk; exact wpAny_getItem_str_slice (l := some (x,tx)) (u := some (y,ty)) (st := Option.none) hs rfl (post_val_or_str (fin _ (Txt.slice_le (str l) (some x) (some y)) (sy h0)))
 ·exact nomatch hc.1
theorem oD {A : Around} (I : Inv R X μ s) (st : N9 R X μ s.heap σ) {p q : PV} {v : Value} {lo hi stp : Option Int} {vl vu vk : Value} (r : n4 R.Θ X μ s.heap p v) (pl : IsPart vl lo) (pu : IsPart vu hi) (pk : IsPart vk stp)
  (e : N5 p lo hi stp σ = some q) {sl : Addr} (hs : s.heap.IsSliceOf sl vl vu vk) :
  wpAny (model R.prog R.w) A (getItem v (.ref sl)) (fun r' s' => n4 R.Θ X μ s'.heap q r' ∧ w5 R X μ s s') noE s ∧ ∃ T id,s.TypeIs v T ∧ typeLookup (.type T) "__getitem__" = pure (some (.builtin id)) := by
 rcases fY e with ⟨l,q',rfl,hc,e3,rfl⟩ | ⟨l,q',e1,hc,e3,rfl⟩
 ·obtain ⟨ts⟩ := r.str_inv
  exact ⟨fB I pl pu pk hc e3 hs,"str",_,typeIs_str _ _ _,F.slot_str_getitem.lookup⟩
 ·obtain ⟨a,vs,rfl,hL,rs⟩ := io st r e1
  obtain ⟨hq,h0⟩ := mj rs e3
  exact ⟨lf I st (p := p) hL rs hc.1 pl pu pk h0 hq hs,"list",_,hL.typeIs,slot_list_getitem.lookup⟩
noncomputable def cN (R : Run) (C : Orc) (d : Nat) (lay : Lay) (e : Option Expr) (f : Rho → Sto → Option Int → Prop) : Prop :=
 ∀ env A X μ s ρ σ i,Cx R d lay env A X μ s ρ σ → f ρ σ i → wpAny (model R.prog R.w) A (evalPart e env) (fun v s' => IsPart v i ∧ w5 R X μ s s') noE s
theorem cN.none : cN R C d lay none fun _ _ i => i = none := fun env A X μ s ρ σ i c h => h ▸ evalPart_none_step ⟨.none,.refl c.inv⟩
theorem cN.some {e : Expr} {m : ME} (h : ES R C d lay e m) : cN R C d lay (some e) fun ρ σ i => ∃ k,i = some k ∧ evE C m ρ σ = some (.int k) := fun env A X μ s ρ σ i c ⟨k,e1,e2⟩ => by
 subst e1
 refine evalPart_some_step (wpAny_mono (h env A X μ s ρ σ _ c e2) (fun v s₁ h₁ => ?_) fun _ _ x => x)
 obtain ⟨t⟩ := h₁.1.int_inv
 exact ⟨.int _ _,h₁.2⟩
theorem W5 (hT : d3 R) {x : Expr} {mx : ME} {lo hi stp : Option Expr} {fl fh fs : Rho → Sto → Option Int → Prop} {p pos : Pos} (hx : ES R C d lay x mx) (hl : cN R C d lay lo fl) (hh : cN R C d lay hi fh) (hs : cN R C d lay stp fs)
  (hsub : ∀ o i,∃ l,subscripted (.Slice lo hi stp p) false o i = operate l (getItem o i)) {env : Env} {A : Around} {ρ : Rho} {a v : PV} {i j k : Option Int} (c : Cx R d lay env A X μ s ρ σ) (ea : evE C mx ρ σ = some a) (ei : fl ρ σ i) (ej : fh ρ σ j) (ek : fs ρ σ k)
  (e : N5 a i j k σ = some v) : wpAny (model R.prog R.w) A (eval (.Subscript x (.Slice lo hi stp p) pos) env) (fun v' s' => n4 R.Θ X μ s'.heap v v' ∧ w5 R X μ s s') noE s := by
 refine Subscript_ (wpAny_mono (hx env A X μ s ρ σ a c ea) (fun a' s₁ h₁ => ?_) fun _ _ x => x)
 have c₁ := c.step hT h₁.2
 refine wpAny_Slice (wpAny_mono (hl env A X μ s₁ ρ σ i c₁ ei) (fun vl s₂ h₂ => ?_) fun _ _ x => x)
 have c₂ := c₁.step hT h₂.2
 refine wpAny_mono (hh env A X μ s₂ ρ σ j c₂ ej) (fun vh s₃ h₃ => ?_) fun _ _ x => x
 have c₃ := c₂.step hT h₃.2
 refine wpAny_mono (hs env A X μ s₃ ρ σ k c₃ ek) (fun vk s₄ h₄ => ?_) fun _ _ x => x
 have c₄ := c₃.step hT h₄.2
 have S := w5.push c₄.inv (o := { cls := .type "slice",data := .fields #[vl,vh,vk] }) (tk := s₄.toks)
 have c₉ := c₄.step hT S
 have S' := (h₂.2.trans h₃.2).trans (h₄.2.trans S)
 obtain ⟨hg,T,id,ht,hl⟩ := oD (A := A) c₉.inv c₉.st (n9 S' h₁.1) h₂.1 h₃.1 h₄.1 e (Heap.IsSliceOf.new ..)
 obtain ⟨l,hl'⟩ := hsub a' (.ref s₄.heap.objs.size)
 exact tail_any ht hl (wpAny_mono hg (fun r' s₈ h₈ => ⟨h₈.1,(h₁.2.trans S').trans h₈.2⟩) fun _ _ x => x) hl'
theorem sr {p : Y0} {e f g : ME} {ρ : Rho} {v : PV} (h : evE C (.prim p (.cons e (.cons f (.cons g .nil)))) ρ σ = some v) : ∃ a b c,evE C e ρ σ = some a ∧ evE C f ρ σ = some b ∧ evE C g ρ σ = some c ∧ evP p [a,b,c] σ = some v := by
 obtain ⟨vs,e1,e2⟩ := bd (show (Q3 C (.cons e (.cons f (.cons g .nil))) ρ σ).bind (evP p · σ) = some v from h)
 obtain ⟨a,ea,e3⟩ := bd (show (evE C e ρ σ).bind (fun v => (Q3 C (.cons f (.cons g .nil)) ρ σ).map (v :: ·)) = some vs from e1)
 obtain ⟨rest,e4,rfl⟩ := mq e3
 obtain ⟨b,c,eb,ec,rfl⟩ := ev2 e4
 exact ⟨a,b,c,ea,eb,ec,e2⟩
theorem fV {f : PV → Int → Option PV} {a b r : PV} (e : tF f [a,b] = some r) : ∃ j,b = .int j ∧ f a j = some r := by
 cases b with
 | int k => exact ⟨k,rfl,e⟩
 | _ => exact nos e
theorem og {f : PV → Int → Int → Option PV} {a b c r : PV} (e : te f [a,b,c] = some r) : Two b c := by
 cases b with
 | int i => cases c with
  | int j => exact ⟨i,j,rfl,rfl⟩
  | _ => exact nos e
 | _ => exact nos e
theorem fy {f : PV → Int → Int → Option PV} {a b c r : PV} (e : te f [a,b,c] = some r) : ∃ i j,b = .int i ∧ c = .int j ∧ f a i j = some r := by
 obtain ⟨i,j,rfl,rfl⟩ := og e
 exact ⟨i,j,rfl,rfl,e⟩
theorem ES.sliceTo (hT : d3 R) {x hiE : Expr} {mx mhi : ME} {p pos : Pos} (hx : ES R C d lay x mx) (hhi : ES R C d lay hiE mhi) :
  ES R C d lay (.Subscript x (.Slice Option.none (some hiE) Option.none p) pos) (.prim (.slice false true false) (.cons mx (.cons mhi .nil))) := fun env A X μ s ρ σ v c e => by
 obtain ⟨a,b,ea,eb,e2⟩ := fo e
 obtain ⟨j,rfl,e3⟩ := fV e2
 exact W5 hT hx .none (.some hhi) .none (fun o i => ⟨_,E7 o i⟩) c ea rfl ⟨_,rfl,eb⟩ rfl e3
theorem ES.sliceFrom (hT : d3 R) {x loE : Expr} {mx mlo : ME} {p pos : Pos} (hx : ES R C d lay x mx) (hlo : ES R C d lay loE mlo) :
  ES R C d lay (.Subscript x (.Slice (some loE) Option.none Option.none p) pos) (.prim (.slice true false false) (.cons mx (.cons mlo .nil))) := fun env A X μ s ρ σ v c e => by
 obtain ⟨a,b,ea,eb,e2⟩ := fo e
 obtain ⟨j,rfl,e3⟩ := fV e2
 exact W5 hT hx (.some hlo) .none .none (fun o i => ⟨_,E7 o i⟩) c ea ⟨_,rfl,eb⟩ rfl rfl e3
theorem ES.sliceMid (hT : d3 R) {x loE hiE : Expr} {mx mlo mhi : ME} {p pos : Pos} (hx : ES R C d lay x mx) (hlo : ES R C d lay loE mlo) (hhi : ES R C d lay hiE mhi) :
  ES R C d lay (.Subscript x (.Slice (some loE) (some hiE) Option.none p) pos) (.prim (.slice true true false) (.cons mx (.cons mlo (.cons mhi .nil)))) := fun env A X μ s ρ σ v c e => by
 obtain ⟨a,b,b',ea,eb,eb',e2⟩ := sr e
 obtain ⟨i,j,rfl,rfl,e3⟩ := fy e2
 exact W5 hT hx (.some hlo) (.some hhi) .none (fun o i => ⟨_,E7 o i⟩) c ea ⟨_,rfl,eb⟩ ⟨_,rfl,eb'⟩ rfl e3
theorem ES.sliceEvery (hT : d3 R) {x loE stE : Expr} {mx mlo mst : ME} {p pos : Pos} (hx : ES R C d lay x mx) (hlo : ES R C d lay loE mlo) (hst : ES R C d lay stE mst) :
  ES R C d lay (.Subscript x (.Slice (some loE) Option.none (some stE) p) pos) (.prim (.slice true false true) (.cons mx (.cons mlo (.cons mst .nil)))) := fun env A X μ s ρ σ v c e => by
 obtain ⟨a,b,b',ea,eb,eb',e2⟩ := sr e
 obtain ⟨i,j,rfl,rfl,e3⟩ := fy e2
 exact W5 hT hx (.some hlo) .none (.some hst) (fun o i => ⟨_,X5 o i⟩) c ea ⟨_,rfl,eb⟩ rfl ⟨_,rfl,eb'⟩ e3
end
structure BOK (R : Run) (mg mb : Str → Option Value) : Prop where
 low : d3 R
 g : R.base.Ns mainGlobals mg
 b : R.base.Ns builtinsNs mb
theorem wt {M : Model} {A : Around} {α : Type} {m : Sem α} {Q Q' : α → Shared → Prop} {E : Value → Shared → Prop} {s : Shared} (h : wpAny M A m Q noE s) (k : ∀ v s',Q v s' → Q' v s') : wpAny M A m Q' E s :=
 wpAny_mono h k fun _ _ x => x.elim
section
variable {R : Run} {C : Orc} {d : Nat} {lay : Lay} {env : Env} {A : Around} {X : Addr → Prop} {μ : List Addr} {s s' : Shared} {ρ : Rho} {σ : Sto} {mg mb : Str → Option Value}
theorem U9 (B : BOK R mg mb) (c : Cx R d lay env A X μ s ρ σ) {x : Str} {v : Value} {i : Nat} {pos : Pos} {Q E : Value → Shared → Prop} (hm : (x,Kd.glo,i) ∈ lay) (hv : mg x = some v)
  (hd : (x == ("__debug__" : Str)) = false) (h : Q v s) : wpAny (model R.prog R.w) A (eval (.Name x pos) env) Q E s :=
 Name_function_global c.fr.kind (c.fr.glo x i hm) (loadGlobal_global (mg := mg) (by rw [c.fr.glob]; exact B.g.at' fun o e => c.inv.keep _ o e (by decide)) hv h) hd
theorem aL (B : BOK R mg mb) (c : Cx R d lay env A X μ s ρ σ) {x : Str} {v : Value} {i : Nat} {pos : Pos} {Q E : Value → Shared → Prop} (hm : (x,Kd.glo,i) ∈ lay) (hg : mg x = none) (hv : mb x = some v)
  (hd : (x == ("__debug__" : Str)) = false) (h : Q v s) : wpAny (model R.prog R.w) A (eval (.Name x pos) env) Q E s :=
 Name_function_global c.fr.kind (c.fr.glo x i hm) (loadGlobal_builtin (mg := mg) (mb := mb) (by rw [c.fr.glob]; exact B.g.at' fun o e => c.inv.keep _ o e (by decide)) hg
  (by rw [c.fr.blt]; exact B.b.at' fun o e => c.inv.keep _ o e (by decide)) hv h) hd
theorem ES.glob (B : BOK R mg mb) {x : Str} {a : Addr} {i : Nat} {pos : Pos} (hm : (x,Kd.glo,i) ∈ lay) (hv : mg x = some (.ref a)) (hd : (x == ("__debug__" : Str)) = false) : ES R C d lay (.Name x pos) (.glob a) :=
 fun env A X μ s ρ σ v c e => by
  cases e
  exact U9 B c hm hv hd ⟨.glob a,.refl c.inv⟩
theorem ES.globInt (B : BOK R mg mb) {x : Str} {n : Int} {t : Tok} {i : Nat} {pos : Pos} (hm : (x,Kd.glo,i) ∈ lay) (hv : mg x = some (.int n t)) (hd : (x == ("__debug__" : Str)) = false) : ES R C d lay (.Name x pos) (.lit (.int n)) :=
 fun env A X μ s ρ σ v c e => by
  cases e
  exact U9 B c hm hv hd ⟨.int n t,.refl c.inv⟩
theorem gk {es : List Expr} {ms : MEs} (h : ESs R C d lay es ms) (pos : Pos) : (backTo pos (starEach es env)).any (·.1) = false := by
 induction h with
 | nil => rfl
 | cons hs _ _ ih => rw [o9 hs]; exact ih
theorem br (hT : d3 R) {es : List Expr} {ms : MEs} (h : ESs R C d lay es ms) {vs : List PV} {f : Value} (pos : Pos) (c : Cx R d lay env A X μ s ρ σ) (ev : Q3 C ms ρ σ = some vs) :
  wpAny (model R.prog R.w) A (evalArgs f true (backTo pos (starEach es env)) []) (fun a s' => a.kw = [] ∧ g9 R.Θ X μ s'.heap vs a.pos ∧ w5 R X μ s s') noE s := by
 have h0 := K3 hT h pos c ev
 cases h with
 | nil =>
  cases ev
  refine PySem.evalArgs_none ?_
  exact ⟨rfl,.nil,.refl c.inv⟩
 | cons hs _ _ =>
  rw [o9 hs] at h0 ⊢
  exact evalArgs_plain (wpAny_mono h0 (fun vs' s' h' => ⟨rfl,h'⟩) fun _ _ x => x)
theorem rL (B : BOK R mg mb) {x : Str} {id : String} {i : Nat} {np pos : Pos} (hm : (x,Kd.glo,i) ∈ lay) (hg : mg x = none) (hv : mb x = some (.builtin id)) (hd : (x == ("__debug__" : Str)) = false)
  {es : List Expr} {ms : MEs} (h : ESs R C d lay es ms) {vs : List PV} (c : Cx R d lay env A X μ s ρ σ) (ev : Q3 C ms ρ σ = some vs) {Q : Value → Shared → Prop}
  (hc : ∀ vs' s',g9 R.Θ X μ s'.heap vs vs' → w5 R X μ s s' → wpAny (model R.prog R.w) A (call (.builtin id) vs') Q noE s') :
  wpAny (model R.prog R.w) A (eval (.Call (.Name x np) es [] pos) env) Q noE s := by
 refine wpAny_Call_Name_kw (aL B c hm hg hv hd ?_)
 refine callWith_builtin (gk h pos) ?_
 refine wpAny_mono (br B.low h pos c ev) (fun a s' h' => ?_) fun _ _ x => x
 rw [h'.1]
 exact hc a.pos s' h'.2.1 h'.2.2
theorem ES.b1 (B : BOK R mg mb) {x : Str} {id : String} {i : Nat} {np pos : Pos} {e : Expr} {m : ME} {p : Y0} (hm : (x,Kd.glo,i) ∈ lay) (hg : mg x = Option.none) (hv : mb x = some (.builtin id)) (hd : (x == ("__debug__" : Str)) = false)
  (hs : n8 e) (he : ES R C d lay e m) (ho : O1 R (fun v => call (.builtin id) [v]) p) : ES R C d lay (.Call (.Name x np) [e] [] pos) (.prim p (.cons m .nil)) := fun env A X μ s ρ σ v c e => by
 obtain ⟨vs,e1,e2⟩ := bd e
 refine rL B hm hg hv hd (.cons hs he .nil) c e1 fun vs' s₁ r S => ?_
 obtain ⟨a,ea,rfl⟩ := ev1 e1
 obtain ⟨v0,r0⟩ := r.inv1
 have c₁ := c.step B.low S
 exact wpAny_mono (ho A X μ s₁ σ a _ v c₁.inv c₁.st c₁.room.zero e2 r0) (fun r' s₂ h₂ => ⟨h₂.1,S.trans h₂.2⟩) fun _ _ x => x
theorem ES.b2 (B : BOK R mg mb) {x : Str} {id : String} {i : Nat} {np pos : Pos} {e f : Expr} {m n : ME} {p : Y0} (hm : (x,Kd.glo,i) ∈ lay) (hg : mg x = Option.none) (hv : mb x = some (.builtin id)) (hd : (x == ("__debug__" : Str)) = false)
  (hs : n8 e) (he : ES R C d lay e m) (hs' : n8 f) (hf : ES R C d lay f n) (ho : O2 R (fun v w => call (.builtin id) [v,w]) p) : ES R C d lay (.Call (.Name x np) [e,f] [] pos) (.prim p (.cons m (.cons n .nil))) := fun env A X μ s ρ σ v c e => by
 obtain ⟨vs,e1,e2⟩ := bd e
 refine rL B hm hg hv hd (.cons hs he (.cons hs' hf .nil)) c e1 fun vs' s₁ r S => ?_
 obtain ⟨a,b,ea,eb,rfl⟩ := ev2 e1
 obtain ⟨v0,v1,r0,r1⟩ := r.inv2
 have c₁ := c.step B.low S
 exact wpAny_mono (ho A X μ s₁ σ a b _ _ v c₁.inv c₁.st c₁.room.zero e2 r0 r1) (fun r' s₂ h₂ => ⟨h₂.1,S.trans h₂.2⟩) fun _ _ x => x
theorem nN {a r : PV} (e : eLn σ a = some r) : (∃ l,a = .str l ∧ l.length ≤ a8 ∧ r = .int l.length) ∨ ∃ l,asL σ a = some l ∧ l.length ≤ a8 ∧ r = .int l.length := by
 by_cases h : ∃ l,a = .str l
 ·obtain ⟨l,rfl⟩ := h
  exact .inl ⟨l,rfl,j9 e⟩
 ·have e' : (asL σ a).bind (fun l => if l.length ≤ a8 then some (PV.int l.length) else Option.none) = some r := by
   rw [← e]
   cases a with
   | str l => exact absurd ⟨l,rfl⟩ h
   | _ => rfl
  obtain ⟨l,e1,e2⟩ := bd e'
  exact .inr ⟨l,e1,j9 e2⟩
theorem O1.len : O1 R (fun v => call (.builtin "len") [v]) .len := fun A X μ s σ a a' r I st hr e ha => by
 have hz : a8 = 1000000 := rfl
 rcases nN e with ⟨l,rfl,h,rfl⟩ | ⟨l,e1,h,rfl⟩
 ·obtain ⟨t⟩ := ha.str_inv
  have e1 : (str l).length = l.length := rfl
  refine PyProof.Rows.len_str (by rw [e1]; lia) ⟨?_,.toks I⟩
  rw [e1]
  exact .int _ _
 ·obtain ⟨ad,vs,rfl,hl,rs⟩ := io st ha e1
  refine call_len_list hl (by rw [List.size_toArray,← rs.length]; lia) ⟨?_,.toks I⟩
  rw [List.size_toArray,← rs.length]
  exact .int _ _
theorem O2.divmod : O2 R (fun v w => call (.builtin "divmod") [v,w]) .divmod := .ii _ (fun _ _ => rfl) fun A X μ s i j ti tj r I _ e => by
 obtain ⟨h,rfl⟩ := j9 e
 refine PyProof.Rows.divmod_int (by lia) ?_ (.inl h.2)
 have f := I.fresh
 refine ⟨?_,w5.push I⟩
 rw [Int.fdiv_eq_ediv_of_nonneg _ (by lia),Int.fmod_eq_emod_of_nonneg _ (by lia)]
 exact .tup ⟨_,Heap.get?_push_size _ rfl,rfl,0,rfl⟩ f.1 f.2 (.cons (.int _ _) (.cons (.int _ _) .nil))
theorem eS {f : List PV → Option PV} {a r : PV} (e : eL1 f [a] = some r) : ∃ l,a = .list l ∧ f l = some r := by
 cases a with
 | list l => exact ⟨l,rfl,e⟩
 | _ => exact nos e
theorem mn {vs : List Value} {ns : List Int} (h : IntsAre vs ns) : ∀ (i : Nat) (v : Value),vs.toArray[i]? = some v → ∃ t,v = .int (ns.getD i 0) t := by
 induction h with
 | nil => intro i v e; simp at e
 | cons n t _ ih =>
  intro i v e
  cases i with
  | zero => simp at e; subst e; exact ⟨t,by simp⟩
  | succ i => simpa using ih i v (by simpa using e)
theorem dC (ns : List Int) : ∀ (k : Nat),k ≤ ns.length → preSum (fun i => ns.getD i 0) k = (ns.take k).sum
 | 0,_ => by simp [preSum]
 | k + 1,h => by
  have e : (ns.take (k + 1)).sum = (ns.take k).sum + ns.getD k 0 := by
   rw [List.take_succ_eq_append_getElem (by lia),List.sum_append]
   simp [List.getElem?_eq_getElem (show k < ns.length by lia)]
  show preSum (fun i => ns.getD i 0) k + ns.getD k 0 = _
  rw [e,dC ns k (by lia)]
theorem Z8 {l : Addr} {vs : List Value} (hl : s.heap.IsList l vs.toArray) : l ≠ s.heap.objs.size ∧
  ((s.heap.push { cls := .type "list_iterator",data := .fields #[.ref l,.int 0 0] }).IsListIter s.heap.objs.size l 0 ∧ (s.heap.push { cls := .type "list_iterator",data := .fields #[.ref l,.int 0 0] }).IsList l vs.toArray) ∧
  (∀ b ∈ [s.heap.objs.size,l],b < (s.heap.push { cls := .type "list_iterator",data := .fields #[.ref l,.int 0 0] }).objs.size) := by
 have hlt : l < s.heap.objs.size := by obtain ⟨_,e,_⟩ := hl; exact Heap.lt_size e
 refine ⟨Nat.ne_of_lt hlt,⟨⟨_,Heap.get?_push_size _ rfl,rfl,rfl⟩,hl.push _⟩,fun b hb => ?_⟩
 rw [Heap.size_push]
 simp only [List.mem_cons,B8,or_false] at hb
 rcases hb with rfl | rfl
 ·exact Nat.lt_succ_self _
 ·exact Nat.lt_succ_of_lt hlt
theorem jc {vs : List Value} {ns : List Int} (h : IntsAre vs ns) : vs.length = ns.length := by
 induction h with
 | nil => rfl
 | cons _ _ _ ih => simp [ih]
theorem O1.sum : O1 R (fun v => call (.builtin "sum") [v]) .sum := fun A X μ s σ a a' r I st hr e ha => by
 obtain ⟨l,rfl,e⟩ := eS e
 obtain ⟨ad,vs,hl,-,-,rs⟩ := ha.list_inv
 obtain ⟨ns,e1,rfl⟩ := mq e
 have hi := rs.ints e1
 have hlen := jc hi
 obtain ⟨hne,st0,hfp⟩ := Z8 hl
 refine call_sum_walkG (wpAny_pyIter_list hl ⟨_,_,_,_,_,_,(fun i => ns.getD i 0),rfl,Walks.list (A := A.in1) hr.1 _ _ hne vs.toArray,st0,hfp,mn hi,fun h' tk t' hk => ?_⟩)
 have e2 : preSum (fun i => ns.getD i 0) vs.toArray.size = ns.sum := by
  rw [List.size_toArray,hlen,dC ns _ (Nat.le_refl _),List.take_length]
 rw [e2]
 exact ⟨.int _ _,w5.grow I (old_kept (l := ad) hk)⟩
theorem cq (ns : List Int) : ∀ (k : Nat),k < ns.length → argBest (fun i j => decide (ns.getD i 0 < ns.getD j 0)) k < ns.length ∧
  ∀ x r,ns = x :: r → ns.getD (argBest (fun i j => decide (ns.getD i 0 < ns.getD j 0)) k) 0 = cH x (r.take k)
 | 0,h => ⟨h,fun x r e => by subst e; simp [argBest,cH]⟩
 | k + 1,h => by
  obtain ⟨h1,h2⟩ := cq ns k (by lia)
  have e : argBest (fun i j => decide (ns.getD i 0 < ns.getD j 0)) (k + 1) = if decide (ns.getD (k + 1) 0 < ns.getD (argBest (fun i j => decide (ns.getD i 0 < ns.getD j 0)) k) 0) = true then k + 1 else argBest (fun i j => decide (ns.getD i 0 < ns.getD j 0)) k := rfl
  have hmin : ∀ (m y : Int) (r : List Int),cH m (r ++ [y]) = if y < cH m r then y else cH m r := by
   intro m y r
   induction r generalizing m with
   | nil => rfl
   | cons z r ih => simp only [List.cons_append,cH]; exact ih _
  constructor
  ·rw [e]; split <;> lia
  ·intro x r er
   have h3 := h2 x r er
   subst er
   have hk : k < r.length := by simpa using h
   have h4 : r.take (k + 1) = r.take k ++ [r[k]] := List.take_succ_eq_append_getElem hk
   have h5 : (x :: r).getD (k + 1) 0 = r[k] := by simp [List.getElem?_eq_getElem hk]
   rw [h4,hmin,← h3,e]
   simp only [decide_eq_true_eq]
   rw [h5]
   split
   ·exact h5
   ·rfl
theorem oz {ns : List Int} {r : PV} (e : eMn ns = some r) : ∃ x rr,ns = x :: rr ∧ r = .int (cH x rr) :=
 match ns,e with
 | x :: rr,e => ⟨x,rr,rfl,(Option.some.inj e).symm⟩
theorem O1.min : O1 R (fun v => call (.builtin "min") [v]) .min := fun A X μ s σ a a' r I st hr e ha => by
 obtain ⟨l,rfl,e⟩ := eS e
 obtain ⟨ad,vs,hl,-,-,rs⟩ := ha.list_inv
 obtain ⟨ns,e1,e2⟩ := bd e
 obtain ⟨x,rr,rfl,rfl⟩ := oz e2
 have hi := rs.ints e1
 have hlen := jc hi
 obtain ⟨hne,st0,hfp⟩ := Z8 hl
 refine call_min_walk (wpAny_pyIter_list hl ⟨_,_,_,_,_,_,_,rfl,Walks.list (A := A.in1) hr.1 _ _ hne vs.toArray,st0,hfp,by rw [List.size_toArray,hlen]; exact Nat.succ_pos _,
  CmpOf.ints_lt (fun i => (x :: rr).getD i 0) (mn hi),fun v h' tk hP hk => ?_⟩)
 obtain ⟨t,rfl⟩ := mn hi _ _ hP
 rw [show vs.toArray.size - 1 = rr.length by rw [List.size_toArray,hlen]; rfl,(cq (x :: rr) rr.length (Nat.lt_succ_self _)).2 x rr rfl,List.take_length]
 exact ⟨.int _ _,w5.grow I (old_kept (l := ad) hk)⟩
theorem hM {p : PV} {ps : List PV} {ys : List (List Nat)} (e : U5 (p :: ps) = some ys) : ∃ y,p = .str y := by
 cases p <;> first | exact ⟨_,rfl⟩ | exact nos e
theorem g9.strs {Θ : Tms} {h : Heap} {ps : List PV} {vs : List Value} {ys : List (List Nat)} (r : g9 Θ X μ h ps vs) (e : U5 ps = some ys) : ∃ l : List (Str × Tok),vs = strValues l ∧ l.map (·.1) = ys.map str :=
 r.ind (M := fun ps vs => ∀ ys,U5 ps = some ys → ∃ l : List (Str × Tok),vs = strValues l ∧ l.map (·.1) = ys.map str) (fun _ e => by cases e; exact ⟨[],rfl,rfl⟩) (fun {p v ps vs} a _ ih ys e => by
  obtain ⟨y,rfl⟩ := hM e
  obtain ⟨t⟩ := a.str_inv
  obtain ⟨m,e1,rfl⟩ := mq (show (U5 ps).map (y :: ·) = some ys from e)
  obtain ⟨l',rfl,e3⟩ := ih m e1
  exact ⟨(str y,t) :: l',rfl,by rw [List.map_cons,List.map_cons,e3]⟩) ys e
theorem jq : ∀ (ys : List (List Nat)),Txt.join (str []) (ys.map str) = str ys.flatten := by
 intro ys
 show Builtin.Str.glued _ _ = _
 rw [StrLaws.glued_eq_join]
 induction ys with
 | nil => rfl
 | cons y r ih =>
  have h := PyProof.Rows.join_nil_cons (str y) (r.map str)
  rw [List.map_cons]
  refine h.trans ?_
  rw [show Str.join ⟨#[]⟩ (r.map str) = str r.flatten from ih]
  show (⟨y.toArray ++ r.flatten.toArray⟩ : Str) = ⟨(y ++ r.flatten).toArray⟩
  congr 1; simp
noncomputable def dE (o : Expr) : Prop := (fun (name : Str) (env : Env) (w : Sem Value) => attributeBase o name env w) = fun _ _ w => w
theorem av {o : Expr} (h : dE o) (name : Str) (env : Env) (w : Sem Value) : attributeBase o name env w = w := congrFun (congrFun (congrFun h name) env) w
theorem sR (l : List Nat) : (str l).length = l.length := by show l.toArray.size = _; simp
theorem ES.join (hT : d3 R) {sep : Str} {k : Nat} {cp apos pos : Pos} {e : Expr} {m : ME} (hsep : sep = ⟨#[]⟩) (hs : n8 e) (hline : (apos.endLine == pos.line) = true) (he : ES R C d lay e m) :
  ES R C d lay (.Call (.Attribute (.Constant (.str sep) k cp) (Str.ofString "join") apos) [e] [] pos) (.prim .join (.cons (.lit (.str [])) (.cons m .nil))) := fun env A X μ s ρ σ v c e => by
 subst hsep
 obtain ⟨a,b,ea,eb,e2⟩ := fo e
 cases ea
 refine Call_method1 (av (o := .Constant (.str ⟨#[]⟩) k cp) rfl _ _ _) (o9 hs [] env) hline (PySem.wpAny_Constant_str ?_)
 refine ⟨"str","str.join",F.plainAttrs_str,F.slot_str_join,F.type_str_join,typeIs_str _ _ _,(fun _ e => nomatch e),?_⟩
 have c₁ := c.step hT (w5.toks c.inv (tk := s.toks + 1))
 refine callWith_builtin rfl (evalArgs_plain (spliced_cons (wpAny_mono (he env A X μ _ ρ σ b c₁ eb) (fun w s₁ h₁ => spliced_nil ?_) fun _ _ x => x)))
 obtain ⟨r,S⟩ := h₁
 obtain ⟨l,e3,e4⟩ := bd e2
 obtain ⟨ys,e5,e6⟩ := bd e4
 obtain ⟨hw,rfl⟩ := j9 e6
 obtain ⟨ad,ws,rfl,hl,rs⟩ := io (c₁.st.step S) r e3
 obtain ⟨ll,rfl,e7⟩ := rs.strs e5
 refine SC.join hl e7 (joinOk_of_weight ?_ (by decide)) fun t' k => ?_
 ·have h1 : (List.map (fun x => x.length) (List.map Mine.str ys)) = ys.map List.length := by
   rw [List.map_map]; exact List.map_congr_left fun y _ => sR y
  have h2 : (ys.map Mine.str).length = ys.length := by simp
  rw [h1,h2]
  have : a8 = 1000000 := rfl
  lia
 ·rw [show (⟨#[]⟩ : Str) = Mine.str [] from rfl,jq]
  exact ⟨.str _ _,((w5.toks c.inv).trans S).trans (.toks S.inv)⟩
theorem gA (x : List Nat) (c : Nat) : Txt.count (str x) (str [c]) = N8 x c := by
 rw [show str [c] = ⟨#[c]⟩ from rfl,PyProof.Rows.count_cnt]
 show cnt c x.toArray.toList = _
 rw [List.toList_toArray]
 unfold N8
 induction x with
 | nil => rfl
 | cons y r ih =>
  rw [cnt_cons,ih,List.filter_cons]
  by_cases h : y = c
  ·simp [h]; lia
  ·simp [h]
noncomputable def sk (a b : PV) : Prop := ∃ l c,a = .str l ∧ b = .str [c]
theorem kW {a b r : PV} (e : ly [a,b] = some r) : sk a b := by
 cases a with
 | str l => cases b with
  | str x => cases x with
   | cons c x => cases x with
    | nil => exact ⟨l,c,rfl,rfl⟩
    | cons _ _ => exact nos e
   | nil => exact nos e
  | _ => exact nos e
 | _ => exact nos e
theorem hV {a b r : PV} (e : ly [a,b] = some r) : ∃ l c,a = .str l ∧ b = .str [c] ∧ r = .int (N8 l c) := by
 obtain ⟨l,c,rfl,rfl⟩ := kW e
 exact ⟨l,c,rfl,rfl,(Option.some.inj e).symm⟩
theorem ES.count (hT : d3 R) {o e : Expr} {mo m : ME} {apos pos : Pos} (hb : dE o) (hs : n8 e) (hline : (apos.endLine == pos.line) = true) (ho : ES R C d lay o mo) (he : ES R C d lay e m) :
  ES R C d lay (.Call (.Attribute o (Str.ofString "count") apos) [e] [] pos) (.prim .count (.cons mo (.cons m .nil))) := fun env A X μ s ρ σ v c e => by
 obtain ⟨a,b,ea,eb,e2⟩ := fo e
 obtain ⟨x,q,rfl,rfl,rfl⟩ := hV e2
 refine Call_method1 (av hb _ _ _) (o9 hs [] env) hline (wpAny_mono (ho env A X μ s ρ σ _ c ea) (fun a' s₁ h₁ => ?_) fun _ _ x => x)
 have c₁ := c.step hT h₁.2
 obtain ⟨t⟩ := h₁.1.str_inv
 refine ⟨"str","str.count",F.plainAttrs_str,F.slot_str_count,F.type_str_count,typeIs_str _ _ _,(fun _ e => nomatch e),?_⟩
 refine callWith_builtin rfl (evalArgs_plain (spliced_cons (wpAny_mono (he env A X μ _ ρ σ _ c₁ eb) (fun w s₂ h₂ => spliced_nil ?_) fun _ _ x => x)))
 obtain ⟨u⟩ := h₂.1.str_inv
 refine SC.count ⟨?_,(h₁.2.trans h₂.2).trans (.toks h₂.2.inv)⟩
 rw [gA]
 exact .int _ _
theorem ES.bitlen (hT : d3 R) {o : Expr} {mo : ME} {apos pos : Pos} (hb : dE o) (hline : (apos.endLine == pos.line) = true) (ho : ES R C d lay o mo) :
  ES R C d lay (.Call (.Attribute o (Str.ofString "bit_length") apos) [] [] pos) (.prim .bitlen (.cons mo .nil)) := fun env A X μ s ρ σ v c e => by
 obtain ⟨a,ea,e2⟩ := jI e
 obtain ⟨x,rfl,e2⟩ := iR e2
 cases e2
 refine Call_method0 (av hb _ _ _) hline (wpAny_mono (ho env A X μ s ρ σ _ c ea) (fun a' s₁ h₁ => ?_) fun _ _ x => x)
 obtain ⟨t⟩ := h₁.1.int_inv
 refine ⟨"int","int.bit_length",F.plainAttrs_int,slot_int_bit_length,type_int_bit_length,typeIs_int _ _ _,(fun _ e => nomatch e),?_⟩
 exact callWith_builtin rfl (PySem.evalArgs_none (call_int_bit_length ⟨.int _ _,h₁.2.trans (.toks h₁.2.inv)⟩))
end
noncomputable def n5 (W : Addr → Prop) (h h' : Heap) : Prop := ∀ b o,h.get? b = some o → ¬ W b → h'.get? b = some o
theorem n5.refl (W : Addr → Prop) (h : Heap) : n5 W h h := fun _ _ e _ => e
theorem n5.trans {W : Addr → Prop} {a b c : Heap} (x : n5 W a b) (y : n5 W b c) : n5 W a c := fun p o e t => y p o (x p o e t) t
theorem n5.mono {W W' : Addr → Prop} {a b : Heap} (x : n5 W a b) (h : ∀ p,W p → W' p) : n5 W' a b := fun p o e t => x p o e fun k => t (h p k)
theorem n5.of {W : Addr → Prop} {h h' : Heap} (k : ∀ b o,h.get? b = some o → h'.get? b = some o) : n5 W h h' := fun b o e _ => k b o e
section
variable {R : Run} {X Y : Addr → Prop} {μ : List Addr} {s s' s'' : Shared} {lay : Lay} {env : Env} {ρ ρ' : Rho} {σ : Sto}
structure Ext (R : Run) (X Y : Addr → Prop) (μ : List Addr) (s s' : Shared) : Prop where
 keep : L9 s.heap s'.heap
 inv : Inv R Y μ s'
 gens : H8 s s'
 xt : ∀ b ∈ Tabs,X b
 up : ∀ b,X b → Y b
 new : ∀ b,Y b → X b ∨ s.heap.get? b = Option.none
theorem Ext.of_step (S : w5 R X μ s s') : Ext R X X μ s s' := ⟨S.keep,S.inv,S.gens,S.inv.xt,fun _ h => h,fun _ h => .inl h⟩
theorem Ext.obj {b : Addr} {o : Obj} (e : Ext R X Y μ s s') (h : s.heap.get? b = some o) (hx : ¬ X b) (hm : b ∉ μ) : s'.heap.get? b = some o ∧ ¬ Y b ∧ b ∉ μ :=
 ⟨e.keep b o h fun ht => hx (e.xt b ht),fun hy => (e.new b hy).elim hx fun h0 => (by exact nxx h0 h),hm⟩
theorem eD (e : Ext R X Y μ s s') {p : PV} {v : Value} (r : n4 R.Θ X μ s.heap p v) : n4 R.Θ Y μ s'.heap p v := M3 (fun b o h hx hm => e.obj h hx hm) (fun _ _ e => e) r
theorem Y3 (e : Ext R X Y μ s s') {p : List PV} {v : List Value} (r : g9 R.Θ X μ s.heap p v) : g9 R.Θ Y μ s'.heap p v := J9 (fun b o h hx hm => e.obj h hx hm) (fun _ _ e => e) r
theorem Ext.step (e : Ext R X Y μ s s') (S : w5 R Y μ s' s'') : Ext R X Y μ s s'' := ⟨e.keep.trans S.keep,S.inv,e.gens.trans S.gens,e.xt,e.up,e.new⟩
theorem N9.ext (e : Ext R X Y μ s s') (x : N9 R X μ s.heap σ) : N9 R Y μ s'.heap σ := by
 refine ⟨x.len,x.nd,fun n xs h => ?_⟩
 obtain ⟨a,vs,k,h1,h2,h3,h4⟩ := x.bx n xs h
 have hy : ¬ Y a := fun hy => (e.new a hy).elim h3 fun h0 => (by exact nxx h0 h2)
 exact ⟨a,vs,k,h1,e.keep a _ h2 fun ht => h3 (e.xt a ht),hy,Y3 e h4⟩
theorem FR.ext (hT : d3 R) (e : Ext R X Y μ s s') (x : FR R lay env X μ s.heap ρ) : FR R lay env Y μ s'.heap ρ where
 kind := x.kind
 glob := x.glob
 blt := x.blt
 llo := x.llo
 lx := e.up _ x.lx
 lmu := x.lmu
 glo := x.glo
 apart := x.apart
 cod := x.cod
 loc := by
  obtain ⟨m,hn,h⟩ := x.loc
  refine ⟨m,hn.at' fun o e' => e.keep _ o e' fun ht => (hT.no ht x.llo).elim,fun y i hy => ⟨(h y i hy).1,fun v e' hu => ?_⟩⟩
  obtain ⟨v',e1,e2⟩ := (h y i hy).2 v e' hu
  exact ⟨v',e1,eD e e2⟩
 cel := by
  intro y k i hy hk
  obtain ⟨h0,c,w,h1,h2,h3,h4,h5,h6⟩ := x.cel y k i hy hk
  refine ⟨h0,c,w,h1,e.keep _ _ h2 (fun ht => ?_),h3,(fun v e' hu => ?_),fun hk => ⟨e.up _ (h5 hk).1,(h5 hk).2⟩,fun hk hy => ?_⟩
  ·rcases hk with hk | hk
   ·exact hT.no ht (h5 hk).2
   ·exact h6 hk (e.xt c ht)
  ·obtain ⟨v',e1,e2⟩ := h4 v e' hu
   exact ⟨v',e1,eD e e2⟩
  ·exact (e.new c hy).elim (h6 hk) fun h0 => (by exact nxx h0 h2)
theorem C6 (up : ∀ b,X b → Y b) {h : Heap} {p : PV} {v : Value} (r : n4 R.Θ Y μ h p v) : n4 R.Θ X μ h p v :=
 M3 (fun b o h hy hm => ⟨h,fun hx => hy (up b hx),hm⟩) (fun _ _ e => e) r
theorem az (up : ∀ b,X b → Y b) {h : Heap} {p : List PV} {v : List Value} (r : g9 R.Θ Y μ h p v) : g9 R.Θ X μ h p v :=
 J9 (fun b o h hy hm => ⟨h,fun hx => hy (up b hx),hm⟩) (fun _ _ e => e) r
theorem N9.down (up : ∀ b,X b → Y b) {h : Heap} (x : N9 R Y μ h σ) : N9 R X μ h σ := by
 refine ⟨x.len,x.nd,fun n xs e => ?_⟩
 obtain ⟨a,vs,k,h1,h2,h3,h4⟩ := x.bx n xs e
 exact ⟨a,vs,k,h1,h2,fun hx => h3 (up a hx),az up h4⟩
theorem Inv.down (xt : ∀ b ∈ Tabs,X b) (up : ∀ b,X b → Y b) (I : Inv R Y μ s) : Inv R X μ s where
 keep := I.keep
 tabs := fun j t e => let ⟨hp,ps,h1,h2,h3⟩ := I.tabs j t e; ⟨hp,ps,h1,h2,fun cv e => let ⟨c',e1,e2,e3,e4⟩ := h3 cv e; ⟨c',e1,e2,fun hx => e3 (up _ hx),e4⟩⟩
 os := I.os
 bare := I.bare
 xt := xt
 xlo := fun b hb => I.xlo b (up b hb)
 xex := fun b hb => I.xex b (up b hb)
 mulo := I.mulo
 muex := I.muex
theorem Ext.down (e : Ext R X Y μ s s') : w5 R X μ s s' := ⟨e.keep,e.inv.down e.xt e.up,e.gens⟩
theorem D1 {h h' : Heap} {W : Addr → Prop} (hw : ∀ b,W b → X b) (k : n5 W h h') {p : PV} {v : Value} (r : n4 R.Θ X μ h p v) : n4 R.Θ X μ h' p v :=
 M3 (fun b o e hx hm => ⟨k b o e fun hb => hx (hw b hb),hx,hm⟩) (fun _ _ e => e) r
theorem Z0 {h h' : Heap} {W : Addr → Prop} (hw : ∀ b,W b → X b) (k : n5 W h h') {p : List PV} {v : List Value} (r : g9 R.Θ X μ h p v) : g9 R.Θ X μ h' p v :=
 J9 (fun b o e hx hm => ⟨k b o e fun hb => hx (hw b hb),hx,hm⟩) (fun _ _ e => e) r
theorem N9.set {h h' : Heap} {W : Addr → Prop} (hw : ∀ b,W b → X b) (k : n5 W h h') (x : N9 R X μ h σ) : N9 R X μ h' σ := by
 refine ⟨x.len,x.nd,fun n xs e => ?_⟩
 obtain ⟨a,vs,j,h1,h2,h3,h4⟩ := x.bx n xs e
 exact ⟨a,vs,j,h1,k a _ h2 fun ha => h3 (hw a ha),h3,Z0 hw k h4⟩
structure D9 (lay : Lay) : Prop where
 name : ∀ x k i k' j,(x,k,i) ∈ lay → (x,k',j) ∈ lay → k ≠ .glo → k' ≠ .glo → i = j ∧ k = k'
 slot : ∀ x k y k' i,(x,k,i) ∈ lay → (y,k',i) ∈ lay → k ≠ .glo → k' ≠ .glo → x = y
theorem Inv.set {W : Addr → Prop} (hT : d3 R) (I : Inv R X μ s) (hw : ∀ b,W b → X b) (hb : ∀ b,W b → R.base.get? b = Option.none) {h' : Heap} {tk : Nat} (k : n5 W s.heap h') (ex : ∀ b,W b → ∃ o,h'.get? b = some o) (hm : ∀ b,W b → b ∉ μ) :
  Inv R X μ { s with heap := h',toks := tk } where
 keep := fun b o e ht => k b o (I.keep b o e ht) fun hW => by exact nxx (hb b hW) e
 tabs := fun j t e => by
  obtain ⟨hp,ps,h1,h2,h3⟩ := I.tabs j t e
  refine ⟨hp,ps,k _ _ h1 fun hW => hT.no hp (hb _ hW),h2,fun cv e => ?_⟩
  obtain ⟨c',e1,e2,e3,e4⟩ := h3 cv e
  obtain ⟨c,o,vs,t',e5,g,r⟩ := e2
  cases e5
  exact ⟨c',e1,⟨c',o,vs,t',rfl,k _ _ g fun hW => e3 (hw _ hW),r⟩,e3,e4⟩
 os := I.os
 bare := I.bare
 xt := I.xt
 xlo := I.xlo
 xex := fun b hb' => by
  by_cases hW : W b
  ·exact ex b hW
  ·obtain ⟨o,e⟩ := I.xex b hb'; exact ⟨o,k b o e hW⟩
 mulo := I.mulo
 muex := fun b hb' => by
  obtain ⟨o,e⟩ := I.muex b hb'
  exact ⟨o,k b o e fun hW => hm b hW hb'⟩
theorem W1 {α : Type} {ρ : List α} {i j : Nat} {p q : α} (h : (ρ.set i p)[j]? = some q) : (i = j ∧ q = p) ∨ (i ≠ j ∧ ρ[j]? = some q) := by
 rw [List.getElem?_set] at h
 by_cases e : i = j
 ·subst e
  rw [if_pos rfl] at h
  split at h
  ·exact .inl ⟨rfl,by cases h; rfl⟩
  ·cases h
 ·rw [if_neg e] at h; exact .inr ⟨e,h⟩
noncomputable def WN (env : Env) (x : Str) (b : Addr) : Prop := b = env.locals ∨ (env.cells.lookup x = some b ∧ env.kindOf x = some .cell)
structure eB (R : Run) (lay : Lay) (env : Env) (X : Addr → Prop) (μ : List Addr) (W : Addr → Prop) (ρ : Rho) (s s' : Shared) : Prop where
 fr : FR R lay env X μ s'.heap ρ
 inv : Inv R X μ s'
 keep : n5 W s.heap s'.heap
 wx : ∀ b,W b → X b
 gens : s'.gens = s.gens
theorem gf {M : Model} {A : Around} {E : Value → Shared → Prop} (hT : d3 R) (hl : D9 lay) (F : FR R lay env X μ s.heap ρ) (I : Inv R X μ s) {x : Str} {k : Kd} {i : Nat} {p : PV} {v : Value}
  (hm : (x,k,i) ∈ lay) (hk : k = .loc ∨ k = .cel) (r : p.isUnb = false → n4 R.Θ X μ s.heap p v) {Q : Unit → Shared → Prop}
  (h : ∀ s',eB R lay env X μ (WN env x) (ρ.set i p) s s' → (k = .cel → ∃ c,env.cells.lookup x = some c ∧ s'.heap.get? c = some (U3 (some v))) → Q () s') : wpAny M A (storeName env x v) Q E s := by
 rcases hk with rfl | rfl
 ·obtain ⟨m,hn,hloc⟩ := F.loc
  refine wpAny_storeName_local (hloc x i hm).1 hn (fun h' hn' hs' => h _ ?_ (fun e => by cases e)) (by rw [F.kind]; rfl)
  have k : n5 (· = env.locals) s.heap h' := fun b o e hb => (hs'.2 b hb).trans e
  have hw : ∀ b,b = env.locals → X b := fun b e => e ▸ F.lx
  have hnc : env.kindOf x ≠ some .cell := by rw [(hloc x i hm).1]; simp
  refine ⟨?_,?_,k.mono fun b hb => .inl hb,?_,rfl⟩
  ·refine { kind := F.kind,glob := F.glob,blt := F.blt,llo := F.llo,lx := F.lx,lmu := F.lmu,glo := F.glo,apart := F.apart,cod := F.cod,loc := ?_,cel := ?_ }
   ·refine ⟨_,hn',fun y j hy => ⟨(hloc y j hy).1,fun q e hu => ?_⟩⟩
    rcases W1 e with ⟨rfl,rfl⟩ | ⟨hne,e⟩
    ·have := hl.slot x .loc y .loc i hm hy (by simp) (by simp)
     subst this
     exact ⟨v,if_pos rfl,D1 hw k (r hu)⟩
    ·have hyx : y ≠ x := fun e' => hne (hl.name x .loc i .loc j hm (e' ▸ hy) (by simp) (by simp)).1
     obtain ⟨v',e1,e2⟩ := (hloc y j hy).2 q e hu
     exact ⟨v',by simp [hyx,e1],D1 hw k e2⟩
   ·intro y kk j hy hkk
    obtain ⟨h0,c,w,h1,h2,h3,h4,h5,h6⟩ := F.cel y kk j hy hkk
    have hc : c ≠ env.locals := by
     rintro rfl
     obtain ⟨o,es,ep,e1,e2,_⟩ := hn
     cases sxx h2 e1; cases e2
    refine ⟨h0,c,w,h1,k c _ h2 hc,h3,fun q e hu => ?_,h5,h6⟩
    rcases W1 e with ⟨rfl,rfl⟩ | ⟨hne,e⟩
    ·exfalso
     have e1 := hl.slot x .loc y kk i hm hy (by simp) (by rcases hkk with rfl | rfl <;> simp)
     subst e1
     have := (hl.name x .loc i kk i hm hy (by simp) (by rcases hkk with rfl | rfl <;> simp)).2
     subst this
     rcases hkk with e | e <;> cases e
    ·obtain ⟨v',e1,e2⟩ := h4 q e hu
     exact ⟨v',e1,D1 hw k e2⟩
  ·exact I.set hT hw (fun b e => e ▸ F.llo) k (fun b e => by subst e; obtain ⟨o,_,_,ho,_⟩ := hn'; exact ⟨o,ho⟩) (fun b e => e ▸ F.lmu)
  ·rintro b (rfl | ⟨_,hb⟩)
   ·exact F.lx
   ·exact absurd hb hnc
 ·obtain ⟨h0,c,w,h1,h2,h3,h4,h5,h6⟩ := F.cel x .cel i hm (.inl rfl)
  have hkx : env.kindOf x = some .cell := by
   rcases h0 with h0 | ⟨e,_⟩
   ·exact h0
   ·cases e
  obtain ⟨hX,hbase⟩ := h5 rfl
  have e0 : storeName env x v = (do cellSet (← cellOf env x) (some v)) := by
   unfold storeName
   simp only [hkx,F.kind]
   rfl
  rw [e0]
  refine wpAny_bind (wpAny_cellOf h1 ?_)
  unfold cellSet
  refine wpAny_bind (wpAny_load h2 ?_)
  refine wpAny_update h2 (h _ ?_ fun _ => ⟨c,h1,Heap.get?_update_self _ h2 rfl⟩)
  have hs' := Heap.SameBut.update s.heap c (fun o => { o with data := .cell (some v) })
  have hnew : (s.heap.update c (fun o => { o with data := .cell (some v) })).get? c = some (U3 (some v)) := Heap.get?_update_self _ h2 rfl
  have k : n5 (· = c) s.heap (s.heap.update c (fun o => { o with data := .cell (some v) })) := fun b o e hb => (hs'.2 b hb).trans e
  have hw : ∀ b,b = c → X b := fun b e => e ▸ hX
  refine ⟨?_,?_,k.mono fun b hb => .inr ⟨hb ▸ h1,hkx⟩,?_,rfl⟩
  ·refine { kind := F.kind,glob := F.glob,blt := F.blt,llo := F.llo,lx := F.lx,lmu := F.lmu,glo := F.glo,apart := F.apart,cod := F.cod,loc := ?_,cel := ?_ }
   ·obtain ⟨m,hn,hloc⟩ := F.loc
    have hcl : env.locals ≠ c := by
     rintro rfl
     obtain ⟨o,es,ep,e1,e2,_⟩ := hn
     cases sxx h2 e1; cases e2
    refine ⟨m,hn.sameBut hs' hcl,fun y j hy => ⟨(hloc y j hy).1,fun q e hu => ?_⟩⟩
    rcases W1 e with ⟨rfl,rfl⟩ | ⟨hne,e⟩
    ·exfalso
     have e1 := hl.slot x .cel y .loc i hm hy (by simp) (by simp)
     subst e1
     have := (hl.name x .cel i .loc i hm hy (by simp) (by simp)).2
     cases this
    ·obtain ⟨v',e1,e2⟩ := (hloc y j hy).2 q e hu
     exact ⟨v',e1,D1 hw k e2⟩
   ·intro y kk j hy hkk
    obtain ⟨g0,c',w',g1,g2,g3,g4,g5,g6⟩ := F.cel y kk j hy hkk
    by_cases hcc : c' = c
    ·subst hcc
     have hyx : y = x := by
      rcases hkk with rfl | rfl
      ·exact F.apart y j x i c' hy hm g1 h1
      ·exact absurd hX (g6 rfl)
     subst hyx
     have e3 := hl.name y .cel i kk j hm hy (by simp) (by rcases hkk with rfl | rfl <;> simp)
     refine ⟨g0,c',some v,g1,hnew,g3,fun q e hu => ?_,g5,g6⟩
     rcases W1 e with ⟨rfl,rfl⟩ | ⟨hne,e⟩
     ·exact ⟨v,rfl,D1 hw k (r hu)⟩
     ·exact absurd e3.1 hne
    ·refine ⟨g0,c',w',g1,k c' _ g2 hcc,g3,fun q e hu => ?_,g5,g6⟩
     rcases W1 e with ⟨rfl,rfl⟩ | ⟨hne,e⟩
     ·exfalso
      have e1 := hl.slot x .cel y kk i hm hy (by simp) (by rcases hkk with rfl | rfl <;> simp)
      subst e1
      cases sxx h1 g1
      exact hcc rfl
     ·obtain ⟨v',e1,e2⟩ := g4 q e hu
      exact ⟨v',e1,D1 hw k e2⟩
  ·exact I.set hT hw (fun b e => e ▸ hbase) k (fun b e => by subst e; exact ⟨_,hnew⟩) (fun b e => e ▸ h3)
  ·rintro b (rfl | ⟨hb,_⟩)
   ·exact F.lx
   ·cases sxx h1 hb; exact hX
theorem J0 {M : Model} {A : Around} {E : Value → Shared → Prop} (hT : d3 R) (hl : D9 lay) (F : FR R lay env X μ s.heap ρ) (I : Inv R X μ s) {x : Str} {k : Kd} {i : Nat} {p : PV} {v : Value}
  (hm : (x,k,i) ∈ lay) (hk : k = .loc ∨ k = .cel) (r : n4 R.Θ X μ s.heap p v) {Q : Unit → Shared → Prop}
  (h : ∀ s',eB R lay env X μ (WN env x) (ρ.set i p) s s' → Q () s') : wpAny M A (storeName env x v) Q E s :=
 gf hT hl F I hm hk (fun _ => r) fun s' b _ => h s' b
end
inductive M1 (lay : Lay) : Expr → MT → Prop
 | one {x k i p} : (x,k,i) ∈ lay → k = Kd.loc ∨ k = Kd.cel → M1 lay (.Name x p) (.one i)
 | two {x k i p y k' j p' kk pp} : (x,k,i) ∈ lay → k = Kd.loc ∨ k = Kd.cel → (y,k',j) ∈ lay → k' = Kd.loc ∨ k' = Kd.cel → M1 lay (.Tuple [.Name x p,.Name y p'] kk pp) (.two i j)
inductive ru (Θ : Tms) (X : Addr → Prop) (μ : List Addr) (h : Heap) : PV → Value → Prop
 | mk (a b : PV) (va vb : Value) (T : Addr) (hT : h.IsTuple T #[va,vb]) (ra : n4 Θ X μ h a va) (rb : n4 Θ X μ h b vb) : ru Θ X μ h (.tup [a,b]) (.ref T)
noncomputable def aa (Θ : Tms) (X : Addr → Prop) (μ : List Addr) (h : Heap) : MT → PV → Value → Prop
 | .one _,p,v => n4 Θ X μ h p v
 | .two _ _,p,v => ru Θ X μ h p v
noncomputable def WT (env : Env) : Expr → Addr → Prop
 | .Name x _,b => WN env x b
 | .Tuple [.Name x _,.Name y _] _ _,b => WN env x b ∨ WN env y b
 | _,_ => False
section
variable {R : Run} {X Y : Addr → Prop} {μ : List Addr} {s s' s'' : Shared} {lay : Lay} {env : Env} {ρ ρ' : Rho} {σ : Sto}
theorem Z7 {i : Nat} {v : PV} (e : I7 (.one i) v ρ = some ρ') : i < ρ.length ∧ ρ' = ρ.set i v := j9 e
inductive uK (i j : Nat) (ρ : Rho) : PV → Rho → Prop
 | mk (a b : PV) (h : i < ρ.length ∧ j < ρ.length) : uK i j ρ (.tup [a,b]) ((ρ.set i a).set j b)
theorem eI {i j : Nat} {v : PV} (e : I7 (.two i j) v ρ = some ρ') : uK i j ρ v ρ' := by
 cases v with
 | tup l => cases l with
  | nil => exact nos e
  | cons a l => cases l with
   | nil => exact nos e
   | cons b l => cases l with
    | nil =>
     obtain ⟨h,rfl⟩ := j9 e
     exact ⟨a,b,h⟩
    | cons _ _ => exact nos e
 | _ => exact nos e
theorem aa.of {Θ : Tms} {h : Heap} {t : MT} {p : PV} {v : Value} {ρ ρ' : Rho} (r : n4 Θ X μ h p v) (e : I7 t p ρ = some ρ') : aa Θ X μ h t p v := by
 cases t with
 | one i => exact r
 | two i j =>
  obtain ⟨a,b,_⟩ := eI e
  obtain ⟨T,vs,hT,_,_,rs⟩ := r.tup_inv
  obtain ⟨va,vb,ra,rb⟩ := rs.inv2
  exact ⟨a,b,va,vb,T,hT,ra,rb⟩
theorem R2 {prog : Program} {w : World} {A : Around} {E : Value → Shared → Prop} (hT : d3 R) (hl : D9 lay) (hh : A.handled = none) (F : FR R lay env X μ s.heap ρ) (I : Inv R X μ s) {tg : Expr} {t : MT} {p : PV} {v : Value}
  (ht : M1 lay tg t) (r : aa R.Θ X μ s.heap t p v) (e : I7 t p ρ = some ρ') {Q : Unit → Shared → Prop}
  (h : ∀ s',eB R lay env X μ (WT env tg) ρ' s s' → Q () s') : wpAny (model prog w) A (assign tg env v) Q E s := by
 cases ht with
 | one hm hk =>
  obtain ⟨_,rfl⟩ := Z7 e
  exact wpAny_assign_Name (J0 hT hl F I hm hk r h)
 | @two x k i px y k' j py kk pp hm hk hm' hk' =>
  obtain ⟨a,b,va,vb,T,hT',ra,rb⟩ := r
  obtain ⟨_,rfl⟩ := j9 e
  refine wpAny_assign_Tuple hh hT' rfl rfl fun h' he => ?_
  have S : w5 R X μ s { s with heap := h' } := w5.grow (tk := s.toks) I fun b o e => he b o (fun hb => by exact nsz hb e) e
  have F₁ := F.step hT S
  refine wpAny_assignInOrder_more (wpAny_assign_Name (J0 hT hl F₁ S.inv hm hk (n9 S ra) fun s₁ b₁ => ?_))
  refine wpAny_assignInOrder_more (wpAny_assign_Name (J0 hT hl b₁.fr b₁.inv hm' hk' (D1 b₁.wx b₁.keep (n9 S rb)) fun s₂ b₂ => ?_))
  refine wpAny_assignInOrder_none (h s₂ ⟨b₂.fr,b₂.inv,?_,?_,?_⟩)
  ·intro c o ec hc
   refine b₂.keep c o (b₁.keep c o (he c o (fun hb => by exact nsz hb ec) ec) fun hw => hc (.inl hw)) fun hw => hc (.inr hw)
  ·rintro c (hc | hc)
   ·exact b₁.wx c hc
   ·exact b₂.wx c hc
  ·rw [b₂.gens,b₁.gens]
noncomputable def A4 (μ μ' : List Addr) (h : Heap) : Prop := ∃ l,μ' = μ ++ l ∧ ∀ b ∈ l,h.get? b = Option.none
theorem A4.refl (μ : List Addr) (h : Heap) : A4 μ μ h := ⟨[],by simp,fun _ h => nomatch h⟩
theorem A4.get {μ μ' : List Addr} {h : Heap} (g : A4 μ μ' h) (n : Nat) (a : Addr) (e : μ[n]? = some a) : μ'[n]? = some a := by
 obtain ⟨l,rfl,_⟩ := g
 have hn := (List.getElem?_eq_some_iff.mp e).1
 rw [List.getElem?_append_left hn]; exact e
theorem A4.off {μ μ' : List Addr} {h : Heap} (g : A4 μ μ' h) {b : Addr} {o : Obj} (e : h.get? b = some o) (hm : b ∉ μ) : b ∉ μ' := by
 obtain ⟨l,rfl,hl⟩ := g
 intro hb
 rcases List.mem_append.mp hb with hb | hb
 ·exact hm hb
 ·exact nxx (hl b hb) e
theorem A4.sub {μ μ' : List Addr} {h : Heap} (g : A4 μ μ' h) {b : Addr} (hb : b ∈ μ) : b ∈ μ' := by
 obtain ⟨l,rfl,_⟩ := g
 exact List.mem_append_left _ hb
noncomputable def XW (X : Addr → Prop) (wr : List Addr) (b : Addr) : Prop := X b ∨ b ∈ wr
noncomputable def R8 (gw : Nat → Prop) (s s' : Shared) : Prop := ∀ (g : Nat) (st : GenState),s.gens[g]? = some st → ¬ gw g → s'.gens[g]? = some st
inductive Got (P : Value → Prop) : Option Value → Prop
 | mk (v : Value) (h : P v) : Got P (some v)
structure Mv (wr : List Addr) (gw : Nat → Prop) (s s' : Shared) : Prop where
 keep : n5 (· ∈ wr) s.heap s'.heap
 os : s'.os = s.os
 bare : AllBare s.gens → AllBare s'.gens
 gens : R8 gw s s'
structure oX (R : Run) (t : MT) (wr : List Addr) (gw : Nat → Prop) (x : PV) (St : Nat → Shared → Prop) (Y : Addr → Prop) (μ : List Addr) (s : Shared) (i : Nat) (v : Value) (s' : Shared) : Prop where
 item : aa R.Θ Y μ s'.heap t x v
 st : St i s'
 mv : Mv wr gw s s'
structure gp (R : Run) (A : Around) (target : Expr) (t : MT) (I : Addr) (wr fp : List Addr) (gw : Nat → Prop) (xs : List PV) (X : Addr → Prop) (μ : List Addr) (s₁ : Shared) (St : Nat → Shared → Prop) : Prop where
 sub : ∀ b ∈ wr,b ∈ fp
 fresh : ∀ b ∈ wr,s₁.heap.get? b = Option.none
 gfresh : ∀ g,gw g → s₁.gens[g]? = Option.none
 fpx : ∀ b ∈ fp,¬ X b
 ex : ∀ i s,St i s → ∀ b ∈ fp,∃ o,s.heap.get? b = some o
 frame : ∀ i s s',St i s → (∀ b ∈ fp,∀ o,s.heap.get? b = some o → s'.heap.get? b = some o) → H8 s s' → St i s'
 turn : ∀ (Y : Addr → Prop) (μ' : List Addr) i x s (ρ ρ' : Rho) (Q : Value → Shared → Prop),(∀ b,X b → Y b) → (∀ b,Y b → X b ∨ s₁.heap.get? b = Option.none) → A4 μ μ' s₁.heap → n5 (fun b => X b ∨ b ∈ μ) s₁.heap s.heap → xs[i]? = some x → I7 t x ρ = some ρ' → St i s →
  (∀ v s',aa R.Θ Y μ' s'.heap t x v → St (i + 1) s' → Mv wr gw s s' → Q v s') →
  wpAny (model R.prog R.w) A (pyNext (.ref I)) (fun r s₁ => Got (fun v => wpAny (model R.prog R.w) A (letOwnedTupleGo target (.ref I) v) (fun _ s₂ => Q v s₂) noE s₁) r) noE s
 done : ∀ s (Q : Shared → Prop),St xs.length s → (∀ s',Mv wr gw s s' → Q s') → wpAny (model R.prog R.w) A (pyNext (.ref I)) (fun r s' => r = Option.none ∧ Q s') noE s
 self : ∀ s (Q : Shared → Prop),St 0 s → Q s → wpAny (model R.prog R.w) A (pyIter (.ref I)) (fun v s' => v = .ref I ∧ Q s') noE s
noncomputable def Acc (R : Run) (Y : Addr → Prop) (μ : List Addr) (D : Addr) (l : List PV) (h : Heap) : Prop := ∃ vs : List Value,h.IsList D vs.toArray ∧ g9 R.Θ Y μ h l vs
theorem FR.forget {h : Heap} (e : ∀ (j : Nat) v,ρ[j]? = some v → v.isUnb = false → ρ'[j]? = some v) (F : FR R lay env X μ h ρ') : FR R lay env X μ h ρ where
 kind := F.kind
 glob := F.glob
 blt := F.blt
 llo := F.llo
 lx := F.lx
 lmu := F.lmu
 glo := F.glo
 apart := F.apart
 cod := F.cod
 loc := let ⟨m,hn,hl⟩ := F.loc; ⟨m,hn,fun x i hm => ⟨(hl x i hm).1,fun v ev hu => (hl x i hm).2 v (e i v ev hu) hu⟩⟩
 cel := fun x k i hm hk => let ⟨h0,c,w,h1,h2,h3,h4,h5⟩ := F.cel x k i hm hk; ⟨h0,c,w,h1,h2,h3,fun v ev hu => h4 v (e i v ev hu) hu,h5⟩
noncomputable def fP (t : MT) (ρ : Rho) : Prop := match t with
 | .one i => ∀ v,ρ[i]? = some v → v.isUnb = true
 | .two i j => (∀ v,ρ[i]? = some v → v.isUnb = true) ∧ ∀ v,ρ[j]? = some v → v.isUnb = true
theorem bq {t : MT} (h : df t ρ ≠ false) : fP t ρ := by
 have one : ∀ (i : Nat),(ρ[i]?.map PV.isUnb).getD false ≠ false → ∀ v,ρ[i]? = some v → v.isUnb = true := by
  intro i h v e
  rw [e] at h
  simpa using h
 cases t with
 | one i => exact one i (by simpa [df] using h)
 | two i j =>
  simp only [df,ne_eq,Bool.and_eq_false_iff,not_or] at h
  exact ⟨one i h.1,one j h.2⟩
theorem R3 {t : MT} {p : PV} (hu : fP t ρ) (e : I7 t p ρ = some ρ') : ∀ (j : Nat) v,ρ[j]? = some v → v.isUnb = false → ρ'[j]? = some v := by
 have one : ∀ (i : Nat) (q : PV) (ρ : Rho),(∀ v,ρ[i]? = some v → v.isUnb = true) → ∀ (j : Nat) v,ρ[j]? = some v → v.isUnb = false → (ρ.set i q)[j]? = some v := by
  intro i q ρ hi j v ej hv
  have : i ≠ j := by
   rintro rfl
   exact nbb (hi v ej) hv
  rw [List.getElem?_set_ne this]; exact ej
 intro j v ej hv
 cases t with
 | one i =>
  obtain ⟨_,rfl⟩ := Z7 e
  exact one i p ρ hu j v ej hv
 | two a b =>
  obtain ⟨x,y,_⟩ := eI e
  have h1 := one a x ρ hu.1 j v ej hv
  have : b ≠ j := by
   rintro rfl
   exact nbb (hu.2 v ej) hv
  rw [List.getElem?_set_ne this]; exact h1
theorem Inv.mv {wr : List Addr} {gw : Nat → Prop} (hT : d3 R) (I : Inv R Y μ s) (m : Mv wr gw s s') (hw : ∀ b ∈ wr,Y b) (ht : ∀ b ∈ wr,b ∉ Tabs) (hm : ∀ b ∈ wr,b ∉ μ) (up : ∀ b,X b → Y b) (xt : ∀ b ∈ Tabs,X b)
  (ex : ∀ b,X b → b ∈ wr → ∃ o,s'.heap.get? b = some o) : Inv R X μ s' where
 keep := fun b o e hb => m.keep b o (I.keep b o e hb) fun hW => (I.xlo b (hw b hW)).elim hb fun h0 => by exact nxx h0 e
 tabs := fun j t e => by
  obtain ⟨hp,ps,h1,h2,h3⟩ := I.tabs j t e
  refine ⟨hp,ps,m.keep _ _ h1 fun hW => ht _ hW hp,h2,fun cv e => ?_⟩
  obtain ⟨c',e1,e2,e3,e4⟩ := h3 cv e
  obtain ⟨c,o,vs,t',e5,g,r⟩ := e2
  cases e5
  exact ⟨c',e1,⟨c',o,vs,t',rfl,m.keep _ _ g fun hW => e3 (hw _ hW),r⟩,fun hx => e3 (up _ hx),e4⟩
 os := m.os.trans I.os
 bare := m.bare I.bare
 xt := xt
 xlo := fun b hb => I.xlo b (up b hb)
 xex := fun b hb => by
  by_cases hW : b ∈ wr
  ·exact ex b hb hW
  ·obtain ⟨o,e⟩ := I.xex b (up b hb); exact ⟨o,m.keep b o e hW⟩
 mulo := I.mulo
 muex := fun b hb => by
  obtain ⟨o,e⟩ := I.muex b hb
  exact ⟨o,m.keep b o e fun hW => hm b hW hb⟩
theorem FR.write {W : Addr → Prop} {h h' : Heap} (F : FR R lay env Y μ h ρ) (hw : ∀ b,W b → Y b) (k : n5 W h h') (hL : ¬ W env.locals) (hc : ∀ x kk i c,(x,kk,i) ∈ lay → kk = .cel ∨ kk = .frz → env.cells.lookup x = some c → ¬ W c) : FR R lay env Y μ h' ρ where
 kind := F.kind
 glob := F.glob
 blt := F.blt
 llo := F.llo
 lx := F.lx
 lmu := F.lmu
 glo := F.glo
 apart := F.apart
 cod := F.cod
 loc := by
  obtain ⟨m,hn,hl⟩ := F.loc
  refine ⟨m,hn.at' fun o e => k _ o e hL,fun x i hm => ⟨(hl x i hm).1,fun v ev hu => ?_⟩⟩
  obtain ⟨v',e1,e2⟩ := (hl x i hm).2 v ev hu
  exact ⟨v',e1,D1 hw k e2⟩
 cel := fun x kk i hm hk => by
  obtain ⟨h0,c,w,h1,h2,h3,h4,h5⟩ := F.cel x kk i hm hk
  refine ⟨h0,c,w,h1,k _ _ h2 (hc x kk i c hm hk h1),h3,fun v ev hu => ?_,h5⟩
  obtain ⟨v',e1,e2⟩ := h4 v ev hu
  exact ⟨v',e1,D1 hw k e2⟩
theorem FR.down {h : Heap} (F : FR R lay env Y μ h ρ) (up : ∀ b,X b → Y b) (hL : X env.locals) (hc : ∀ x kk i c,(x,kk,i) ∈ lay → kk = .cel ∨ kk = .frz → env.cells.lookup x = some c → Y c → X c) : FR R lay env X μ h ρ where
 kind := F.kind
 glob := F.glob
 blt := F.blt
 llo := F.llo
 lx := hL
 lmu := F.lmu
 glo := F.glo
 apart := F.apart
 cod := F.cod
 loc := by
  obtain ⟨m,hn,hl⟩ := F.loc
  refine ⟨m,hn,fun x i hm => ⟨(hl x i hm).1,fun v ev hu => ?_⟩⟩
  obtain ⟨v',e1,e2⟩ := (hl x i hm).2 v ev hu
  exact ⟨v',e1,C6 up e2⟩
 cel := fun x kk i hm hk => by
  obtain ⟨h0,c,w,h1,h2,h3,h4,h5,h6⟩ := F.cel x kk i hm hk
  refine ⟨h0,c,w,h1,h2,h3,fun v ev hu => ?_,fun e => ⟨hc x kk i c hm hk h1 (h5 e).1,(h5 e).2⟩,fun e hx => h6 e (up _ hx)⟩
  obtain ⟨v',e1,e2⟩ := h4 v ev hu
  exact ⟨v',e1,C6 up e2⟩
theorem mw {tg : Expr} {t : MT} (ht : M1 lay tg t) : WT env tg env.locals := by
 cases ht with
 | one _ _ => exact .inl rfl
 | two _ _ _ _ => exact .inl (.inl rfl)
theorem Acc.set {W : Addr → Prop} {D : Addr} {l : List PV} {h h' : Heap} (a : Acc R Y μ D l h) (hw : ∀ b,W b → Y b) (k : n5 W h h') (hD : ¬ W D) : Acc R Y μ D l h' := by
 obtain ⟨vs,hl,r⟩ := a
 exact ⟨vs,hl.at fun o e => k _ o e hD,Z0 hw k r⟩
inductive CW (Yb : Addr → Prop) (wr μ : List Addr) (b : Addr) : Prop
 | y (h : Yb b) | wr (h : b ∈ wr) | mu (h : b ∈ μ)
inductive DW (D : Addr) (env : Env) (target : Expr) (WD : Addr → Prop) (wr : List Addr) (b : Addr) : Prop
 | tab (h : b ∈ Tabs) | eq (h : b = D) | wt (h : WT env target b) | wd (h : WD b) | wr (h : b ∈ wr)
inductive EW (D : Addr) (WD : Addr → Prop) (b : Addr) : Prop
 | tab (h : b ∈ Tabs) | eq (h : b = D) | wd (h : WD b)
theorem CW.old {Yb : Addr → Prop} {wr μ : List Addr} {b : Addr} {P : Prop} (w : CW Yb wr μ b) (h1 : Yb b → P) (h2 : b ∈ wr → P) (h3 : b ∈ μ → P) : P := by
 cases w with | y h => exact h1 h | wr h => exact h2 h | mu h => exact h3 h
theorem EW.old {D : Addr} {WD : Addr → Prop} {b : Addr} {P : Prop} (w : EW D WD b) (h1 : b ∈ Tabs → P) (h2 : b = D → P) (h3 : WD b → P) : P := by
 cases w with | tab h => exact h1 h | eq h => exact h2 h | wd h => exact h3 h
theorem rD {V W T Z : Addr → Prop} {a b c d : Heap} (k1 : n5 V a b) (k2 : n5 W b c) (k3 : n5 T c d) (h1 : ∀ b,V b → Z b) (h2 : ∀ b,W b → Z b) (h3 : ∀ b,T b → Z b) : n5 Z a d :=
 ((k1.mono h1).trans (k2.mono h2)).trans (k3.mono h3)
inductive CJ (R : Run) (d : Nat) (lay : Lay) (env : Env) (A : Around) (μ : List Addr) (s₁ s : Shared) (ρ : Rho) (σ : Sto) (wr : List Addr) (gw : Nat → Prop) (Yb WD : Addr → Prop) (D : Addr) (target : Expr) (St : Nat → Shared → Prop) (n : Nat) (go : Nat → List PV → Prop) : Nat → Shared → Prop
 | mk (i : Nat) (acc : List PV) (s' : Shared) (hi : i ≤ n) (c : Cx R d lay env A (XW Yb wr) μ s' ρ σ) (st : St i s') (k1 : n5 (CW Yb wr μ) s₁.heap s'.heap) (k2 : n5 (DW D env target WD wr) s.heap s'.heap) (kg : R8 gw s s') (ac : Acc R (XW Yb wr) μ D acc s'.heap) (e : go i acc) :
  CJ R d lay env A μ s₁ s ρ σ wr gw Yb WD D target St n go (n - i) s'
theorem bI {A : Around} {C : Orc} {d : Nat} (hT : d3 R) (hl : D9 lay) {elt : Expr} {gens : List Comprehension} {scope : Scope} {cp : Pos} {δ : Nat} {target : Expr} {t : MT} {p : Pos} {ifs : List Expr} {I D : Addr} {wr fp : List Addr} {gw : Nat → Prop} {xs : List PV} {X₀ Yb WD : Addr → Prop} {s₁ : Shared} {St : Nat → Shared → Prop} {em : Sem Unit}
  {test : Rho → Option Bool} {el : Rho → Option (List PV)} {Rr : Result → Shared → Prop}
  (hturn : compTurn (.ListComp elt gens scope cp) δ (.ref I) (.ref D) env = (do
   standAt p
   match ← pyNext (.ref I) with
   | none => pure (.done .next)
   | some v =>
    letOwnedTupleGo target (.ref I) v
    assign target env v
    let mut ok := true
    for c in ifs do
     if ok then ok ← isTrue c env (eval c env)
    if ok then em
    again (.compLoop (.ListComp elt gens scope cp) δ (.ref I) (.ref D) env)))
  (T : gp R A target t I wr fp gw xs X₀ μ s₁ St) (ht : M1 lay target t) (hu : fP t ρ) (xt : ∀ b ∈ Tabs,X₀ b)
  (up : ∀ b,X₀ b → Yb b) (new : ∀ b,Yb b → X₀ b ∨ s₁.heap.get? b = Option.none) (hwY : ∀ b ∈ wr,¬ Yb b) (hwm : ∀ b ∈ wr,b ∉ μ)
  (hD : Yb D) (hDW : ¬ WT env target D) (hDt : D ∉ Tabs) (hWD : ∀ b,WD b → Yb b)
  (hfp : ∀ b ∈ fp,b ≠ D ∧ ¬ WT env target b ∧ ¬ WD b) (hcw : ∀ x c,env.cells.lookup x = some c → c ∉ wr)
  (htest : ∀ s ρ' b,Cx R d lay env A (XW Yb wr) μ s ρ' σ → test ρ' = some b →
   wpAny (model R.prog R.w) A (forIn ifs true fun c r => if r = true then do let ok ← isTrue c env (eval c env); pure (ForInStep.yield ok) else pure (ForInStep.yield r)) (fun b' s' => b' = b ∧ w5 R (XW Yb wr) μ s s') noE s)
  (hem : ∀ s ρ' acc l,Cx R d lay env A (XW Yb wr) μ s ρ' σ → (∀ (j : Nat) v,ρ[j]? = some v → v.isUnb = false → ρ'[j]? = some v) → n5 (CW Yb wr μ) s₁.heap s.heap → Acc R (XW Yb wr) μ D acc s.heap → el ρ' = some l → (acc ++ l).length ≤ a8 →
   wpAny (model R.prog R.w) A em (fun _ s' => Cx R d lay env A (XW Yb wr) μ s' ρ' σ ∧ n5 (EW D WD) s.heap s'.heap ∧ H8 s s' ∧ Acc R (XW Yb wr) μ D (acc ++ l) s'.heap) noE s)
  {acc₀ out : List PV} (hgo : D8 test el t ρ xs = some out) (hlen : (acc₀ ++ out).length ≤ a8)
  (c₀ : Cx R d lay env A (XW Yb wr) μ s ρ σ) (hk : n5 (CW Yb wr μ) s₁.heap s.heap) (hst : St 0 s) (ha : Acc R (XW Yb wr) μ D acc₀ s.heap)
  (hR : ∀ s',Cx R d lay env A Yb μ s' ρ σ → n5 (DW D env target WD wr) s.heap s'.heap → R8 gw s s' → Acc R Yb μ D (acc₀ ++ out) s'.heap → Rr (.ok .next) s') :
  codeAny (model R.prog R.w) A (.compLoop (.ListComp elt gens scope cp) δ (.ref I) (.ref D) env) Rr s := by
 have xtY : ∀ b ∈ Tabs,Yb b := fun b hb => up b (xt b hb)
 have hwt : ∀ b ∈ wr,b ∉ Tabs := fun b hb ht => T.fpx b (T.sub b hb) (xt b ht)
 have hDwr : D ∉ wr := fun h => hwY D h hD
 have hLw : env.locals ∉ wr := fun h => (hfp _ (T.sub _ h)).2.1 (mw ht)
 refine codeAny_loop rfl (CJ R d lay env A μ s₁ s ρ σ wr gw Yb WD D target St xs.length (fun i acc => ∃ rest,D8 test el t ρ (xs.drop i) = some rest ∧ acc ++ rest = acc₀ ++ out)) (fun k s' hI => ?_) xs.length (.mk (n := xs.length) 0 acc₀ s (Nat.zero_le _) c₀ hst hk (.refl _ _) (fun _ _ e _ => e) ha ⟨out,hgo,rfl⟩)
 obtain ⟨i,acc,s',hi,c,st,k1,k2,kg,ac,rest,eg,er⟩ := hI
 show wpAny _ A ((compTurn (.ListComp elt gens scope cp) δ (.ref I) (.ref D) env).onRaise (fun x => do noteFrame x env; theTreesLotGoes x)) _ _ s'
 refine wpAny_noted ?_
 rw [hturn]
 refine wpAny_bind (wpAny_standAt (wpAny_bind ?_))
 have hwY' : ∀ b,b ∈ wr → XW Yb wr b := fun b hb => .inr hb
 by_cases hlt : i < xs.length
 ·have hx : xs[i]? = some xs[i] := List.getElem?_eq_getElem hlt
  rw [List.drop_eq_getElem_cons hlt] at eg
  obtain ⟨ρ',eb,eg⟩ := bd eg
  obtain ⟨tt,et,eg⟩ := bd eg
  refine wt (T.turn (XW Yb wr) μ i xs[i] s' ρ ρ' (oX R t wr gw xs[i] St (XW Yb wr) μ s' (i + 1)) (fun b hb => .inl (up b hb))
   (fun b hb => hb.elim (new b) fun hw => .inr (T.fresh b hw)) (.refl _ _) (fun b o e hb => k1 b o e fun h => h.old (fun h => (new b h).elim (fun h => hb (.inl h)) fun h0 => by exact nxx h0 e) (fun h => by exact nxx (T.fresh b h) e) fun h => hb (.inr h)) hx eb st fun v s₂ a b c => ⟨a,b,c⟩) (fun r s₂ h₂ => ?_)
  obtain ⟨v,hgo'⟩ := h₂
  refine wpAny_bind (wt hgo' fun _ s₃ h₃ => ?_)
  have mv := h₃.mv
  have F₃ := c.fr.write hwY' mv.keep hLw (fun x _ _ c' _ _ h => hcw x c' h)
  have I₃ : Inv R (XW Yb wr) μ s₃ := c.inv.mv hT mv hwY' hwt hwm (fun _ h => h) (fun b hb => .inl (xtY b hb)) (fun b _ hb => T.ex _ _ h₃.st b (T.sub b hb))
  refine wpAny_bind (R2 hT hl c.room.1 F₃ I₃ ht h₃.item eb fun s₄ b₄ => ?_)
  have c₄ : Cx R d lay env A (XW Yb wr) μ s₄ ρ' σ := ⟨b₄.fr,(c.st.set hwY' mv.keep).set b₄.wx b₄.keep,b₄.inv,c.room⟩
  refine wpAny_bind (wt (htest s₄ ρ' tt c₄ et) fun bb s₅ h₅ => ?_)
  obtain ⟨rfl,S₅⟩ := h₅
  have c₅ := c₄.step hT S₅
  have a₅ : Acc R (XW Yb wr) μ D acc s₅.heap := ((ac.set hwY' mv.keep hDwr).set b₄.wx b₄.keep hDW).set (fun b hb => .inl (xtY b hb)) S₅.keep hDt
  have k15 := k1.trans (rD mv.keep b₄.keep S₅.keep (fun b => .wr) (fun b hb => (b₄.wx b hb).elim .y .wr) fun b hb => .y (xtY b hb))
  have k25 := k2.trans (rD mv.keep b₄.keep S₅.keep (fun b => .wr) (fun b => .wt) fun b => .tab)
  have g35 : H8 s₃ s₅ := fun g q e => S₅.gens g q (by rw [b₄.gens]; exact e)
  have kg5 : R8 gw s s₅ := fun g q e h => g35 g q (mv.gens g q (kg g q e h) h)
  have fp35 : ∀ b ∈ fp,∀ o,s₃.heap.get? b = some o → s₅.heap.get? b = some o := fun b hb o e => S₅.keep b o (b₄.keep b o e (hfp b hb).2.1) fun ht => T.fpx b hb (xt b ht)
  cases bb with
  | false => exact wpAny_pure ⟨rfl,xs.length - (i + 1),la4 hlt,.mk (i + 1) acc s₅ hlt ⟨c₅.fr.forget (R3 hu eb),c₅.st,c₅.inv,c₅.room⟩ (T.frame _ _ _ h₃.st fp35 g35) k15 k25 kg5 a₅ ⟨rest,eg,er⟩⟩
  | true =>
   obtain ⟨l,el',eg⟩ := bd eg
   obtain ⟨rest',eg2,rfl⟩ := mq eg
   have hlen' : (acc ++ l).length ≤ a8 := by
    have e1 := congrArg List.length er
    simp only [List.length_append] at e1 hlen ⊢
    lia
   refine wpAny_bind (wt (hem s₅ ρ' acc l c₅ (R3 hu eb) k15 a₅ el' hlen') fun _ s₆ h₆ => ?_)
   obtain ⟨c₆,k56,g56,a₆⟩ := h₆
   exact wpAny_pure ⟨rfl,xs.length - (i + 1),la4 hlt,.mk (i + 1) (acc ++ l) s₆ hlt ⟨c₆.fr.forget (R3 hu eb),c₆.st,c₆.inv,c₆.room⟩ (T.frame _ _ _ h₃.st (fun b hb o e => k56 b o (fp35 b hb o e) fun h => h.old (fun h => T.fpx b hb (xt b h)) (hfp b hb).1 (hfp b hb).2.2) (g35.trans g56))
    (k15.trans (k56.mono fun b hb => hb.old (fun h => .y (xtY b h)) (fun h => .y (h ▸ hD)) fun h => .y (hWD b h))) (k25.trans (k56.mono fun b hb => hb.old .tab .eq .wd)) (fun g q e h => g56 g q (kg5 g q e h)) a₆ ⟨rest',eg2,by rw [← er]; simp⟩⟩
 ·have hin : i = xs.length := Nat.le_antisymm hi (Nat.le_of_not_lt hlt)
  subst hin
  rw [List.drop_length] at eg
  cases eg
  refine wt (T.done s' (fun s'' => Mv wr gw s' s'') st fun s'' m => m) (fun r s'' h => ?_)
  obtain ⟨rfl,mv⟩ := h
  have upY : ∀ b,Yb b → XW Yb wr b := fun b hb => .inl hb
  refine wpAny_pure (hR s'' ⟨?_,?_,?_,c.room⟩ (k2.trans (mv.keep.mono fun b => .wr)) (fun g q e h => mv.gens g q (kg g q e h) h) ?_)
  ·exact (c.fr.write hwY' mv.keep hLw (fun x _ _ c' _ _ h => hcw x c' h)).down upY (c.fr.lx.elim id fun h => absurd h hLw) fun x _ _ b _ _ hb hY => hY.elim id fun h => absurd h (hcw x b hb)
  ·exact (c.st.set hwY' mv.keep).down upY
  ·exact c.inv.mv hT mv hwY' hwt hwm upY xtY fun b hb hW => absurd hb (hwY b hW)
  ·rw [List.append_nil] at er
   subst er
   obtain ⟨vs,hl,r⟩ := ac.set hwY' mv.keep hDwr
   exact ⟨vs,hl,az upY r⟩
end
noncomputable def gi (e : Expr) : Prop := (fun (env : Env) (x : Value) => foldedSetIterable e env x) = fun _ x => pure x
theorem X6 {e : Expr} (h : gi e) (env : Env) (x : Value) : foldedSetIterable e env x = pure x := congrFun (congrFun h env) x
inductive dL (R : Run) (A : Around) (tg : Expr) (t : MT) (bx : Bool) (xs : List PV) (X : Addr → Prop) (μ : List Addr) (s : Shared) (it : Value) (s₂ : Shared) : Prop
 | mk (s₁ : Shared) (I : Addr) (wr fp : List Addr) (gw : Nat → Prop) (St : Nat → Shared → Prop) (e : it = .ref I) (S : w5 R X μ s s₁) (E : Ext R X (XW X wr) μ s₁ s₂) (T : gp R A tg t I wr fp gw xs X μ s₁ St) (st : St 0 s₂)
   (hf : bx = false → ∀ b ∈ fp,b ∉ μ) : dL R A tg t bx xs X μ s it s₂
noncomputable def IS (R : Run) (C : Orc) (d : Nat) (lay : Lay) (e : Expr) (tg : Expr) (t : MT) (m : MI) : Prop :=
 gi e ∧ ∀ env A X μ s ρ σ xs,Cx R d lay env A X μ s ρ σ → evI C m ρ σ = some xs →
  wpAny (model R.prog R.w) A (eval e env) (fun xv s₀ => wpAny (model R.prog R.w) A (pyIter xv) (dL R A tg t m.isBoxl xs X μ s) noE s₀) noE s
theorem fa1 {P : Addr → Prop} {a : Addr} (h : P a) : ∀ b ∈ [a],P b := fun b hb => List.mem_singleton.mp hb ▸ h
theorem faC {P : Addr → Prop} {a : Addr} {l : List Addr} (h : P a) (k : ∀ b ∈ l,P b) : ∀ b ∈ a :: l,P b := List.forall_mem_cons.mpr ⟨h,k⟩
section
variable {R : Run} {C : Orc} {d : Nat} {X Y : Addr → Prop} {μ : List Addr} {s s' s₁ s₂ : Shared} {lay : Lay} {env : Env} {A : Around} {ρ ρ' : Rho} {σ : Sto} {mg mb : Str → Option Value} {tg : Expr} {t : MT}
theorem K0 {μ' : List Addr} {h : Heap} (up : ∀ b,X b → Y b) (new : ∀ b,Y b → X b ∨ s₁.heap.get? b = Option.none) (g : A4 μ μ' s₁.heap) (hk : n5 (fun b => X b ∨ b ∈ μ) s₁.heap h) {p : PV} {v : Value} (r : n4 R.Θ X μ s₁.heap p v) : n4 R.Θ Y μ' h p v :=
 M3 (X' := Y) (μ' := μ') (h' := h) (fun b o e hx hm => ⟨hk b o e fun q => q.elim hx hm,fun hy => (new b hy).elim hx (fun h0 => by exact nxx h0 e),g.off e hm⟩) g.get r
theorem G2 {M : Model} {I : Addr} {o : Obj} {n : String} {v : Value} {Q : Unit → Shared → Prop} {E : Value → Shared → Prop} (ho : s.heap.get? I = some o) (hc : o.cls = .type n)
  (hn : ["enumerate","zip","dict_itemiterator","dict_reverseitemiterator","odict_iterator","itertools.zip_longest","itertools.pairwise"].contains n = false) (h : Q () s) : wpAny M A (letOwnedTupleGo tg (.ref I) v) Q E s := by
 have key : ∀ (elts : List Expr),wpAny M A (do
   let (.ref r,.ref a) := (Value.ref I,v) | return
   let o ← load r
   match o.cls,o.data with
   | .type n,.fields vs =>
    if ["enumerate","zip","dict_itemiterator","dict_reverseitemiterator","odict_iterator","itertools.zip_longest","itertools.pairwise"].contains n && vs[0]? == some (rawInt a) then
     rule "for.unpacks-the-owned-tuple"
     updateField r 0 .none
   | _,_ => pure ()) Q E s := by
  intro _
  cases v with
  | ref a =>
   refine wpAny_bind (wpAny_load ho ?_)
   obtain ⟨c,dd,dt,sl⟩ := o
   simp only at hc
   subst hc
   cases dt <;> first | exact wpAny_pure h | skip
   simp only [hn,Bool.false_and,u4,if_false]
   exact wpAny_pure h
  | _ => exact wpAny_pure h
 cases tg <;> first | exact key [] | exact wpAny_pure h
theorem O8 {I : Addr} {fp wr : List Addr} {n : Nat} {P Md : Nat → Value → Heap → Prop} {St : Nat → Heap → Prop} {xs : List PV} (W : KTurns R.prog R.w A tg I fp wr n P Md St) (hn : n = xs.length)
  (fresh : ∀ b ∈ wr,s₁.heap.get? b = Option.none) (fpx : ∀ b ∈ fp,¬ X b) (ex : ∀ i h,St i h → ∀ b ∈ fp,∃ o,h.get? b = some o)
  (rel : ∀ (Y : Addr → Prop) (μ' : List Addr) i x v h (ρ ρ' : Rho),(∀ b,X b → Y b) → (∀ b,Y b → X b ∨ s₁.heap.get? b = Option.none) → A4 μ μ' s₁.heap → n5 (fun b => X b ∨ b ∈ μ) s₁.heap h → xs[i]? = some x → I7 t x ρ = some ρ' → P i v h → aa R.Θ Y μ' h t x v)
  (self : ∀ s (Q : Shared → Prop),St 0 s.heap → Q s → wpAny (model R.prog R.w) A (pyIter (.ref I)) (fun v s' => v = .ref I ∧ Q s') noE s) :
  gp R A tg t I wr fp (fun _ => False) xs X μ s₁ (fun i s => St i s.heap) where
 sub := W.sub
 fresh := fresh
 gfresh := fun _ h => h.elim
 fpx := fpx
 ex := fun i s st => ex i _ st
 frame := fun i s s' st hk _ => W.frame i _ _ st hk
 turn := fun Y μ' i x s ρ ρ' Q up new g hk hx eb st hQ => by
  have hlt : i < n := by
   rw [hn]
   exact (List.getElem?_eq_some_iff.mp hx).1
  refine W.item i s _ _ hlt st fun v h' tk hMd k1 => ⟨v,W.go i v _ _ _ hMd fun h'' hP st' k2 => ?_⟩
  have k12 : n5 (· ∈ wr) s.heap h'' := fun b o e hb => k2 b o hb (k1 b o hb e)
  exact hQ v _ (rel Y μ' i x v h'' ρ ρ' up new g (fun b o e hb => k12 b o (hk b o e hb) fun hw => by exact nxx (fresh b hw) e) hx eb hP) st' ⟨k12,rfl,fun h => h,fun g q e _ => e⟩
 done := fun s Q st hQ => by
  rw [← hn] at st
  exact W.done s _ _ st fun h' tk k => ⟨rfl,hQ _ ⟨fun b o e hb => k b o hb e,rfl,fun h => h,fun g q e _ => e⟩⟩
 self := self
theorem jm (hh : A.handled = none) (I : Inv R X μ s₁) {l : Addr} {vs : List Value} {xs : List PV} (hl : s₁.heap.IsList l vs.toArray) (hx : ¬ X l) (rs : g9 R.Θ X μ s₁.heap xs vs) :
  gp R A tg t s₁.heap.objs.size [s₁.heap.objs.size] [s₁.heap.objs.size,l] (fun _ => False) xs X μ s₁ (fun i s => s.heap.IsListIter s₁.heap.objs.size l i ∧ s.heap.IsList l vs.toArray) := by
 have hne := (Z8 hl).1
 refine O8 (KTurns.ofWalks (Walks.list hh _ l hne vs.toArray) fun i v s Q E st hQ => ?_) (by simp [rs.length]) (fa1 (Heap.none_at_size _)) (faC I.fresh.1 (fa1 hx)) (fun i h st => ?_) (fun Y μ' i x v h ρ ρ' up new g hk hx' eb hP => ?_) (fun s Q st hQ => wpAny_pyIter_listiter st.1 ⟨rfl,hQ⟩)
 ·obtain ⟨o,ho,hc,_⟩ := st.1
  exact G2 ho hc (by decide) hQ
 ·obtain ⟨⟨o,ho,_⟩,o',ho',_⟩ := st; exact faC ⟨o,ho⟩ (fa1 ⟨o',ho'⟩)
 ·obtain ⟨v',e1,e2⟩ := rs.get i x hx'
  have hP' : vs[i]? = some v := List.getElem?_toArray.symm.trans hP
  exact aa.of (K0 up new g hk (Option.some.inj (e1.symm.trans hP') ▸ e2)) eb
theorem gJ (hh : A.handled = none) (I : Inv R X μ s₁) {l : Addr} {vs : List Value} {xs : List PV} (hl : s₁.heap.IsTuple l vs.toArray) (hx : ¬ X l) (rs : g9 R.Θ X μ s₁.heap xs vs) :
  gp R A tg t s₁.heap.objs.size [s₁.heap.objs.size] [s₁.heap.objs.size,l] (fun _ => False) xs X μ s₁ (fun i s => s.heap.IsTupleIter s₁.heap.objs.size l i ∧ s.heap.IsTuple l vs.toArray) := by
 have hne : l ≠ s₁.heap.objs.size := by obtain ⟨_,e,_⟩ := hl; exact Nat.ne_of_lt (Heap.lt_size e)
 refine O8 (KTurns.ofWalks (Walks.tuple hh _ l hne vs.toArray) fun i v s Q E st hQ => ?_) (by simp [rs.length]) (fa1 (Heap.none_at_size _)) (faC I.fresh.1 (fa1 hx)) (fun i h st => ?_) (fun Y μ' i x v h ρ ρ' up new g hk hx' eb hP => ?_) (fun s Q st hQ => wpAny_pyIter_tupleiter st.1 ⟨rfl,hQ⟩)
 ·obtain ⟨o,ho,hc,_⟩ := st.1
  exact G2 ho hc (by decide) hQ
 ·obtain ⟨⟨o,ho,_⟩,o',ho',_⟩ := st; exact faC ⟨o,ho⟩ (fa1 ⟨o',ho'⟩)
 ·obtain ⟨v',e1,e2⟩ := rs.get i x hx'
  have hP' : vs[i]? = some v := List.getElem?_toArray.symm.trans hP
  exact aa.of (K0 up new g hk (Option.some.inj (e1.symm.trans hP') ▸ e2)) eb
theorem fZ (hh : A.handled = none) (I : Inv R X μ s₁) {l : List Nat} {tk : Tok} {ty : String} (hty : ["enumerate","zip","dict_itemiterator","dict_reverseitemiterator","odict_iterator","itertools.zip_longest","itertools.pairwise"].contains ty = false)
  (W : Walks R.prog R.w A s₁.heap.objs.size [s₁.heap.objs.size] [s₁.heap.objs.size] (str l).cps.size (SignAt (str l)) (fun i h => h.IsStrIter s₁.heap.objs.size ty (str l) tk i)) :
  gp R A tg t s₁.heap.objs.size [s₁.heap.objs.size] [s₁.heap.objs.size] (fun _ => False) (l.map fun c => .str [c]) X μ s₁ (fun i s => s.heap.IsStrIter s₁.heap.objs.size ty (str l) tk i) := by
 refine O8 (KTurns.ofWalks W fun i v s Q E st hQ => ?_) (by simp) (fa1 (Heap.none_at_size _)) (fa1 I.fresh.1) (fun i h st => ?_) (fun Y μ' i x v h ρ ρ' up new g hk hx' eb hP => ?_) (fun s Q st hQ => W.self 0 s _ _ st ⟨rfl,hQ⟩)
 ·obtain ⟨o,ho,hc,_⟩ := st
  exact G2 ho hc hty hQ
 ·obtain ⟨o,ho,_⟩ := st; exact fa1 ⟨o,ho⟩
 ·obtain ⟨c,u,e1,rfl⟩ := hP
  have e2 : l[i]? = some c := by
   exact List.getElem?_toArray.symm.trans e1
  rw [List.getElem?_map,e2] at hx'
  cases hx'
  exact aa.of (.str [c] u) eb
theorem Ext.laid (I : Inv R X μ s₁) {h' : Heap} {tk : Nat} {wr : List Addr} (k : ∀ b o,s₁.heap.get? b = some o → h'.get? b = some o) (hw : ∀ b ∈ wr,s₁.heap.get? b = Option.none ∧ ∃ o,h'.get? b = some o) : Ext R X (XW X wr) μ s₁ { s₁ with heap := h',toks := tk } := by
 have S : w5 R X μ s₁ { s₁ with heap := h',toks := tk } := w5.grow I k
 refine ⟨S.keep,?_,S.gens,I.xt,fun _ h => .inl h,fun b hb => hb.elim .inl fun h => .inr (hw b h).1⟩
 refine { keep := S.inv.keep,tabs := fun j t e => ?_,os := S.inv.os,bare := S.inv.bare,xt := fun b hb => .inl (I.xt b hb),xlo := fun b hb => ?_,xex := fun b hb => ?_,mulo := S.inv.mulo,muex := S.inv.muex }
 ·obtain ⟨hp,ps,h1,h2,h3⟩ := I.tabs j t e
  refine ⟨hp,ps,k _ _ h1,h2,fun cv e => ?_⟩
  obtain ⟨c',e1,e2,e3,e4⟩ := h3 cv e
  refine ⟨c',e1,e2.keeps k,?_,e4⟩
  rintro (h | h)
  ·exact e3 h
  ·obtain ⟨c,o,vs,t',e5,g,r⟩ := e2
   cases e5
   exact nxx ((hw _ h).1) g
 ·rcases hb with h | h
  ·exact I.xlo b h
  ·exact .inr (I.fresh_base (hw b h).1)
 ·rcases hb with h | h
  ·exact S.inv.xex b h
  ·exact (hw b h).2
theorem Ext.push (I : Inv R X μ s₁) (o : Obj) (hf : o.isFreed = false) {tk : Nat} : Ext R X (fun b => X b ∨ b ∈ [s₁.heap.objs.size]) μ s₁ { s₁ with heap := s₁.heap.push o,toks := tk } :=
 Ext.laid I (fun _ _ e => Heap.get?_push_of_some _ e) (fa1 ⟨Heap.none_at_size _,o,Heap.get?_push_size _ hf⟩)
theorem fQ {bx : Bool} {S₀ : Shared} (hh : A.handled = none) (S : w5 R X μ S₀ s₁) {l : Addr} {vs : List Value} {xs : List PV} (hl : s₁.heap.IsList l vs.toArray) (hx : ¬ X l) (rs : g9 R.Θ X μ s₁.heap xs vs) (hm : bx = false → l ∉ μ) :
  wpAny (model R.prog R.w) A (pyIter (.ref l)) (dL R A tg t bx xs X μ S₀) noE s₁ :=
 wpAny_pyIter_list hl ⟨s₁,_,_,_,_,_,rfl,S,Ext.push S.inv _ rfl,jm hh S.inv hl hx rs,⟨⟨_,Heap.get?_push_size _ rfl,rfl,rfl⟩,hl.push _⟩,fun h => faC S.inv.fresh.2 (fa1 (hm h))⟩
theorem jB {bx : Bool} {S₀ : Shared} (hh : A.handled = none) (S : w5 R X μ S₀ s₁) {l : Addr} {vs : List Value} {xs : List PV} (hl : s₁.heap.IsTuple l vs.toArray) (hx : ¬ X l) (rs : g9 R.Θ X μ s₁.heap xs vs) (hm : l ∉ μ) :
  wpAny (model R.prog R.w) A (pyIter (.ref l)) (dL R A tg t bx xs X μ S₀) noE s₁ :=
 wpAny_pyIter_tuple hl ⟨s₁,_,_,_,_,_,rfl,S,Ext.push S.inv _ rfl,gJ hh S.inv hl hx rs,⟨⟨_,Heap.get?_push_size _ rfl,rfl,rfl⟩,hl.push _⟩,fun _ => faC S.inv.fresh.2 (fa1 hm)⟩
theorem nH {bx : Bool} {S₀ : Shared} (hh : A.handled = none) (S : w5 R X μ S₀ s₁) {l : List Nat} {tk : Tok} :
  wpAny (model R.prog R.w) A (pyIter (.str (str l) tk)) (dL R A tg t bx (l.map fun c => .str [c]) X μ S₀) noE s₁ := by
 cases ha : (str l).cps.all (· < 128)
 ·exact wpAny_pyIter_wide ha ⟨s₁,_,_,_,_,_,rfl,S,Ext.push S.inv _ rfl,fZ hh S.inv (by decide) (Walks.strWide hh _ _ tk),⟨_,Heap.get?_push_size _ rfl,rfl,rfl⟩,fun _ => fa1 S.inv.fresh.2⟩
 ·exact wpAny_pyIter_ascii ha ⟨s₁,_,_,_,_,_,rfl,S,Ext.push S.inv _ rfl,fZ hh S.inv (by decide) (Walks.strAscii hh _ _ tk),⟨_,Heap.get?_push_size _ rfl,rfl,rfl⟩,fun _ => fa1 S.inv.fresh.2⟩
noncomputable def qX (v w : PV) : Prop := ∃ l k,v = .list l ∧ w = .list k
theorem qo {m : ME} {xs : List PV} (ev : evI C (.val m) ρ σ = some xs) : ∃ v,evE C m ρ σ = some v ∧ (v = .tup xs ∨ v = .list xs ∨ ∃ l,v = .str l ∧ xs = l.map fun c => .str [c]) := by
 obtain ⟨v,e1,e2⟩ := bd ev
 refine ⟨v,e1,?_⟩
 cases v with
 | tup l => exact .inl (by rw [(j9 e2).2])
 | list l => exact .inr (.inl (by rw [(j9 e2).2]))
 | str l => exact .inr (.inr ⟨l,rfl,(j9 e2).2⟩)
 | _ => exact nos e2
theorem oo {m : ME} {xs : List PV} (ev : evI C (.boxl m) ρ σ = some xs) : ∃ n,evE C m ρ σ = some (.box n) ∧ σ[n]? = some xs := by
 obtain ⟨v,e1,e2⟩ := bd ev
 cases v with
 | box n =>
  obtain ⟨l,e3,e4⟩ := bd e2
  exact ⟨n,e1,by rw [(j9 e4).2]; exact e3⟩
 | _ => exact nos e2
theorem nG {m : ME} {xs : List PV} (ev : evI C (.enum m) ρ σ = some xs) : ∃ l,evE C m ρ σ = some (.list l) ∧ l.length ≤ a8 ∧ xs = J3 0 l := by
 obtain ⟨v,e1,e2⟩ := bd ev
 cases v with
 | list l => exact ⟨l,e1,j9 e2⟩
 | _ => exact nos e2
theorem qi {m : ME} {xs : List PV} (ev : evI C (.rev m) ρ σ = some xs) : ∃ l,evE C m ρ σ = some (.list l) ∧ l.length ≤ a8 ∧ xs = l.reverse := by
 obtain ⟨v,e1,e2⟩ := bd ev
 cases v with
 | list l => exact ⟨l,e1,j9 e2⟩
 | _ => exact nos e2
theorem pz {m n : ME} {xs : List PV} (ev : evI C (.zip m n) ρ σ = some xs) : ∃ l k,evE C m ρ σ = some (.list l) ∧ evE C n ρ σ = some (.list k) ∧ (l.length = k.length ∧ l.length ≤ a8) ∧ xs = List.zipWith (fun x y => .tup [x,y]) l k := by
 obtain ⟨v,e1,e3⟩ := bd ev
 obtain ⟨w,e2,e4⟩ := bd e3
 have sh : qX v w := by
  clear e1 e2 e3 ev
  cases v with
  | list l => cases w with
   | list k => exact ⟨l,k,rfl,rfl⟩
   | _ => exact nos e4
  | _ => exact nos e4
 obtain ⟨l,k,rfl,rfl⟩ := sh
 exact ⟨l,k,e1,e2,j9 e4⟩
inductive iD : List PV → Prop
 | one (b : Int) : iD [.int b]
 | two (a b : Int) : iD [.int a,.int b]
 | three (a b c : Int) : iD [.int a,.int b,.int c]
theorem lB {ms : MEs} {xs : List PV} (ev : evI C (.range ms) ρ σ = some xs) : (∃ b,Q3 C ms ρ σ = some [.int b] ∧ Q6 0 b 1 = some xs) ∨ (∃ a b,Q3 C ms ρ σ = some [.int a,.int b] ∧ Q6 a b 1 = some xs) ∨ ∃ a b c,Q3 C ms ρ σ = some [.int a,.int b,.int c] ∧ Q6 a b c = some xs := by
 obtain ⟨v,e1,e2⟩ := bd ev
 have sh : iD v := by
  clear e1 ev
  cases v with
  | nil => exact nos e2
  | cons x l => cases x with
   | int a => cases l with
    | nil => exact .one a
    | cons y l => cases y with
     | int b => cases l with
      | nil => exact .two a b
      | cons z l => cases z with
       | int c => cases l with
        | nil => exact .three a b c
        | cons _ _ => exact nos e2
       | _ => exact nos e2
     | _ => exact nos e2
   | _ => exact nos e2
 cases sh with
 | one b => exact .inl ⟨b,e1,e2⟩
 | two a b => exact .inr (.inl ⟨a,b,e1,e2⟩)
 | three a b c => exact .inr (.inr ⟨a,b,c,e1,e2⟩)
theorem IS.val {e : Expr} (hs : gi e) {m : ME} (he : ES R C d lay e m) : IS R C d lay e tg t (.val m) := ⟨hs,fun env A X μ s ρ σ xs c ev => by
 obtain ⟨v,e1,h⟩ := qo ev
 refine wt (he env A X μ s ρ σ v c e1) fun xv s₁ h₁ => ?_
 rcases h with rfl | rfl | ⟨l,rfl,rfl⟩
 ·obtain ⟨a,vs,hl,hx,hm,rs⟩ := h₁.1.tup_inv
  exact jB c.room.1 h₁.2 hl hx rs hm
 ·obtain ⟨a,vs,hl,hx,hm,rs⟩ := h₁.1.list_inv
  exact fQ c.room.1 h₁.2 hl hx rs fun _ => hm
 ·obtain ⟨t⟩ := h₁.1.str_inv
  exact nH c.room.1 h₁.2⟩
theorem IS.boxl {e : Expr} (hs : gi e) {m : ME} (he : ES R C d lay e m) : IS R C d lay e tg t (.boxl m) := ⟨hs,fun env A X μ s ρ σ xs c ev => by
 obtain ⟨n,e1,e3⟩ := oo ev
 refine wt (he env A X μ s ρ σ _ c e1) fun xv s₁ h₁ => ?_
 obtain ⟨ad,hb⟩ := h₁.1.box_inv
 obtain ⟨a',vs,k,h1,h2,h3,h4⟩ := (c.st.step h₁.2).bx n xs e3
 cases sxx hb h1
 exact fQ c.room.1 h₁.2 (vs := vs.toList) ⟨_,h2,rfl,k,by simp⟩ h3 h4 nofun⟩
theorem jn (B : BOK R mg mb) {x : Str} {T : String} {i : Nat} {np pos : Pos} (hm : (x,Kd.glo,i) ∈ lay) (hg : mg x = Option.none) (hv : mb x = some (.type T)) (hd : (x == ("__debug__" : Str)) = false)
  {es : List Expr} {ms : MEs} (h : ESs R C d lay es ms) {vs : List PV} (c : Cx R d lay env A X μ s ρ σ) (ev : Q3 C ms ρ σ = some vs) {Q : Value → Shared → Prop}
  (hc : ∀ vs' s',g9 R.Θ X μ s'.heap vs vs' → w5 R X μ s s' → wpAny (model R.prog R.w) A (call (.type T) vs') Q noE s') :
  wpAny (model R.prog R.w) A (eval (.Call (.Name x np) es [] pos) env) Q noE s := by
 refine wpAny_Call_Name_kw (aL B c hm hg hv hd ?_)
 refine PySem.callWith_type (gk h pos) ?_
 refine wpAny_mono (br B.low h pos c ev) (fun a s' h' => ?_) fun _ _ x => x
 rw [h'.1]
 exact hc a.pos s' h'.2.1 h'.2.2
theorem gx (hh : A.handled = none) (I : Inv R X μ s₁) {a c : Int} {n : Nat} :
  gp R A tg t s₁.heap.objs.size [s₁.heap.objs.size] [s₁.heap.objs.size] (fun _ => False) ((List.range n).map fun (i : Nat) => .int (a + (i : Int) * c)) X μ s₁ (fun i s => IsRangeIter s.heap s₁.heap.objs.size (a + (i : Nat) * c) ((n : Int) - (i : Nat)) c) := by
 have W := Walks.range (prog := R.prog) (w := R.w) (A := A) hh s₁.heap.objs.size a c n
 refine O8 (KTurns.ofWalks W fun i v s Q E st hQ => ?_) (by simp) (fa1 (Heap.none_at_size _)) (fa1 I.fresh.1) (fun i h st => fa1 ⟨_,st⟩) (fun Y μ' i x v h ρ ρ' up new g hk hx' eb hP => ?_) (fun s Q st hQ => W.self 0 s _ _ st ⟨rfl,hQ⟩)
 ·exact G2 st rfl (by decide) hQ
 ·obtain ⟨u,rfl⟩ := hP
  rw [List.getElem?_map] at hx'
  obtain ⟨j,e1,rfl⟩ := mq hx'
  obtain ⟨h,e1⟩ := List.getElem?_eq_some_iff.mp e1
  rw [List.getElem_range] at e1
  subst e1
  exact aa.of (.int _ u) eb
theorem cW {a b c : Int} {xs : List PV} (e : Q6 a b c = some xs) : (0 < c ∧ -1000000 ≤ a ∧ a ≤ 1000000 ∧ -1000000 ≤ b ∧ b ≤ 1000000 ∧ c ≤ 1000) ∧ xs = (List.range (Builtin.Range.rangeSize a b c).toNat).map fun (i : Nat) => .int (a + (i : Int) * c) := j9 e
theorem rP {z : Int} (h : -3000000 ≤ z ∧ z ≤ 3000000) : Builtin.Range.rangeFitsLong z = true := by
 unfold Builtin.Range.rangeFitsLong
 simp only [z5,decide_eq_true_eq]
 lia
theorem gG {a b c : Int} (h : 0 < c ∧ -1000000 ≤ a ∧ a ≤ 1000000 ∧ -1000000 ≤ b ∧ b ≤ 1000000 ∧ c ≤ 1000) : 0 ≤ Builtin.Range.rangeSize a b c ∧ Builtin.Range.small a b c = true := by
 have hsz : 0 ≤ Builtin.Range.rangeSize a b c ∧ Builtin.Range.rangeSize a b c ≤ 2000001 := by
  unfold Builtin.Range.rangeSize
  rw [if_pos h.1]
  split
  ·have h1 : 0 ≤ (b - a - 1) / c := Int.ediv_nonneg (by lia) (by lia)
   have h2 : (b - a - 1) / c ≤ b - a - 1 := Int.ediv_le_self _ (by lia)
   generalize (b - a - 1) / c = y at h1 h2 ⊢
   lia
  ·decide
 refine ⟨hsz.1,?_⟩
 unfold Builtin.Range.small
 rw [rP (z := a) (by lia),rP (z := b) (by lia),rP (z := c) (by lia),rP (z := Builtin.Range.rangeSize a b c) (by lia),if_pos h.1,rP (z := b + (c - 1)) (by lia)]
 simp
theorem bD (I : Inv R X μ s) (hh : A.handled = none) {a b c : Int} {ta tb tc : Tok} {xs : List PV} (e : Q6 a b c = some xs) {s₀ : Shared} (S : w5 R X μ s₀ s) {tk : Nat} {bx : Bool} :
  wpAny (model R.prog R.w) A (pyIter (.ref s.heap.objs.size)) (dL R A tg t bx xs X μ s₀) noE { s with heap := s.heap.push { cls := .type "range",data := .fields #[.int a ta,.int b tb,.int c tc] },toks := tk } := by
 have S₁ := w5.push I (o := { cls := .type "range",data := .fields #[.int a ta,.int b tb,.int c tc] }) (tk := tk)
 obtain ⟨h,rfl⟩ := cW e
 obtain ⟨hsz,hs⟩ := gG h
 refine wpAny_pyIter_range (Heap.get?_push_size _ rfl) hs ⟨_,_,_,_,_,_,rfl,S.trans S₁,Ext.push S₁.inv _ rfl,gx (a := a) (c := c) (n := (Builtin.Range.rangeSize a b c).toNat) hh S₁.inv,?_,fun _ => fa1 S₁.inv.fresh.2⟩
 show Heap.get? _ _ = _
 rw [Int.toNat_of_nonneg hsz]
 simp only [Int.natCast_zero,Int.zero_mul,Int.add_zero,Int.sub_zero]
 exact Heap.get?_push_size _ rfl
theorem IS.range (B : BOK R mg mb) {x : Str} {i : Nat} {np pos : Pos} {es : List Expr} {ms : MEs} (hm : (x,Kd.glo,i) ∈ lay) (hg : mg x = Option.none) (hv : mb x = some (.type "range")) (hd : (x == ("__debug__" : Str)) = false)
  (h : ESs R C d lay es ms) : IS R C d lay (.Call (.Name x np) es [] pos) tg t (.range ms) := ⟨rfl,fun env A X μ s ρ σ xs c ev => by
 rcases lB ev with ⟨b,e1,e2⟩ | ⟨a,b,e1,e2⟩ | ⟨a,b,k,e1,e2⟩
 ·refine jn B hm hg hv hd h c e1 fun vs' s₁ rs S => ?_
  obtain ⟨v,r⟩ := rs.inv1
  obtain ⟨tv⟩ := r.int_inv
  exact call_range_1 (bD S.inv c.room.1 e2 S)
 ·refine jn B hm hg hv hd h c e1 fun vs' s₁ rs S => ?_
  obtain ⟨v,w,r,r'⟩ := rs.inv2
  obtain ⟨tv⟩ := r.int_inv
  obtain ⟨tw⟩ := r'.int_inv
  exact call_range_2 (bD S.inv c.room.1 e2 S)
 ·refine jn B hm hg hv hd h c e1 fun vs' s₁ rs S => ?_
  obtain ⟨v,w,u,r,r',r''⟩ := rs.inv3
  obtain ⟨tv⟩ := r.int_inv
  obtain ⟨tw⟩ := r'.int_inv
  obtain ⟨tu⟩ := r''.int_inv
  have h0 := (cW e2).1
  exact call_range_3 (by lia) (bD S.inv c.room.1 e2 S) (.inl (PyProof.noPylong_small (qU (by lia) (by lia))))⟩
theorem IS.rev (B : BOK R mg mb) {x : Str} {i : Nat} {np pos : Pos} {e : Expr} {m : ME} (hm : (x,Kd.glo,i) ∈ lay) (hg : mg x = Option.none) (hv : mb x = some (.type "reversed")) (hd : (x == ("__debug__" : Str)) = false)
  (hs : n8 e) (he : ES R C d lay e m) : IS R C d lay (.Call (.Name x np) [e] [] pos) tg t (.rev m) := ⟨rfl,fun env A X μ s ρ σ xs c ev => by
 obtain ⟨l,e1,-,rfl⟩ := qi ev
 refine jn (vs := [.list l]) B hm hg hv hd (.cons hs he .nil) c (by rw [zsb,zsa,e1]; rfl) fun vs' s₁ rs S => ?_
 obtain ⟨v,r⟩ := rs.inv1
 clear rs
 obtain ⟨ad,vs,hl,hx,hmm,rs⟩ := r.list_inv
 have hne : ad ≠ s₁.heap.objs.size := (Z8 hl).1
 have hlen := rs.length
 refine call_reversed_list hl ?_
 have W := Walks.listRev (prog := R.prog) (w := R.w) (A := A) c.room.1 s₁.heap.objs.size ad hne vs.toArray
 have st0 : (0 : Nat) ≤ vs.toArray.size ∧ (s₁.heap.push (revObj ad ((vs.toArray.size : Int) - 1))).IsRevIter s₁.heap.objs.size ad ((vs.toArray.size : Int) - 1 - ((0 : Nat) : Int)) ∧ (s₁.heap.push (revObj ad ((vs.toArray.size : Int) - 1))).IsList ad vs.toArray :=
  ⟨Nat.zero_le _,⟨_,Heap.get?_push_size _ rfl,rfl,by simp [revObj]⟩,hl.push _⟩
 refine W.self 0 _ _ _ st0 ⟨s₁,_,_,_,_,_,rfl,S,Ext.push (tk := s₁.toks) S.inv (revObj ad ((vs.toArray.size : Int) - 1)) rfl,O8 (KTurns.ofWalks W fun i v s Q E st hQ => ?_) (by simp [hlen]) (fa1 (Heap.none_at_size _)) (faC S.inv.fresh.1 (fa1 hx)) (fun i h st => ?_) (fun Y μ' i x v h ρ ρ' up new g hk hx' eb hP => ?_) (fun s Q st hQ => W.self 0 s _ _ st ⟨rfl,hQ⟩),st0,fun _ => faC S.inv.fresh.2 (fa1 hmm)⟩
 ·obtain ⟨o,ho,hc,_⟩ := st.2.1
  exact G2 ho hc (by decide) hQ
 ·obtain ⟨-,⟨o,ho,_⟩,o',ho',_⟩ := st; exact faC ⟨o,ho⟩ (fa1 ⟨o',ho'⟩)
 ·obtain ⟨v',e1,e2⟩ := rs.reverse.get i x hx'
  have hi : i < vs.length := by
   have := (List.getElem?_eq_some_iff.mp e1).1
   simpa using this
  rw [List.getElem?_reverse hi] at e1
  have hP' : vs[vs.length - 1 - i]? = some v := List.getElem?_toArray.symm.trans hP
  exact aa.of (K0 up new g hk (Option.some.inj (e1.symm.trans hP') ▸ e2)) eb⟩
theorem aG : ∀ (l : List PV) (n i : Nat) (x : PV),(J3 n l)[i]? = some x → ∃ y,l[i]? = some y ∧ x = .tup [.int ((n + i : Nat) : Int),y]
 | [],n,i,x,e => by simp [J3] at e
 | v :: r,n,0,x,e => by simp [J3] at e; exact ⟨v,rfl,by rw [← e]; rfl⟩
 | v :: r,n,i + 1,x,e => by
  simp only [J3,List.getElem?_cons_succ] at e
  obtain ⟨y,e1,e2⟩ := aG r (n + 1) i x e
  exact ⟨y,by simpa using e1,by rw [e2]; congr 3; lia⟩
theorem aN : ∀ (l : List PV) (n : Nat),(J3 n l).length = l.length
 | [],_ => rfl
 | _ :: r,n => by simp [J3,aN r]
theorem IS.enum (B : BOK R mg mb) {x : Str} {i : Nat} {np pos : Pos} {e : Expr} {m : ME} {a b : Nat} {elts : List Expr} {kk : Nat} {tp : Pos} (hm : (x,Kd.glo,i) ∈ lay) (hg : mg x = Option.none) (hv : mb x = some (.type "enumerate")) (hd : (x == ("__debug__" : Str)) = false)
  (hs : n8 e) (he : ES R C d lay e m) : IS R C d lay (.Call (.Name x np) [e] [] pos) (.Tuple elts kk tp) (.two a b) (.enum m) := ⟨rfl,fun env A X μ s ρ σ xs c ev => by
 obtain ⟨l,e1,-,rfl⟩ := nG ev
 refine jn (vs := [.list l]) B hm hg hv hd (.cons hs he .nil) c (by rw [zsb,zsa,e1]; rfl) fun vs' s₁ rs S => ?_
 obtain ⟨v,r⟩ := rs.inv1
 clear rs
 obtain ⟨ad,vs,hl,hx,hmm,rs⟩ := r.list_inv
 have hlen := rs.length
 have hlt : ad < s₁.heap.objs.size := by obtain ⟨_,e,_⟩ := hl; exact Heap.lt_size e
 refine call_enumerate_list hl fun h' hE hI hz hk => ?_
 have n0 : s₁.heap.get? s₁.heap.objs.size = Option.none := Heap.none_at_size _
 have n1 : s₁.heap.get? (s₁.heap.objs.size + 1) = Option.none := Heap.get?_none_of_le (Nat.le_succ _)
 have hI' : ∃ o,h'.get? s₁.heap.objs.size = some o := by obtain ⟨o,ho,_⟩ := hI; exact ⟨o,ho⟩
 have W := (WalksT.enumerate (prog := R.prog) (w := R.w) (A := A) c.room.1 (s₁.heap.objs.size + 1) s₁.heap.objs.size ad (Nat.succ_ne_self _) (Nat.ne_of_lt (Nat.lt_succ_of_lt hlt)) (Nat.ne_of_lt hlt) vs.toArray).toU
 refine wpAny_pyIter_enum hE ⟨s₁,_,[s₁.heap.objs.size + 1,s₁.heap.objs.size],_,_,_,rfl,S,Ext.laid (tk := s₁.toks) S.inv hk (faC ⟨n1,_,hE⟩ (fa1 ⟨n0,hI'⟩)),O8 (KTurns.ofWalksU W) (by simp [hlen,aN]) (faC n1 (fa1 n0)) (faC (S.inv.fresh_of n1).1 (faC (S.inv.fresh_of n0).1 (fa1 hx))) (fun i h st => ?_) (fun Y μ' i x v h ρ ρ' up new g hk hx' eb hP => ?_) (fun s Q st hQ => W.self 0 s _ _ st ⟨rfl,hQ⟩),⟨⟨_,hE⟩,hI,hl.at fun o e => hk _ o e⟩,fun _ => faC (S.inv.fresh_of n1).2 (faC (S.inv.fresh_of n0).2 (fa1 hmm))⟩
 ·obtain ⟨⟨old,g1⟩,⟨o,g2,_⟩,o',g3,_⟩ := st
  exact faC ⟨_,g1⟩ (faC ⟨o,g2⟩ (fa1 ⟨o',g3⟩))
 ·obtain ⟨T,vals,rfl,⟨u,q,h1,rfl⟩,hT⟩ := hP
  obtain ⟨y,e3,rfl⟩ := aG l 0 i x hx'
  obtain ⟨v',e4,e5⟩ := rs.get i y e3
  have h1' : vs[i]? = some q := List.getElem?_toArray.symm.trans h1
  rw [Nat.zero_add]
  exact ⟨_,_,_,_,T,hT,.int _ u,K0 up new g hk (Option.some.inj (e4.symm.trans h1') ▸ e5)⟩⟩
theorem ic {n a b : Nat} (h : a < n) (h2 : b < n) : ZipApart (n + 4) (n + 2) (n + 3) n (n + 1) a b := by
 constructor <;> first | exact Nat.ne_of_lt (by lia) | exact Nat.ne_of_gt (by lia)
theorem IS.zip (B : BOK R mg mb) {x : Str} {i : Nat} {np pos : Pos} {e f : Expr} {m n : ME} {a b : Nat} {elts : List Expr} {kk : Nat} {tp : Pos} (hm : (x,Kd.glo,i) ∈ lay) (hg : mg x = Option.none) (hv : mb x = some (.type "zip")) (hd : (x == ("__debug__" : Str)) = false)
  (hs : n8 e) (he : ES R C d lay e m) (hs' : n8 f) (hf : ES R C d lay f n) : IS R C d lay (.Call (.Name x np) [e,f] [] pos) (.Tuple elts kk tp) (.two a b) (.zip m n) := ⟨rfl,fun env A X μ s ρ σ xs c ev => by
 obtain ⟨l,l2,e1,e12,-,rfl⟩ := pz ev
 refine jn (vs := [.list l,.list l2]) B hm hg hv hd (.cons hs he (.cons hs' hf .nil)) c (by rw [zsb,zsb,zsa,e1,e12]; rfl) fun vs' s₁ rs₀ S => ?_
 obtain ⟨v,w,r,r'⟩ := rs₀.inv2
 clear rs₀
 obtain ⟨ad,vs,hl,hx,hmm,rs⟩ := r.list_inv
 obtain ⟨ad2,vs2,hl2,hx2,hmm2,rs2⟩ := r'.list_inv
 have hlen := rs.length
 have hlen2 := rs2.length
 have hlt : ad < s₁.heap.objs.size := by obtain ⟨_,e,_⟩ := hl; exact Heap.lt_size e
 have hlt2 : ad2 < s₁.heap.objs.size := by obtain ⟨_,e,_⟩ := hl2; exact Heap.lt_size e
 refine call_zip_2 hl hl2 fun h' hZ hTI hTO hI1 hI2 hz hk => ?_
 have none_at : ∀ j,s₁.heap.get? (s₁.heap.objs.size + j) = Option.none := fun j => Heap.get?_none_of_le (Nat.le_add_right _ _)
 have n0 : s₁.heap.get? s₁.heap.objs.size = Option.none := Heap.none_at_size _
 have f := fun j => S.inv.fresh_of (none_at j)
 have f0 := S.inv.fresh_of n0
 have W := (WalksT.zip2 (prog := R.prog) (w := R.w) (A := A) c.room.1 (s₁.heap.objs.size + 4) (s₁.heap.objs.size + 2) (s₁.heap.objs.size + 3) s₁.heap.objs.size (s₁.heap.objs.size + 1) ad ad2
  (ic hlt hlt2) vs.toArray vs2.toArray).toU
 refine wpAny_pyIter_zip hZ ⟨s₁,_,[s₁.heap.objs.size + 4,s₁.heap.objs.size + 3,s₁.heap.objs.size,s₁.heap.objs.size + 1],_,_,_,rfl,S,Ext.laid (tk := s₁.toks) S.inv hk ?_,O8 (KTurns.ofWalksU W) (by simp [← hlen,← hlen2]) (faC (none_at 4) (faC (none_at 3) (faC n0 (fa1 (none_at 1)))))
  (faC (f 4).1 (faC (f 2).1 (faC (f 3).1 (faC f0.1 (faC (f 1).1 (faC hx (fa1 hx2))))))) (fun i h st => ?_) (fun Y μ' i x v h ρ ρ' up new g hk hx' eb hP => ?_) (fun s Q st hQ => W.self 0 s _ _ st ⟨rfl,hQ⟩),
  ⟨hZ,hTI,⟨_,_,hTO⟩,hI1,hI2,hl.at fun o e => hk _ o e,hl2.at fun o e => hk _ o e⟩,fun _ => faC (f 4).2 (faC (f 2).2 (faC (f 3).2 (faC f0.2 (faC (f 1).2 (faC hmm (fa1 hmm2))))))⟩
 ·obtain ⟨o1,ho1,_⟩ := hI1
  obtain ⟨o2,ho2,_⟩ := hI2
  exact faC ⟨none_at 4,_,hZ⟩ (faC ⟨none_at 3,_,hTO⟩ (faC ⟨n0,o1,ho1⟩ (fa1 ⟨none_at 1,o2,ho2⟩)))
 ·obtain ⟨g1,g2,⟨_,_,g3⟩,⟨_,g4,_⟩,⟨_,g5,_⟩,⟨_,g6,_⟩,_,g7,_⟩ := st
  exact faC ⟨_,g1⟩ (faC ⟨_,g2⟩ (faC ⟨_,g3⟩ (faC ⟨_,g4⟩ (faC ⟨_,g5⟩ (faC ⟨_,g6⟩ (fa1 ⟨_,g7⟩))))))
 ·obtain ⟨T,vals,rfl,⟨p,q,h1,h2,rfl⟩,hT⟩ := hP
  obtain ⟨pa,pb,ea,eb',rfl⟩ := List.getElem?_zipWith_eq_some.mp hx'
  have h1' : vs[i]? = some p := List.getElem?_toArray.symm.trans h1
  have h2' : vs2[i]? = some q := List.getElem?_toArray.symm.trans h2
  obtain ⟨va,e4,e5⟩ := rs.get i pa ea
  obtain ⟨vb,e6,e7⟩ := rs2.get i pb eb'
  exact ⟨_,_,_,_,T,hT,K0 up new g hk (Option.some.inj (e4.symm.trans h1') ▸ e5),K0 up new g hk (Option.some.inj (e6.symm.trans h2') ▸ e7)⟩⟩
end
theorem l5 {α : Type} : ∀ {l : List (Str × α)} {x : Str} {k : α},(l.map Prod.fst).Nodup → (x,k) ∈ l → l.lookup x = some k
 | (n,k') :: r,x,k,nd,h => by
  simp only [List.map_cons,List.nodup_cons] at nd
  rcases List.mem_cons.mp h with e | h
  ·cases e; simp [List.lookup_cons]
  ·have : (x == n) = false := by
    refine beq_eq_false_iff_ne.mpr fun e => nd.1 ?_
    rw [← e]; exact List.mem_map.mpr ⟨(x,k),h,rfl⟩
   simp only [List.lookup_cons,this]
   exact l5 nd.2 h
theorem J7 : ∀ (names : List (Str × NameKind)) (h : Heap) (acc : List (Str × Addr)),(names.map Prod.fst).Nodup →
  (∀ x,(x,NameKind.cell) ∈ names → ∃ c,(cellsFrom h.objs.size names acc).lookup x = some c ∧ h.objs.size ≤ c ∧ (pushCells h names).get? c = some (U3 none)) ∧
  (∀ x,(x,NameKind.cell) ∉ names → (cellsFrom h.objs.size names acc).lookup x = acc.lookup x) ∧
  (∀ x y c,(x,NameKind.cell) ∈ names → (y,NameKind.cell) ∈ names → (cellsFrom h.objs.size names acc).lookup x = some c → (cellsFrom h.objs.size names acc).lookup y = some c → x = y)
 | [],h,acc,_ => ⟨fun x hx => (nomatch hx),fun _ _ => rfl,fun x y c hx => (nomatch hx)⟩
 | (n,k) :: r,h,acc,nd => by
  simp only [List.map_cons,List.nodup_cons] at nd
  have hn : (n,NameKind.cell) ∉ r := fun hm => nd.1 (List.mem_map.mpr ⟨_,hm,rfl⟩)
  by_cases hk : k = .cell
  ·subst hk
   have ih := J7 r (h.push { cls := .type "cell",data := .cell none }) ((n,h.objs.size) :: acc) nd.2
   rw [Heap.size_push] at ih
   obtain ⟨i1,i2,i3⟩ := ih
   have e1 : cellsFrom h.objs.size ((n,.cell) :: r) acc = cellsFrom (h.objs.size + 1) r ((n,h.objs.size) :: acc) := rfl
   have e2 : pushCells h ((n,.cell) :: r) = pushCells (h.push { cls := .type "cell",data := .cell none }) r := rfl
   rw [e1,e2]
   have hN : (cellsFrom (h.objs.size + 1) r ((n,h.objs.size) :: acc)).lookup n = some h.objs.size := by
    rw [i2 n hn]; simp [List.lookup_cons]
   refine ⟨fun x hx => ?_,fun x hx => ?_,fun x y c hx hy ex ey => ?_⟩
   ·rcases List.mem_cons.mp hx with e | hx
    ·cases e
     exact ⟨_,hN,Nat.le_refl _,pushCells_keeps _ _ _ _ (Heap.get?_push_size _ rfl)⟩
    ·obtain ⟨c,h1,h2,h3⟩ := i1 x hx
     exact ⟨c,h1,Nat.le_of_succ_le h2,h3⟩
   ·have hxr : (x,NameKind.cell) ∉ r := fun hm => hx (G6 _ hm)
    have hxn : (x == n) = false := beq_eq_false_iff_ne.mpr fun e => hx (by rw [e]; exact List.mem_cons_self)
    rw [i2 x hxr]
    simp only [List.lookup_cons,hxn]
   ·rcases List.mem_cons.mp hx with e | hx <;> rcases List.mem_cons.mp hy with e' | hy
    ·cases e; cases e'; rfl
    ·cases e
     obtain ⟨c',h1,h2,_⟩ := i1 y hy
     rw [hN] at ex; rw [h1] at ey
     cases ex; cases ey
     exact absurd h2 (Nat.not_succ_le_self _)
    ·cases e'
     obtain ⟨c',h1,h2,_⟩ := i1 x hx
     rw [hN] at ey; cases sxx h1 ex; cases ey
     exact absurd h2 (Nat.not_succ_le_self _)
    ·exact i3 x y c hx hy ex ey
  ·have hb : (k == NameKind.cell) = false := by simpa using hk
   have ih := J7 r h acc nd.2
   have e1 : cellsFrom h.objs.size ((n,k) :: r) acc = cellsFrom h.objs.size r acc := by
    show (if k == .cell then _ else _) = _
    rw [hb]; rfl
   have e2 : pushCells h ((n,k) :: r) = pushCells h r := by
    show (if k == .cell then _ else _) = _
    rw [hb]; rfl
   rw [e1,e2]
   have hne : ∀ x,(x,NameKind.cell) ∈ (n,k) :: r → (x,NameKind.cell) ∈ r := fun x hx => (List.mem_cons.mp hx).elim (fun e => absurd (Prod.mk.inj e).2.symm hk) id
   exact ⟨fun x hx => ih.1 x (hne x hx),fun x hx => ih.2.1 x fun hm => hx (G6 _ hm),fun x y c hx hy => ih.2.2 x y c (hne x hx) (hne y hy)⟩
section
variable {M : Model} {A : Around} {E : Value → Shared → Prop} {s : Shared}
theorem E5 {scope : Scope} {globals : Addr} {closure : List (Str × Addr)} {binds : List (Str × Value)} {qual : Str} {func : Option Addr} {code : Value} {around : Option Env} {builtins : Addr} {Q : Env → Shared → Prop}
  (h : wpAny M A (forIn binds PUnit.unit (fun (x : Str × Value) (_ : PUnit) => do storeName (newEnv scope s.heap.objs.size globals (cellsFrom (s.heap.objs.size + 1) scope.names closure) qual func code around builtins) x.1 x.2; pure (ForInStep.yield PUnit.unit)))
   (fun _ s' => Q (newEnv scope s.heap.objs.size globals (cellsFrom (s.heap.objs.size + 1) scope.names closure) qual func code around builtins) s') E { s with heap := pushCells (s.heap.push { cls := .type (if around.isSome then "dict" else "frame"),data := .dict #[] }) scope.names }) :
  wpAny M A (newFunctionEnv scope globals closure binds qual func code around builtins) Q E s := by
 cases around with
 | none =>
  simp only [newFunctionEnv,Option.isSome_none,u4,if_false]
  refine wpAny_bind (wpAny_alloc ?_)
  refine wpAny_bind (wpAny_layCells _ (fun name kind cells => by cases hkc : kind == NameKind.cell <;> simp [hkc]) _ _ _ _ ?_)
  rw [show ({ s with heap := s.heap.push { cls := .type "frame",data := .dict #[] } } : Shared).heap.objs.size = s.heap.objs.size + 1 from Heap.size_push ..]
  exact wpAny_bind (wpAny_mono h (fun _ s' hq => wpAny_pure hq) fun _ _ x => x)
 | some outer =>
  simp only [newFunctionEnv,Option.isSome_some,if_true]
  refine wpAny_bind (wpAny_alloc ?_)
  refine wpAny_bind (wpAny_layCells _ (fun name kind cells => by cases hkc : kind == NameKind.cell <;> simp [hkc]) _ _ _ _ ?_)
  rw [show ({ s with heap := s.heap.push { cls := .type "dict",data := .dict #[] } } : Shared).heap.objs.size = s.heap.objs.size + 1 from Heap.size_push ..]
  exact wpAny_bind (wpAny_mono h (fun _ s' hq => wpAny_pure hq) fun _ _ x => x)
theorem O5 {env : Env} (f : Str × NameKind → List (Str × Addr) → Sem (ForInStep (List (Str × Addr))))
  (hf : ∀ name kind cs,f (name,kind) cs = if kind == NameKind.free then (do let a ← cellOf env name; pure (.yield ((name,a) :: cs))) else pure (.yield cs)) :
  ∀ (names : List (Str × NameKind)) (acc : List (Str × Addr)),(∀ x,(x,NameKind.free) ∈ names → ∃ c,env.cells.lookup x = some c) →
   ∃ cl,forIn names acc f = (pure cl : Sem _) ∧ (∀ p,p ∈ cl → p ∈ acc ∨ (env.cells.lookup p.1 = some p.2 ∧ (p.1,NameKind.free) ∈ names)) ∧ (∀ p,p ∈ acc → p ∈ cl) ∧ ∀ x,(x,NameKind.free) ∈ names → ∃ c,(x,c) ∈ cl
 | [],acc,_ => ⟨acc,by rw [List.forIn_nil],fun p hp => .inl hp,fun p hp => hp,fun x hx => nomatch hx⟩
 | (n,k) :: r,acc,h => by
  rw [List.forIn_cons,hf]
  by_cases hk : k = .free
  ·subst hk
   obtain ⟨c,hc⟩ := h n List.mem_cons_self
   obtain ⟨cl,e1,e2,e3,e4⟩ := O5 f hf r ((n,c) :: acc) fun x hx => h x (G6 _ hx)
   refine ⟨cl,?_,fun p hp => ?_,fun p hp => e3 p (G6 _ hp),fun x hx => ?_⟩
   ·have : cellOf env n = pure c := by unfold cellOf; rw [hc]
    simp only [beq_self_eq_true,if_true,this,pure_bind]
    exact e1
   ·rcases e2 p hp with h1 | ⟨h1,h2⟩
    ·rcases List.mem_cons.mp h1 with rfl | h1
     ·exact .inr ⟨hc,List.mem_cons_self⟩
     ·exact .inl h1
    ·exact .inr ⟨h1,G6 _ h2⟩
   ·rcases List.mem_cons.mp hx with e | hx
    ·cases e; exact ⟨c,e3 _ List.mem_cons_self⟩
    ·exact e4 x hx
  ·have hb : (k == NameKind.free) = false := by simpa using hk
   obtain ⟨cl,e1,e2,e3,e4⟩ := O5 f hf r acc fun x hx => h x (G6 _ hx)
   refine ⟨cl,?_,fun p hp => ?_,e3,fun x hx => ?_⟩
   ·simp only [hb,u4,if_false,pure_bind]
    exact e1
   ·rcases e2 p hp with h1 | ⟨h1,h2⟩
    ·exact .inl h1
    ·exact .inr ⟨h1,G6 _ h2⟩
   ·rcases List.mem_cons.mp hx with e | hx
    ·exact absurd (Prod.mk.inj e).2.symm hk
    ·exact e4 x hx
theorem U4 {scope : Scope} {env : Env} (h : ∀ x,(x,NameKind.free) ∈ scope.names → ∃ c,env.cells.lookup x = some c) :
  ∃ cl,closureFor scope env = pure cl ∧ (∀ x c,cl.lookup x = some c → env.cells.lookup x = some c ∧ (x,NameKind.free) ∈ scope.names) ∧ ∀ x,(x,NameKind.free) ∈ scope.names → cl.lookup x = env.cells.lookup x := by
 obtain ⟨cl,e1,e2,_,e4⟩ := O5 (env := env) (fun x cs => if (x.2 == NameKind.free) = true then (do let a ← cellOf env x.1; pure (.yield ((x.1,a) :: cs))) else pure (.yield cs)) (fun _ _ _ => rfl) scope.names [] h
 have h1 : ∀ x c,cl.lookup x = some c → env.cells.lookup x = some c ∧ (x,NameKind.free) ∈ scope.names := fun x c hc => (e2 _ (mem_of_lookup hc)).elim (fun h => nomatch h) id
 refine ⟨cl,?_,h1,fun x hx => ?_⟩
 ·have e5 : closureFor scope env = (forIn scope.names ([] : List (Str × Addr)) (fun (x : Str × NameKind) (cs : List (Str × Addr)) => if (x.2 == NameKind.free) = true then (do let a ← cellOf env x.1; pure (ForInStep.yield ((x.1,a) :: cs))) else pure (ForInStep.yield cs)) >>= fun r => pure r) := rfl
  rw [e5,e1,pure_bind]
 ·obtain ⟨c,hc⟩ := e4 x hx
  cases hl : cl.lookup x with
  | none =>
   exfalso
   have := List.lookup_eq_none_iff.mp hl (x,c) hc
   simp at this
  | some c' => exact (h1 x c' hl).1.symm
theorem gW {names : List (Str × NameKind)} {f : Str → NameKind → NameKind} {x : Str} {k : NameKind} (h : names.lookup x = some k) : (names.map fun (n,k) => (n,f n k)).lookup x = some (f x k) := by
 induction names with
 | nil => cases h
 | cons p r ih =>
  obtain ⟨n,k'⟩ := p
  rw [List.map_cons]
  show List.lookup x ((n,f n k') :: _) = _
  cases hx : x == n with
  | true =>
   simp only [List.lookup_cons,hx] at h ⊢
   cases h
   rw [eq_of_beq hx]
  | false =>
   simp only [List.lookup_cons,hx] at h ⊢
   exact ih h
theorem C7 {scope : Scope} {env : Env} {x : Str} {k : NameKind} (h : scope.names.lookup x = some k) :
  (relabel scope env).names.lookup x = some (if (k == .free && env.scope.kind == .function && env.kindOf x == some .cell) = true then .cell else k) := by
 have e : (relabel scope env).names = scope.names.map fun (n,k) => (n,if (k == .free && env.scope.kind == .function && env.kindOf n == some .cell) = true then NameKind.cell else k) := by
  show scope.names.map _ = scope.names.map _
  refine List.map_congr_left fun p _ => ?_
  obtain ⟨n,k⟩ := p
  show (if _ then _ else _) = (n,if _ then _ else _)
  split <;> rfl
 rw [e]
 exact gW (f := fun n k => if (k == .free && env.scope.kind == .function && env.kindOf n == some .cell) = true then NameKind.cell else k) h
end
section
variable {R : Run} {X Y Z : Addr → Prop} {μ : List Addr} {s s' s'' : Shared} {lay lay' : Lay} {env : Env} {ρ : Rho} {σ : Sto}
theorem Ext.trans (a : Ext R X Y μ s s') (b : Ext R Y Z μ s' s'') : Ext R X Z μ s s'' := by
 refine ⟨a.keep.trans b.keep,b.inv,a.gens.trans b.gens,a.xt,fun c h => b.up c (a.up c h),fun c h => ?_⟩
 rcases b.new c h with h | h
 ·exact a.new c h
 ·cases e : s.heap.get? c with
  | none => exact .inr rfl
  | some o =>
   by_cases ht : c ∈ Tabs
   ·exact .inl (a.xt c ht)
   ·exact nxx h (a.keep c o e ht)
noncomputable def cX (s : Shared) (h : Heap) (b : Addr) : Prop := s.heap.get? b = Option.none ∧ ∃ o,h.get? b = some o
theorem Ext.all (I : Inv R X μ s) {h' : Heap} {tk : Nat} (k : ∀ b o,s.heap.get? b = some o → h'.get? b = some o) : Ext R X (fun b => X b ∨ cX s h' b) μ s { s with heap := h',toks := tk } := by
 have S : w5 R X μ s { s with heap := h',toks := tk } := w5.grow I k
 refine ⟨S.keep,?_,S.gens,I.xt,fun _ h => .inl h,fun b hb => hb.elim .inl fun h => .inr h.1⟩
 refine { keep := S.inv.keep,tabs := fun j t e => ?_,os := S.inv.os,bare := S.inv.bare,xt := fun b hb => .inl (I.xt b hb),xlo := fun b hb => ?_,xex := fun b hb => ?_,mulo := S.inv.mulo,muex := S.inv.muex }
 ·obtain ⟨hp,ps,h1,h2,h3⟩ := I.tabs j t e
  refine ⟨hp,ps,k _ _ h1,h2,fun cv e => ?_⟩
  obtain ⟨c',e1,e2,e3,e4⟩ := h3 cv e
  refine ⟨c',e1,e2.keeps k,?_,e4⟩
  rintro (h | h)
  ·exact e3 h
  ·obtain ⟨c,o,vs,t',e5,g,r⟩ := e2
   cases e5
   exact nxx h.1 g
 ·rcases hb with h | h
  ·exact I.xlo b h
  ·exact .inr (I.fresh_base h.1)
 ·rcases hb with h | h
  ·exact S.inv.xex b h
  ·exact h.2
theorem mB (I : Inv R X μ s) {names : List (Str × NameKind)} {closure : List (Str × Addr)} {o : Obj} {scope' : Scope} {env' : Env} {tk : Nat} (ho : ∃ n,o.data = .dict #[] n)
  (hk : scope'.kind = .function) (nd : (names.map Prod.fst).Nodup) (e1 : env'.scope = scope') (e2 : env'.globals = mainGlobals) (e3 : env'.builtins = builtinsNs) (e4 : env'.locals = s.heap.objs.size) (e5 : env'.cells = cellsFrom (s.heap.objs.size + 1) names closure)
  (hloc : ∀ x i,(x,Kd.loc,i) ∈ lay' → scope'.names.lookup x = some .local ∧ ∀ v,ρ[i]? = some v → v.isUnb = true)
  (hglo : ∀ x i,(x,Kd.glo,i) ∈ lay' → scope'.names.lookup x = some .globalImplicit)
  (hcel : ∀ x k i,(x,k,i) ∈ lay' → k = .cel ∨ k = .frz →
   ((x,NameKind.cell) ∈ names ∧ k = .cel ∧ scope'.names.lookup x = some .cell ∧ ∀ v,ρ[i]? = some v → v.isUnb = true) ∨
   ((x,NameKind.cell) ∉ names ∧ (scope'.names.lookup x = some .cell ∨ (k = .frz ∧ scope'.names.lookup x = some .free)) ∧ ∃ c w,closure.lookup x = some c ∧ s.heap.get? c = some (U3 w) ∧ c ∉ μ ∧
    (∀ v,ρ[i]? = some v → v.isUnb = false → ∃ v',w = some v' ∧ n4 R.Θ X μ s.heap v v') ∧ (k = .cel → X c ∧ R.base.get? c = Option.none) ∧ (k = .frz → ¬ X c)))
  (hcod : ∀ x c,(x,Kd.cod,c) ∈ lay' → env'.code = .ref c ∧ env'.qual = x)
  (hap : ∀ x i y j c,(x,Kd.cel,i) ∈ lay' → (y,Kd.cel,j) ∈ lay' → (x,NameKind.cell) ∉ names → (y,NameKind.cell) ∉ names → closure.lookup x = some c → closure.lookup y = some c → x = y) :
  Ext R X (fun b => X b ∨ cX s (pushCells (s.heap.push o) names) b) μ s { s with heap := pushCells (s.heap.push o) names,toks := tk } ∧
  FR R lay' env' (fun b => X b ∨ cX s (pushCells (s.heap.push o) names) b) μ (pushCells (s.heap.push o) names) ρ := by
 have kp : ∀ b q,s.heap.get? b = some q → (pushCells (s.heap.push o) names).get? b = some q := fun b q e => pushCells_keeps _ _ _ _ (Heap.get?_push_of_some _ e)
 have X1 := Ext.all (tk := tk) I kp
 obtain ⟨nn,hd⟩ := ho
 have hof : o.isFreed = false := by
  obtain ⟨c,d,dt,sl⟩ := o; subst hd; rfl
 have n0 := Heap.none_at_size s.heap
 have hL : (pushCells (s.heap.push o) names).get? s.heap.objs.size = some o := pushCells_keeps _ _ _ _ (Heap.get?_push_size _ hof)
 have sp := J7 names (s.heap.push o) closure nd
 rw [Heap.size_push] at sp
 obtain ⟨c1,c2,c3⟩ := sp
 refine ⟨X1,?_⟩
 refine { kind := by rw [e1]; exact hk,glob := e2,blt := e3,llo := ?_,lx := ?_,lmu := ?_,loc := ?_,glo := ?_,cel := ?_,cod := hcod,apart := ?_ }
 ·rw [e4]; exact I.fresh_base n0
 ·rw [e4]; exact .inr ⟨n0,o,hL⟩
 ·rw [e4]; exact (I.fresh_of n0).2
 ·refine ⟨fun _ => Option.none,?_,fun x i hm => ⟨by show env'.scope.names.lookup x = _; rw [e1]; exact (hloc x i hm).1,fun v ev hu => ?_⟩⟩
  ·rw [e4]
   exact ⟨o,#[],nn,hL,hd,fun _ he => by simp at he,fun _ => rfl⟩
  ·exact nbb ((hloc x i hm).2 v ev) hu
 ·intro x i hm
  show env'.scope.names.lookup x = _
  rw [e1]; exact hglo x i hm
 ·intro x k i hm hkk
  have hko : env'.kindOf x = scope'.names.lookup x := by show env'.scope.names.lookup x = _; rw [e1]
  rcases hcel x k i hm hkk with ⟨h1,rfl,h2,h3⟩ | ⟨h1,h2,c,w,h3,h4,h5,h6,h7,h8⟩
  ·obtain ⟨c,g1,g2,g3⟩ := c1 x h1
   have nc : s.heap.get? c = Option.none := Heap.get?_none_of_le (Nat.le_trans (Nat.le_succ _) g2)
   refine ⟨.inl (hko.trans h2),c,Option.none,by rw [e5]; exact g1,g3,(I.fresh_of nc).2,fun v ev hu => ?_,fun _ => ⟨.inr ⟨nc,_,g3⟩,I.fresh_base nc⟩,fun e => nomatch e⟩
   exact nbb (h3 v ev) hu
  ·refine ⟨by rw [hko]; exact h2,c,w,by rw [e5,c2 x h1]; exact h3,kp _ _ h4,h5,fun v ev hu => ?_,fun e => ⟨.inl (h7 e).1,(h7 e).2⟩,fun e hx => ?_⟩
   ·obtain ⟨v',q1,q2⟩ := h6 v ev hu
    exact ⟨v',q1,eD X1 q2⟩
   ·rcases hx with hx | hx
    ·exact h8 e hx
    ·exact nxx hx.1 h4
 ·intro x i y j c hx hy ex ey
  rw [e5] at ex ey
  by_cases hxc : (x,NameKind.cell) ∈ names <;> by_cases hyc : (y,NameKind.cell) ∈ names
  ·exact c3 x y c hxc hyc ex ey
  ·exfalso
   obtain ⟨c',g1,g2,g3⟩ := c1 x hxc
   cases sxx g1 ex
   rw [c2 y hyc] at ey
   rcases hcel y .cel j hy (.inl rfl) with ⟨h1,_⟩ | ⟨h1,h2,c',w,h3,h4,_⟩
   ·exact hyc h1
   ·cases sxx h3 ey
    exact nxx (Heap.get?_none_of_le (Nat.le_trans (Nat.le_succ _) g2)) h4
  ·exfalso
   obtain ⟨c',g1,g2,g3⟩ := c1 y hyc
   cases sxx g1 ey
   rw [c2 x hxc] at ex
   rcases hcel x .cel i hx (.inl rfl) with ⟨h1,_⟩ | ⟨h1,h2,c',w,h3,h4,_⟩
   ·exact hxc h1
   ·cases sxx h3 ex
    exact nxx (Heap.get?_none_of_le (Nat.le_trans (Nat.le_succ _) g2)) h4
  ·rw [c2 x hxc] at ex; rw [c2 y hyc] at ey
   exact hap x i y j c hx hy hxc hyc ex ey
end
noncomputable def Q8 : Expr → List Str
 | .Name x _ => [x]
 | .Tuple [.Name x _,.Name y _] _ _ => [x,y]
 | _ => []
structure aI (lay lay' : Lay) (scope : Scope) (own : List Nat) : Prop where
 kind : scope.kind = .function
 nd : (scope.names.map Prod.fst).Nodup
 loc : ∀ x i,(x,Kd.loc,i) ∈ lay' → (x,NameKind.local) ∈ scope.names ∧ i ∈ own
 glo : ∀ x i,(x,Kd.glo,i) ∈ lay' → (x,NameKind.globalImplicit) ∈ scope.names
 cel : ∀ x k i,(x,k,i) ∈ lay' → k = .cel ∨ k = .frz → ((x,NameKind.cell) ∈ scope.names ∧ k = .cel ∧ i ∈ own) ∨ ((x,NameKind.free) ∈ scope.names ∧ (x,k,i) ∈ lay)
 free : ∀ x,(x,NameKind.free) ∈ scope.names → ∃ k i,(x,k,i) ∈ lay ∧ (x,k,i) ∈ lay' ∧ (k = .cel ∨ k = .frz)
 cell : ∀ x,(x,NameKind.cell) ∈ scope.names → ∃ i,(x,Kd.cel,i) ∈ lay'
 ok : D9 lay'
 cod : ∀ x c,(x,Kd.cod,c) ∉ lay'
noncomputable def WO (scope : Scope) (cenv : Env) (b : Addr) : Prop := b = cenv.locals ∨ ∃ x,(x,NameKind.cell) ∈ scope.names ∧ cenv.cells.lookup x = some b
section
variable {R : Run} {C : Orc} {d : Nat} {X Y : Addr → Prop} {μ : List Addr} {s s' s₁ s₂ : Shared} {lay lay' : Lay} {env : Env} {A : Around} {ρ ρ' : Rho} {σ : Sto} {tg : Expr} {t : MT}
theorem V7 {names : List (Str × NameKind)} (nd : (names.map Prod.fst).Nodup) {x : Str} {k k' : NameKind} (h : (x,k) ∈ names) (h' : (x,k') ∈ names) : k = k' := by
 have e1 := l5 nd h
 have e2 := l5 nd h'
 cases sxx e1 e2; rfl
theorem oS {scope : Scope} {cenv : Env} {tg : Expr} (ht : M1 lay' tg t) (hn : ∀ x ∈ Q8 tg,(x,NameKind.local) ∈ scope.names ∨ (x,NameKind.cell) ∈ scope.names) (hk : ∀ x,(x,NameKind.local) ∈ scope.names → cenv.kindOf x = some .local) {b : Addr} (h : WT cenv tg b) : WO scope cenv b := by
 have one : ∀ x ∈ Q8 tg,WN cenv x b → WO scope cenv b := by
  intro x hx h
  rcases h with h | ⟨h1,h2⟩
  ·exact .inl h
  ·rcases hn x hx with h3 | h3
   ·cases sxx (hk x h3) h2
   ·exact .inr ⟨x,h3,h1⟩
 cases ht with
 | one _ _ => exact one _ List.mem_cons_self h
 | two _ _ _ _ => exact h.elim (one _ List.mem_cons_self) (one _ (G6 _ List.mem_cons_self))
theorem O4 (I : Inv R X μ s) (k : L9 s.heap s'.heap) {b : Addr} (h : s'.heap.get? b = Option.none) (xt : ∀ b ∈ Tabs,∃ o,s'.heap.get? b = some o) : s.heap.get? b = Option.none := by
 cases e : s.heap.get? b with
 | none => rfl
 | some o =>
  by_cases ht : b ∈ Tabs
  ·obtain ⟨q,e'⟩ := xt b ht; exact nxx h e'
  ·exact nxx h (k b o e ht)
theorem eQ (hT : d3 R) {elt iter : Expr} {ifs : List Expr} {rest : List Comprehension} {scope : Scope} {cp pos : Pos} {mi : MI} {own : List Nat} {em : Value → Env → Sem Unit} {test : Rho → Option Bool} {el : Rho → Option (List PV)} {use : Option (Value → Sem Unit)} {Q : Value → Shared → Prop} {xs out : List PV}
  (K : aI lay lay' scope own) (ht : M1 lay' tg t) (hn : ∀ x ∈ Q8 tg,(x,NameKind.local) ∈ scope.names ∨ (x,NameKind.cell) ∈ scope.names)
  (hI : IS R C d lay iter tg t mi) (hu : fP t ρ) (hown : ∀ i ∈ own,∀ v,ρ[i]? = some v → v.isUnb = true)
  (hturn : ∀ (it acc : Value) (env : Env),compTurn (.ListComp elt (⟨tg,iter,ifs,0⟩ :: rest) scope cp) 0 it acc env = (do
   standAt iter.pos
   match ← pyNext it with
   | none => pure (.done .next)
   | some v =>
    letOwnedTupleGo tg it v
    assign tg env v
    let mut ok := true
    for c in ifs do
     if ok then ok ← isTrue c env (eval c env)
    if ok then em acc env
    again (.compLoop (.ListComp elt (⟨tg,iter,ifs,0⟩ :: rest) scope cp) 0 it acc env)))
  (htest : ∀ (cenv : Env) (Y : Addr → Prop) s ρ' b,Cx R d lay' cenv A Y μ s ρ' σ → test ρ' = some b →
   wpAny (model R.prog R.w) A (forIn ifs true fun c r => if r = true then do let ok ← isTrue c cenv (eval c cenv); pure (ForInStep.yield ok) else pure (ForInStep.yield r)) (fun b' s' => b' = b ∧ w5 R Y μ s s') noE s)
  (hem : ∀ (cenv : Env) (Y : Addr → Prop) (D : Addr) s ρ' acc l,Cx R d lay' cenv A Y μ s ρ' σ → (∀ (j : Nat) v,ρ[j]? = some v → v.isUnb = false → ρ'[j]? = some v) → Y D → D ∉ Tabs → D ∉ μ → ¬ WO scope cenv D → (∀ b,WO scope cenv b → Y b) → (∀ x,(x,NameKind.local) ∈ scope.names → cenv.kindOf x = some .local) →
   (∀ x c,cenv.cells.lookup x = some c → (x,NameKind.cell) ∈ scope.names ∨ (x,NameKind.free) ∈ scope.names) → Acc R Y μ D acc s.heap → el ρ' = some l → (acc ++ l).length ≤ a8 →
   wpAny (model R.prog R.w) A (em (.ref D) cenv) (fun _ s' => Cx R d lay' cenv A Y μ s' ρ' σ ∧ n5 (EW D (WO scope cenv)) s.heap s'.heap ∧ H8 s s' ∧ Acc R Y μ D (acc ++ l) s'.heap) noE s)
  (c : Cx R d lay env A X μ s ρ σ) (ev : evI C mi ρ σ = some xs) (hgo : D8 test el t ρ xs = some out) (hlen : out.length ≤ a8)
  (hpost : ∀ s' C' D m,Ext R X (fun b => X b ∨ b = C') μ s s' → s.heap.get? C' = Option.none → s'.heap.Ns C' m → C' ∉ μ → n4 R.Θ (fun b => X b ∨ b = C') μ s'.heap (.list out) (.ref D) → compPost (model R.prog R.w) A noE use Q (.ref D) C' (.ok .next) s') :
  wpAny (model R.prog R.w) A (comprehension (.ListComp elt (⟨tg,iter,ifs,0⟩ :: rest) scope cp) scope env pos (newList []) false (eval iter env) use) Q noE s := by
 obtain ⟨cl,hclos,hcl1,hcl2⟩ := U4 (scope := scope) (env := env) (fun x hx => by
  obtain ⟨k,i,h1,_,h2⟩ := K.free x hx
  obtain ⟨_,c',w,h3,_⟩ := c.fr.cel x k i h1 h2
  exact ⟨c',h3⟩)
 refine wpAny_comprehension_free (cl := cl) (use := use) rfl (X6 hI.1 env) hclos K.kind (fun x hx hl => by obtain ⟨n,k⟩ := x; simp only at hl; subst hl; exact l5 K.nd hx) ?_
 refine wt (hI.2 env A X μ s ρ σ xs c ev) fun xv s₀ h₀ => wt h₀ fun it s₂ h₂ => ?_
 obtain ⟨s₁,I,wr,fp,gw,St,rfl,S₁,X12,T,st₂,_⟩ := h₂
 refine wpAny_newList ?_ (Nat.zero_le _)
 have n2 := Heap.none_at_size s₂.heap
 have X23 := Ext.push (tk := s₂.toks) X12.inv { cls := .type "list",data := .seq ([] : List Value).toArray } rfl
 generalize hs₃ : ({ s₂ with heap := s₂.heap.push { cls := .type "list",data := .seq ([] : List Value).toArray } } : Shared) = s₃ at X23 ⊢
 have kp23 : ∀ b o,s₂.heap.get? b = some o → s₃.heap.get? b = some o := by subst hs₃; exact fun b o e => Heap.get?_push_of_some _ e
 have hDl : s₃.heap.get? s₂.heap.objs.size = some (af #[] 0) := by subst hs₃; exact Heap.get?_push_size _ rfl
 have hg3 : s₃.gens = s₂.gens := by subst hs₃; rfl
 generalize hD : s₂.heap.objs.size = D at n2 X23 hDl ⊢
 have n3 := Heap.none_at_size s₃.heap
 refine E5 ?_
 rw [List.forIn_nil]
 refine wpAny_pure ?_
 have xtex : ∀ b ∈ Tabs,∃ o,s₂.heap.get? b = some o := fun b hb => X12.inv.xex b (X12.inv.xt b hb)
 have I₁ := S₁.inv
 have F₃ : FR R lay env (fun b => XW X wr b ∨ b ∈ [D]) μ s₃.heap ρ := ((c.fr.step hT S₁).ext hT X12).ext hT X23
 have fr := mB (lay' := lay') (ρ := ρ) (tk := s₃.toks) X23.inv (names := scope.names) (closure := cl) (o := { cls := .type (if (some env).isSome then "dict" else "frame"),data := .dict #[] })
  (scope' := relabel scope env) (env' := { newEnv scope s₃.heap.objs.size env.globals (cellsFrom (s₃.heap.objs.size + 1) scope.names cl) env.qual Option.none .none (some env) builtinsNs with scope := relabel scope env })
  ⟨_,rfl⟩ K.kind K.nd rfl c.fr.glob c.fr.blt rfl rfl
  (fun x i hm => ⟨by
   have h := C7 (env := env) (l5 K.nd (K.loc x i hm).1)
   exact h,hown i (K.loc x i hm).2⟩)
  (fun x i hm => by
   have h := C7 (env := env) (l5 K.nd (K.glo x i hm))
   exact h)
  (fun x k i hm hk => by
   rcases K.cel x k i hm hk with ⟨h1,h2,h3⟩ | ⟨h1,h2⟩
   ·exact .inl ⟨h1,h2,C7 (env := env) (l5 K.nd h1),hown i h3⟩
   ·refine .inr ⟨fun h => (nomatch V7 K.nd h1 h),?_,?_⟩
    ·have h := C7 (env := env) (l5 K.nd h1)
     rcases (F₃.cel x k i h2 hk).1 with h0 | ⟨h0,h0'⟩
     ·exact .inl (by rw [h]; simp [c.fr.kind,h0])
     ·exact .inr ⟨h0,by rw [h]; simp [h0']⟩
    ·obtain ⟨_,c',w,g1,g2,g3,g4,g5,g6⟩ := F₃.cel x k i h2 hk
     exact ⟨c',w,by rw [hcl2 x h1]; exact g1,g2,g3,g4,g5,g6⟩)
  (fun x c' h => absurd h (K.cod x c'))
  (fun x i y j c' hx hy hxn hyn ex ey => by
   rcases K.cel x .cel i hx (.inl rfl) with ⟨h1,_⟩ | ⟨h1,h2⟩
   ·exact absurd h1 hxn
   ·rcases K.cel y .cel j hy (.inl rfl) with ⟨h3,_⟩ | ⟨h3,h4⟩
    ·exact absurd h3 hyn
    ·exact F₃.apart x i y j c' h2 h4 (hcl1 x c' ex).1 (hcl1 y c' ey).1)
 obtain ⟨X34,F₄⟩ := fr
 have sp := J7 scope.names (s₃.heap.push { cls := .type (if (some env).isSome then "dict" else "frame"),data := .dict #[] }) cl K.nd
 rw [Heap.size_push] at sp
 obtain ⟨cs1,cs2,_⟩ := sp
 have hC : (pushCells (s₃.heap.push { cls := .type (if (some env).isSome then "dict" else "frame"),data := .dict #[] }) scope.names).get? s₃.heap.objs.size = some { cls := .type (if (some env).isSome then "dict" else "frame"),data := .dict #[] } := pushCells_keeps _ _ _ _ (Heap.get?_push_size _ rfl)
 have kp34 : ∀ b o,s₃.heap.get? b = some o → (pushCells (s₃.heap.push { cls := .type (if (some env).isSome then "dict" else "frame"),data := .dict #[] }) scope.names).get? b = some o := fun b o e => pushCells_keeps _ _ _ _ (Heap.get?_push_of_some _ e)
 generalize hs₄ : ({ s₃ with heap := pushCells (s₃.heap.push { cls := .type (if (some env).isSome then "dict" else "frame"),data := .dict #[] }) scope.names } : Shared) = s₄ at X34 ⊢
 have hh4 : pushCells (s₃.heap.push { cls := .type (if (some env).isSome then "dict" else "frame"),data := .dict #[] }) scope.names = s₄.heap := by subst hs₄; rfl
 have hg4 : s₄.gens = s₃.gens := by subst hs₄; rfl
 rw [hh4] at F₄ hC kp34 cs1 X34
 generalize hcenv : ({ newEnv scope s₃.heap.objs.size env.globals (cellsFrom (s₃.heap.objs.size + 1) scope.names cl) env.qual Option.none .none (some env) builtinsNs with scope := relabel scope env } : Env) = cenv at F₄ ⊢
 have hLoc : cenv.locals = s₃.heap.objs.size := by subst hcenv; rfl
 have hCel : cenv.cells = cellsFrom (s₃.heap.objs.size + 1) scope.names cl := by subst hcenv; rfl
 have hkl : ∀ x,(x,NameKind.local) ∈ scope.names → cenv.kindOf x = some .local := fun x hx => by
  have h := C7 (env := env) (l5 K.nd hx)
  subst hcenv; exact h
 have hloc' : (newEnv scope s₃.heap.objs.size env.globals (cellsFrom (s₃.heap.objs.size + 1) scope.names cl) env.qual Option.none .none (some env) builtinsNs).locals = cenv.locals := by rw [hLoc]; rfl
 rw [hloc']
 have hWOn : ∀ b,WO scope cenv b → cX s₃ s₄.heap b := by
  rintro b (h | ⟨x,h1,h2⟩)
  ·rw [h,hLoc]; exact ⟨n3,_,hC⟩
  ·obtain ⟨c',g1,g2,g3⟩ := cs1 x h1
   rw [hCel,g1] at h2; cases h2
   exact ⟨Heap.get?_none_of_le (Nat.le_trans (Nat.le_succ _) g2),_,g3⟩
 have hWTo : ∀ b,WT cenv tg b → WO scope cenv b := fun b h => oS ht hn hkl h
 have hcn : ∀ x c',cenv.cells.lookup x = some c' → (x,NameKind.cell) ∈ scope.names ∨ (x,NameKind.free) ∈ scope.names := fun x c' h => by
  by_cases hx : (x,NameKind.cell) ∈ scope.names
  ·exact .inl hx
  ·rw [hCel,cs2 x hx] at h
   exact .inr (hcl1 x c' h).2
 have hwX : ∀ b ∈ wr,¬ X b := fun b hb => T.fpx b (T.sub b hb)
 have hw2 : ∀ b ∈ wr,∃ o,s₂.heap.get? b = some o := fun b hb => T.ex 0 s₂ st₂ b (T.sub b hb)
 have hY : (fun b => (XW X wr b ∨ b ∈ [D]) ∨ cX s₃ s₄.heap b) = XW (fun b => (X b ∨ b ∈ [D]) ∨ cX s₃ s₄.heap b) wr := by
  funext b; apply propext
  constructor
  ·rintro (((h | h) | h) | h)
   ·exact .inl (.inl (.inl h))
   ·exact .inr h
   ·exact .inl (.inl (.inr h))
   ·exact .inl (.inr h)
  ·rintro (((h | h) | h) | h)
   ·exact .inl (.inl (.inl h))
   ·exact .inl (.inr h)
   ·exact .inr h
   ·exact .inl (.inl (.inr h))
 have F₄' := F₄
 have X34' := X34
 rw [hY] at F₄' X34'
 have xt3 : ∀ b ∈ Tabs,∃ o,s₃.heap.get? b = some o := fun b hb => X23.inv.xex b (X23.inv.xt b hb)
 have nb1 : ∀ b,s₂.heap.get? b = Option.none → s₁.heap.get? b = Option.none := fun b h => O4 I₁ X12.keep h xtex
 have nb2 : ∀ b,s₃.heap.get? b = Option.none → s₂.heap.get? b = Option.none := fun b h => by
  cases e : s₂.heap.get? b with
  | none => rfl
  | some o => exact nxx h (kp23 b o e)
 have nb0 : ∀ b,s₁.heap.get? b = Option.none → s.heap.get? b = Option.none := fun b h => O4 c.inv S₁.keep h fun b hb => I₁.xex b (I₁.xt b hb)
 have hYb : ∀ b,((X b ∨ b ∈ [D]) ∨ cX s₃ s₄.heap b) → X b ∨ s₁.heap.get? b = Option.none := by
  rintro b ((h | h) | h)
  ·exact .inl h
  ·rw [List.mem_singleton.mp h]; exact .inr (nb1 D n2)
  ·exact .inr (nb1 b (nb2 b h.1))
 have c₄ : Cx R d lay' cenv A (XW (fun b => (X b ∨ b ∈ [D]) ∨ cX s₃ s₄.heap b) wr) μ s₄ ρ σ := ⟨F₄',by
  have h := (((c.st.step S₁).ext X12).ext X23).ext X34
  rw [hY] at h; exact h,X34'.inv,c.room⟩
 have st₄ : St 0 s₄ := T.frame 0 s₂ s₄ st₂ (fun b hb o e => kp34 b o (kp23 b o e)) (fun g q e => by rw [hg4,hg3]; exact e)
 have hDo : s₄.heap.get? D = some (af #[] 0) := kp34 _ _ hDl
 have hDt : D ∉ Tabs := fun h => by obtain ⟨o,e⟩ := xtex D h; exact nxx n2 e
 have hDm : D ∉ μ := (X12.inv.fresh_of n2).2
 have hDW : ¬ WO scope cenv D := fun h => by have := (hWOn D h).1; exact nxx this hDl
 have loop : codeAny (model R.prog R.w) A (.compLoop (.ListComp elt (⟨tg,iter,ifs,0⟩ :: rest) scope cp) 0 (.ref I) (.ref D) cenv) (compPost (model R.prog R.w) A noE use Q (.ref D) cenv.locals) s₄ := by
  refine bI (C := C) (em := em (.ref D) cenv) (WD := WO scope cenv) (acc₀ := []) hT K.ok (hturn _ _ _) T ht hu c.inv.xt (fun b h => .inl (.inl h)) hYb (fun b hb => ?_) (fun b hb hm => ?_) (.inl (.inr (List.mem_singleton.mpr rfl)))
   (fun h => hDW (hWTo D h)) hDt (fun b h => .inr (hWOn b h)) (fun b hb => ⟨?_,fun h => ?_,fun h => ?_⟩) (fun x c' h hb => ?_)
   (fun s ρ' b cx e => htest cenv _ s ρ' b cx e)
   (fun s ρ' acc l cx ag hk ha e hl => hem cenv _ D s ρ' acc l cx ag (.inl (.inl (.inr (List.mem_singleton.mpr rfl)))) hDt hDm hDW (fun b h => .inl (.inr (hWOn b h))) hkl hcn ha e hl)
   hgo (by simpa using hlen) c₄ (fun b o e hb => ?_) st₄ ⟨[],⟨_,hDo,rfl,0,rfl⟩,.nil⟩ ?_
  ·rintro ((h | h) | h)
   ·exact hwX b hb h
   ·obtain ⟨o,e⟩ := hw2 b hb
    rw [List.mem_singleton.mp h,n2] at e; cases e
   ·obtain ⟨o,e⟩ := hw2 b hb
    have := h.1; exact nxx this (kp23 b o e)
  ·obtain ⟨o,e⟩ := I₁.muex b hm
   exact nxx (T.fresh b hb) e
  ·intro h
   obtain ⟨o,e⟩ := T.ex 0 s₂ st₂ b hb
   rw [h,n2] at e; cases e
  ·obtain ⟨o,e⟩ := T.ex 0 s₂ st₂ b hb
   have := (hWOn b (hWTo b h)).1; exact nxx this (kp23 b o e)
  ·obtain ⟨o,e⟩ := T.ex 0 s₂ st₂ b hb
   have := (hWOn b h).1; exact nxx this (kp23 b o e)
  ·obtain ⟨o,e⟩ := hw2 c' hb
   by_cases hx : (x,NameKind.cell) ∈ scope.names
   ·have := (hWOn c' (.inr ⟨x,hx,h⟩)).1; exact nxx this (kp23 c' o e)
   ·rw [hCel,cs2 x hx] at h
    obtain ⟨h1,h2⟩ := hcl1 x c' h
    obtain ⟨k,i,g1,_,g2⟩ := K.free x h2
    obtain ⟨_,c'',w,g3,g4,_⟩ := (c.fr.step hT S₁).cel x k i g1 g2
    cases sxx h1 g3
    exact nxx (T.fresh _ hb) g4
  ·refine kp34 b o (kp23 b o (X12.keep b o e fun ht => hb (.y (.inl (.inl (c.inv.xt b ht))))))
  ·intro s' c' k kg ha
   rw [List.nil_append] at ha
   obtain ⟨m,hNs,_⟩ := c'.fr.loc
   have sC : s.heap.get? cenv.locals = Option.none := by rw [hLoc]; exact nb0 _ (nb1 _ (nb2 _ n3))
   have upC : ∀ b,(X b ∨ b = cenv.locals) → ((X b ∨ b ∈ [D]) ∨ cX s₃ s₄.heap b) := by
    rintro b (h | h)
    ·exact .inl (.inl h)
    ·exact .inr (hWOn b (.inl h))
   have hkeep : L9 s.heap s'.heap := fun b o e ht => by
    have e1 := S₁.keep b o e ht
    have e4 := kp34 b o (kp23 b o (X12.keep b o e1 ht))
    refine k b o e4 ?_
    rintro (h | h | h | h | h)
    ·exact ht h
    ·rw [h,nb0 _ (nb1 _ n2)] at e; cases e
    ·have := nb0 _ (nb1 _ (nb2 _ (hWOn b (hWTo b h)).1)); exact nxx this e
    ·have := nb0 _ (nb1 _ (nb2 _ (hWOn b h).1)); exact nxx this e
    ·exact nxx (T.fresh b h) e1
   have hgens : H8 s s' := fun g q e => kg g q (by rw [hg4,hg3]; exact X12.gens g q (S₁.gens g q e)) fun h => by
    have := T.gfresh g h; exact nxx this (S₁.gens g q e)
   refine hpost s' cenv.locals D m ⟨hkeep,c'.inv.down (fun b hb => .inl (c.inv.xt b hb)) upC,hgens,c.inv.xt,fun b h => .inl h,fun b h => h.elim .inl fun h => .inr (h ▸ sC)⟩ sC hNs c'.fr.lmu ?_
   obtain ⟨vs,hl,r⟩ := ha
   refine .list hl ?_ hDm (az upC r)
   rintro (h | h)
   ·exact absurd (nb1 D n2) (fun h0 => by obtain ⟨o,e⟩ := I₁.xex D h; exact nxx h0 e)
   ·exact hDW (.inl h)
 exact codeAny_compStart_list loop (wt (T.self s₄ (fun s' => codeAny (model R.prog R.w) A (.compLoop (.ListComp elt (⟨tg,iter,ifs,0⟩ :: rest) scope cp) 0 (.ref I) (.ref D) cenv) (compPost (model R.prog R.w) A noE use Q (.ref D) cenv.locals) s') st₄ loop) fun v s' h => by rw [h.1]; exact h.2)
noncomputable def MT.slots : MT → List Nat
 | .one i => [i]
 | .two i j => [i,j]
theorem Y6 {t : MT} (h : fP t ρ) : ∀ i ∈ t.slots,∀ v,ρ[i]? = some v → v.isUnb = true := by
 cases t with
 | one i => intro j hj; rw [List.mem_singleton.mp hj]; exact h
 | two i k =>
  intro j hj
  simp only [MT.slots,List.mem_cons,B8,or_false] at hj
  rcases hj with rfl | rfl
  ·exact h.1
  ·exact h.2
theorem jw (hT : d3 R) {scope : Scope} {cenv : Env} {own : List Nat} {D : Addr} {acc : List PV} {v : PV} {v' : Value} (K : aI lay lay' scope own) (c : Cx R d lay' cenv A Y μ s ρ σ) (hD : Y D) (hDt : D ∉ Tabs) (hDm : D ∉ μ) (hDW : ¬ WO scope cenv D)
  (hcn : ∀ x c,cenv.cells.lookup x = some c → (x,NameKind.cell) ∈ scope.names ∨ (x,NameKind.free) ∈ scope.names) (ha : Acc R Y μ D acc s.heap) (r : n4 R.Θ Y μ s.heap v v') (hl : acc.length ≤ a8) :
  wpAny (model R.prog R.w) A (call (.builtin "list.append") [.ref D,v']) (fun _ s' => Cx R d lay' cenv A Y μ s' ρ σ ∧ n5 (· = D) s.heap s'.heap ∧ H8 s s' ∧ Acc R Y μ D (acc ++ [v]) s'.heap) noE s := by
 obtain ⟨vs,hL,rs⟩ := ha
 have hlen := rs.length
 refine wpAny_list_append hL (fun h' hL' hs' => ?_) (by have : a8 = 1000000 := rfl; have : sizeLine = 16777216 := rfl; simp only [List.size_toArray]; lia)
 have k : n5 (· = D) s.heap h' := fun b o e hb => (hs'.2 b hb).trans e
 have hw : ∀ b,b = D → Y b := fun b e => e ▸ hD
 have hb : ∀ b,b = D → R.base.get? b = Option.none := fun b e => e ▸ (c.inv.xlo D hD).elim (fun h => absurd h hDt) id
 refine ⟨⟨c.fr.write hw k (fun e => hDW (.inl e.symm)) fun x _ _ c' _ _ h e => ?_,c.st.set hw k,?_,c.room⟩,k,fun _ _ e => e,?_⟩
 ·subst e
  rcases hcn x c' h with h1 | h1
  ·exact hDW (.inr ⟨x,h1,h⟩)
  ·obtain ⟨k,i,_,g1,g2⟩ := K.free x h1
   obtain ⟨_,c'',w,g3,g4,_⟩ := c.fr.cel x k i g1 g2
   cases sxx h g3
   obtain ⟨o,ho,hc,n,hd⟩ := hL
   cases sxx g4 ho; cases hd
 ·have := c.inv.set (tk := s.toks) hT hw hb k (fun b e => by subst e; obtain ⟨o,ho,_⟩ := hL'; exact ⟨o,ho⟩) (fun b e => e ▸ hDm)
  exact this
 ·refine ⟨vs ++ [v'],?_,(Z0 hw k rs).append (.cons (D1 hw k r) .nil)⟩
  have : (vs ++ [v']).toArray = vs.toArray.push v' := by simp
  rw [this]; exact hL'
inductive cR (R : Run) (C : Orc) (d : Nat) (lay : Lay) : List Expr → Option ME → Prop
 | none : cR R C d lay [] Option.none
 | some {e m} : ET R C d lay e m → cR R C d lay [e] (some m)
noncomputable def jp (C : Orc) (σ : Sto) (cond : Option ME) (ρ' : Rho) : Option Bool := match cond with
 | Option.none => some true
 | some c => (evE C c ρ' σ).bind (I5 σ)
theorem ak {ifs : List Expr} {cond : Option ME} (h : cR R C d lay ifs cond) {b : Bool} (c : Cx R d lay env A X μ s ρ σ) (e : jp C σ cond ρ = some b) :
  wpAny (model R.prog R.w) A (forIn ifs true fun c r => if r = true then do let ok ← isTrue c env (eval c env); pure (ForInStep.yield ok) else pure (ForInStep.yield r)) (fun b' s' => b' = b ∧ w5 R X μ s s') noE s := by
 cases h with
 | none => cases e; exact wpAny_tests_nil ⟨rfl,.refl c.inv⟩
 | some h =>
  simp only [jp] at e
  obtain ⟨v,e1,e2⟩ := bd e
  exact wpAny_tests_one (h env A X μ s ρ σ v b c e1 e2)
theorem gM (hT : d3 R) {scope : Scope} {cenv : Env} {own : List Nat} {D : Addr} {acc l : List PV} {elt : Expr} {m : ME} (K : aI lay lay' scope own) (he : ES R C d lay' elt m) (c : Cx R d lay' cenv A Y μ s ρ σ) (hD : Y D) (hDt : D ∉ Tabs) (hDm : D ∉ μ) (hDW : ¬ WO scope cenv D)
  (hcn : ∀ x c,cenv.cells.lookup x = some c → (x,NameKind.cell) ∈ scope.names ∨ (x,NameKind.free) ∈ scope.names) (ha : Acc R Y μ D acc s.heap) (e : (evE C m ρ σ).map (fun v => [v]) = some l) (hl : (acc ++ l).length ≤ a8) :
  wpAny (model R.prog R.w) A (do let _ ← call (.builtin "list.append") [.ref D,← eval elt cenv]) (fun _ s' => Cx R d lay' cenv A Y μ s' ρ σ ∧ n5 (fun b => b ∈ Tabs ∨ b = D) s.heap s'.heap ∧ H8 s s' ∧ Acc R Y μ D (acc ++ l) s'.heap) noE s := by
 obtain ⟨v,e1,rfl⟩ := mq e
 refine wpAny_bind (wt (he cenv A Y μ s ρ σ v c e1) fun v' s₁ h₁ => ?_)
 obtain ⟨r,S⟩ := h₁
 have c₁ := c.step hT S
 have a₁ : Acc R Y μ D acc s₁.heap := ha.set (fun b hb => c.inv.xt b hb) S.keep hDt
 refine wpAny_bind (wt (jw hT K c₁ hD hDt hDm hDW hcn a₁ r (by simp only [List.length_append] at hl; lia)) fun _ s₂ h₂ => ?_)
 obtain ⟨c₂,k₂,g₂,a₂⟩ := h₂
 exact wpAny_pure ⟨c₂,(n5.mono (W := (· ∈ Tabs)) S.keep fun b hb => .inl hb).trans (k₂.mono fun b hb => .inr hb),S.gens.trans g₂,a₂⟩
theorem jz {C' : Addr} {m : Str → Option Value} {v : PV} {v' : Value} {h' : Heap} (hT : d3 R) (E : Ext R X (fun b => X b ∨ b = C') μ s s') (hs : s.heap.get? C' = Option.none) (hN : s'.heap.Ns C' m) (hm : C' ∉ μ) (I : Inv R X μ s)
  (r : n4 R.Θ (fun b => X b ∨ b = C') μ s'.heap v v') (hs' : Heap.SameBut C' s'.heap h') : n4 R.Θ X μ h' v v' ∧ w5 R X μ s { s' with heap := h' } := by
 have k : n5 (fun b => b = C') s'.heap h' := fun b o e hb => (hs'.2 b hb).trans e
 have up : ∀ b,X b → (X b ∨ b = C') := fun b h => .inl h
 have mv : Mv [C'] (fun _ => False) s' { s' with heap := h' } := ⟨fun b o e hb => k b o e fun h => hb (List.mem_singleton.mpr h),rfl,fun h => h,fun g q e _ => e⟩
 have hCX : ¬ X C' := fun h => by obtain ⟨o,e⟩ := I.xex C' h; exact nxx hs e
 refine ⟨C6 up (D1 (W := fun b => b = C') (fun b hb => .inr hb) k r),fun b o e ht => k b o (E.keep b o e ht) (fun h => by rw [h,hs] at e; cases e),?_,E.gens⟩
 refine E.inv.mv hT mv (fun b hb => .inr (List.mem_singleton.mp hb)) (fun b hb ht => ?_) (fun b hb => by rw [List.mem_singleton.mp hb]; exact hm) up I.xt (fun b hx hb => absurd hx (by rw [List.mem_singleton.mp hb]; exact hCX))
 rw [List.mem_singleton.mp hb] at ht
 exact hCX (I.xt _ ht)
inductive uX (C : Orc) (melt : ME) (t : MT) (mi : MI) (cond : Option ME) (ρ : Rho) (σ : Sto) : PV → Prop
 | mk (xs out : List PV) (e1 : evI C mi ρ σ = some xs) (hu : fP t ρ) (e3 : D8 (jp C σ cond) (fun ρ' => (evE C melt ρ' σ).map fun v => [v]) t ρ xs = some out) (hl : out.length ≤ a8) : uX C melt t mi cond ρ σ (.list out)
theorem iu {melt : ME} {mi : MI} {cond : Option ME} {v : PV} (e : evE C (.comp melt t mi cond) ρ σ = some v) : uX C melt t mi cond ρ σ v := by
 rw [zei] at e
 obtain ⟨xs,e1,e2⟩ := bd e
 split at e2
 ·cases e2
 rename_i hu
 obtain ⟨out,e3,e4⟩ := bd e2
 split at e4 <;> cases e4
 rename_i hlen
 exact ⟨xs,out,e1,bq hu,by cases cond <;> exact e3,hlen.2⟩
theorem ES.comp (hT : d3 R) {elt iter : Expr} {ifs : List Expr} {scope : Scope} {cp : Pos} {mi : MI} {melt : ME} {cond : Option ME} (K : aI lay lay' scope t.slots) (ht : M1 lay' tg t) (hn : ∀ x ∈ Q8 tg,(x,NameKind.local) ∈ scope.names ∨ (x,NameKind.cell) ∈ scope.names)
  (hI : IS R C d lay iter tg t mi) (hc : cR R C d lay' ifs cond) (he : ES R C d lay' elt melt) : ES R C d lay (.ListComp elt [⟨tg,iter,ifs,0⟩] scope cp) (.comp melt t mi cond) := fun env A X μ s ρ σ v c ev => by
 obtain ⟨xs,out,e1,hU,e3,hlen⟩ := iu ev
 rw [eval_ListComp]
 refine eQ (C := C) (em := fun acc env => (do let _ ← call (.builtin "list.append") [acc,← eval elt env])) (use := Option.none) (test := jp C σ cond) (el := fun ρ' => (evE C melt ρ' σ).map fun v => [v]) (out := out) hT K ht hn hI hU (Y6 hU) (fun _ _ _ => rfl)
  (fun cenv Y s ρ' b cx e => ak hc cx e) (fun cenv Y D s ρ' acc l cx ag hD hDt hDm hDW hWO hkl hcn ha e hl => wt (gM hT K he cx hD hDt hDm hDW hcn ha e hl) fun _ s' h => ⟨h.1,h.2.1.mono fun b hb => hb.elim .tab .eq,h.2.2⟩) c e1 e3 hlen
  (fun s' C' D m E hs hN hm r => ⟨m,hN,fun h' hs' => jz hT E hs hN hm c.inv r hs'⟩)
end
section
variable {R : Run} {C : Orc} {d : Nat} {X Y : Addr → Prop} {μ : List Addr} {s s' s₁ s₂ : Shared} {lay lay' : Lay} {env : Env} {A : Around} {ρ ρ' : Rho} {σ : Sto} {tg : Expr} {t : MT}
theorem bc {prog : Program} {w : World} {Rr : Result → Shared → Prop} {elt : Expr} {g : Comprehension} {target iter : Expr} {ifs : List Expr} {rest : List Comprehension} {scope : Scope} {pos : Pos} {it acc : Value}
  (h0 : codeAny (model prog w) A (.compLoop (.ListComp elt (g :: ⟨target,iter,ifs,0⟩ :: rest) scope pos) 1 it acc env) Rr s)
  (h : wpAny (model prog w) A (pyIter it) (fun it' s' => codeAny (model prog w) A (.compLoop (.ListComp elt (g :: ⟨target,iter,ifs,0⟩ :: rest) scope pos) 1 it' acc env) Rr s')
   (notedBy (model prog w) A env fun x s' => Rr (.error x) s') s) :
  codeAny (model prog w) A (.compStart (.ListComp elt (g :: ⟨target,iter,ifs,0⟩ :: rest) scope pos) 1 it acc env) Rr s := by
 refine codeAny_of_tree ?_
 show wpAny _ _ ((compStart (.ListComp elt (g :: ⟨target,iter,ifs,0⟩ :: rest) scope pos) 1 it acc env).onRaise (fun x => do noteFrame x env; standAt theWindowsPlace)) _ _ s
 refine wpAny_notedAt ?_
 unfold compStart
 show wpAny _ _ (ask >>= _) _ _ s
 refine wpAny_bind (wpAny_askSetting (wpAny_ite ?_))
 split
 ·first
   | exact wpAny_bind (wpAny_pure (wpAny_pure (And.intro rfl h0)))
   | exact wpAny_pure (And.intro rfl h0)
 ·first
   | exact wpAny_bind (wpAny_rule (wpAny_bind (wpAny_standAt (wpAny_bind (wpAny_mono h (fun it' s' h' => wpAny_pure (And.intro rfl h')) fun _ _ x => x)))))
   | (refine wpAny_bind (wpAny_rule ?_); show wpAny _ _ (standAt iter.pos >>= _) _ _ s; exact wpAny_bind (wpAny_standAt (wpAny_bind (wpAny_mono h (fun it' s' h' => wpAny_pure (And.intro rfl h')) fun _ _ x => x))))
noncomputable def em2 (elt : Expr) (g1 : Comprehension) (tg2 iter2 : Expr) (ifs : List Expr) (scope : Scope) (cp : Pos) (acc : Value) (env : Env) : Sem Unit := do
 let x ← eval iter2 env
 standAt iter2.pos
 let x ← foldedSetIterable iter2 env x
 let _ ← runOwn (.compStart (.ListComp elt [g1,⟨tg2,iter2,ifs,0⟩] scope cp) 1 (← holding [x] (pyIter x)) acc env) env
theorem tH (elt tg1 iter1 tg2 iter2 : Expr) (ifs1 ifs : List Expr) (scope : Scope) (cp : Pos) (it acc : Value) (env : Env) :
  compTurn (.ListComp elt [⟨tg1,iter1,ifs1,0⟩,⟨tg2,iter2,ifs,0⟩] scope cp) 0 it acc env = (do
   standAt iter1.pos
   match ← pyNext it with
   | none => pure (.done .next)
   | some v =>
    letOwnedTupleGo tg1 it v
    assign tg1 env v
    let mut ok := true
    for c in ifs1 do
     if ok then ok ← isTrue c env (eval c env)
    if ok then em2 elt ⟨tg1,iter1,ifs1,0⟩ tg2 iter2 ifs scope cp acc env
    again (.compLoop (.ListComp elt [⟨tg1,iter1,ifs1,0⟩,⟨tg2,iter2,ifs,0⟩] scope cp) 0 it acc env)) := by
 show _ = _
 unfold em2
 simp only [bind_assoc]
 rfl
theorem ud (elt tg1 iter1 tg2 iter2 : Expr) (ifs1 ifs : List Expr) (scope : Scope) (cp : Pos) (it acc : Value) (env : Env) :
  compTurn (.ListComp elt [⟨tg1,iter1,ifs1,0⟩,⟨tg2,iter2,ifs,0⟩] scope cp) 1 it acc env = (do
   standAt iter2.pos
   match ← pyNext it with
   | none => pure (.done .next)
   | some v =>
    letOwnedTupleGo tg2 it v
    assign tg2 env v
    let mut ok := true
    for c in ifs do
     if ok then ok ← isTrue c env (eval c env)
    if ok then (do let _ ← call (.builtin "list.append") [acc,← eval elt env])
    again (.compLoop (.ListComp elt [⟨tg1,iter1,ifs1,0⟩,⟨tg2,iter2,ifs,0⟩] scope cp) 1 it acc env)) := by rfl
end
noncomputable def gv (lay : Lay) (env : Env) (b : Addr) : Prop := b = env.locals ∨ ∃ x i,(x,Kd.cel,i) ∈ lay ∧ env.cells.lookup x = some b
inductive FlR (Θ : Tms) (X : Addr → Prop) (μ : List Addr) (h : Heap) : Fl → Flow → Prop
 | next : FlR Θ X μ h .next .next
 | ret {v : PV} {v' : Value} (r : n4 Θ X μ h v v') : FlR Θ X μ h (.ret v) (.ret v')
inductive WP (lay : Lay) (env : Env) (μ : List Addr) (b : Addr) : Prop
 | tab (h : b ∈ Tabs) | mu (h : b ∈ μ) | own (h : gv lay env b)
section
variable {R : Run} {C : Orc} {d : Nat} {X Y : Addr → Prop} {μ μ' μ'' : List Addr} {s s' s'' s₁ s₂ : Shared} {lay : Lay} {env : Env} {A : Around} {ρ ρ' : Rho} {σ σ' : Sto}
theorem U8 {h h' : Heap} (g : A4 μ μ' h) (k : n5 (fun b => X b ∨ b ∈ μ) h h') {p : PV} {v : Value} (r : n4 R.Θ X μ h p v) : n4 R.Θ X μ' h' p v :=
 M3 (X' := X) (μ' := μ') (h' := h') (fun b o e hx hm => ⟨k b o e fun q => q.elim hx hm,hx,g.off e hm⟩) g.get r
theorem iO {h h' : Heap} (g : A4 μ μ' h) (k : n5 (fun b => X b ∨ b ∈ μ) h h') {p : List PV} {v : List Value} (r : g9 R.Θ X μ h p v) : g9 R.Θ X μ' h' p v :=
 J9 (X' := X) (μ' := μ') (h' := h') (fun b o e hx hm => ⟨k b o e fun q => q.elim hx hm,hx,g.off e hm⟩) g.get r
theorem FR.boxes {h h' : Heap} (g : A4 μ μ' h) (k : n5 (· ∈ μ) h h') (F : FR R lay env X μ h ρ) : FR R lay env X μ' h' ρ where
 kind := F.kind
 glob := F.glob
 blt := F.blt
 llo := F.llo
 lx := F.lx
 lmu := by
  obtain ⟨m,⟨o,_,_,ho,_⟩,_⟩ := F.loc
  exact g.off ho F.lmu
 glo := F.glo
 apart := F.apart
 cod := F.cod
 loc := by
  obtain ⟨m,hn,hl⟩ := F.loc
  refine ⟨m,hn.at' fun o e => k _ o e F.lmu,fun x i hm => ⟨(hl x i hm).1,fun v ev hu => ?_⟩⟩
  obtain ⟨v',e1,e2⟩ := (hl x i hm).2 v ev hu
  exact ⟨v',e1,U8 g (k.mono fun b h => .inr h) e2⟩
 cel := fun x kk i hm hk => by
  obtain ⟨h0,c,w,h1,h2,h3,h4,h5⟩ := F.cel x kk i hm hk
  refine ⟨h0,c,w,h1,k c _ h2 h3,g.off h2 h3,fun v ev hu => ?_,h5⟩
  obtain ⟨v',e1,e2⟩ := h4 v ev hu
  exact ⟨v',e1,U8 g (k.mono fun b h => .inr h) e2⟩
structure P9 (R : Run) (d : Nat) (lay : Lay) (env : Env) (A : Around) (X : Addr → Prop) (μ μ' : List Addr) (s : Shared) (fl : Fl) (S : St) (f : Flow) (s' : Shared) : Prop where
 cx : Cx R d lay env A X μ' s' S.ρ S.σ
 keep : n5 (WP lay env μ) s.heap s'.heap
 gens : H8 s s'
 mu : A4 μ μ' s.heap
 fl : FlR R.Θ X μ' s'.heap fl f
theorem eO (F : FR R lay env X μ s.heap ρ) {b : Addr} (h : gv lay env b) : X b := by
 rcases h with rfl | ⟨x,i,h1,h2⟩
 ·exact F.lx
 ·obtain ⟨_,c,w,h3,_,_,_,h4,_⟩ := F.cel x .cel i h1 (.inl rfl)
  cases sxx h2 h3
  exact (h4 rfl).1
theorem R6 (hl : D9 lay) (F : FR R lay env X μ s.heap ρ) {x : Str} {k : Kd} {i : Nat} (hm : (x,k,i) ∈ lay) (hk : k = .loc ∨ k = .cel) {b : Addr} (h : WN env x b) : gv lay env b := by
 rcases h with h | ⟨h1,h2⟩
 ·exact .inl h
 ·rcases hk with rfl | rfl
  ·obtain ⟨m,_,hl⟩ := F.loc
   cases sxx ((hl x i hm).1) h2
  ·exact .inr ⟨x,i,hm,h1⟩
theorem ab (hl : D9 lay) (F : FR R lay env X μ s.heap ρ) {tg : Expr} {t : MT} (ht : M1 lay tg t) {b : Addr} (h : WT env tg b) : gv lay env b := by
 cases ht with
 | one hm hk => exact R6 hl F hm hk h
 | two hm hk hm' hk' => exact h.elim (R6 hl F hm hk) (R6 hl F hm' hk')
theorem WP.back {h : Heap} (g : A4 μ μ' h) {b : Addr} {o : Obj} (e : h.get? b = some o) (w : WP lay env μ' b) : WP lay env μ b := by
 cases w with
 | tab h => exact .tab h
 | mu h => exact .mu (Classical.byContradiction fun n => g.off e n h)
 | own h => exact .own h
theorem WP.xm (c : Cx R d lay env A X μ s ρ σ) {b : Addr} (w : WP lay env μ b) : X b ∨ b ∈ μ := by
 cases w with
 | tab h => exact .inl (c.inv.xt b h)
 | mu h => exact .inr h
 | own h => exact .inl (eO c.fr h)
theorem pZ (I : Inv R X μ s) {b : Addr} (w : X b ∨ b ∈ μ) : ∃ o,s.heap.get? b = some o := w.elim (I.xex b) (I.muex b)
theorem P9.old {fl : Fl} {S : St} {f : Flow} (c : Cx R d lay env A X μ s ρ σ) (p : P9 R d lay env A X μ μ' s fl S f s') {b : Addr} {o : Obj} (e : s.heap.get? b = some o) : ∃ o',s'.heap.get? b = some o' := by
 by_cases h : WP lay env μ b
 ·exact pZ p.cx.inv ((h.xm c).imp_right p.mu.sub)
 ·exact ⟨o,p.keep b o e h⟩
theorem A4.trans (g : A4 μ μ' s.heap) (g' : A4 μ' μ'' s'.heap) (h : ∀ b o,s.heap.get? b = some o → ∃ o',s'.heap.get? b = some o') : A4 μ μ'' s.heap := by
 obtain ⟨l,rfl,hl⟩ := g
 obtain ⟨l',rfl,hl'⟩ := g'
 refine ⟨l ++ l',by simp,fun b hb => ?_⟩
 rcases List.mem_append.mp hb with hb | hb
 ·exact hl b hb
 ·cases e : s.heap.get? b with
  | none => rfl
  | some o =>
   obtain ⟨o',e'⟩ := h b o e
   exact nxx (hl' b hb) e'
theorem P9.trans {fl : Fl} {S S' : St} {f : Flow} (c : Cx R d lay env A X μ s ρ σ) (p : P9 R d lay env A X μ μ' s .next S .next s') (q : P9 R d lay env A X μ' μ'' s' fl S' f s'') : P9 R d lay env A X μ μ'' s fl S' f s'' where
 cx := q.cx
 keep := fun b o e hb => q.keep b o (p.keep b o e hb) fun h => hb (h.back p.mu e)
 gens := p.gens.trans q.gens
 mu := p.mu.trans q.mu fun b o e => p.old c e
 fl := q.fl
theorem P9.vrel {fl : Fl} {S : St} {f : Flow} (c : Cx R d lay env A X μ s ρ σ) (P : P9 R d lay env A X μ μ' s fl S f s') {p : PV} {v : Value} (r : n4 R.Θ X μ s.heap p v) : n4 R.Θ X μ' s'.heap p v :=
 U8 P.mu (fun b o e hb => P.keep b o e fun h => hb (h.xm c)) r
theorem P9.of_bound (hl : D9 lay) (c : Cx R d lay env A X μ s ρ σ) (S : w5 R X μ s s₁) {W : Addr → Prop} (b : eB R lay env X μ W ρ' s₁ s₂) (hW : ∀ a,W a → gv lay env a) : P9 R d lay env A X μ μ s .next ⟨ρ',σ⟩ .next s₂ where
 cx := ⟨b.fr,(c.st.step S).set b.wx b.keep,b.inv,c.room⟩
 keep := (n5.mono (W := (· ∈ Tabs)) S.keep fun a h => .tab h).trans (b.keep.mono fun a h => .own (hW a h))
 gens := S.gens.trans fun g q e => by rw [b.gens]; exact e
 mu := .refl _ _
 fl := .next
theorem P9.of_step (hT : d3 R) (c : Cx R d lay env A X μ s ρ σ) (S : w5 R X μ s s₁) {fl : Fl} {f : Flow} (h : FlR R.Θ X μ s₁.heap fl f) : P9 R d lay env A X μ μ s fl ⟨ρ,σ⟩ f s₁ where
 cx := c.step hT S
 keep := n5.mono (W := (· ∈ Tabs)) S.keep fun a h => .tab h
 gens := S.gens
 mu := .refl _ _
 fl := h
theorem P9.after (hT : d3 R) (c : Cx R d lay env A X μ s ρ σ) (S : w5 R X μ s s₁) {fl : Fl} {S' : St} {f : Flow} (q : P9 R d lay env A X μ μ' s₁ fl S' f s') : P9 R d lay env A X μ μ' s fl S' f s' :=
 (P9.of_step (fl := .next) (f := .next) hT c S .next).trans c q
noncomputable def SS (R : Run) (C : Orc) (d : Nat) (lay : Lay) (st : Stmt) (m : MS) : Prop :=
 ∀ env A X μ s ρ σ fl S',Cx R d lay env A X μ s ρ σ → exS C m ⟨ρ,σ⟩ = some (fl,S') →
  wpAny (model R.prog R.w) A (exec st env) (fun f s' => ∃ μ',P9 R d lay env A X μ μ' s fl S' f s') noE s
noncomputable def SB (R : Run) (C : Orc) (d : Nat) (lay : Lay) (sts : List Stmt) (ms : List MS) : Prop :=
 ∀ env A X μ s ρ σ fl S',Cx R d lay env A X μ s ρ σ → exB C ms ⟨ρ,σ⟩ = some (fl,S') →
  wpAny (model R.prog R.w) A (execs sts env) (fun f s' => ∃ μ',P9 R d lay env A X μ μ' s fl S' f s') noE s
theorem SB.nil (hT : d3 R) : SB R C d lay [] [] := fun env A X μ s ρ σ fl S' c e => by
 cases e
 exact wpAny_execs_nil ⟨μ,.of_step hT c (.refl c.inv) .next⟩
theorem SB.cons (hT : d3 R) {st : Stmt} {sts : List Stmt} {m : MS} {ms : List MS} (h : SS R C d lay st m) (hs : SB R C d lay sts ms) : SB R C d lay (st :: sts) (m :: ms) := fun env A X μ s ρ σ fl S' c e => by
 obtain ⟨⟨f1,S1⟩,e1,e2⟩ := bd e
 refine wpAny_execs_cons (wt (h env A X μ s ρ σ f1 S1 c e1) fun f s' hp => ?_)
 obtain ⟨μ',p⟩ := hp
 have hf := p.fl
 cases hf with
 | next => exact wt (hs env A X μ' s' S1.ρ S1.σ fl S' p.cx e2) fun f2 s'' hq => let ⟨μ'',q⟩ := hq; ⟨μ'',p.trans c q⟩
 | ret r =>
  cases e2
  exact ⟨μ',p⟩
theorem SS.ite (hT : d3 R) {t : Expr} {mt : ME} {a b : List Stmt} {ma mb : List MS} {pos : Pos} (ht : ET R C d lay t mt) (ha : SB R C d lay a ma) (hb : SB R C d lay b mb) : SS R C d lay (.If t a b pos) (.ite mt ma mb) := fun env A X μ s ρ σ fl S' c e => by
 obtain ⟨v,e1,e2⟩ := bd e
 obtain ⟨tt,e3,e4⟩ := bd e2
 refine wpAny_If (wt (ht env A X μ s ρ σ v tt c e1 e3) fun bb s₁ h₁ => ?_)
 obtain ⟨rfl,S⟩ := h₁
 cases bb
 ·exact wt (hb env A X μ s₁ ρ σ fl S' (c.step hT S) e4) fun f s' h => let ⟨μ',p⟩ := h; ⟨μ',p.after hT c S⟩
 ·exact wt (ha env A X μ s₁ ρ σ fl S' (c.step hT S) e4) fun f s' h => let ⟨μ',p⟩ := h; ⟨μ',p.after hT c S⟩
inductive uh (C : Orc) (m : ME) (ρ : Rho) (σ : Sto) : Fl → St → Prop
 | mk (v : PV) (e1 : evE C m ρ σ = some v) : uh C m ρ σ (.ret v) ⟨ρ,σ⟩
theorem qm {m : ME} {fl : Fl} {S' : St} (e : exS C (.ret m) ⟨ρ,σ⟩ = some (fl,S')) : uh C m ρ σ fl S' := by
 obtain ⟨v,e1,e2⟩ := bd e
 split at e2 <;> cases e2
 exact ⟨v,e1⟩
theorem SS.ret (hT : d3 R) {e : Expr} {m : ME} {pos : Pos} (he : ES R C d lay e m) : SS R C d lay (.Return (some e) pos) (.ret m) := fun env A X μ s ρ σ fl S' c ev => by
 obtain ⟨v,e1⟩ := qm ev
 exact wpAny_Return_some (wt (he env A X μ s ρ σ v c e1) fun v' s₁ h₁ => ⟨μ,.of_step hT c h₁.2 (.ret h₁.1)⟩)
theorem SS.ret0 (hT : d3 R) {pos : Pos} : SS R C d lay (.Return Option.none pos) (.ret (.lit .none)) := fun env A X μ s ρ σ fl S' c ev => by
 cases ev
 exact wpAny_Return_none ⟨μ,.of_step hT c (.refl c.inv) (.ret .none)⟩
noncomputable def ah : Expr → Bool
 | .ListComp .. => false
 | .SetComp .. => false
 | .DictComp .. => false
 | _ => true
theorem O7 {e : Expr} (h : ah e = true) (t : Option Expr) (n : Nat) (env : Env) : swapsWith e t n env = pure false := by
 cases e <;> first | rfl | cases h
inductive ui (C : Orc) (t : MT) (m : ME) (ρ : Rho) (σ : Sto) : Fl → St → Prop
 | mk (v : PV) (ρ' : Rho) (e1 : evE C m ρ σ = some v) (e2 : I7 t v ρ = some ρ') : ui C t m ρ σ .next ⟨ρ',σ⟩
theorem eA {t : MT} {m : ME} {fl : Fl} {S' : St} (e : exS C (.assign t m) ⟨ρ,σ⟩ = some (fl,S')) : ui C t m ρ σ fl S' := by
 obtain ⟨v,e1,e2⟩ := bd e
 obtain ⟨ρ',e3,e4⟩ := mq e2
 cases e4
 exact ⟨v,ρ',e1,e3⟩
theorem jK {e : Expr} {x : Str} {p : Pos} {l : Nat} (h : env.kindOf x = some .cell) : swapsWith e (some (.Name x p)) l env = pure false := by
 have h2 : (NameKind.cell == NameKind.local) = false := rfl
 cases e <;> first | rfl | (unfold swapsWith; simp [h,h2])
theorem SS.assign (hT : d3 R) (hl : D9 lay) {x : Str} {k : Kd} {i : Nat} {e : Expr} {m : ME} {p pos : Pos} (hm : (x,k,i) ∈ lay) (hk : k = .loc ∨ k = .cel) (he : ES R C d lay e m)
  (hs : ah e = true ∨ k = .cel) : SS R C d lay (.Assign [.Name x p] e pos) (.assign (.one i) m) := fun env A X μ s ρ σ fl S' c ev => by
 obtain ⟨v,ρ',e1,e3⟩ := eA ev
 obtain ⟨_,rfl⟩ := Z7 e3
 refine wpAny_Assign_Name (wt (he env A X μ s ρ σ v c e1) fun v' s₁ h₁ => J0 hT hl (c.fr.step hT h₁.2) h₁.2.inv hm hk h₁.1 fun s₂ b => ⟨μ,.of_bound hl c h₁.2 b fun a h => R6 hl c.fr hm hk h⟩) ?_
 rcases hs with hs | rfl
 ·exact O7 hs _ _ _
 ·exact jK ((c.fr.cel x .cel i hm (.inl rfl)).1.elim id fun h => (nomatch h.1))
theorem iH (hT : d3 R) (hl : D9 lay) {x : Str} {i : Nat} {p : Pos} (hm : (x,Kd.loc,i) ∈ lay) (hk : env.kindOf x = some .local) (c : Cx R d lay env A X μ s ρ σ) {out : List PV} {C' D : Addr} {m : Str → Option Value} (E : Ext R X (fun b => X b ∨ b = C') μ s s') (hs : s.heap.get? C' = Option.none) (hN : s'.heap.Ns C' m) (hCm : C' ∉ μ)
  (r : n4 R.Θ (fun b => X b ∨ b = C') μ s'.heap (.list out) (.ref D)) (e3' : I7 (.one i) (.list out) ρ = some (ρ.set i (.list out))) :
  compPost (model R.prog R.w) A noE (some (PySem.assign (.Name x p) env)) (fun _ s' => ∃ μ',P9 R d lay env A X μ μ' s .next ⟨ρ.set i (.list out),σ⟩ .next s') (.ref D) C' (.ok .next) s' := by
 refine R2 hT hl c.room.1 (c.fr.ext hT E) E.inv (.one hm (.inl rfl)) (t := .one i) (p := .list out) (ρ' := ρ.set i (.list out)) r e3' fun s'' b => ?_
 have hCX : ¬ X C' := fun h => by obtain ⟨o,e⟩ := c.inv.xex C' h; exact nxx hs e
 have hLC : env.locals ≠ C' := by
  intro h
  obtain ⟨m,⟨o,_,_,ho,_⟩,_⟩ := c.fr.loc
  rw [h,hs] at ho; cases ho
 have hWC : ¬ WT env (.Name x p) C' := by
  rintro (h | ⟨_,h⟩)
  ·exact hLC h.symm
  ·cases sxx hk h
 refine ⟨m,hN.at' fun o e => b.keep C' o e hWC,fun h' hs' => ⟨μ,?_⟩⟩
 have k : n5 (fun b => b = C') s''.heap h' := fun b o e hb => (hs'.2 b hb).trans e
 have up : ∀ b,X b → (X b ∨ b = C') := fun b h => .inl h
 have hw : ∀ b,b = C' → (X b ∨ b = C') := fun b h => .inr h
 have mv : Mv [C'] (fun _ => False) s'' { s'' with heap := h' } := ⟨fun b o e hb => k b o e fun h => hb (List.mem_singleton.mpr h),rfl,fun h => h,fun g q e _ => e⟩
 have hcc : ∀ y kk j c',(y,kk,j) ∈ lay → kk = .cel ∨ kk = .frz → env.cells.lookup y = some c' → c' ≠ C' := fun y kk j c' hm hk hy e => by
  obtain ⟨_,c'',w,h1,h2,_⟩ := c.fr.cel y kk j hm hk
  cases sxx hy h1
  rw [e,hs] at h2; cases h2
 have F₂ := b.fr.write hw k hLC fun y kk j c' hm hk hy e => hcc y kk j c' hm hk hy e
 ·refine ⟨⟨F₂.down up c.fr.lx fun y kk j c' hm hk hy h => h.elim id fun h => absurd h (hcc y kk j c' hm hk hy),(((c.st.ext E).set b.wx b.keep).set hw k).down up,?_,c.room⟩,?_,?_,.refl _ _,.next⟩
  ·exact b.inv.mv hT mv (fun b hb => .inr (List.mem_singleton.mp hb)) (fun b hb ht => hCX (c.inv.xt _ (by rw [List.mem_singleton.mp hb] at ht; exact ht))) (fun b hb => by rw [List.mem_singleton.mp hb]; exact hCm) up c.inv.xt
    (fun b hx hb => absurd hx (by rw [List.mem_singleton.mp hb]; exact hCX))
  ·intro b' o e hb
   have e1 := E.keep b' o e fun h => hb (.tab h)
   have e2 := b.keep b' o e1 fun h => hb (.own (R6 hl c.fr hm (.inl rfl) h))
   exact k b' o e2 fun h => by rw [h,hs] at e; cases e
  ·intro g q e
   show s''.gens[g]? = some q
   rw [b.gens]; exact E.gens g q e
theorem li {elt tg iter : Expr} {ifs : List Expr} {rest : List Comprehension} {scope : Scope} {cp p pos : Pos} {x : Str} {M : Model} {Q : Flow → Shared → Prop} (hkind : env.scope.kind = .function) (hk : env.kindOf x = some .local) (hp : (p.line == cp.line) = true)
  (hnx : (scope.names.any fun (n,k) => n == x && (k == .local || k == .cell)) = false)
  (h : ∀ q,wpAny M A (comprehension (.ListComp elt (⟨tg,iter,ifs,0⟩ :: rest) scope cp) scope env q (newList []) false (eval iter env) (some (PySem.assign (.Name x p) env))) (fun _ s' => Q .next s') noE s) :
  wpAny M A (exec (.Assign [.Name x p] (.ListComp elt (⟨tg,iter,ifs,0⟩ :: rest) scope cp) pos) env) Q noE s := by
 have hsw : swapsWith (.ListComp elt (⟨tg,iter,ifs,0⟩ :: rest) scope cp) (some (.Name x p)) pos.line env = pure true := by
  have hb : env.blockKind = .function := by
   unfold Env.blockKind
   rw [hkind]; rfl
  show (pure (env.blockKind == .function && env.kindOf x == some .local && p.line == cp.line && !(scope.names.any fun (n,k) => n == x && (k == .local || k == .cell))) : Sem Bool) = pure true
  rw [hb,hk,hnx,hp]; rfl
 rw [exec_Assign_Name_used _ _ _ _ hsw]
 refine wpAny_bind (wpAny_standAt (wpAny_bind ?_))
 show wpAny _ A (do let _ ← comprehension (.ListComp elt (⟨tg,iter,ifs,0⟩ :: rest) scope cp) scope env _ (newList []) false (eval iter env) (some (PySem.assign (.Name x p) env))) _ _ s
 exact wpAny_bind (wt (h _) fun _ s' h => wpAny_pure (wpAny_pure h))
theorem SS.assignComp (hT : d3 R) (hl : D9 lay) {lay' : Lay} {x : Str} {i : Nat} {elt iter tg : Expr} {t : MT} {ifs : List Expr} {scope : Scope} {cp p pos : Pos} {mi : MI} {melt : ME} {cond : Option ME} (hm : (x,Kd.loc,i) ∈ lay)
  (hp : (p.line == cp.line) = true) (hnx : (scope.names.any fun (n,k) => n == x && (k == .local || k == .cell)) = false)
  (K : aI lay lay' scope t.slots) (ht : M1 lay' tg t) (hn : ∀ x ∈ Q8 tg,(x,NameKind.local) ∈ scope.names ∨ (x,NameKind.cell) ∈ scope.names)
  (hI : IS R C d lay iter tg t mi) (hc : cR R C d lay' ifs cond) (he : ES R C d lay' elt melt) :
  SS R C d lay (.Assign [.Name x p] (.ListComp elt [⟨tg,iter,ifs,0⟩] scope cp) pos) (.assign (.one i) (.comp melt t mi cond)) := fun env A X μ s ρ σ fl S' c ev => by
 obtain ⟨v,ρ',e1,e3'⟩ := eA ev
 obtain ⟨xs,out,e5,hU,e7,hlen⟩ := iu e1
 obtain ⟨_,rfl⟩ := Z7 e3'
 have hk : env.kindOf x = some .local := by
  obtain ⟨m,_,h⟩ := c.fr.loc
  exact (h x i hm).1
 refine li c.fr.kind hk hp hnx fun _ => ?_
 refine eQ (C := C) (em := fun acc env => (do let _ ← call (.builtin "list.append") [acc,← eval elt env])) (use := some (PySem.assign (.Name x p) env)) (test := jp C σ cond) (el := fun ρ' => (evE C melt ρ' σ).map fun v => [v]) (out := out) hT K ht hn hI hU (Y6 hU) (fun _ _ _ => rfl)
  (fun cenv Y s ρ' b cx e => ak hc cx e) (fun cenv Y D s ρ' acc l cx ag hD hDt hDm hDW hWO hkl hcn ha e hl => wt (gM hT K he cx hD hDt hDm hDW hcn ha e hl) fun _ s' h => ⟨h.1,h.2.1.mono fun b hb => hb.elim .tab .eq,h.2.2⟩) c e5 e7 hlen fun s' C' D m E hs hN hCm r => iH hT hl hm hk c E hs hN hCm r e3'
end
section
variable {R : Run} {C : Orc} {d : Nat} {X Y : Addr → Prop} {μ μ' μ'' : List Addr} {s s' s'' s₁ s₂ : Shared} {lay : Lay} {env : Env} {A : Around} {ρ ρ' : Rho} {σ σ' : Sto}
theorem kq : ∀ {μ : List Addr},μ.Nodup → ∀ {i j : Nat} {a : Addr},μ[i]? = some a → μ[j]? = some a → i = j
 | b :: r,nd,0,0,a,_,_ => rfl
 | b :: r,nd,0,j + 1,a,e,e' => by
  simp at e e'
  exact absurd (List.mem_of_getElem? e') (e ▸ (List.nodup_cons.mp nd).1)
 | b :: r,nd,i + 1,0,a,e,e' => by
  simp at e e'
  exact absurd (List.mem_of_getElem? e) (e' ▸ (List.nodup_cons.mp nd).1)
 | b :: r,nd,i + 1,j + 1,a,e,e' => by
  simp at e e'
  rw [kq (List.nodup_cons.mp nd).2 e e']
theorem pX (hT : d3 R) (c : Cx R d lay env A X μ s ρ σ) {n : Nat} {a : Addr} {xs ys : List PV} {ws : Array Value} {k' : Nat} (hn : σ[n]? = some xs) (ha : μ[n]? = some a) {h' : Heap} (hs' : Heap.SameBut a s.heap h') (hnew : h'.get? a = some (af ws k'))
  (rs : g9 R.Θ X μ s.heap ys ws.toList) {tk : Nat} : P9 R d lay env A X μ μ s .next ⟨ρ,σ.set n ys⟩ .next { s with heap := h',toks := tk } := by
 obtain ⟨a',vs,k,h1,h2,h3,h4⟩ := c.st.bx n xs hn
 cases sxx ha h1
 have hm : a ∈ μ := List.mem_of_getElem? ha
 have k1 : n5 (· = a) s.heap h' := fun b o e hb => (hs'.2 b hb).trans e
 have k2 : n5 (· ∈ μ) s.heap h' := k1.mono fun b h => h ▸ hm
 have go : ∀ {p : List PV} {v : List Value},g9 R.Θ X μ s.heap p v → g9 R.Θ X μ h' p v := fun r => iO (.refl _ _) (k2.mono fun b h => .inr h) r
 refine ⟨⟨c.fr.boxes (.refl _ _) k2,?_,?_,c.room⟩,k2.mono fun b h => .mu h,fun _ _ e => e,.refl _ _,.next⟩
 ·refine ⟨by rw [List.length_set]; exact c.st.len,c.st.nd,fun j zs hj => ?_⟩
  rcases W1 hj with ⟨rfl,rfl⟩ | ⟨hne,hj⟩
  ·exact ⟨a,ws,k',ha,hnew,h3,go rs⟩
  ·obtain ⟨b,us,kk,g1,g2,g3,g4⟩ := c.st.bx j zs hj
   have hba : b ≠ a := fun e => hne (kq c.st.nd ha (e ▸ g1))
   exact ⟨b,us,kk,g1,k1 b _ g2 hba,g3,go g4⟩
 ·refine { keep := fun b o e ht => k1 b o (c.inv.keep b o e ht) (fun h => by rw [h,c.inv.mulo a hm] at e; cases e),tabs := fun j t e => ?_,os := c.inv.os,bare := c.inv.bare,xt := c.inv.xt,xlo := c.inv.xlo,xex := fun b hb => ?_,mulo := c.inv.mulo,muex := fun b hb => ?_ }
  ·obtain ⟨hp,ps,g1,g2,g3⟩ := c.inv.tabs j t e
   refine ⟨hp,ps,k1 _ _ g1 fun h => h3 (h ▸ c.inv.xt _ hp),g2,fun cv e => ?_⟩
   obtain ⟨c',e1,e2,e3,e4⟩ := g3 cv e
   obtain ⟨c0,o,vs,t',e5,g,r⟩ := e2
   cases e5
   exact ⟨c',e1,⟨c',o,vs,t',rfl,k2 _ _ g e4,r⟩,e3,e4⟩
  ·obtain ⟨o,e⟩ := c.inv.xex b hb
   exact ⟨o,k1 b o e fun h => h3 (h ▸ hb)⟩
  ·by_cases h : b = a
   ·exact ⟨_,h ▸ hnew⟩
   ·obtain ⟨o,e⟩ := c.inv.muex b hb
    exact ⟨o,k1 b o e h⟩
theorem pI (hT : d3 R) (c : Cx R d lay env A X μ s ρ σ) (S : w5 R X μ s s₁) {a : Addr} {xs : List PV} {vs : Array Value} {k : Nat} (h0 : s.heap.get? a = Option.none) (h1 : s₁.heap.get? a = some (af vs k)) (rs : g9 R.Θ X (μ ++ [a]) s₁.heap xs vs.toList) :
  P9 R d lay env A X μ (μ ++ [a]) s .next ⟨ρ,σ ++ [xs]⟩ .next s₁ := by
 have f := c.inv.fresh_of h0
 have g : A4 μ (μ ++ [a]) s.heap := ⟨[a],rfl,fun b hb => by rw [List.mem_singleton.mp hb]; exact h0⟩
 have kE : n5 (fun b => X b ∨ b ∈ μ) s.heap s₁.heap := fun b o e hb => S.keep b o e fun ht => hb (.inl (c.inv.xt b ht))
 refine ⟨⟨?_,?_,?_,c.room⟩,n5.mono (W := (· ∈ Tabs)) S.keep fun b h => .tab h,S.gens,g,.next⟩
 ·have F := c.fr
  refine { kind := F.kind,glob := F.glob,blt := F.blt,llo := F.llo,lx := F.lx,lmu := ?_,glo := F.glo,apart := F.apart,cod := F.cod,loc := ?_,cel := ?_ }
  ·obtain ⟨m,⟨o,_,_,ho,_⟩,_⟩ := F.loc
   exact g.off ho F.lmu
  ·obtain ⟨m,hn,hl⟩ := F.loc
   refine ⟨m,hn.at' fun o e => S.keep _ o e fun ht => hT.no ht F.llo,fun x i hm => ⟨(hl x i hm).1,fun v ev hu => ?_⟩⟩
   obtain ⟨v',e1,e2⟩ := (hl x i hm).2 v ev hu
   exact ⟨v',e1,U8 g kE e2⟩
  ·intro x kk i hm hk
   obtain ⟨g0,cc,w,g1,g2,g3,g4,g5,g6⟩ := F.cel x kk i hm hk
   refine ⟨g0,cc,w,g1,S.keep cc _ g2 (fun ht => ?_),g.off g2 g3,fun v ev hu => ?_,g5,g6⟩
   ·rcases hk with hk | hk
    ·exact hT.no ht (g5 hk).2
    ·exact g6 hk (c.inv.xt cc ht)
   ·obtain ⟨v',e1,e2⟩ := g4 v ev hu
    exact ⟨v',e1,U8 g kE e2⟩
 ·refine ⟨by simp [c.st.len],?_,fun j zs hj => ?_⟩
  ·rw [List.nodup_append]
   exact ⟨c.st.nd,by simp,fun b hb b' hb' => by rw [List.mem_singleton.mp hb']; exact fun e => f.2 (e ▸ hb)⟩
  ·rcases Nat.lt_or_ge j σ.length with hlt | hge
   ·rw [List.getElem?_append_left hlt] at hj
    obtain ⟨b,us,kk,g1,g2,g3,g4⟩ := c.st.bx j zs hj
    exact ⟨b,us,kk,g.get _ _ g1,S.keep b _ g2 (fun ht => g3 (c.inv.xt b ht)),g3,iO g kE g4⟩
   ·rw [List.getElem?_append_right hge] at hj
    cases e : j - σ.length with
    | zero =>
     rw [e] at hj
     simp at hj
     subst hj
     refine ⟨a,vs,k,?_,h1,f.1,rs⟩
     rw [List.getElem?_append_right (by rw [c.st.len]; exact hge),c.st.len,e]; rfl
    | succ q => rw [e] at hj; simp at hj
 ·have I := S.inv
  refine { keep := I.keep,tabs := fun j t e => ?_,os := I.os,bare := I.bare,xt := I.xt,xlo := I.xlo,xex := I.xex,mulo := fun b hb => ?_,muex := fun b hb => ?_ }
  ·obtain ⟨hp,ps,g1,g2,g3⟩ := I.tabs j t e
   refine ⟨hp,ps,g1,g2,fun cv e => ?_⟩
   obtain ⟨c',e1,e2,e3,e4⟩ := g3 cv e
   refine ⟨c',e1,e2,e3,fun hb => ?_⟩
   rcases List.mem_append.mp hb with hb | hb
   ·exact e4 hb
   ·obtain ⟨c0,o,ws,t',e5,g,r,_⟩ := e2
    cases e5
    rw [List.mem_singleton.mp hb,h1] at g
    cases g; cases r
  ·rcases List.mem_append.mp hb with hb | hb
   ·exact I.mulo b hb
   ·rw [List.mem_singleton.mp hb]; exact c.inv.fresh_base h0
  ·rcases List.mem_append.mp hb with hb | hb
   ·exact I.muex b hb
   ·rw [List.mem_singleton.mp hb]; exact ⟨_,h1⟩
inductive qO (R : Run) (X : Addr → Prop) (μ : List Addr) (s s' : Shared) (xs : List PV) : Value → Prop
 | mk (a : Addr) (vs : Array Value) (k : Nat) (h0 : s.heap.get? a = Option.none) (h1 : s'.heap.get? a = some (af vs k)) (rs : g9 R.Θ X (μ ++ [a]) s'.heap xs vs.toList) (S : w5 R X μ s s') : qO R X μ s s' xs (.ref a)
noncomputable def ESn (R : Run) (C : Orc) (d : Nat) (lay : Lay) (e : Expr) (m : ME) : Prop :=
 ∀ env A X μ s ρ σ xs,Cx R d lay env A X μ s ρ σ → evE C m ρ σ = some (.list xs) → wpAny (model R.prog R.w) A (eval e env) (fun v' s' => qO R X μ s s' xs v') noE s
inductive uM (R : Run) (d : Nat) (lay : Lay) (env : Env) (A : Around) (X : Addr → Prop) (μ : List Addr) (s s₁ : Shared) (ρ : Rho) (σ : Sto) (xs : List PV) (v' : Value) : Prop
 | mk (μ' : List Addr) (r : n4 R.Θ X μ' s₁.heap (.box σ.length) v') (P : P9 R d lay env A X μ μ' s .next ⟨ρ,σ ++ [xs]⟩ .next s₁) : uM R d lay env A X μ s s₁ ρ σ xs v'
theorem lJ (hT : d3 R) (c : Cx R d lay env A X μ s ρ σ) {xs : List PV} {v' : Value} (n : qO R X μ s s₁ xs v') : uM R d lay env A X μ s s₁ ρ σ xs v' := by
 obtain ⟨a,vs,k,h0,h1,h2,S⟩ := n
 exact ⟨μ ++ [a],.box (by rw [← c.st.len,List.getElem?_append_right (Nat.le_refl _)]; simp),pI hT c S h0 h1 h2⟩
theorem qO.st {xs : List PV} {v : Value} (n : qO R X μ s s' xs v) : w5 R X μ s s' := by
 obtain ⟨_,_,_,_,_,_,S⟩ := n; exact S
theorem jL (I : Inv R X μ s) {o : Obj} {ps : List PV} {vs : List Value} (r : g9 R.Θ X μ s.heap ps vs) : g9 R.Θ X (μ ++ [s.heap.objs.size]) (s.heap.push o) ps vs :=
 J9 (X' := X) (μ' := μ ++ [s.heap.objs.size]) (h' := s.heap.push o) (fun b q e hx hm => ⟨Heap.get?_push_of_some _ e,hx,fun hb => by
  rcases List.mem_append.mp hb with hb | hb
  ·exact hm hb
  ·rw [List.mem_singleton.mp hb,Heap.none_at_size] at e; cases e⟩) (fun n a e => by
  rw [List.getElem?_append_left (List.getElem?_eq_some_iff.mp e).1]; exact e) r
theorem fx (hT : d3 R) (S : w5 R X μ s s') {b : Addr} (h : s'.heap.get? b = Option.none) (I : Inv R X μ s) : s.heap.get? b = Option.none :=
 O4 I S.keep h fun b hb => S.inv.xex b (S.inv.xt b hb)
theorem ESn.list (hT : d3 R) {es : List Expr} {ms : MEs} {pos : Pos} (h : ESs R C d lay es ms) (hl : es.length ≤ 1000) : ESn R C d lay (.List es pos) (.list ms) := fun env A X μ s ρ σ xs c e => by
 obtain ⟨vs,e1,e2⟩ := bd e
 split at e2 <;> cases e2
 refine wpAny_List (wpAny_mono (K3 hT h pos c e1) (fun vs' s₁ h₁ => ?_) fun _ _ x => x)
 refine ⟨?_,_,_,_,fx hT h₁.2 (Heap.none_at_size _) c.inv,Heap.get?_push_size _ rfl,?_,h₁.2.trans (w5.push h₁.2.inv)⟩
 ·have := h₁.1.length
  have := ln h e1
  have : sizeLine = 16777216 := rfl
  lia
 ·simpa using jL h₁.2.inv h₁.1
theorem gh {α : Type} (v : α) : ∀ (n : Nat) (acc : Array α),(List.foldl (fun x1 x2 => x1 ++ x2) acc (List.replicate n #[v])).toList = acc.toList ++ List.replicate n v
 | 0,acc => by simp
 | n + 1,acc => by
  rw [List.replicate_succ,List.foldl_cons,gh v n]
  simp [List.replicate_succ]
theorem qD {A : Around} {l : Addr} {items : Array Value} {k : Nat} {x : Int} {u : Tok} {Q E : Value → Shared → Prop} (hl : s.heap.get? l = some (af items k)) (hlo : -(2 ^ 63 : Int) ≤ x) (hhi : x < 2 ^ 63) (hsz : items.size * x.toNat ≤ 2 ^ 24)
  (h : Q (.ref s.heap.objs.size) { s with heap := s.heap.push { cls := .type "list",data := .seq (List.foldl (fun x1 x2 => x1 ++ x2) #[] (List.replicate (if items.isEmpty = true then 0 else x.toNat) items)) } }) :
  wpAny (model R.prog R.w) A (binaryOp .Mult (.ref l) (.int x u)) Q E s :=
 wpAny_binaryOp_repeat_ref (T := "list") (U := "int") (by decide) ⟨_,hl,rfl⟩ (fun s' => typeIs_int s' x u) noFill_list_mul F.fills_int_mul F.slot_int_rmul repeat_list F.slot_int_index.lookup
  (call_meets F.slot_int_rmul (typeIs_int s x u) F.entry_int_rmul (F.args_int_rmul_2 _ _) (int___rmul___int_list x u l items k)
   ⟨hl,rfl,⟨_,hl,rfl⟩,call_meets F.slot_list_mul ⟨_,hl,rfl⟩ F.entry_list_mul (F.args_list_mul_2 _ _)
    (AutoListH.list___mul___list_int_3 l items k x u (by simp [Builtin.List.listFitsIndex]; lia) (by lia) (by simp [Builtin.List.listTooLong,sizeLine]; lia)) ⟨hl,h⟩⟩)
inductive uT (C : Orc) (i : Int) (m : ME) (ρ : Rho) (σ : Sto) : PV → Prop
 | mk (n : Int) (e : evE C m ρ σ = some (.int n)) (hn : n ≤ a8 ∧ -a8 ≤ n) : uT C i m ρ σ (.list (List.replicate n.toNat (.int i)))
theorem qu {m : ME} {i : Int} {v : PV} (e : evE C (.rep i m) ρ σ = some v) : uT C i m ρ σ v := by
 obtain ⟨v,e1,e2⟩ := bd e
 cases v with
 | int n =>
  obtain ⟨h,rfl⟩ := j9 e2
  exact ⟨n,e1,h⟩
 | _ => exact nos e2
theorem pH {h : Heap} {i : Int} {vs : Array Value} (r : g9 R.Θ X μ h [.int i] vs.toList) : ∃ t,vs = #[.int i t] := by
 generalize e : vs.toList = ws at r
 obtain ⟨v,r1⟩ := r.inv1
 obtain ⟨t⟩ := r1.int_inv
 exact ⟨t,Array.toList_inj.mp e⟩
theorem ESn.rep (hT : d3 R) {i : Int} {k : Nat} {p1 p2 pos : Pos} {e : Expr} {m : ME} (he : ES R C d lay e m) : ESn R C d lay (.BinOp (.List [.Constant (.int i) k p1] p2) .Mult e pos) (.rep i m) := fun env A X μ s ρ σ xs c ev => by
 generalize hv : PV.list xs = w at ev
 obtain ⟨n,e1,hn⟩ := qu ev
 cases hv
 have hlist := ESn.list (C := C) (pos := p2) hT (.cons (e := .Constant (.int i) k p1) (R := R) (d := d) (lay := lay) (m := .lit (.int i)) rfl ES.int .nil) (by simp) env A X μ s ρ σ [.int i] c rfl
 refine wpAny_BinOp (wt hlist fun v' s₁ h₁ => wt (he env A X μ s₁ ρ σ _ (c.step hT (qO.st h₁)) e1) fun w s₂ h₂ => ?_)
 obtain ⟨t⟩ := h₂.1.int_inv
 obtain ⟨a,vs,kk,h0,h1,h2,S₁⟩ := h₁
 have hll : a8 = 1000000 := rfl
 have hat : a ∉ Tabs := fun h => by obtain ⟨o,e⟩ := c.inv.xex a (c.inv.xt a h); exact nxx h0 e
 obtain ⟨tk,rfl⟩ := pH h2
 refine qD (h₂.2.keep a _ h1 hat) (by lia) (by lia) (by simp; lia) ⟨_,_,_,fx hT (S₁.trans h₂.2) (Heap.none_at_size _) c.inv,Heap.get?_push_size _ rfl,?_,(S₁.trans h₂.2).trans (w5.push (tk := s₂.toks) h₂.2.inv)⟩
 have e5 := gh (Value.int i tk) n.toNat #[]
 simp only [List.isEmpty_toArray,List.isEmpty_cons,u4,if_false]
 rw [e5]
 simpa using g9.replicate (.int i tk) n.toNat
theorem Q5 {S S' : St} {i : Nat} {v : PV} (h : eY i v S = some S') : i < S.ρ.length ∧ S' = ⟨S.ρ.set i v,S.σ⟩ := by
 unfold eY at h
 split at h <;> cases h
 exact ⟨And.left ‹_›,rfl⟩
inductive uU (C : Orc) (i : Nat) (m : ME) (ρ : Rho) (σ : Sto) : Fl → St → Prop
 | mk (xs : List PV) (e : evE C m ρ σ = some (.list xs)) : uU C i m ρ σ .next ⟨ρ.set i (.box σ.length),σ ++ [xs]⟩
theorem pT {i : Nat} {m : ME} {fl : Fl} {S' : St} (e : exS C (.own i m) ⟨ρ,σ⟩ = some (fl,S')) : uU C i m ρ σ fl S' := by
 obtain ⟨v,e1,e2⟩ := bd e
 cases v with
 | list xs =>
  obtain ⟨_,e2⟩ := C5 e2
  obtain ⟨S2,e3,e4⟩ := mq e2
  cases e4
  rw [(Q5 e3).2]
  exact ⟨_,e1⟩
 | _ => exact nos e2
theorem SS.own (hT : d3 R) (hl : D9 lay) {x : Str} {k : Kd} {i : Nat} {e : Expr} {m : ME} {p pos : Pos} (hm : (x,k,i) ∈ lay) (hk : k = .loc ∨ k = .cel) (he : ESn R C d lay e m) (hs : ah e = true) : SS R C d lay (.Assign [.Name x p] e pos) (.own i m) := fun env A X μ s ρ σ fl S' c ev => by
 obtain ⟨xs,e1⟩ := pT ev
 refine wpAny_Assign_Name (wt (he env A X μ s ρ σ xs c e1) fun v' s₁ h₁ => ?_) (O7 hs _ _ _)
 obtain ⟨μ',r,P⟩ := lJ hT c h₁
 exact J0 hT hl P.cx.fr P.cx.inv hm hk r fun s₂ b => ⟨μ',P.trans c (.of_bound hl P.cx (.refl P.cx.inv) b fun a h => R6 hl P.cx.fr hm hk h)⟩
end
section
variable {R : Run} {C : Orc} {d : Nat} {X Y : Addr → Prop} {μ μ' μ'' : List Addr} {s s' s'' s₁ s₂ : Shared} {lay : Lay} {env : Env} {A : Around} {ρ ρ' : Rho} {σ σ' : Sto}
theorem H5 (F : FR R lay env X μ s.heap ρ) : interactive env = false := by
 unfold interactive
 rw [F.kind]; rfl
theorem A8 {S : St} {i n : Nat} {xs : List PV} (h : M5 S i = some (n,xs)) : evE C (.var i) S.ρ S.σ = some (.box n) ∧ S.σ[n]? = some xs := by
 show n7 S.ρ i = _ ∧ _
 have h' : (match n7 S.ρ i with | some (.box n) => (S.σ[n]?).map fun xs => (n,xs) | _ => Option.none) = some (n,xs) := h
 generalize n7 S.ρ i = o at h' ⊢
 cases o with
 | none => exact nos h'
 | some w =>
  cases w with
  | box m =>
   obtain ⟨ys,e1,e2⟩ := mq h'
   cases e2
   exact ⟨rfl,e1⟩
  | _ => exact nos h'
inductive uz (C : Orc) (i : Nat) (m : ME) (ρ : Rho) (σ : Sto) : Fl → St → Prop
 | mk (n : Nat) (xs : List PV) (v : PV) (ev : evE C (.var i) ρ σ = some (.box n)) (hx : σ[n]? = some xs) (e : evE C m ρ σ = some v) (hl : xs.length ≤ a8) : uz C i m ρ σ .next ⟨ρ,σ.set n (xs ++ [v])⟩
theorem jN {m : ME} {i : Nat} {fl : Fl} {S' : St} (e : exS C (.append i m) ⟨ρ,σ⟩ = some (fl,S')) : uz C i m ρ σ fl S' := by
 obtain ⟨⟨n,xs⟩,e1,e2⟩ := bd e
 obtain ⟨v,e3,e4⟩ := bd e2
 obtain ⟨h,e4⟩ := j9 e4
 cases e4
 exact ⟨n,xs,v,(A8 e1).1,(A8 (C := C) e1).2,e3,h.2⟩
inductive ur (C : Orc) (i : Nat) (ρ : Rho) (σ : Sto) : Fl → St → Prop
 | mk (n : Nat) (xs : List PV) (ev : evE C (.var i) ρ σ = some (.box n)) (hx : σ[n]? = some xs) (hl : xs.length ≤ a8) : ur C i ρ σ .next ⟨ρ,σ.set n xs.reverse⟩
theorem ie {i : Nat} {fl : Fl} {S' : St} (e : exS C (.reverse i) ⟨ρ,σ⟩ = some (fl,S')) : ur C i ρ σ fl S' := by
 obtain ⟨⟨n,xs⟩,e1,e2⟩ := bd e
 obtain ⟨h,e2⟩ := j9 e2
 cases e2
 exact ⟨n,xs,(A8 e1).1,(A8 (C := C) e1).2,h⟩
inductive uH (C : Orc) (i : Nat) (m m' : ME) (ρ : Rho) (σ : Sto) : Fl → St → Prop
 | mk (n : Nat) (xs : List PV) (q : Int) (v : PV) (ev : evE C (.var i) ρ σ = some (.box n)) (hx : σ[n]? = some xs) (e : evE C m ρ σ = some (.int q)) (e' : evE C m' ρ σ = some v) (h : xs.length ≤ a8 ∧ 0 ≤ q ∧ q ≤ xs.length) : uH C i m m' ρ σ .next ⟨ρ,σ.set n (xs.take q.toNat ++ v :: xs.drop q.toNat)⟩
theorem jl {m m' : ME} {i : Nat} {fl : Fl} {S' : St} (e : exS C (.insert i m m') ⟨ρ,σ⟩ = some (fl,S')) : uH C i m m' ρ σ fl S' := by
 obtain ⟨⟨n,xs⟩,e1,e2⟩ := bd e
 obtain ⟨kv,e3,e4⟩ := bd e2
 obtain ⟨v,e5,e6⟩ := bd e4
 cases kv with
 | int q =>
  obtain ⟨h,e6⟩ := j9 e6
  cases e6
  exact ⟨n,xs,q,v,(A8 e1).1,(A8 (C := C) e1).2,e3,e5,h.2⟩
 | _ => exact nos e6
inductive ut (C : Orc) (i : Nat) (m m' : ME) (ρ : Rho) (σ : Sto) : Fl → St → Prop
 | mk (n : Nat) (xs : List PV) (q : Int) (v : PV) (ev : evE C (.var i) ρ σ = some (.box n)) (hx : σ[n]? = some xs) (e : evE C m ρ σ = some (.int q)) (e' : evE C m' ρ σ = some v) (h : 0 ≤ q ∧ q < xs.length ∧ q ≤ 1000000) : ut C i m m' ρ σ .next ⟨ρ,σ.set n (xs.set q.toNat v)⟩
theorem lV {m m' : ME} {i : Nat} {fl : Fl} {S' : St} (e : exS C (.setat i m m') ⟨ρ,σ⟩ = some (fl,S')) : ut C i m m' ρ σ fl S' := by
 obtain ⟨v,e3,e2⟩ := bd e
 obtain ⟨⟨n,xs⟩,e1,e4⟩ := bd e2
 obtain ⟨kv,e5,e6⟩ := bd e4
 cases kv with
 | int q =>
  obtain ⟨h,e6⟩ := j9 e6
  cases e6
  exact ⟨n,xs,q,v,(A8 e1).1,(A8 (C := C) e1).2,e5,e3,h.2⟩
 | _ => exact nos e6
inductive uw (Θ : Tms) (X : Addr → Prop) (μ : List Addr) (h : Heap) (xs : List PV) (a : Addr) : Prop
 | mk (vs : Array Value) (k : Nat) (g : h.get? a = some (af vs k)) (n : vs.size = xs.length) (r : g9 Θ X μ h xs vs.toList) : uw Θ X μ h xs a
theorem Cx.box (c : Cx R d lay env A X μ s ρ σ) {n : Nat} {xs : List PV} {a : Addr} (hx : σ[n]? = some xs) (ha : μ[n]? = some a) : uw R.Θ X μ s.heap xs a := by
 obtain ⟨a',vs,k,g1,g2,_,g4⟩ := c.st.bx n xs hx
 cases sxx ha g1
 exact ⟨vs,k,g2,by rw [← Array.length_toList]; exact g4.length.symm,g4⟩
theorem cE (hT : d3 R) (c : Cx R d lay env A X μ s ρ σ) {n : Nat} {a : Addr} {xs ys : List PV} {vs : Array Value} {k : Nat} (hn : σ[n]? = some xs) (ha : μ[n]? = some a) (h2 : s.heap.get? a = some (af vs k)) {f : Array Value → Array Value}
  (rs : g9 R.Θ X μ s.heap ys (f vs).toList) {tk : Nat} : P9 R d lay env A X μ μ s .next ⟨ρ,σ.set n ys⟩ .next { s with heap := s.heap.update a (Obj.mapSeq f),toks := tk } := by
 obtain ⟨k',hk'⟩ : ∃ k',(s.heap.update a (Obj.mapSeq f)).get? a = some (af (f vs) k') := ⟨_,Heap.get?_update_self _ h2 rfl⟩
 exact pX hT c hn ha (Heap.SameBut.update ..) hk' rs
theorem SS.append (hT : d3 R) {o e : Expr} {i : Nat} {m : ME} {apos cpos pos : Pos} (ho : ES R C d lay o (.var i)) (hb : dE o) (hs : n8 e) (hline : (apos.endLine == cpos.line) = true) (he : ES R C d lay e m) :
  SS R C d lay (.Expr (.Call (.Attribute o (Str.ofString "append") apos) [e] [] cpos) pos) (.append i m) := fun env A X μ s ρ σ fl S' c ev => by
 obtain ⟨n,xs,v,ev1,hx,e3,hl⟩ := jN ev
 refine wpAny_Expr_any (Call_method1 (av hb _ _ _) (o9 hs [] env) hline (wt (ho env A X μ s ρ σ _ c ev1) fun a' s₁ h₁ => ?_)) (H5 c.fr) (O7 rfl _ _ _)
 have c₁ := c.step hT h₁.2
 obtain ⟨a,ha⟩ := h₁.1.box_inv
 obtain ⟨vs,k,g2,_,_⟩ := c₁.box hx ha
 refine ⟨"list","list.append",F.plainAttrs_list,slot_list_append,type_list_append,⟨_,g2,rfl⟩,(fun b e => by cases e; exact ⟨_,g2,rfl⟩),?_⟩
 refine callWith_builtin rfl (evalArgs_plain (spliced_cons (wt (he env A X μ s₁ ρ σ v c₁ e3) fun w s₂ h₂ => spliced_nil ?_)))
 have c₂ := c₁.step hT h₂.2
 obtain ⟨vs,k,g2,g3,g4⟩ := c₂.box hx ha
 have h1 : a8 = 1000000 := rfl
 have h2 : sizeLine = 16777216 := rfl
 exact call_meets slot_list_append ⟨_,g2,rfl⟩ entry_list_append (args_list_append _ _) (AutoListH.list_append_list_val_0 a vs k w (by lia)) ⟨g2,⟨μ,(cE (f := fun x => x.push w) hT c₂ hx ha g2 (by simpa using g4.append (.cons h₂.1 .nil))).after hT c (h₁.2.trans h₂.2)⟩⟩
theorem SS.reverse (hT : d3 R) {o : Expr} {i : Nat} {apos cpos pos : Pos} (ho : ES R C d lay o (.var i)) (hb : dE o) (hline : (apos.endLine == cpos.line) = true) :
  SS R C d lay (.Expr (.Call (.Attribute o (Str.ofString "reverse") apos) [] [] cpos) pos) (.reverse i) := fun env A X μ s ρ σ fl S' c ev => by
 obtain ⟨n,xs,ev1,hx,hl⟩ := ie ev
 refine wpAny_Expr_any (Call_method0 (av hb _ _ _) hline (wt (ho env A X μ s ρ σ _ c ev1) fun a' s₁ h₁ => ?_)) (H5 c.fr) (O7 rfl _ _ _)
 have c₁ := c.step hT h₁.2
 obtain ⟨a,ha⟩ := h₁.1.box_inv
 obtain ⟨vs,k,g2,g3,g4⟩ := c₁.box hx ha
 have h1 : a8 = 1000000 := rfl
 have h2 : sizeLine = 16777216 := rfl
 exact ⟨"list","list.reverse",F.plainAttrs_list,F.slot_list_reverse,F.type_list_reverse,⟨_,g2,rfl⟩,(fun b e => by cases e; exact ⟨_,g2,rfl⟩),
  callWith_builtin rfl (PySem.evalArgs_none (call_meets F.slot_list_reverse ⟨_,g2,rfl⟩ F.entry_list_reverse (F.args_list_reverse_1 _) (AutoListH.list_reverse_list_0 a vs k (by lia)) ⟨g2,⟨μ,(cE (f := fun x => x.reverse) hT c₁ hx ha g2 (by simpa using g4.reverse)).after hT c h₁.2⟩⟩))⟩
theorem pR {h : Heap} {xs : List PV} {v : PV} {vs : Array Value} {w2 : Value} {kk : Int} (hn : vs.size = xs.length) (hc : 0 ≤ kk ∧ kk ≤ xs.length) (g4 : g9 R.Θ X μ h xs vs.toList) (rv : n4 R.Θ X μ h v w2) :
  g9 R.Θ X μ h (xs.take kk.toNat ++ v :: xs.drop kk.toNat) ((vs.extract 0 (if kk < 0 then (kk + ((vs.size : Nat) : Int)).toNat else min kk.toNat vs.size)).push w2 ++ vs.extract (if kk < 0 then (kk + ((vs.size : Nat) : Int)).toNat else min kk.toNat vs.size)).toList := by
 have hk : (if kk < 0 then (kk + ((vs.size : Nat) : Int)).toNat else min kk.toNat vs.size) = kk.toNat := by
  obtain ⟨n,rfl⟩ := Int.eq_ofNat_of_zero_le hc.1
  rw [if_neg (Int.not_lt.mpr hc.1),Nat.min_eq_left (by rw [hn]; exact Int.ofNat_le.mp hc.2)]
 rw [hk]
 have e7 : ((vs.extract 0 kk.toNat).push w2 ++ vs.extract kk.toNat).toList = vs.toList.take kk.toNat ++ w2 :: vs.toList.drop kk.toNat := by
  simp [Array.toList_extract,List.extract_eq_drop_take]
  rw [List.take_of_length_le (by simp [List.length_drop])]
 rw [e7]
 exact (g4.take _).append (.cons rv (g4.drop _))
theorem SS.insert (hT : d3 R) {o e f : Expr} {i : Nat} {m n' : ME} {apos cpos pos : Pos} (ho : ES R C d lay o (.var i)) (hb : dE o) (hs : n8 e) (hs' : n8 f) (hline : (apos.endLine == cpos.line) = true) (he : ES R C d lay e m) (hf : ES R C d lay f n') :
  SS R C d lay (.Expr (.Call (.Attribute o (Str.ofString "insert") apos) [e,f] [] cpos) pos) (.insert i m n') := fun env A X μ s ρ σ fl S' c ev => by
 obtain ⟨n,xs,kk,v,ev1,hx,e3,e5,hc⟩ := jl ev
 refine wpAny_Expr_any (Call_method2 (av hb _ _ _) (by rw [o9 hs [f] env,o9 hs' [] env]; rfl) hline (wt (ho env A X μ s ρ σ _ c ev1) fun a' s₁ h₁ => ?_)) (H5 c.fr) (O7 rfl _ _ _)
 have c₁ := c.step hT h₁.2
 obtain ⟨a,ha⟩ := h₁.1.box_inv
 obtain ⟨vs,k,g2,_,_⟩ := c₁.box hx ha
 refine ⟨"list","list.insert",F.plainAttrs_list,F.slot_list_insert,F.type_list_insert,⟨_,g2,rfl⟩,(fun b e => by cases e; exact ⟨_,g2,rfl⟩),?_⟩
 refine callWith_builtin rfl (evalArgs_plain (spliced_cons (wt (he env A X μ s₁ ρ σ _ c₁ e3) fun w s₂ h₂ => ?_)))
 have c₂ := c₁.step hT h₂.2
 refine spliced_cons (wt (hf env A X μ s₂ ρ σ v c₂ e5) fun w2 s₃ h₃ => spliced_nil ?_)
 have c₃ := c₂.step hT h₃.2
 obtain ⟨tk⟩ := h₂.1.int_inv
 obtain ⟨vs,k,g2,g3,g4⟩ := c₃.box hx ha
 have h1 : a8 = 1000000 := rfl
 have h2 : sizeLine = 16777216 := rfl
 exact call_meets F.slot_list_insert ⟨_,g2,rfl⟩ F.entry_list_insert (F.args_list_insert_3 _ _ _) (AutoListH.list_insert_list_int_val_1 a vs k kk tk w2 (by simp [Builtin.List.listFitsIndex]; lia) (by lia)) ⟨g2,
  ⟨μ,(cE (f := fun xs => have k := if kk < 0 then (kk + ((xs.size : Nat) : Int)).toNat else min kk.toNat xs.size; (xs.extract 0 k).push w2 ++ xs.extract k) hT c₃ hx ha g2 (pR g3 hc.2 g4 h₃.1)).after hT c ((h₁.2.trans h₂.2).trans h₃.2)⟩⟩
theorem cV {prog : Program} {w : World} {l : Addr} {items : Array Value} {n : Nat} {k : Int} {t : Tok} {v : Value} {Q : Unit → Shared → Prop} {E : Value → Shared → Prop} (hl : s.heap.get? l = some (af items n)) (h0 : 0 ≤ k) (hfit : k < 2 ^ 63) (hn : k < items.size)
  (hQ : Q () { s with heap := s.heap.update l (Obj.mapSeq (·.setIfInBounds k.toNat v)) }) : wpAny (model prog w) A (setItem (.ref l) (.int k t) v) Q E s := by
 have hT : s.TypeIs (.ref l) "list" := ⟨_,hl,rfl⟩
 unfold setItem
 try with_reducible refine wpAny_holding ?_
 first | refine wpAny_bind (wpAny_pure ?_) | skip
 refine wpAny_bind (wpAny_sequenceKey hT (by decide) ?_)
 refine wpAny_bind (wpAny_callSpecial?_slot (name := Str.ofString "__setitem__") hT slot_list_setitem
  (wpAny_call_entry slot_list_setitem hT entry_list_setitem ?_ (args_list_setitem _ _ _)))
 show wpAny _ _ (Builtin.List.listSubscript? (.int k t) >>= _) _ _ s
 refine wpAny_bind (wpAny_listSubscript_int (fitsIndex_of h0 hfit) ?_)
 clear hfit
 obtain ⟨j,rfl⟩ := Int.eq_ofNat_of_zero_le h0
 have hj : j < items.size := by lia
 have hx' : items[j]? = some items[j] := Array.getElem?_eq_getElem hj
 show wpAny _ _ ((seqItemAt l j >>= fun r => pure (r.map (j,·))) >>= _) _ _ s
 refine wpAny_bind (wpAny_bind (wpAny_seqItemAt hl rfl (wpAny_pure ?_)))
 rw [hx']
 show wpAny _ _ (setSeqItemAt l j v >>= _) _ _ s
 refine wpAny_bind (wpAny_setSeqItemAt hl rfl ?_)
 first
  | exact wpAny_bind (wpAny_pure (wpAny_pure ⟨.none,rfl,wpAny_pure hQ⟩))
  | exact wpAny_pure ⟨.none,rfl,wpAny_pure hQ⟩
theorem SS.setat (hT : d3 R) {o ki e : Expr} {i : Nat} {mk m : ME} {sp pos : Pos} (ho : ES R C d lay o (.var i)) (hk : ES R C d lay ki mk) (he : ES R C d lay e m) (hs : ah e = true) :
  SS R C d lay (.Assign [.Subscript o ki sp] e pos) (.setat i mk m) := fun env A X μ s ρ σ fl S' c ev => by
 obtain ⟨n,xs,kk,v,ev1,hx,e5,e3,hc⟩ := lV ev
 refine wpAny_Assign_Subscript (wt (he env A X μ s ρ σ v c e3) fun w s₁ h₁ => ?_) (O7 hs _ _ _)
 have c₁ := c.step hT h₁.2
 refine wt (ho env A X μ s₁ ρ σ _ c₁ ev1) fun a' s₂ h₂ => ?_
 have c₂ := c₁.step hT h₂.2
 refine wt (hk env A X μ s₂ ρ σ _ c₂ e5) fun w2 s₃ h₃ => ?_
 have c₃ := c₂.step hT h₃.2
 obtain ⟨a,ha⟩ := h₂.1.box_inv
 obtain ⟨tk⟩ := h₃.1.int_inv
 obtain ⟨vs,k,g2,g3,g4⟩ := c₃.box hx ha
 exact cV g2 (by lia) (by lia) (by lia) ⟨μ,(cE (tk := s₃.toks) (f := fun x => x.setIfInBounds kk.toNat w) hT c₃ hx ha g2 (by simpa using g4.set kk.toNat (n9 h₃.2 (n9 h₂.2 h₁.1)))).after hT c ((h₁.2.trans h₂.2).trans h₃.2)⟩
end
section
variable {R : Run} {C : Orc} {d : Nat} {X Y : Addr → Prop} {μ μ' μ'' : List Addr} {s s' s'' s₁ s₂ : Shared} {lay : Lay} {env : Env} {A : Around} {ρ ρ' : Rho} {σ σ' : Sto}
theorem G4 {M : Model} {E : Value → Shared → Prop} {elts : List Expr} {k : Nat} {p : Pos} {e : Expr} {pos : Pos} {Q : Flow → Shared → Prop} {sw : Option (List Str)} (hsw : swappedStores [.Tuple elts k p] e env = pure sw)
  (h : wpAny M A (eval e env) (fun v s₁ => match sw with
   | Option.none => wpAny M A (assign (.Tuple elts k p) env v) (fun _ s₂ => Q .next s₂) E s₁
   | some names => wpAny M A (unpackItems v names.length Option.none) (fun items s₂ => wpAny M A (assignInOrder (names.reverse.map fun n => bindName env n) items.reverse) (fun _ s₃ => Q .next s₃) E s₂) E s₁) E s) :
  wpAny M A (exec (.Assign [.Tuple elts k p] e pos) env) Q E s := by
 have hs : swapsWith e (some (.Tuple elts k p)) pos.line env = pure false := by cases e <;> rfl
 have e0 : exec (.Assign [.Tuple elts k p] e pos) env = (do
   standAt pos
   if ← swapsWith e (some (.Tuple elts k p)) pos.line env then do
    evalThenUse e env fun v => assignAll v ((assignEach [.Tuple elts k p] env).map (·.2))
    pure .next
   else do
    let v ← eval e env
    assignStores env v (← swappedStores [.Tuple elts k p] e env) ((assignEach [.Tuple elts k p] env).map (·.2))) := rfl
 rw [e0,hs]
 refine wpAny_bind (wpAny_standAt (wpAny_bind (wpAny_pure ?_)))
 simp only [u4,if_false]
 refine wpAny_bind (wpAny_mono h (fun v s₁ h₁ => ?_) fun _ _ x => x)
 rw [hsw]
 refine wpAny_bind (wpAny_pure ?_)
 cases sw with
 | none =>
  show wpAny _ _ (do PySem.assign (.Tuple elts k p) env v; pure Flow.next) _ _ _
  exact wpAny_bind (wpAny_mono h₁ (fun _ s₂ h₂ => wpAny_pure h₂) fun _ _ x => x)
 | some names =>
  show wpAny _ _ (do rule "assign.swapped-stores"; let items ← unpackItems v names.length Option.none; assignInOrder (names.reverse.map fun n => bindName env n) items.reverse; pure Flow.next) _ _ _
  exact wpAny_bind (wpAny_rule (wpAny_bind (wpAny_mono h₁ (fun items s₂ h₂ => wpAny_bind (wpAny_mono h₂ (fun _ s₃ h₃ => wpAny_pure h₃) fun _ _ x => x)) fun _ _ x => x)))
theorem pD {prog : Program} {w : World} {E : Value → Shared → Prop} {T : Addr} {va vb : Value} {x y : Str} {Q : List Value → Shared → Prop} (hh : A.handled = Option.none) (ht : s.heap.IsTuple T #[va,vb])
  (hQ : ∀ h',Heap.ExtBut s.heap.objs.size s.heap h' → Q [va,vb] { s with heap := h' }) : wpAny (model prog w) A (unpackItems (.ref T) [x,y].length Option.none) Q E s :=
 wpAny_unpackItems_tuple (items := #[va,vb]) hh ht hQ
theorem uZ {x y : Str} {va vb : Value} {M : Model} {Q : Unit → Shared → Prop} {E : Value → Shared → Prop} (h : wpAny M A (storeName env y vb) (fun _ s₁ => wpAny M A (storeName env x va) Q E s₁) E s) :
  wpAny M A (assignInOrder ([x,y].reverse.map fun n => bindName env n) [va,vb].reverse) Q E s :=
 wpAny_assignInOrder_more (wpAny_bindName (wpAny_mono h (fun _ s₁ h₁ => wpAny_assignInOrder_more (wpAny_bindName (wpAny_mono h₁ (fun _ s₂ h₂ => wpAny_assignInOrder_none h₂) fun _ _ x => x))) fun _ _ x => x))
theorem lK {α : Type} {l : List α} {i j : Nat} {a b : α} (h : i ≠ j) : (l.set i a).set j b = (l.set j b).set i a := List.set_comm _ _ h
inductive pS (R : Run) (d : Nat) (lay : Lay) (env : Env) (A : Around) (X : Addr → Prop) (μ : List Addr) (s : Shared) (ρ : Rho) (σ : Sto) (w v : PV) (s₁ : Shared) : Value → Prop
 | mk (T : Addr) (va vb : Value) (μ' : List Addr) (hT : s₁.heap.IsTuple T #[va,vb]) (ra : n4 R.Θ X μ' s₁.heap w va) (rb : n4 R.Θ X μ' s₁.heap v vb) (P : P9 R d lay env A X μ μ' s .next ⟨ρ,σ⟩ .next s₁) : pS R d lay env A X μ s ρ σ w v s₁ (.ref T)
theorem w5.ext {h' : Heap} (I : Inv R X μ s) (he : Heap.ExtBut s.heap.objs.size s.heap h') : w5 R X μ s { s with heap := h' } :=
 w5.grow (tk := s.toks) I fun b o e => he b o (fun hb => by exact nsz hb e) e
theorem gb (hT : d3 R) (hl : D9 lay) {x y : Str} {k k' : Kd} {i j : Nat} {e : Expr} {px py p pos : Pos} {kk : Nat} (hm : (x,k,i) ∈ lay) (hk : k = .loc ∨ k = .cel) (hm' : (y,k',j) ∈ lay) (hk' : k' = .loc ∨ k' = .cel)
  (hxy : x ≠ y) (hsw : swappedStores [.Tuple [.Name x px,.Name y py] kk p] e env = pure Option.none ∨ swappedStores [.Tuple [.Name x px,.Name y py] kk p] e env = pure (some [x,y])) (c : Cx R d lay env A X μ s ρ σ) {w v : PV} (hij : i < ρ.length ∧ j < ρ.length)
  (h : wpAny (model R.prog R.w) A (eval e env) (fun v' s₁ => pS R d lay env A X μ s ρ σ' w v s₁ v') noE s) :
  wpAny (model R.prog R.w) A (exec (.Assign [.Tuple [.Name x px,.Name y py] kk p] e pos) env) (fun f s' => ∃ μ',P9 R d lay env A X μ μ' s .next ⟨(ρ.set i w).set j v,σ'⟩ f s') noE s := by
 rcases hsw with hsw | hsw
 ·refine G4 hsw (wt h fun v' s₁ h₁ => ?_)
  obtain ⟨T,va,vb,μ',hTp,ra,rb,P⟩ := h₁
  have ht : M1 lay (.Tuple [.Name x px,.Name y py] kk p) (.two i j) := .two hm hk hm' hk'
  exact R2 hT hl c.room.1 P.cx.fr P.cx.inv ht (p := .tup [w,v]) (ρ' := (ρ.set i w).set j v) ⟨_,_,_,_,T,hTp,ra,rb⟩ (if_pos hij) fun s₄ b => ⟨μ',P.trans c (.of_bound hl P.cx (.refl P.cx.inv) b fun a h => ab hl P.cx.fr ht h)⟩
 ·refine G4 hsw (wt h fun v' s₁ h₁ => ?_)
  obtain ⟨T,va,vb,μ',hTp,ra,rb,P⟩ := h₁
  have hne : j ≠ i := fun e => hxy (hl.slot x k y k' i hm (e ▸ hm') (by rcases hk with rfl | rfl <;> simp) (by rcases hk' with rfl | rfl <;> simp))
  refine pD c.room.1 hTp fun h' he' => uZ ?_
  have S := w5.ext P.cx.inv he'
  refine J0 hT hl (P.cx.step hT S).fr S.inv hm' hk' (n9 S rb) fun s₅ b₅ => ?_
  refine J0 hT hl b₅.fr b₅.inv hm hk (D1 b₅.wx b₅.keep (n9 S ra)) fun s₆ b₆ => ⟨μ',?_⟩
  have P2 := P9.of_bound hl P.cx S b₅ fun a h => R6 hl P.cx.fr hm' hk' h
  have P3 := P.trans c (P2.trans P.cx (.of_bound hl P2.cx (.refl b₅.inv) b₆ fun a h => R6 hl P2.cx.fr hm hk h))
  rw [lK hne] at P3
  exact P3
theorem SS.assign2 (hT : d3 R) (hl : D9 lay) {x y : Str} {k k' : Kd} {i j : Nat} {e : Expr} {m : ME} {px py p pos : Pos} {kk : Nat} (hm : (x,k,i) ∈ lay) (hk : k = .loc ∨ k = .cel) (hm' : (y,k',j) ∈ lay) (hk' : k' = .loc ∨ k' = .cel) (he : ES R C d lay e m)
  (hxy : x ≠ y) (hsw : ∀ (env : Env) (X : Addr → Prop) (μ : List Addr) (h : Heap) (ρ : Rho),FR R lay env X μ h ρ → swappedStores [.Tuple [.Name x px,.Name y py] kk p] e env = pure Option.none ∨ swappedStores [.Tuple [.Name x px,.Name y py] kk p] e env = pure (some [x,y])) :
  SS R C d lay (.Assign [.Tuple [.Name x px,.Name y py] kk p] e pos) (.assign (.two i j) m) := fun env A X μ s ρ σ fl S' c ev => by
 obtain ⟨v,ρ',e1,e3⟩ := eA ev
 obtain ⟨a,b,hij⟩ := eI e3
 refine gb hT hl hm hk hm' hk' hxy (hsw env X μ s.heap ρ c.fr) c hij (wt (he env A X μ s ρ σ _ c e1) fun v' s₁ h₁ => ?_)
 obtain ⟨T,vs,hTp,_,_,rs⟩ := h₁.1.tup_inv
 obtain ⟨va,vb,ra,rb⟩ := rs.inv2
 exact ⟨T,va,vb,μ,hTp,ra,rb,.of_step hT c h₁.2 .next⟩
theorem fS {ts : List Expr} {k : Nat} {p : Pos} {e : Expr} (h : ∀ vs k p,e ≠ .Tuple vs k p) : swappedStores [.Tuple ts k p] e env = pure Option.none := by
 unfold swappedStores
 cases e <;> first | rfl | exact absurd rfl (h _ _ _)
inductive ri (C : Orc) (i j : Nat) (m n : ME) (ρ : Rho) (σ : Sto) : Fl → St → Prop
 | mk (w : PV) (xs : List PV) (e1 : evE C m ρ σ = some w) (e2 : evE C n ρ σ = some (.list xs)) (h : i < ρ.length ∧ j < ρ.length) : ri C i j m n ρ σ .next ⟨(ρ.set i w).set j (.box σ.length),σ ++ [xs]⟩
theorem nx {i j : Nat} {m n : ME} {fl : Fl} {S' : St} (ev : exS C (.own2 i j m n) ⟨ρ,σ⟩ = some (fl,S')) : ri C i j m n ρ σ fl S' := by
 obtain ⟨w,e1,ev⟩ := bd ev
 obtain ⟨v,e2,ev⟩ := bd ev
 cases v with
 | list xs =>
  obtain ⟨_,ev⟩ := C5 ev
  obtain ⟨S1,e3,ev⟩ := bd ev
  obtain ⟨S2,e4,ev⟩ := mq ev
  cases ev
  obtain ⟨hi,rfl⟩ := Q5 e3
  obtain ⟨hj,rfl⟩ := Q5 e4
  exact ⟨w,_,e1,e2,hi,by simpa using hj⟩
 | _ => exact nos ev
theorem lc (hT : d3 R) {e f : Expr} {m n : ME} {pt : Pos} {kt : Nat} (hs : n8 e) (he : ES R C d lay e m) (hs' : n8 f) (hf : ESn R C d lay f n) (c : Cx R d lay env A X μ s ρ σ) {w : PV} {xs : List PV} (e1 : evE C m ρ σ = some w) (e2 : evE C n ρ σ = some (.list xs)) :
  wpAny (model R.prog R.w) A (eval (.Tuple [e,f] kt pt) env) (fun v' s₃ => pS R d lay env A X μ s ρ (σ ++ [xs]) w (.box σ.length) s₃ v') noE s := by
 refine wpAny_Tuple (wpAny_items_cons (wt (he env A X μ s ρ σ w c e1) fun wv s₁ h₁ => ?_) (o9 hs _ env))
 have c₁ := c.step hT h₁.2
 refine wpAny_items_cons (wt (hf env A X μ s₁ ρ σ xs c₁ e2) fun v' s₂ h₂ => wpAny_items_nil ?_) (o9 hs' _ env)
 obtain ⟨μ',r,P⟩ := lJ hT c₁ h₂
 have S₃ := w5.push P.cx.inv (o := { cls := .type "tuple",data := .seq [wv,v'].toArray }) (tk := s₂.toks)
 refine ⟨by have : sizeLine = 16777216 := rfl; simp; lia,_,wv,v',μ',⟨_,Heap.get?_push_size _ rfl,rfl,0,rfl⟩,n9 S₃ (P.vrel c₁ h₁.1),n9 S₃ r,(P.after hT c h₁.2).trans c (.of_step hT P.cx S₃ .next)⟩
theorem SS.own2 (hT : d3 R) (hl : D9 lay) {x y : Str} {k k' : Kd} {i j : Nat} {e f : Expr} {m n : ME} {px py p pt pos : Pos} {kk kt : Nat} (hm : (x,k,i) ∈ lay) (hk : k = .loc ∨ k = .cel) (hm' : (y,k',j) ∈ lay) (hk' : k' = .loc ∨ k' = .cel)
  (hs : n8 e) (he : ES R C d lay e m) (hs' : n8 f) (hf : ESn R C d lay f n) (hxy : x ≠ y)
  (hsw : ∀ (env : Env) (X : Addr → Prop) (μ : List Addr) (h : Heap) (ρ : Rho),FR R lay env X μ h ρ → swappedStores [.Tuple [.Name x px,.Name y py] kk p] (.Tuple [e,f] kt pt) env = pure Option.none ∨ swappedStores [.Tuple [.Name x px,.Name y py] kk p] (.Tuple [e,f] kt pt) env = pure (some [x,y])) :
  SS R C d lay (.Assign [.Tuple [.Name x px,.Name y py] kk p] (.Tuple [e,f] kt pt) pos) (.own2 i j m n) := fun env A X μ s ρ σ fl S' c ev => by
 obtain ⟨w,xs,e1,e2,hij⟩ := nx ev
 exact gb hT hl hm hk hm' hk' hxy (hsw env X μ s.heap ρ c.fr) c hij (lc hT hs he hs' hf c e1 e2)
inductive sK (C : Orc) (i : Nat) (k1 k2 n1 n2 : ME) (ρ : Rho) (σ : Sto) : Fl → St → Prop
 | mk (n : Nat) (xs : List PV) (v1 v2 : PV) (q1 q2 : Int) (ev : evE C (.var i) ρ σ = some (.box n)) (hx : σ[n]? = some xs) (e1 : evE C n1 ρ σ = some v1) (e2 : evE C n2 ρ σ = some v2) (e4 : evE C k1 ρ σ = some (.int q1)) (e5 : evE C k2 ρ σ = some (.int q2))
  (h1 : 0 ≤ q1 ∧ q1 < xs.length ∧ q1 ≤ 1000000) (h2 : 0 ≤ q2 ∧ q2 < xs.length ∧ q2 ≤ 1000000) : sK C i k1 k2 n1 n2 ρ σ .next ⟨ρ,σ.set n ((xs.set q1.toNat v1).set q2.toNat v2)⟩
theorem oA {i : Nat} {k1 k2 n1 n2 : ME} {fl : Fl} {S' : St} (ev : exS C (.set2 i k1 k2 n1 n2) ⟨ρ,σ⟩ = some (fl,S')) : sK C i k1 k2 n1 n2 ρ σ fl S' := by
 refine Classical.byContradiction fun hg => ?_
 obtain ⟨v1,e1,ev⟩ := bd ev
 obtain ⟨v2,e2,ev⟩ := bd ev
 obtain ⟨⟨n,xs⟩,e3,ev⟩ := bd ev
 obtain ⟨w1,e4,ev⟩ := bd ev
 obtain ⟨w2,e5,ev⟩ := bd ev
 cases w1 with
 | int q1 => cases w2 with
  | int q2 =>
   obtain ⟨hc,ev⟩ := j9 ev
   cases ev
   exact hg ⟨n,xs,v1,v2,_,_,(A8 e3).1,(A8 (C := C) e3).2,e1,e2,e4,e5,⟨hc.2.2.1,hc.2.2.2.1,hc.2.2.2.2.1⟩,hc.2.2.2.2.2⟩
  | _ => exact nos ev
 | _ => exact nos ev
theorem la (hT : d3 R) {n i : Nat} {xs : List PV} {ki : Expr} {mk : ME} {q : Int} {v : PV} {v' : Value} {sp : Pos} {o : Expr} (ho : ES R C d lay o (.var i)) (c : Cx R d lay env A X μ s ρ σ) (hki : ES R C d lay ki mk) (ek : evE C mk ρ σ = some (.int q)) (eo : evE C (.var i) ρ σ = some (.box n)) (hx : σ[n]? = some xs) (hq : 0 ≤ q ∧ q < xs.length ∧ q ≤ 1000000) (rv : n4 R.Θ X μ s.heap v v') :
  wpAny (model R.prog R.w) A (PySem.assign (.Subscript o ki sp) env v') (fun _ s' => P9 R d lay env A X μ μ s .next ⟨ρ,σ.set n (xs.set q.toNat v)⟩ .next s') noE s := by
 rw [assign_Subscript]
 refine wpAny_bind (wpAny_holding (wt (ho env A X μ s ρ σ _ c eo) fun a' s₂ h₂ => ?_))
 have c₂ := c.step hT h₂.2
 refine wpAny_bind (wpAny_holding (wt (hki env A X μ s₂ ρ σ _ c₂ ek) fun w2 s₃ h₃ => ?_))
 have c₃ := c₂.step hT h₃.2
 obtain ⟨a,ha⟩ := h₂.1.box_inv
 obtain ⟨tk⟩ := h₃.1.int_inv
 obtain ⟨vs,k,g2,g3,g4⟩ := c₃.box hx ha
 exact wpAny_bind (wpAny_standAt (wpAny_bind (wpAny_holding (cV g2 (by lia) (by lia) (by lia) (wpAny_release
  ((cE (tk := s₃.toks) (f := fun x => x.setIfInBounds q.toNat v') hT c₃ hx ha g2 (ys := xs.set q.toNat v) (by simpa using g4.set q.toNat (n9 h₃.2 (n9 h₂.2 rv)))).after hT c (h₂.2.trans h₃.2)))))))
theorem gI {o k1 o' k2 e f : Expr} {p1 p2 p pt : Pos} {kk kt : Nat} : swappedStores [.Tuple [.Subscript o k1 p1,.Subscript o' k2 p2] kk p] (.Tuple [e,f] kt pt) env = pure Option.none := by
 have h : ∃ A B : Bool,swappedStores [.Tuple [.Subscript o k1 p1,.Subscript o' k2 p2] kk p] (.Tuple [e,f] kt pt) env = (if A = true then pure Option.none else if B = true then pure Option.none else pure Option.none) := ⟨_,_,rfl⟩
 obtain ⟨A,B,h⟩ := h
 rw [h]
 cases A <;> cases B <;> rfl
theorem SS.set2 (hT : d3 R) {o o' k1 k2 : Expr} {i j1 j2 : Nat} {n1 n2 : ME} {e f : Expr} {p1 p2 p pt pos : Pos} {kk kt : Nat} (ho : ES R C d lay o (.var i)) (ho' : ES R C d lay o' (.var i)) (hk1 : ES R C d lay k1 (.var j1)) (hk2 : ES R C d lay k2 (.var j2))
  (hs : n8 e) (he : ES R C d lay e n1) (hs' : n8 f) (hf : ES R C d lay f n2) :
  SS R C d lay (.Assign [.Tuple [.Subscript o k1 p1,.Subscript o' k2 p2] kk p] (.Tuple [e,f] kt pt) pos) (.set2 i (.var j1) (.var j2) n1 n2) := fun env A X μ s ρ σ fl S' c ev => by
 obtain ⟨n,xs,v1,v2,q1,q2,ev1,hx,e1,e2,e4,e5,hq1,hq2⟩ := oA ev
 refine G4 gI (wt (ES.tup (C := C) (k := kt) (pos := pt) hT (.cons hs he (.cons hs' hf .nil)) (by simp) env A X μ s ρ σ (.tup [v1,v2]) c (by rw [zed,zsb,zsb,zsa,e1,e2]; rfl)) fun v' s₁ h₁ => ?_)
 obtain ⟨T,vs,hTp,_,_,rs⟩ := h₁.1.tup_inv
 obtain ⟨va,vb,ra,rb⟩ := rs.inv2
 refine wpAny_assign_Tuple c.room.1 hTp rfl rfl fun h' he' => ?_
 have S₂ := w5.ext h₁.2.inv he'
 have S := h₁.2.trans S₂
 have c₂ := c.step hT S
 refine wpAny_assignInOrder_more (wt (la hT ho c₂ hk1 e4 ev1 hx hq1 (n9 S₂ ra)) fun _ s₃ P => ?_)
 have hn : n < σ.length := (List.getElem?_eq_some_iff.mp hx).1
 refine wpAny_assignInOrder_more (wt (la hT ho' P.cx hk2 e5 ev1 (xs := xs.set q1.toNat v1) (by simp [hn]) (by rw [List.length_set]; exact hq2) (P.vrel c₂ (n9 S₂ rb))) fun _ s₄ P' => wpAny_assignInOrder_none ⟨μ,?_⟩)
 have P := (P.trans c₂ P').after hT c S
 rw [List.set_set] at P
 exact P
end
section
variable {R : Run} {C : Orc} {d : Nat} {X Y : Addr → Prop} {μ μ' μ'' : List Addr} {s s' s'' s₁ s₂ : Shared} {lay : Lay} {env : Env} {A : Around} {ρ ρ' : Rho} {σ σ' : Sto}
theorem pv {M : Model} {E : Value → Shared → Prop} {x : Str} {k : Kd} {i : Nat} {v : PV} {Q : Value → Shared → Prop} (F : FR R lay env X μ s.heap ρ) (hm : (x,k,i) ∈ lay) (hk : k = .loc ∨ k = .cel) (hv : n7 ρ i = some v)
  (h : ∀ v',n4 R.Θ X μ s.heap v v' → Q v' s) : wpAny M A (loadName env x) Q E s := by
 obtain ⟨e,hu⟩ := cf hv
 rcases hk with rfl | rfl
 ·obtain ⟨m,hn,hl⟩ := F.loc
  obtain ⟨v',e1,e2⟩ := (hl x i hm).2 v e hu
  exact wpAny_loadName_local F.kind (hl x i hm).1 hn e1 (h v' e2)
 ·obtain ⟨h0,ca,w,h1,h2,h3,h4,h5,h6⟩ := F.cel x .cel i hm (.inl rfl)
  obtain ⟨v',rfl,e2⟩ := h4 v e hu
  rcases h0 with h0 | ⟨h0,_⟩
  ·exact wpAny_loadName_cell F.kind h0 h1 ⟨_,h2,rfl⟩ (h v' e2)
  ·cases h0
noncomputable def OI (R : Run) (op : Operator) (p : Y0) : Prop :=
 ∀ A X μ s σ a b ta tb r,Inv R X μ s → du A 0 → evP p [.int a,.int b] σ = some r →
  wpAny (model R.prog R.w) A (inplaceOp op (.int a ta) (.int b tb)) (fun r' s' => n4 R.Θ X μ s'.heap r r' ∧ w5 R X μ s s') noE s
theorem OI.add : OI R .Add .add := fun A X μ s σ a b ta tb r I hr e => by
 cases e
 exact PyProof.Rows.iadd_int ⟨.int _ _,.toks I⟩
theorem OI.sub : OI R .Sub .sub := fun A X μ s σ a b ta tb r I hr e => by
 cases e
 exact PyProof.Rows.isub_int ⟨.int _ _,.toks I⟩
theorem OI.shl : OI R .LShift .shl := fun A X μ s σ a b ta tb r I hr e => by
 obtain ⟨h,rfl⟩ := j9 e
 simp only [C8,decide_eq_true_eq] at h
 exact PyProof.Rows.ilshift_int h.1 (by have := h.2.2; have : (1000000 : Int) + 1000000 ≤ 2 ^ 27 := (by decide); lia) ⟨.int _ _,.toks I⟩
theorem OI.shr : OI R .RShift .shr := fun A X μ s σ a b ta tb r I hr e => by
 obtain ⟨h,rfl⟩ := j9 e
 refine PyProof.Rows.irshift_int h ⟨?_,.toks I⟩
 rw [Int.fdiv_eq_ediv_of_nonneg _ (Int.pow_nonneg (by lia))]; exact .int _ _
theorem ow {o v : PV} {p : Y0} {i : Nat} {S S' : St} {fl : Fl} (e : (match o,v with | .int a,.int b => (evP p [.int a,.int b] S.σ).bind fun r => (eY i r S).map fun s' => (Fl.next,s') | _,_ => Option.none) = some (fl,S')) :
  ∃ a b r S2,o = .int a ∧ v = .int b ∧ evP p [.int a,.int b] S.σ = some r ∧ eY i r S = some S2 ∧ fl = .next ∧ S' = S2 := by
 have sh : Two o v := by
  cases o with
  | int i => cases v with
   | int j => exact ⟨i,j,rfl,rfl⟩
   | _ => exact nos e
  | _ => exact nos e
 obtain ⟨a,b,rfl,rfl⟩ := sh
 obtain ⟨r,e3,ev⟩ := bd e
 obtain ⟨S2,e4,ev⟩ := mq ev
 cases ev
 exact ⟨a,b,r,_,rfl,rfl,e3,e4,rfl,rfl⟩
theorem SS.aug (hT : d3 R) (hl : D9 lay) {x : Str} {k : Kd} {i : Nat} {e : Expr} {m : ME} {op : Operator} {pr : Y0} {p pos : Pos} (hm : (x,k,i) ∈ lay) (hk : k = .loc ∨ k = .cel) (he : ES R C d lay e m) (ho : OI R op pr) :
  SS R C d lay (.AugAssign (.Name x p) op e pos) (.aug i pr m) := fun env A X μ s ρ σ fl S' c ev => by
 obtain ⟨o,e1,ev⟩ := bd ev
 obtain ⟨v,e2,ev⟩ := bd ev
 obtain ⟨a,b,r,S2,rfl,rfl,e3,e4,rfl,rfl⟩ := ow ev
 obtain ⟨hi,rfl⟩ := Q5 e4
 refine wpAny_AugAssign_Name (pv c.fr hm hk e1 fun o' ro => ?_)
 refine wt (he env A X μ s ρ σ _ c e2) fun v' s₁ h₁ => ?_
 obtain ⟨ta⟩ := ro.int_inv
 obtain ⟨tb⟩ := h₁.1.int_inv
 refine wt (ho A X μ s₁ σ a b ta tb r h₁.2.inv c.room.zero e3) fun r' s₂ h₂ => ?_
 have S := h₁.2.trans h₂.2
 exact J0 hT hl (c.fr.step hT S) S.inv hm hk h₂.1 fun s₃ b => ⟨μ,.of_bound hl c S b fun a h => R6 hl c.fr hm hk h⟩
inductive WhJ (R : Run) (d : Nat) (lay : Lay) (env : Env) (A : Around) (X : Addr → Prop) (μ : List Addr) (s : Shared) (go : Nat → Mine.St → Prop) (n : Nat) (s' : Shared) : Prop
 | mk (μ' : List Addr) (S1 : Mine.St) (P : P9 R d lay env A X μ μ' s .next S1 .next s') (e : go n S1) : WhJ R d lay env A X μ s go n s'
theorem SS.wh (hT : d3 R) {t : Expr} {mt : ME} {a : List Stmt} {ma : List MS} {pos : Pos} (ht : ET R C d lay t mt) (ha : SB R C d lay a ma) : SS R C d lay (.While t a [] pos) (.wh mt ma) := fun env A X μ s ρ σ fl S' c ev => by
 refine wpAny_While (codeAny_whileLoop (WhJ R d lay env A X μ s fun n S => mR (fun s => (evE C mt s.ρ s.σ).bind (I5 s.σ)) (fun s => exB C ma s) n S = some (fl,S')) (fun n s' hI => ?_) 64 ⟨μ,⟨ρ,σ⟩,.of_step hT c (.refl c.inv) .next,ev⟩)
 obtain ⟨μ',S1,P,e⟩ := hI
 cases n with
 | zero => exact nos e
 | succ n =>
  obtain ⟨tt,e1,e2⟩ := bd e
  obtain ⟨v,e3,e4⟩ := bd e1
  refine wt (ht env A X μ' s' S1.ρ S1.σ v tt P.cx e3 e4) fun b s₂ h₂ => ?_
  obtain ⟨rfl,S₂⟩ := h₂
  have P2 := P.trans c (P9.of_step (fl := .next) (f := .next) hT P.cx S₂ .next)
  cases b with
  | false =>
   cases e2
   exact wpAny_execs_nil ⟨μ',P2⟩
  | true =>
   obtain ⟨⟨f1,S3⟩,e5,e6⟩ := bd e2
   refine wt (ha env A X μ' s₂ S1.ρ S1.σ f1 S3 P2.cx e5) fun f s₃ h₃ => ?_
   obtain ⟨μ₃,P3⟩ := h₃
   have hf := P3.fl
   cases hf with
   | next => exact ⟨n,Nat.lt_succ_self _,μ₃,S3,P2.trans c P3,e6⟩
   | ret r =>
    cases e6
    exact ⟨μ₃,P2.trans c P3⟩
inductive WW (lay : Lay) (env : Env) (μ wr : List Addr) (b : Addr) : Prop
 | tab (h : b ∈ Tabs) | mu (h : b ∈ μ) | own (h : gv lay env b) | wr (h : b ∈ wr)
structure aS (R : Run) (d : Nat) (lay : Lay) (env : Env) (A : Around) (X : Addr → Prop) (μ : List Addr) (s s₁ s₂ : Shared) (ρ : Rho) (σ : Sto) (tg : Expr) (t : MT) (I : Addr) (wr fp : List Addr) (gw : Nat → Prop) (xs : List PV) (St : Nat → Shared → Prop) : Prop where
 low : d3 R
 ok : D9 lay
 ht : M1 lay tg t
 c : Cx R d lay env A X μ s ρ σ
 S : w5 R X μ s s₁
 E : Ext R X (XW X wr) μ s₁ s₂
 T : gp R A tg t I wr fp gw xs X μ s₁ St
 st : St 0 s₂
 fm : ∀ b ∈ fp,b ∉ μ
inductive uy (R : Run) (d : Nat) (lay : Lay) (env : Env) (A : Around) (X : Addr → Prop) (μ : List Addr) (s₂ : Shared) (wr : List Addr) (gw : Nat → Prop) (St : Nat → Shared → Prop) (n : Nat) (go : Nat → Mine.St → Prop) : Nat → Shared → Prop
 | mk (i : Nat) (μ' : List Addr) (S1 : Mine.St) (s' : Shared) (hi : i ≤ n) (c : Cx R d lay env A (XW X wr) μ' s' S1.ρ S1.σ) (st : St i s') (k : n5 (WW lay env μ wr) s₂.heap s'.heap) (kg : R8 gw s₂ s') (gr : A4 μ μ' s₂.heap) (e : go i S1) :
  uy R d lay env A X μ s₂ wr gw St n go (n - i) s'
section
variable {tg : Expr} {t : MT} {I : Addr} {wr fp : List Addr} {gw : Nat → Prop} {xs : List PV} {St : Nat → Shared → Prop}
theorem aS.hwX (H : aS R d lay env A X μ s s₁ s₂ ρ σ tg t I wr fp gw xs St) : ∀ b ∈ wr,¬ X b := fun b hb => H.T.fpx b (H.T.sub b hb)
theorem aS.hLw (H : aS R d lay env A X μ s s₁ s₂ ρ σ tg t I wr fp gw xs St) : env.locals ∉ wr := fun h => H.hwX _ h H.c.fr.lx
theorem aS.nb1 (H : aS R d lay env A X μ s s₁ s₂ ρ σ tg t I wr fp gw xs St) {b : Addr} (h : s₂.heap.get? b = Option.none) : s₁.heap.get? b = Option.none :=
 O4 H.S.inv H.E.keep h fun b hb => H.E.inv.xex b (H.E.inv.xt b hb)
theorem aS.hcw (H : aS R d lay env A X μ s s₁ s₂ ρ σ tg t I wr fp gw xs St) (x : Str) (k : Kd) (i : Nat) (c' : Addr) (hm : (x,k,i) ∈ lay) (hk : k = .cel ∨ k = .frz) (hx : env.cells.lookup x = some c') : c' ∉ wr := fun hw => by
 obtain ⟨_,c'',w,h1,h2,_⟩ := H.c.fr.cel x k i hm hk
 cases sxx hx h1
 exact nxx (fx H.low H.S (H.T.fresh c' hw) H.c.inv) h2
theorem aS.gr1 (H : aS R d lay env A X μ s s₁ s₂ ρ σ tg t I wr fp gw xs St) (gr : A4 μ μ' s₂.heap) : A4 μ μ' s₁.heap := by
 obtain ⟨l,rfl,hl⟩ := gr
 exact ⟨l,rfl,fun b hb => H.nb1 (hl b hb)⟩
theorem aS.k1 (H : aS R d lay env A X μ s s₁ s₂ ρ σ tg t I wr fp gw xs St) {h : Heap} (k : n5 (WW lay env μ wr) s₂.heap h) : n5 (fun b => X b ∨ b ∈ μ) s₁.heap h := fun b o e hb =>
 k b o (H.E.keep b o e fun ht => hb (.inl (H.c.inv.xt b ht))) fun h => by
  cases h with
  | tab h => exact hb (.inl (H.c.inv.xt b h))
  | mu h => exact hb (.inr h)
  | own h => exact hb (.inl (eO H.c.fr h))
  | wr h => exact nxx (H.T.fresh b h) e
theorem aS.wm (H : aS R d lay env A X μ s s₁ s₂ ρ σ tg t I wr fp gw xs St) (gr : A4 μ μ' s₂.heap) {b : Addr} (hb : b ∈ fp) : b ∉ μ' := fun hm => by
 obtain ⟨o,ho⟩ := H.T.ex 0 s₂ H.st b hb
 exact gr.off ho (H.fm b hb) hm
theorem aS.leave (H : aS R d lay env A X μ s s₁ s₂ ρ σ tg t I wr fp gw xs St) {f : Flow} {fl : Fl} {S2 : Mine.St} (cF : FR R lay env (XW X wr) μ' s'.heap S2.ρ) (cS : N9 R (XW X wr) μ' s'.heap S2.σ) (k : n5 (WW lay env μ wr) s₂.heap s'.heap) (kg : R8 gw s₂ s') (gr : A4 μ μ' s₂.heap)
  (hf : FlR R.Θ (XW X wr) μ' s'.heap fl f) (hI : Inv R X μ' s') : P9 R d lay env A X μ μ' s fl S2 f s' := by
 refine ⟨⟨cF.down (fun b h => .inl h) H.c.fr.lx fun x kk i c' hm hk hx hY => hY.elim id fun h => absurd h (H.hcw x kk i c' hm hk hx),cS.down fun b h => .inl h,hI,H.c.room⟩,fun b o e hb => ?_,fun g q e => ?_,?_,?_⟩
 ·have e1 := H.S.keep b o e fun h => hb (.tab h)
  refine k b o (H.E.keep b o e1 fun h => hb (.tab h)) fun h => ?_
  cases h with
  | tab h => exact hb (.tab h)
  | mu h => exact hb (.mu h)
  | own h => exact hb (.own h)
  | wr h => exact nxx (H.T.fresh b h) e1
 ·have e1 := H.S.gens g q e
  exact kg g q (H.E.gens g q e1) fun h => by have := H.T.gfresh g h; exact nxx this e1
 ·obtain ⟨l,rfl,hl⟩ := gr
  exact ⟨l,rfl,fun b hb => fx H.low H.S (H.nb1 (hl b hb)) H.c.inv⟩
 ·cases hf with
  | next => exact .next
  | ret r => exact .ret (C6 (fun b h => .inl h) r)
theorem aS.k5 (H : aS R d lay env A X μ s s₁ s₂ ρ σ tg t I wr fp gw xs St) {s₃ s₄ s₅ : Shared} {μ₅ : List Addr} {ρ₄ : Rho} {fl : Fl} {f : Flow} {S3 : Mine.St} (k : n5 (WW lay env μ wr) s₂.heap s'.heap) (gr : A4 μ μ' s₂.heap) (mv : Mv wr gw s' s₃) (b₄ : eB R lay env (XW X wr) μ' (WT env tg) ρ₄ s₃ s₄)
  (P : P9 R d lay env A (XW X wr) μ' μ₅ s₄ fl S3 f s₅) : n5 (WW lay env μ wr) s₂.heap s₅.heap := fun b o e hb => by
 have e1 := k b o e hb
 have e2 := mv.keep b o e1 fun h => hb (.wr h)
 have e3 := b₄.keep b o e2 fun h => hb (.own (ab H.ok H.c.fr H.ht h))
 exact P.keep b o e3 fun h => by
  cases h with
  | tab h => exact hb (.tab h)
  | mu h => exact gr.off e (fun h => hb (.mu h)) h
  | own h => exact hb (.own h)
theorem aS.gr5 (H : aS R d lay env A X μ s s₁ s₂ ρ σ tg t I wr fp gw xs St) {s₃ s₄ s₅ : Shared} {μ₅ : List Addr} {ρ₄ : Rho} {fl : Fl} {f : Flow} {S3 : Mine.St} (k : n5 (WW lay env μ wr) s₂.heap s'.heap) (gr : A4 μ μ' s₂.heap) (mv : Mv wr gw s' s₃) (b₄ : eB R lay env (XW X wr) μ' (WT env tg) ρ₄ s₃ s₄)
  (P : P9 R d lay env A (XW X wr) μ' μ₅ s₄ fl S3 f s₅) : A4 μ μ₅ s₂.heap := gr.trans (s' := s₄) P.mu fun b o e => by
 by_cases hm : WW lay env μ wr b
 ·refine pZ b₄.inv ?_
  cases hm with
  | tab h => exact .inl (.inl (H.c.inv.xt b h))
  | mu h => exact .inr (gr.sub h)
  | own h => exact .inl (.inl (eO H.c.fr h))
  | wr h => exact .inl (.inr h)
 ·exact ⟨o,b₄.keep b o (mv.keep b o (k b o e hm) fun h => hm (.wr h)) fun h => hm (.own (ab H.ok H.c.fr H.ht h))⟩
theorem aS.fr5 (H : aS R d lay env A X μ s s₁ s₂ ρ σ tg t I wr fp gw xs St) {s₃ s₄ s₅ : Shared} {μ₅ : List Addr} {ρ₄ : Rho} {fl : Fl} {f : Flow} {S3 : Mine.St} {i : Nat} (gr : A4 μ μ' s₂.heap) (st : St i s₃) (b₄ : eB R lay env (XW X wr) μ' (WT env tg) ρ₄ s₃ s₄)
  (P : P9 R d lay env A (XW X wr) μ' μ₅ s₄ fl S3 f s₅) (g35 : H8 s₃ s₅) : St i s₅ := H.T.frame _ _ _ st (fun b hb o e => by
 refine P.keep b o (b₄.keep b o e fun h => H.T.fpx b hb (eO H.c.fr (ab H.ok H.c.fr H.ht h))) fun h => ?_
 cases h with
 | tab h => exact H.T.fpx b hb (H.c.inv.xt b h)
 | mu h => exact H.wm gr hb h
 | own h => exact H.T.fpx b hb (eO H.c.fr h)) g35
theorem aS.mvI (H : aS R d lay env A X μ s s₁ s₂ ρ σ tg t I wr fp gw xs St) {s₃ : Shared} {Y : Addr → Prop} (c' : Cx R d lay env A (XW X wr) μ' s' ρ' σ') (gr : A4 μ μ' s₂.heap) (mv : Mv wr gw s' s₃) (up : ∀ b,Y b → XW X wr b) (xt : ∀ b ∈ Tabs,Y b) (ex : ∀ b,Y b → b ∈ wr → ∃ o,s₃.heap.get? b = some o) : Inv R Y μ' s₃ :=
 c'.inv.mv H.low mv (fun b hb => .inr hb) (fun b hb ht => H.hwX b hb (H.c.inv.xt b ht)) (fun b hb => H.wm gr (H.T.sub b hb)) up xt ex
end
theorem SS.for (hT : d3 R) (hl : D9 lay) {tg iter : Expr} {t : MT} {mi : MI} {a : List Stmt} {ma : List MS} {pos : Pos} (hI : IS R C d lay iter tg t mi) (ht : M1 lay tg t) (ha : SB R C d lay a ma) : SS R C d lay (.For tg iter a [] pos) (.for t mi ma) := fun env A X μ s ρ σ fl S' c ev => by
 obtain ⟨xs,e0,ev⟩ := bd ev
 obtain ⟨hbx,ev⟩ := C5 ev
 refine wpAny_For (wt (hI.2 env A X μ s ρ σ xs c e0) fun xv s₀ h₀ => wt h₀ fun it s₂ h₂ => ?_) (X6 hI.1 env)
 obtain ⟨s₁,I,wr,fp,gw,St,rfl,S₁,X12,T,st₂,hfpm⟩ := h₂
 have H : aS R d lay env A X μ s s₁ s₂ ρ σ tg t I wr fp gw xs St := ⟨hT,hl,ht,c,S₁,X12,T,st₂,hfpm hbx.2⟩
 refine codeAny_forLoop_any (uy R d lay env A X μ s₂ wr gw St xs.length fun i S => G1 t (fun s => exB C ma s) (xs.drop i) S = some (fl,S')) (fun n s' hJ => ?_) xs.length (.mk (n := xs.length) 0 μ ⟨ρ,σ⟩ s₂ (Nat.zero_le _) ⟨(c.fr.step hT S₁).ext hT X12,(c.st.step S₁).ext X12,X12.inv,c.room⟩ st₂ (.refl _ _) (fun _ _ e _ => e) (.refl _ _) ev)
 obtain ⟨i,μ',S1,s',hi,c',st,k,kg,gr,e⟩ := hJ
 have hwY : ∀ b,b ∈ wr → XW X wr b := fun b hb => .inr hb
 by_cases hlt : i < xs.length
 ·have hx : xs[i]? = some xs[i] := List.getElem?_eq_getElem hlt
  rw [List.drop_eq_getElem_cons hlt] at e
  obtain ⟨ρ',eb,e⟩ := bd e
  obtain ⟨⟨f1,S3⟩,e5,e6⟩ := bd e
  refine wt (T.turn (XW X wr) μ' i xs[i] s' S1.ρ ρ' (oX R t wr gw xs[i] St (XW X wr) μ' s' (i + 1)) (fun b h => .inl h) (fun b hb => hb.elim .inl fun h => .inr (T.fresh b h)) (H.gr1 gr) (H.k1 k) hx eb st fun v s₃ a b c => ⟨a,b,c⟩) (fun r s₃ h₃ => ?_)
  obtain ⟨v,hgo'⟩ := h₃
  refine wt hgo' fun _ s₃ h₃ => ?_
  have mv := h₃.mv
  refine R2 hT hl c.room.1 (c'.fr.write hwY mv.keep H.hLw H.hcw) (H.mvI c' gr mv (fun _ h => h) (fun b hb => .inl (c.inv.xt b hb)) (fun b _ hb => T.ex _ _ h₃.st b (T.sub b hb))) ht h₃.item eb fun s₄ b₄ => ?_
  refine wt (ha env A _ μ' s₄ ρ' S1.σ f1 S3 ⟨b₄.fr,(c'.st.set hwY mv.keep).set b₄.wx b₄.keep,b₄.inv,c.room⟩ e5) fun f s₅ h₅ => ?_
  obtain ⟨μ₅,P⟩ := h₅
  have g35 : H8 s₃ s₅ := fun g q e => P.gens g q (by rw [b₄.gens]; exact e)
  have kg5 : R8 gw s₂ s₅ := fun g q e h => g35 g q (mv.gens g q (kg g q e h) h)
  have hf := P.fl
  cases hf with
  | next => exact ⟨xs.length - (i + 1),la4 hlt,.mk (i + 1) μ₅ S3 s₅ hlt P.cx (H.fr5 gr h₃.st b₄ P g35) (H.k5 k gr mv b₄ P) kg5 (H.gr5 k gr mv b₄ P) e6⟩
  | ret r =>
   cases e6
   exact ⟨μ₅,H.leave P.cx.fr P.cx.st (H.k5 k gr mv b₄ P) kg5 (H.gr5 k gr mv b₄ P) (.ret r) (P.cx.inv.down (fun b hb => c.inv.xt b hb) fun b h => .inl h)⟩
 ·have hin : i = xs.length := Nat.le_antisymm hi (Nat.le_of_not_lt hlt)
  subst hin
  rw [List.drop_length] at e
  cases e
  refine wt (T.done s' (fun s'' => Mv wr gw s' s'') st fun s'' m => m) (fun r s'' h => ?_)
  obtain ⟨rfl,mv⟩ := h
  exact wpAny_execs_nil ⟨μ',H.leave (fl := .next) (f := .next) (S2 := S') (c'.fr.write hwY mv.keep H.hLw H.hcw) (c'.st.set hwY mv.keep) (k.trans (mv.keep.mono fun b => .wr)) (fun g q e h => mv.gens g q (kg g q e h) h) gr .next
   (H.mvI c' gr mv (fun b h => .inl h) c.inv.xt fun b hb hW => absurd hb (H.hwX b hW))⟩
end
section
variable {R : Run} {C : Orc} {d : Nat} {X Y : Addr → Prop} {μ μ' μ'' : List Addr} {s s' s'' s₁ s₂ : Shared} {lay lay' : Lay} {env : Env} {A : Around} {ρ ρ' : Rho} {σ σ' : Sto}
theorem du.deeper (h : du A (d + 1)) (env : Env) : du (A.deeper env) d := ⟨h.1,by have := h.2.1; show A.depth + 1 + d < _; lia,by have := h.2.2; show A.units + 3 + 40 * d + 40 < _; lia⟩
structure vi (R : Run) (lay : Lay) (env : Env) (X X' : Addr → Prop) (μ μ' : List Addr) (s : Shared) (fl : Fl) (σ : Sto) (f : Flow) (s' : Shared) : Prop where
 down : ∀ b,X' b → X b
 up : ∀ b,X b → X' b ∨ gv lay env b
 inv : Inv R X' μ' s'
 st : N9 R X' μ' s'.heap σ
 keep : n5 (WP lay env μ) s.heap s'.heap
 gens : H8 s s'
 mu : A4 μ μ' s.heap
 fl : FlR R.Θ X' μ' s'.heap fl f
noncomputable def l3 (R : Run) (C : Orc) (d : Nat) (lay : Lay) (body : List Stmt) (ms : List MS) : Prop :=
 ∀ env A X μ s ρ σ fl S',Cx R d lay env A X μ s ρ σ → exB C ms ⟨ρ,σ⟩ = some (fl,S') →
  wpAny (model R.prog R.w) A (execs body env) (fun f s' => ∃ μ' X',vi R lay env X X' μ μ' s fl S'.σ f s') noE s
theorem l3.of (h : SB R C d lay body ms) : l3 R C d lay body ms := fun env A X μ s ρ σ fl S' c e =>
 wt (h env A X μ s ρ σ fl S' c e) fun f s' ⟨μ',P⟩ => ⟨μ',X,fun _ h => h,fun _ h => .inl h,P.cx.inv,P.cx.st,P.keep,P.gens,P.mu,P.fl⟩
theorem l3.cons (hT : d3 R) {st : Stmt} {m : MS} {body : List Stmt} {ms : List MS} (h : SS R C d lay st m) (hs : l3 R C d lay body ms) : l3 R C d lay (st :: body) (m :: ms) := fun env A X μ s ρ σ fl S' c e => by
 obtain ⟨⟨f1,S1⟩,e1,e2⟩ := bd e
 refine wpAny_execs_cons (wt (h env A X μ s ρ σ f1 S1 c e1) fun f s' hp => ?_)
 obtain ⟨μ',p⟩ := hp
 have hf := p.fl
 cases hf with
 | next =>
  refine wt (hs env A X μ' s' S1.ρ S1.σ fl S' p.cx e2) fun f2 s'' hq => ?_
  obtain ⟨μ'',X',L⟩ := hq
  refine ⟨μ'',X',L.down,L.up,L.inv,L.st,fun b o e hb => L.keep b o (p.keep b o e hb) fun h => ?_,p.gens.trans L.gens,p.mu.trans L.mu fun b o e => p.old c e,L.fl⟩
  exact hb (h.back p.mu e)
 | ret r =>
  cases e2
  exact ⟨μ',X,fun _ h => h,fun _ h => .inl h,p.cx.inv,p.cx.st,p.keep,p.gens,p.mu,p.fl⟩
structure sY (lay lay' : Lay) : Prop where
 ok : D9 lay
 loc : ∀ x i,(x,Kd.loc,i) ∈ lay' → (x,Kd.loc,i) ∈ lay
 glo : ∀ x i,(x,Kd.glo,i) ∈ lay' → (x,Kd.glo,i) ∈ lay
 cod : ∀ x i,(x,Kd.cod,i) ∈ lay' → (x,Kd.cod,i) ∈ lay
 cel : ∀ x i,(x,Kd.cel,i) ∈ lay' → (x,Kd.cel,i) ∈ lay
 frz : ∀ x i,(x,Kd.frz,i) ∈ lay' → (x,Kd.frz,i) ∈ lay ∨ (x,Kd.cel,i) ∈ lay
 apart : ∀ x i j,(x,Kd.cel,i) ∈ lay' → (x,Kd.frz,j) ∉ lay'
noncomputable def FzC (lay lay' : Lay) (env : Env) (b : Addr) : Prop := ∃ x i,(x,Kd.cel,i) ∈ lay ∧ (x,Kd.frz,i) ∈ lay' ∧ env.cells.lookup x = some b
theorem Cx.freeze (hT : d3 R) (Z : sY lay lay') (c : Cx R d lay env A X μ s ρ σ) : Cx R d lay' env A (fun b => X b ∧ ¬ FzC lay lay' env b) μ s ρ σ := by
 have up : ∀ b,(X b ∧ ¬ FzC lay lay' env b) → X b := fun b h => h.1
 have hcel : ∀ b,FzC lay lay' env b → ∃ w,s.heap.get? b = some (U3 w) ∧ R.base.get? b = Option.none := by
  rintro b ⟨x,i,h1,_,h3⟩
  obtain ⟨_,c',w,g1,g2,_,_,g5,_⟩ := c.fr.cel x .cel i h1 (.inl rfl)
  cases sxx h3 g1
  exact ⟨w,g2,(g5 rfl).2⟩
 have hL : ¬ FzC lay lay' env env.locals := fun h => by
  obtain ⟨w,e,_⟩ := hcel _ h
  obtain ⟨m,⟨o,es,ep,e1,e2,_⟩,_⟩ := c.fr.loc
  cases sxx e e1; cases e2
 have xt : ∀ b ∈ Tabs,X b ∧ ¬ FzC lay lay' env b := fun b hb => ⟨c.inv.xt b hb,fun h => by
  obtain ⟨w,e,e0⟩ := hcel b h
  exact hT.no hb e0⟩
 refine ⟨?_,c.st.down up,c.inv.down xt up,c.room⟩
 have F := c.fr
 refine { kind := F.kind,glob := F.glob,blt := F.blt,llo := F.llo,lx := ⟨F.lx,hL⟩,lmu := F.lmu,glo := fun x i h => F.glo x i (Z.glo x i h),cod := fun x i h => F.cod x i (Z.cod x i h),apart := fun x i y j c hx hy => F.apart x i y j c (Z.cel x i hx) (Z.cel y j hy),loc := ?_,cel := ?_ }
 ·obtain ⟨m,hn,hl⟩ := F.loc
  refine ⟨m,hn,fun x i hm => ⟨(hl x i (Z.loc x i hm)).1,fun v ev hu => ?_⟩⟩
  obtain ⟨v',e1,e2⟩ := (hl x i (Z.loc x i hm)).2 v ev hu
  exact ⟨v',e1,C6 up e2⟩
 ·intro x k i hm hk
  rcases hk with rfl | rfl
  ·obtain ⟨h0,cc,w,h1,h2,h3,h4,h5,_⟩ := F.cel x .cel i (Z.cel x i hm) (.inl rfl)
   refine ⟨h0,cc,w,h1,h2,h3,fun v ev hu => ?_,fun _ => ⟨⟨(h5 rfl).1,?_⟩,(h5 rfl).2⟩,fun e => by cases e⟩
   ·obtain ⟨v',e1,e2⟩ := h4 v ev hu
    exact ⟨v',e1,C6 up e2⟩
   ·rintro ⟨y,j,g1,g2,g3⟩
    have := F.apart x i y j cc (Z.cel x i hm) g1 h1 g3
    subst this
    exact Z.apart x i j hm g2
  ·rcases Z.frz x i hm with hm' | hm'
   ·obtain ⟨h0,cc,w,h1,h2,h3,h4,_,h6⟩ := F.cel x .frz i hm' (.inr rfl)
    refine ⟨h0,cc,w,h1,h2,h3,fun v ev hu => ?_,(fun e => by cases e),fun _ h => h6 rfl h.1⟩
    obtain ⟨v',e1,e2⟩ := h4 v ev hu
    exact ⟨v',e1,C6 up e2⟩
   ·obtain ⟨h0,cc,w,h1,h2,h3,h4,_,_⟩ := F.cel x .cel i hm' (.inl rfl)
    refine ⟨?_,cc,w,h1,h2,h3,fun v ev hu => ?_,(fun e => by cases e),fun _ h => h.2 ⟨x,i,hm',hm,h1⟩⟩
    ·rcases h0 with h0 | ⟨h0,_⟩
     ·exact .inl h0
     ·cases h0
    ·obtain ⟨v',e1,e2⟩ := h4 v ev hu
     exact ⟨v',e1,C6 up e2⟩
theorem l3.freeze (hT : d3 R) (Z : sY lay lay') {body : List Stmt} {ms : List MS} (h : l3 R C d lay' body ms) : l3 R C d lay body ms := fun env A X μ s ρ σ fl S' c e => by
 refine wt (h env A _ μ s ρ σ fl S' (c.freeze hT Z) e) fun f s' hq => ?_
 obtain ⟨μ',X',L⟩ := hq
 have own : ∀ b,gv lay' env b → gv lay env b := by
  rintro b (h | ⟨x,i,h1,h2⟩)
  ·exact .inl h
  ·exact .inr ⟨x,i,Z.cel x i h1,h2⟩
 refine ⟨μ',X',fun b hb => (L.down b hb).1,fun b hb => ?_,L.inv,L.st,L.keep.mono fun b hb => ?_,L.gens,L.mu,L.fl⟩
 ·by_cases hz : FzC lay lay' env b
  ·obtain ⟨x,i,h1,_,h3⟩ := hz
   exact .inr (.inr ⟨x,i,h1,h3⟩)
  ·exact (L.up b ⟨hb,hz⟩).imp id (own b)
 ·cases hb with
  | tab h => exact .tab h
  | mu h => exact .mu h
  | own h => exact .own (own b h)
noncomputable def X0 : List (Str × Kd × Nat) → List PV → Rho → Rho
 | (_,_,i) :: r,p :: ps,ρ => X0 r ps (ρ.set i p)
 | _,_,ρ => ρ
theorem fk (hT : d3 R) (hl : D9 lay) {M : Model} {E : Value → Shared → Prop} (pl : List (Str × Kd × Nat)) : ∀ {vals : List Value} {ps : List PV} {s : Shared} {ρ : Rho} {Q : Shared → Prop},FR R lay env X μ s.heap ρ → Inv R X μ s → (∀ e ∈ pl,e ∈ lay ∧ (e.2.1 = .loc ∨ e.2.1 = .cel)) →
  g9 R.Θ X μ s.heap ps vals → pl.length = vals.length → (∀ s',FR R lay env X μ s'.heap (X0 pl ps ρ) → Inv R X μ s' → n5 (gv lay env) s.heap s'.heap → s'.gens = s.gens → Q s') →
  wpAny M A (forIn ((pl.map (·.1)).zip vals) PUnit.unit (fun (x : Str × Value) (_ : PUnit) => do storeName env x.1 x.2; pure (ForInStep.yield PUnit.unit))) (fun _ s' => Q s') E s := by
 induction pl with
 | nil =>
  intro vals ps s ρ Q F I _ _ hlen h
  have e : ((List.map (·.1) ([] : List (Str × Kd × Nat))).zip vals) = [] := by simp
  rw [e,List.forIn_nil]
  refine wpAny_pure (h s ?_ I (.refl _ _) rfl)
  cases ps <;> exact F
 | cons e pl ih =>
  obtain ⟨x,k,i⟩ := e
  intro vals ps s ρ Q F I hp rs hlen h
  obtain ⟨v,vals,rfl,-⟩ := oP hlen.symm
  have hl2 := rs.length
  obtain ⟨p,ps,rfl,-⟩ := oP hl2
  obtain ⟨_,_,r,rs⟩ := rs.cons_inv
  ·have e : ((List.map (·.1) ((x,k,i) :: pl)).zip (v :: vals)) = (x,v) :: ((pl.map (·.1)).zip vals) := by simp
   rw [e,List.forIn_cons]
   obtain ⟨hm,hk⟩ := hp (x,k,i) List.mem_cons_self
   refine wpAny_bind (wpAny_bind (J0 hT hl F I hm hk r fun s₁ b => wpAny_pure ?_))
   refine ih b.fr b.inv (fun e he => hp e (G6 _ he)) (Z0 b.wx b.keep rs) (by simpa using hlen) fun s' F' I' k' g' => h s' F' I' ?_ (g'.trans b.gens)
   exact (b.keep.mono fun a ha => R6 hl F hm hk ha).trans k'
structure Ret (R : Run) (X : Addr → Prop) (μ μ' : List Addr) (s : Shared) (v : PV) (σ : Sto) (v' : Value) (s' : Shared) : Prop where
 rel : n4 R.Θ X μ' s'.heap v v'
 inv : Inv R X μ' s'
 st : N9 R X μ' s'.heap σ
 keep : n5 (fun b => b ∈ Tabs ∨ b ∈ μ) s.heap s'.heap
 gens : H8 s s'
 mu : A4 μ μ' s.heap
theorem ax (hl : R.base.NoLimit) (I : Inv R X μ s) : s.heap.NoLimit := by
 obtain ⟨mc,hn,h⟩ := hl
 exact ⟨mc,hn.at' fun o e => I.keep _ o e (by decide),h⟩
theorem rj {fd : FuncData} {body : List Stmt} {ms : List MS} {o : Obj} {a : Addr} {vals : List Value} {kws : List (Str × Value)} {ps : List PV} {bvals : List Value} {pl : List (Str × Kd × Nat)} {ρ₀ : Rho} {fl : Fl} {S' : St} (hT : d3 R) (hlim : R.base.NoLimit)
  (I : Inv R X μ s) (st : N9 R X μ s.heap σ) (hroom : du A (d + 1)) (ho : s.heap.get? a = some o) (hd : o.data = .func fd) (hcd : s.heap.CodeRec fd.code fd.qualname) (hbody : fd.body = .stmts body) (hbind : BindsTo s fd ⟨vals,kws⟩ ((pl.map (·.1)).zip bvals))
  (hrs : g9 R.Θ X μ s.heap ps bvals) (hlen : pl.length = bvals.length) (hpl : ∀ e ∈ pl,e ∈ lay ∧ (e.2.1 = .loc ∨ e.2.1 = .cel)) (hl : D9 lay)
  (hk : fd.scope.kind = .function) (hco : fd.scope.isCoroutine = false) (hgen : fd.scope.isGenerator = false) (hg : fd.globals = mainGlobals) (hb : fd.builtins = builtinsNs) (nd : (fd.scope.names.map Prod.fst).Nodup)
  (hloc : ∀ x i,(x,Kd.loc,i) ∈ lay → (x,NameKind.local) ∈ fd.scope.names ∧ ∀ v,ρ₀[i]? = some v → v.isUnb = true)
  (hglo : ∀ x i,(x,Kd.glo,i) ∈ lay → (x,NameKind.globalImplicit) ∈ fd.scope.names)
  (hcod : ∀ x c,(x,Kd.cod,c) ∈ lay → fd.code = .ref c ∧ fd.qualname ++ ".<locals>." = x)
  (hcel : ∀ x i,(x,Kd.cel,i) ∈ lay → (x,NameKind.cell) ∈ fd.scope.names ∧ ∀ v,ρ₀[i]? = some v → v.isUnb = true)
  (hfrz : ∀ x i,(x,Kd.frz,i) ∈ lay → (x,NameKind.free) ∈ fd.scope.names ∧ ∃ c w,fd.closure.lookup x = some c ∧ s.heap.get? c = some (U3 w) ∧ c ∉ μ ∧ ¬ X c ∧ ∀ v,ρ₀[i]? = some v → v.isUnb = false → ∃ v',w = some v' ∧ n4 R.Θ X μ s.heap v v')
  (hB : l3 R C d lay body ms) (hev : exB C ms ⟨X0 pl ps ρ₀,σ⟩ = some (fl,S')) :
  wpAny (model R.prog R.w) A (call (.ref a) vals kws) (fun v' s' => ∃ μ',Ret R X μ μ' s fl.val S'.σ v' s') noE s := by
 refine wpAny_call (codeAny_call_function (by have := hroom.2.1; lia) ho hd hco hgen hbody hcd (hbind _ _ _ _ ?_))
 refine E5 ?_
 have fr := mB (lay' := lay) (ρ := ρ₀) (tk := s.toks) I (names := fd.scope.names) (closure := fd.closure) (o := { cls := .type (if (Option.none : Option Env).isSome then "dict" else "frame"),data := .dict #[] })
  (scope' := fd.scope) (env' := newEnv fd.scope s.heap.objs.size fd.globals (cellsFrom (s.heap.objs.size + 1) fd.scope.names fd.closure) (fd.qualname ++ ".<locals>.") (some a) fd.code Option.none fd.builtins)
  ⟨_,rfl⟩ hk nd rfl hg hb rfl rfl (fun x i hm => ⟨l5 nd (hloc x i hm).1,(hloc x i hm).2⟩) (fun x i hm => l5 nd (hglo x i hm))
  (fun x k i hm hkk => by
   rcases hkk with rfl | rfl
   ·exact .inl ⟨(hcel x i hm).1,rfl,l5 nd (hcel x i hm).1,(hcel x i hm).2⟩
   ·obtain ⟨h1,c,w,h2,h3,h4,h5,h6⟩ := hfrz x i hm
    exact .inr ⟨fun h => (nomatch V7 nd h1 h),.inr ⟨rfl,l5 nd h1⟩,c,w,h2,h3,h4,h6,fun e => (nomatch e),fun _ => h5⟩)
  hcod (fun x i y j c hx hy hxn => absurd (hcel x i hx).1 hxn)
 obtain ⟨X1,F⟩ := fr
 have hown : ∀ b,gv lay (newEnv fd.scope s.heap.objs.size fd.globals (cellsFrom (s.heap.objs.size + 1) fd.scope.names fd.closure) (fd.qualname ++ ".<locals>.") (some a) fd.code Option.none fd.builtins) b → s.heap.get? b = Option.none := by
  rintro b (h | ⟨x,i,h1,h2⟩)
  ·rw [h]; exact Heap.none_at_size _
  ·have sp := J7 fd.scope.names (s.heap.push { cls := .type "frame",data := .dict #[] }) fd.closure nd
   rw [Heap.size_push] at sp
   obtain ⟨c',g1,g2,_⟩ := sp.1 x (hcel x i h1).1
   have h2' : (cellsFrom (s.heap.objs.size + 1) fd.scope.names fd.closure).lookup x = some b := h2
   cases sxx g1 h2'
   exact Heap.get?_none_of_le (Nat.le_trans (Nat.le_succ _) g2)
 generalize hY : (fun b => X b ∨ cX s (pushCells (s.heap.push { cls := .type (if (Option.none : Option Env).isSome then "dict" else "frame"),data := .dict #[] }) fd.scope.names) b) = Y at X1 F
 have upY : ∀ b,X b → Y b := X1.up
 generalize newEnv fd.scope s.heap.objs.size fd.globals (cellsFrom (s.heap.objs.size + 1) fd.scope.names fd.closure) (fd.qualname ++ ".<locals>.") (some a) fd.code Option.none fd.builtins = env at F hown ⊢
 refine fk (A := A.in1) hT hl pl F X1.inv hpl (Y3 X1 hrs) hlen fun s₂ F₂ I₂ k₂ g₂ => ⟨ax hlim I₂,codeAny_func ?_⟩
 have wxO : ∀ b,gv lay env b → Y b := fun b h => eO (s := s₂) F₂ h
 have c₂ : Cx R d lay env (A.deeper env) Y μ s₂ (X0 pl ps ρ₀) σ := ⟨F₂,(st.ext X1).set wxO k₂,I₂,hroom.deeper env⟩
 refine wt (hB env _ Y μ s₂ _ σ fl S' c₂ hev) fun f s' hq => ?_
 obtain ⟨μ',X',L⟩ := hq
 have upX : ∀ b,X b → X' b := fun b hb => (L.up b (upY b hb)).elim id fun h => by
  obtain ⟨o,e⟩ := I.xex b hb
  exact nxx (hown b h) e
 have k02 : ∀ b o,s.heap.get? b = some o → b ∉ Tabs → s₂.heap.get? b = some o := fun b o e ht => k₂ b o (X1.keep b o e ht) fun h => by exact nxx (hown b h) e
 refine ⟨μ',?_,L.inv.down I.xt upX,L.st.down upX,fun b o e hb => L.keep b o (k02 b o e fun h => hb (.inl h)) ?_,fun g q e => L.gens g q (by rw [g₂]; exact X1.gens g q e),?_⟩
 ·have hf := L.fl
  cases hf with
  | next => exact .none
  | ret r => exact C6 upX r
 ·rintro (h | h | h)
  ·exact hb (.inl h)
  ·exact hb (.inr h)
  ·exact nxx (hown b h) e
 ·obtain ⟨l,rfl,hl'⟩ := L.mu
  refine ⟨l,rfl,fun b hb => ?_⟩
  cases e : s.heap.get? b with
  | none => rfl
  | some o =>
   by_cases ht : b ∈ Tabs
   ·obtain ⟨q,e'⟩ := I₂.xex b (I₂.xt b ht)
    exact nxx (hl' b hb) e'
   ·have := k02 b o e ht
    exact nxx (hl' b hb) this
end
abbrev uk : Str := Str.ofString "key"
inductive KwR (Θ : Tms) (X : Addr → Prop) (μ : List Addr) (h : Heap) : Option PV → List (Str × Value) → Prop
 | none : KwR Θ X μ h Option.none []
 | some {p v} : n4 Θ X μ h p v → KwR Θ X μ h (some p) [(uk,v)]
inductive tT (h : Heap) : Value → Prop
 | mk (a : Addr) (o : Obj) (fd : FuncData) (ho : h.get? a = some o) (hd : o.data = .func fd) (ht : a ∉ Tabs) : tT h (.ref a)
structure l9 (R : Run) (C : Orc) (d : Nat) : Prop where
 call : ∀ A X μ s σ f args kw v σ' fv vs kvs,Inv R X μ s → N9 R X μ s.heap σ → du A d → C f args kw σ = some (v,σ') → n4 R.Θ X μ s.heap f fv → g9 R.Θ X μ s.heap args vs → KwR R.Θ X μ s.heap kw kvs →
  wpAny (model R.prog R.w) A (call fv vs kvs) (fun v' s' => ∃ μ',Ret R X μ μ' s v σ' v' s') noE s
 fn : ∀ X μ s σ f args kw r fv,Inv R X μ s → C f args kw σ = some r → n4 R.Θ X μ s.heap f fv → tT s.heap fv
inductive rG (R : Run) (C : Orc) (d : Nat) (lay : Lay) : List Keyword → Option ME → Prop
 | none : rG R C d lay [] Option.none
 | some {e m p} : ES R C d lay e m → rG R C d lay [⟨some uk,e,p⟩] (some m)
section
variable {R : Run} {C : Orc} {d : Nat} {X Y : Addr → Prop} {μ μ' μ'' : List Addr} {s s' s'' s₁ s₂ : Shared} {lay lay' : Lay} {env : Env} {A : Around} {ρ ρ' : Rho} {σ σ' : Sto}
theorem fF {a b : Bool} (h : (a && b) = true) : a = true ∧ b = true := (z5 a b).mp h
theorem J8 {h : Heap} (hk : ∀ b,¬ X b → b ∉ μ → ¬ Y b ∧ b ∉ μ') {p : PV} {v : Value} (r : n4 R.Θ X μ h p v) : p.noBox = true → n4 R.Θ Y μ' h p v :=
 n4.rec (motive_1 := fun p v _ => p.noBox = true → n4 R.Θ Y μ' h p v) (motive_2 := fun ps vs _ => i8 ps = true → g9 R.Θ Y μ' h ps vs)
  (fun _ => .none) (fun b _ => .bool b) (fun i t _ => .int i t) (fun l t _ => .str l t)
  (fun hT hx hm _ ih hn => .tup hT (hk _ hx hm).1 (hk _ hx hm).2 (ih hn)) (fun hT hx hm _ ih hn => .list hT (hk _ hx hm).1 (hk _ hx hm).2 (ih hn))
  (fun _ hn => absurd hn Bool.false_ne_true) (fun a _ => .glob a)
  (fun ht ho hx hm hc hxc hmc hcl hcs hd hs _ ih hn => .clo ht ho (hk _ hx hm).1 (hk _ hx hm).2 hc (hk _ hxc hmc).1 (hk _ hxc hmc).2 hcl hcs (fun b hb => hk b (hd b hb).1 (hd b hb).2)
   (fun x hx => let ⟨b,e1,e2,e3,e4⟩ := hs x hx; ⟨b,e1,e2,(hk b e3 e4).1,(hk b e3 e4).2⟩) (ih hn))
  (fun _ => .nil) (fun _ _ ih1 ih2 hn => .cons (ih1 (fF hn).1) (ih2 (fF hn).2)) r
theorem W2 {h : Heap} (hk : ∀ b,¬ X b → b ∉ μ → ¬ Y b ∧ b ∉ μ') {p : List PV} {v : List Value} (r : g9 R.Θ X μ h p v) : i8 p = true → g9 R.Θ Y μ' h p v :=
 r.ind (M := fun p v => i8 p = true → g9 R.Θ Y μ' h p v) (fun _ => .nil) fun a _ ih hn => .cons (J8 hk a (fF hn).1) (ih (fF hn).2)
theorem jy {v : PV} (h : v.isBox = true) : ∃ n,v = .box n := by
 cases v <;> first | exact ⟨_,rfl⟩ | exact absurd h Bool.false_ne_true
theorem fW {v : PV} (hb : v.isBox = false) : freeze σ v = if (v.noBox && !v.isUnb) = true then some v else Option.none := by
 cases v <;> first | rfl | exact absurd hb.symm Bool.false_ne_true
theorem aO {v w : PV} (h : freeze σ v = some w) (hb : v.isBox = false) : w = v ∧ v.noBox = true := by
 rw [fW hb] at h
 obtain ⟨hc,e⟩ := j9 h
 exact ⟨e,(fF hc).1⟩
theorem jG {n : Nat} {w : PV} (h : freeze σ (.box n) = some w) : ∃ xs,σ[n]? = some xs ∧ i8 xs = true ∧ w = .list xs := by
 obtain ⟨xs,e1,e2⟩ := bd (show (σ[n]?).bind (fun xs => if i8 xs then some (PV.list xs) else Option.none) = some w from h)
 exact ⟨xs,e1,j9 e2⟩
theorem W3 {v w : PV} (h : freeze σ v = some w) : (w = v ∧ v.noBox = true) ∨ ∃ n xs,v = .box n ∧ σ[n]? = some xs ∧ i8 xs = true ∧ w = .list xs := by
 cases hb : v.isBox with
 | false => exact .inl (aO h hb)
 | true =>
  obtain ⟨n,rfl⟩ := jy hb
  obtain ⟨xs,h⟩ := jG h
  exact .inr ⟨n,xs,rfl,h⟩
theorem R4 : ∀ {l l' : List PV},z1 σ l = some l' → l.any PV.isBox = false → l' = l ∧ i8 l = true
 | [],l',h,_ => by cases h; exact ⟨rfl,rfl⟩
 | v :: r,l',h,hb => by
  obtain ⟨w,e1,e2⟩ := bd h
  obtain ⟨q,e3,rfl⟩ := mq e2
  simp only [List.any_cons,Bool.or_eq_false_iff] at hb
  obtain ⟨rfl,h1⟩ := aO e1 hb.1
  obtain ⟨rfl,h2⟩ := R4 e3 hb.2
  exact ⟨rfl,by show (_ && _) = true; rw [h1,h2]; rfl⟩
theorem gX (st : N9 R X μ s.heap σ) {p q : PV} {v : Value} (r : n4 R.Θ X μ s.heap p v) (e : freeze σ p = some q) : n4 R.Θ X [] s.heap q v := by
 have hk : ∀ b,¬ X b → b ∉ μ → ¬ X b ∧ b ∉ ([] : List Addr) := fun b h _ => ⟨h,B8⟩
 rcases W3 e with ⟨rfl,hn⟩ | ⟨n,xs,rfl,e1,hn,rfl⟩
 ·exact J8 hk r hn
 ·obtain ⟨a,ha⟩ := r.box_inv
  obtain ⟨a',vs,k,g1,g2,g3,g4⟩ := st.bx n xs e1
  cases sxx ha g1
  exact .list (vs := vs.toList) ⟨_,g2,rfl,k,by simp⟩ g3 B8 (W2 hk g4 hn)
theorem fA (st : N9 R X μ s.heap σ) {p q : List PV} {v : List Value} (r : g9 R.Θ X μ s.heap p v) (e : z1 σ p = some q) : g9 R.Θ X [] s.heap q v :=
 r.ind (M := fun p v => ∀ q,z1 σ p = some q → g9 R.Θ X [] s.heap q v) (fun q e => by cases (show some [] = some q from e); exact .nil) (fun {p v ps vs} a _ ih q e => by
  obtain ⟨w,e1,e2⟩ := bd (show (freeze σ p).bind (fun v' => (z1 σ ps).map (v' :: ·)) = some q from e)
  obtain ⟨z,e3,rfl⟩ := mq e2
  exact .cons (gX st a e1) (ih z e3)) q e
theorem fb {h : Heap} : N9 R X [] h [] := ⟨rfl,List.nodup_nil,fun n xs e => by simp at e⟩
theorem Inv.nobox (I : Inv R X μ s) : Inv R X [] s :=
 { I with tabs := fun j t e => let ⟨hp,ps,h1,h2,h3⟩ := I.tabs j t e; ⟨hp,ps,h1,h2,fun cv e => let ⟨c',e1,e2,e3,_⟩ := h3 cv e; ⟨c',e1,e2,e3,by simp⟩⟩,mulo := fun b h => by simp at h,muex := fun b h => by simp at h }
theorem Inv.boxX (I : Inv R X μ s) : Inv R (fun b => X b ∨ b ∈ μ) [] s :=
 { I with
  tabs := fun j t e => let ⟨hp,ps,h1,h2,h3⟩ := I.tabs j t e; ⟨hp,ps,h1,h2,fun cv e => let ⟨c',e1,e2,e3,e4⟩ := h3 cv e; ⟨c',e1,e2,fun h => h.elim e3 e4,by simp⟩⟩
  xt := fun b h => .inl (I.xt b h),xlo := fun b h => h.elim (I.xlo b) fun h => .inr (I.mulo b h),xex := fun b h => h.elim (I.xex b) (I.muex b),mulo := fun b h => by simp at h,muex := fun b h => by simp at h }
theorem jC {h : Heap} {v : PV} {v' : Value} (r : n4 R.Θ X μ h v v') (hs : v.scalar = true) {h' : Heap} : n4 R.Θ Y μ' h' v v' := by
 cases r.sh with
 | none => exact .none
 | bool b => exact .bool b
 | int i t => exact .int i t
 | str l t => exact .str l t
 | _ => exact absurd hs Bool.false_ne_true
inductive sL (C : Orc) (f : PV) (args : List PV) (kw : Option PV) (σ : Sto) (v : PV) : Prop
 | mk (args' : List PV) (r : PV) (σr : Sto) (hf : f.noBox = true) (hk : ∀ k,kw = some k → k.noBox = true) (e1 : z1 σ args = some args') (e2 : C f args' kw [] = some (r,σr)) (e3 : freeze σr r = some v) (hs : args.any PV.isBox = true → v.scalar = true) : sL C f args kw σ v
theorem fw {f : PV} {args : List PV} {kw : Option PV} {v : PV} (e : B3 C f args kw σ = some v) : sL C f args kw σ v := by
 obtain ⟨hc,e⟩ := C5 e
 obtain ⟨args',e1,e⟩ := bd e
 obtain ⟨⟨r,σr⟩,e2,e⟩ := bd e
 obtain ⟨w,e3,e⟩ := bd e
 have hc := fF hc
 have hx : w = v ∧ (args.any PV.isBox = true → w.scalar = true) := by
  by_cases h : (args.any PV.isBox && !w.scalar) = true
  ·rw [if_pos h] at e; exact nos e
  ·rw [if_neg h] at e
   refine ⟨Option.some.inj e,fun h1 => ?_⟩
   rw [h1] at h
   simpa using h
 obtain ⟨rfl,hs⟩ := hx
 exact ⟨args',r,σr,(fF hc.1).1,fun k hk => by subst hk; exact (fF hc.2).1,e1,e2,e3,hs⟩
theorem jv {f : PV} {args : List PV} {kw : Option PV} {v : PV} (e : B3 C f args kw σ = some v) : ∃ args' r,C f args' kw [] = some r := by
 obtain ⟨args',r,σr,_,_,_,e2,_⟩ := fw e
 exact ⟨args',_,e2⟩
theorem iW {h : Heap} {kw : Option PV} {kvs : List (Str × Value)} (hk : ∀ b,¬ X b → b ∉ μ → ¬ Y b ∧ b ∉ μ') (rk : KwR R.Θ X μ h kw kvs) (hs : ∀ k,kw = some k → k.noBox = true) : KwR R.Θ Y μ' h kw kvs := by
 cases rk with
 | none => exact .none
 | some r => exact .some (J8 hk r (hs _ rfl))
theorem gT.mono {h : Heap} {t : Tm} (x : gT X μ h t) (hk : ∀ b,h.CodeRec (.ref b) t.qual → ¬ X b → b ∉ μ → ¬ Y b ∧ b ∉ μ') : gT Y μ' h t := by
 obtain ⟨hp,ps,h1,h2,h3⟩ := x
 refine ⟨hp,ps,h1,h2,fun cv e => ?_⟩
 obtain ⟨c',e1,e2,e3,e4⟩ := h3 cv e
 exact ⟨c',e1,e2,hk c' e2 e3 e4⟩
theorem gQ (O : l9 R C d) {f : PV} {args : List PV} {kw : Option PV} {v r : PV} {σr : Sto} {fv : Value} {vs : List Value} {kvs : List (Str × Value)} (I : Inv R X μ s) (hr : du A d)
  (hf : f.noBox = true) (hkw : ∀ k,kw = some k → k.noBox = true) (hn : i8 args = true) (e2 : C f args kw [] = some (r,σr)) (e3 : freeze σr r = some v)
  (rf : n4 R.Θ X μ s.heap f fv) (ra : g9 R.Θ X μ s.heap args vs) (rk : KwR R.Θ X μ s.heap kw kvs) : wpAny (model R.prog R.w) A (call fv vs kvs) (fun v' s' => n4 R.Θ X μ s'.heap v v' ∧ w5 R X μ s s') noE s := by
 have hk : ∀ b,¬ X b → b ∉ μ → ¬ (X b ∨ b ∈ μ) ∧ b ∉ ([] : List Addr) := fun b h1 h2 => ⟨fun h => h.elim h1 h2,B8⟩
 refine wt (O.call A (fun b => X b ∨ b ∈ μ) [] s [] f args kw r σr fv vs kvs I.boxX fb hr e2 (J8 hk rf hf) (W2 hk ra hn) (iW hk rk hkw)) fun v' s' h' => ?_
 obtain ⟨μ',P⟩ := h'
 have keep : L9 s.heap s'.heap := fun b o e ht => P.keep b o e fun h => h.elim ht B8
 have hback : ∀ b,¬ (X b ∨ b ∈ μ) → b ∉ μ' → ¬ X b ∧ b ∉ μ := fun b h _ => ⟨fun hx => h (.inl hx),fun hm => h (.inr hm)⟩
 have J := P.inv
 refine ⟨?_,keep,⟨J.keep,fun j t e => (J.tabs j t e).mono fun b _ => hback b,J.os,J.bare,I.xt,I.xlo,fun b h => J.xex b (.inl h),I.mulo,fun b h => J.xex b (.inr h)⟩,P.gens⟩
 rcases W3 e3 with ⟨rfl,hnr⟩ | ⟨n,xs,rfl,e4,hnx,rfl⟩
 ·exact J8 hback P.rel hnr
 ·obtain ⟨a,ha⟩ := P.rel.box_inv
  obtain ⟨a',ws,k,g1,g2,g3,g4⟩ := P.st.bx n xs e4
  cases sxx ha g1
  exact .list (vs := ws.toList) ⟨_,g2,rfl,k,by simp⟩ (fun h => g3 (.inl h)) (fun h => g3 (.inr h)) (W2 hback g4 hnx)
theorem nh (O : l9 R C d) {f : PV} {args args' : List PV} {kw : Option PV} {v r : PV} {σr : Sto} {fv : Value} {vs : List Value} {kvs : List (Str × Value)} (I : Inv R X μ s) (st : N9 R X μ s.heap σ) (hr : du A d)
  (hf : f.noBox = true) (hkw : ∀ k,kw = some k → k.noBox = true) (e1 : z1 σ args = some args') (e2 : C f args' kw [] = some (r,σr)) (e3 : freeze σr r = some v) (hsc : v.scalar = true)
  (rf : n4 R.Θ X μ s.heap f fv) (ra : g9 R.Θ X μ s.heap args vs) (rk : KwR R.Θ X μ s.heap kw kvs) : wpAny (model R.prog R.w) A (call fv vs kvs) (fun v' s' => n4 R.Θ X μ s'.heap v v' ∧ w5 R X μ s s') noE s := by
 have hk : ∀ b,¬ X b → b ∉ μ → ¬ X b ∧ b ∉ ([] : List Addr) := fun b h1 h2 => ⟨h1,B8⟩
 refine wt (O.call A X [] s [] f args' kw r σr fv vs kvs I.nobox fb hr e2 (J8 hk rf hf) (fA st ra e1) (iW hk rk hkw)) fun v' s' h' => ?_
 obtain ⟨μ',P⟩ := h'
 have keep : L9 s.heap s'.heap := fun b o e ht => P.keep b o e fun h => h.elim ht B8
 rcases W3 e3 with ⟨rfl,_⟩ | ⟨n,xs,rfl,_,_,rfl⟩
 case inr => exact absurd hsc Bool.false_ne_true
 have J := P.inv
 have hml : ∀ b ∈ μ,∃ vs k,s'.heap.get? b = some (af vs k) := fun b hb => by
  obtain ⟨n,hn⟩ := List.getElem?_of_mem hb
  have hlt : n < σ.length := by rw [← st.len]; exact (List.getElem?_eq_some_iff.mp hn).1
  obtain ⟨a',ws,k,g1,g2,g3,_⟩ := st.bx n σ[n] (List.getElem?_eq_getElem hlt)
  cases sxx hn g1
  exact ⟨ws,k,keep b _ g2 fun ht => g3 (I.xt b ht)⟩
 refine ⟨jC P.rel hsc,keep,⟨J.keep,fun j t e => (J.tabs j t e).mono fun b e2 h3 _ => ⟨h3,fun h => ?_⟩,J.os,J.bare,J.xt,J.xlo,J.xex,I.mulo,fun b h => let ⟨vs,k,e⟩ := hml b h; ⟨_,e⟩⟩,P.gens⟩
 obtain ⟨c0,o,ws,t',e5,g,r,_⟩ := e2
 cases e5
 obtain ⟨us,k,g'⟩ := hml _ h
 cases sxx g g'; cases r
theorem mW (O : l9 R C d) {f : PV} {args : List PV} {kw : Option PV} {v : PV} {fv : Value} {vs : List Value} {kvs : List (Str × Value)} (I : Inv R X μ s) (st : N9 R X μ s.heap σ) (hr : du A d) (e : B3 C f args kw σ = some v)
  (rf : n4 R.Θ X μ s.heap f fv) (ra : g9 R.Θ X μ s.heap args vs) (rk : KwR R.Θ X μ s.heap kw kvs) : wpAny (model R.prog R.w) A (call fv vs kvs) (fun v' s' => n4 R.Θ X μ s'.heap v v' ∧ w5 R X μ s s') noE s := by
 obtain ⟨args',r,σr,hf,hkw,e1,e2,e3,hs⟩ := fw e
 cases hb : args.any PV.isBox with
 | false =>
  obtain ⟨rfl,hn⟩ := R4 e1 hb
  exact gQ O I hr hf hkw hn e2 e3 rf ra rk
 | true => exact nh O I st hr hf hkw e1 e2 e3 (hs hb) rf ra rk
theorem fK (hT : d3 R) {es : List Expr} {ms : MEs} (h : ESs R C d lay es ms) {kws : List Keyword} {mk : Option ME} (hk : rG R C d lay kws mk) (hne : es ≠ [] ∨ kws = []) {vs : List PV} {kv : Option PV} {f : Value} (pos : Pos) (c : Cx R d lay env A X μ s ρ σ) (ev : Q3 C ms ρ σ = some vs) (ek : kwE C mk ρ σ = some kv) :
  wpAny (model R.prog R.w) A (evalArgs f true (backTo pos (starEach es env)) (backToKw pos (keywordEach kws env))) (fun a s' => g9 R.Θ X μ s'.heap vs a.pos ∧ KwR R.Θ X μ s'.heap kv a.kw ∧ w5 R X μ s s') noE s := by
 cases hk with
 | none =>
  cases ek
  refine wt (br hT h pos c ev) fun a s' h' => ?_
  obtain ⟨h1,h2,h3⟩ := h'
  refine ⟨h2,?_,h3⟩
  rw [h1]; exact .none
 | @some e m p he =>
  simp only [kwE] at ek
  obtain ⟨k,ek1,rfl⟩ := mq ek
  have h0 := K3 hT h pos c ev
  cases h with
  | nil => exact (hne.elim (fun h => h rfl) (fun h => nomatch h)).elim
  | cons hs _ _ =>
   rw [o9 hs] at h0 ⊢
   refine PySem.evalArgs_kw rfl (wt h0 fun vs' s₁ h₁ => ?_)
   obtain ⟨rs,S₁⟩ := h₁
   refine kws_cons (wt (he env A X μ s₁ ρ σ k (c.step hT S₁) ek1) fun kv' s₂ h₂ => kws_nil ?_)
   obtain ⟨rk,S₂⟩ := h₂
   exact ⟨B4 S₂ rs,.some rk,S₁.trans S₂⟩
theorem nz {mf : ME} {ms : MEs} {mk : Option ME} {v : PV} (ev : evE C (.call mf ms mk) ρ σ = some v) : ∃ f vs kv,evE C mf ρ σ = some f ∧ Q3 C ms ρ σ = some vs ∧ kwE C mk ρ σ = some kv ∧ B3 C f vs kv σ = some v := by
 have ev : (evE C mf ρ σ).bind (fun fv => (Q3 C ms ρ σ).bind fun l => (kwE C mk ρ σ).bind fun k => B3 C fv l k σ) = some v := by
  cases mk <;> exact ev
 obtain ⟨f,e1,ev⟩ := bd ev
 obtain ⟨vs,e2,ev⟩ := bd ev
 obtain ⟨kv,e3,ev⟩ := bd ev
 exact ⟨f,vs,kv,e1,e2,e3,ev⟩
theorem ES.call (hT : d3 R) (O : l9 R C d) {x : Str} {np pos : Pos} {mf : ME} {es : List Expr} {ms : MEs} {kws : List Keyword} {mk : Option ME} (hf : ES R C d lay (.Name x np) mf) (h : ESs R C d lay es ms) (hk : rG R C d lay kws mk) (hne : es ≠ [] ∨ kws = []) :
  ES R C d lay (.Call (.Name x np) es kws pos) (.call mf ms mk) := fun env A X μ s ρ σ v c ev => by
 obtain ⟨f,vs,kv,e1,e2,e3',ev⟩ := nz ev
 refine wpAny_Call_Name_kw (wt (hf env A X μ s ρ σ f c e1) fun fv s₁ h₁ => ?_)
 obtain ⟨rf,S₁⟩ := h₁
 have c₁ := c.step hT S₁
 obtain ⟨args',r,q2⟩ := jv ev
 obtain ⟨a,o,fd,ho,hd,ht⟩ := O.fn X μ s₁ [] f args' kv r fv S₁.inv q2 rf
 refine callWith_function_kw (o := o) (fd := fd) (wt (fK hT h hk hne pos c₁ e2 e3') fun x s₂ h₂ => ?_)
 obtain ⟨ra,rk,S₂⟩ := h₂
 have c₂ := c₁.step hT S₂
 have rf₂ := n9 S₂ rf
 refine ⟨⟨S₂.keep a o ho ht,hd⟩,?_⟩
 exact wt (mW O S₂.inv c₂.st c₂.room ev rf₂ ra rk) fun v' s₃ h₃ => ⟨h₃.1,(S₁.trans S₂).trans h₃.2⟩
end
section
variable {R : Run} {C : Orc} {d : Nat} {X Y : Addr → Prop} {μ μ' μ'' : List Addr} {s s' s'' s₁ s₂ : Shared} {lay lay' : Lay} {env : Env} {A : Around} {ρ ρ' : Rho} {σ σ' : Sto} {mg : Str → Option Value}
theorem FR.go {h h' : Heap} (hT : d3 R) (xt : ∀ b ∈ Tabs,X b) (g : A4 μ μ' h) (k : n5 (fun b => b ∈ Tabs ∨ b ∈ μ) h h') (F : FR R lay env X μ h ρ) : FR R lay env X μ' h' ρ where
 kind := F.kind
 glob := F.glob
 blt := F.blt
 llo := F.llo
 lx := F.lx
 lmu := by
  obtain ⟨m,⟨o,_,_,ho,_⟩,_⟩ := F.loc
  exact g.off ho F.lmu
 glo := F.glo
 apart := F.apart
 cod := F.cod
 loc := by
  obtain ⟨m,hn,hl⟩ := F.loc
  refine ⟨m,hn.at' fun o e => k _ o e fun h => h.elim (fun ht => hT.no ht F.llo) F.lmu,fun x i hm => ⟨(hl x i hm).1,fun v ev hu => ?_⟩⟩
  obtain ⟨v',e1,e2⟩ := (hl x i hm).2 v ev hu
  exact ⟨v',e1,U8 g (k.mono fun b h => h.imp (xt b) id) e2⟩
 cel := fun x kk i hm hk => by
  obtain ⟨h0,c,w,h1,h2,h3,h4,h5,h6⟩ := F.cel x kk i hm hk
  refine ⟨h0,c,w,h1,k c _ h2 (fun h => h.elim (fun ht => ?_) h3),g.off h2 h3,fun v ev hu => ?_,h5,h6⟩
  ·rcases hk with hk | hk
   ·exact hT.no ht (h5 hk).2
   ·exact h6 hk (xt c ht)
  ·obtain ⟨v',e1,e2⟩ := h4 v ev hu
   exact ⟨v',e1,U8 g (k.mono fun b h => h.imp (xt b) id) e2⟩
theorem SS.scall (hT : d3 R) (O : l9 R C d) {x : Str} {np cpos pos : Pos} {mf : ME} {es : List Expr} {ms : MEs} {kws : List Keyword} {mk : Option ME} (hf : ES R C d lay (.Name x np) mf) (h : ESs R C d lay es ms) (hk : rG R C d lay kws mk) (hne : es ≠ [] ∨ kws = []) :
  SS R C d lay (.Expr (.Call (.Name x np) es kws cpos) pos) (.scall mf ms mk) := fun env A X μ s ρ σ fl S' c ev => by
 obtain ⟨f,e1,ev⟩ := bd ev
 obtain ⟨vs,e2,ev⟩ := bd ev
 obtain ⟨kv,e3,ev⟩ := bd ev
 obtain ⟨⟨r,σr⟩,e4,ev⟩ := bd ev
 cases r with
 | none =>
  cases ev
  refine wpAny_Expr_any ?_ (H5 c.fr) (O7 rfl _ _ _)
  refine wpAny_Call_Name_kw (wt (hf env A X μ s ρ σ f c e1) fun fv s₁ h₁ => ?_)
  obtain ⟨rf,S₁⟩ := h₁
  have c₁ := c.step hT S₁
  obtain ⟨a,o,fd,ho,hd,ht⟩ := O.fn X μ s₁ σ f vs kv _ fv S₁.inv e4 rf
  refine callWith_function_kw (o := o) (fd := fd) (wt (fK hT h hk hne cpos c₁ e2 e3) fun x s₂ h₂ => ?_)
  obtain ⟨ra,rk,S₂⟩ := h₂
  have c₂ := c₁.step hT S₂
  refine ⟨⟨S₂.keep a o ho ht,hd⟩,?_⟩
  refine wt (O.call A X μ s₂ σ f vs kv .none σr (.ref a) x.pos x.kw S₂.inv c₂.st c₂.room e4 (n9 S₂ rf) ra rk) fun v' s₃ h₃ => ?_
  obtain ⟨μ',P⟩ := h₃
  refine ⟨μ',P9.after hT c (S₁.trans S₂) ⟨⟨c₂.fr.go hT S₂.inv.xt P.mu P.keep,P.st,P.inv,c.room⟩,P.keep.mono fun b h => h.elim .tab .mu,P.gens,P.mu,.next⟩⟩
 | _ => cases ev
structure gc (R : Run) (mg : Str → Option Value) : Prop where
 g : R.base.Ns mainGlobals mg
 bm : ∃ bm o,mg "__builtins__" = some (.ref bm) ∧ bm ≠ builtinsNs ∧ bm ≠ mainGlobals ∧ bm ∉ Tabs ∧ R.base.get? bm = some o ∧ o.cls = .type "module" ∧ o.dict = some builtinsNs ∧ o.data = .plain
 inj : ∀ i j ti tj,R.Θ i = some ti → R.Θ j = some tj → ti.P = tj.P → ti = tj
 hd : ∀ k t,R.Θ k = some t → CodeHd R.base t.c t.P ∧ t.c ∉ Tabs
theorem gC {c P : Addr} (h : CodeHd R.base c P) (hc : c ∉ Tabs) (I : Inv R X μ s) : CodeHd s.heap c P := by
 obtain ⟨o,vs,file,tf,flags,tg,inF,text,tt,e,r⟩ := h
 exact ⟨o,vs,file,tf,flags,tg,inF,text,tt,I.keep _ _ e hc,r⟩
noncomputable def fO (t : Tm) (clos : List (Str × Addr)) (pm doc cd ct : Value) : Obj := { cls := .type "function",data := .func (qQ t clos pm doc cd ct) }
inductive to (R : Run) (X : Addr → Prop) (μ : List Addr) (s : Shared) (t : Tm) (clos : List (Str × Addr)) (s' : Shared) : Value → Prop
 | mk (a c' : Addr) (pm doc ct : Value) (h0 : s.heap.get? a = Option.none) (h1 : s'.heap.get? a = some (fO t clos pm doc (.ref c') ct)) (hr : s'.heap.CodeRec (.ref c') t.qual) (hx : ¬ X c') (hm : c' ∉ μ) (S : w5 R X μ s s') : to R X μ s t clos s' (.ref a)
theorem jd {t : Tm} {b : List Stmt} (h : t.body = .stmts b) {clos : List (Str × Addr)} {doc nm ct : Value} {c' : Addr} : ({ cls := .type "function",data := .func (fnX t.name t.qual t.params b t.scope clos .none .none doc nm Option.none (.ref c') ct) } : Obj) = fO t clos nm doc (.ref c') ct := by
 unfold fO fnX qQ; rw [h]
theorem lz {t : Tm} {b : Expr} (h : t.body = .expr b) {clos : List (Str × Addr)} {nm ct : Value} {c' : Addr} : ({ cls := .type "function",data := .func (kla_fn t.name t.qual t.params b t.scope clos nm (.ref c') ct) } : Obj) = fO t clos nm .none (.ref c') ct := by
 unfold fO qQ; rw [h]
theorem ip (I : Inv R X μ s) {t : Tm} {clos : List (Str × Addr)} {nm doc ct : Value} {c' : Addr} {h' : Heap} {tk : Nat} (hr : s.heap.CodeRec (.ref c') t.qual) (hx : ¬ X c') (hm : c' ∉ μ) (hk : ∀ b o,s.heap.get? b = some o → h'.get? b = some o) (hz : s.heap.objs.size ≤ h'.objs.size) :
  to R X μ s t clos { s with heap := h'.push (fO t clos nm doc (.ref c') ct),toks := tk } (.ref h'.objs.size) :=
 have hk' : ∀ b o,s.heap.get? b = some o → (h'.push (fO t clos nm doc (.ref c') ct)).get? b = some o := fun b o e => Heap.get?_push_of_some _ (hk b o e)
 ⟨_,c',nm,doc,ct,Heap.get?_none_of_le hz,Heap.get?_push_size _ rfl,hr.keeps hk',hx,hm,w5.grow I hk'⟩
theorem ig (K : gc R mg) (hT : d3 R) (I : Inv R X μ s) {k : Nat} {t : Tm} (ht : R.Θ k = some t) {ps : Array Value} (hPt : t.P ∈ Tabs) (hTr : TriplesOk ps.toList) (hA : codeAmong t.pos ps.toList = Option.none) {clos : List (Str × Addr)} {nm doc ct : Value} {c' : Addr} {h' : Heap} {tk : Nat}
  (hx : Heap.ExtBut t.P s.heap h') (hge : s.heap.objs.size ≤ c') (hlt : c' < h'.objs.size) (hr : h'.CodeRec (.ref c') t.qual) (hP' : h'.get? t.P = some (tabObj (ps ++ #[rawInt t.pos.line,rawInt t.pos.col,.ref c']))) :
  to R X μ s t clos { s with heap := h'.push (fO t clos nm doc (.ref c') ct),toks := tk } (.ref h'.objs.size) := by
 have f := I.fresh_of (Heap.get?_none_of_le hge)
 have k1 : ∀ b o,b ≠ t.P → s.heap.get? b = some o → (h'.push (fO t clos nm doc (.ref c') ct)).get? b = some o := fun b o hb e => Heap.get?_push_of_some _ (hx b o hb e)
 have k2 : ∀ b o,h'.get? b = some o → (h'.push (fO t clos nm doc (.ref c') ct)).get? b = some o := fun b o e => Heap.get?_push_of_some _ e
 refine ⟨_,c',nm,doc,ct,Heap.get?_none_of_le (Nat.le_of_lt (Nat.lt_of_le_of_lt hge hlt)),Heap.get?_push_size _ rfl,hr.keeps k2,f.1,f.2,⟨fun b o e hb => k1 b o (fun e' => hb (e' ▸ hPt)) e,?_,fun _ _ e => e⟩⟩
 refine { keep := fun b o e hb => k1 b o (fun e' => hb (e' ▸ hPt)) (I.keep b o e hb),tabs := fun j tj ej => ?_,os := I.os,bare := I.bare,xt := I.xt,xlo := I.xlo,xex := fun b hb => ?_,mulo := I.mulo,muex := fun b hb => ?_ }
 ·obtain ⟨hpj,psj,g1,g2,g3⟩ := I.tabs j tj ej
  by_cases hPP : tj.P = t.P
  ·have := K.inj j k tj t ej ht hPP
   subst this
   refine ⟨hpj,_,k2 _ _ hP',by simpa using TriplesOk_snoc tj.pos.line tj.pos.col (.ref c') ps.toList hTr,fun cv e => ?_⟩
   have e1 : codeAmong tj.pos (ps ++ #[rawInt tj.pos.line,rawInt tj.pos.col,.ref c']).toList = some (.ref c') := by simpa using codeAmong_snoc (c := .ref c') ps.toList hTr hA
   cases sxx e1 e
   exact ⟨c',rfl,hr.keeps k2,f.1,f.2⟩
  ·refine ⟨hpj,psj,k1 _ _ hPP g1,g2,fun cv e => ?_⟩
   obtain ⟨c'',e1,e2,e3,e4⟩ := g3 cv e
   obtain ⟨c0,o,vs,t',e5,g,r⟩ := e2
   cases e5
   exact ⟨c'',e1,⟨c'',o,vs,t',rfl,k1 _ _ (fun e' => e3 (e' ▸ I.xt _ hPt)) g,r⟩,e3,e4⟩
 ·by_cases hb' : b = t.P
  ·exact ⟨_,hb' ▸ k2 _ _ hP'⟩
  ·obtain ⟨o,e⟩ := I.xex b hb; exact ⟨o,k1 b o hb' e⟩
 ·obtain ⟨o,e⟩ := I.muex b hb
  exact ⟨o,k1 b o (fun e' => hT.no hPt (I.mulo _ (e' ▸ hb))) e⟩
theorem kI (K : gc R mg) (hT : d3 R) {M : Model} {E : Value → Shared → Prop} {k : Nat} {t : Tm} {q : Str} (c : Cx R d lay env A X μ s ρ σ) (ht : R.Θ k = some t) (hcod : (q,Kd.cod,t.c) ∈ lay) {clos : List (Str × Addr)} (hcl : closureFor t.scope env = pure clos) {fl : Nat} :
  wpAny M A (makeFunction t.name t.qual t.params t.body t.scope env [] [] [] t.pos fl) (fun v s' => to R X μ s t clos s' v) E s := by
 obtain ⟨hPt,ps,hP,hTr,hAm⟩ := c.inv.tabs k t ht
 obtain ⟨bm,ob,b1,b2,b3,b4,b5,b6,b7,b8⟩ := K.bm
 have hg : s.heap.Ns mainGlobals mg := K.g.at' fun o e => c.inv.keep _ o e (by decide)
 have hgP : mainGlobals ≠ t.P := fun e => by rw [← e] at hPt; exact absurd hPt (by decide)
 have hb : s.heap.BuiltinsAt mg t.P := ⟨bm,ob,b1,b2,b3,fun e => b4 (e ▸ hPt),c.inv.keep _ _ b5 b4,b6,b7,b8⟩
 have hC := gC (K.hd k t ht).1 (K.hd k t ht).2 c.inv
 have hcode := (c.fr.cod q t.c hcod).1
 cases hA : codeAmong t.pos ps.toList with
 | some cv =>
  obtain ⟨c',rfl,hr,hx,hm⟩ := hAm cv hA
  cases hbody : t.body with
  | stmts b =>
   refine makeFunction_hit (mg := mg) hcl c.fr.glob hg hcode hC hP hTr hA hb fun ctv doc h' tk hk hz => ?_
   rw [jd hbody]
   exact ip c.inv hr hx hm hk hz
  | expr b =>
   refine kla_makeFunctionHit (mg := mg) hcl c.fr.glob hg hcode hC hP hTr hA hb fun ctv h' tk hk hz => ?_
   rw [lz hbody]
   exact ip c.inv hr hx hm hk hz
 | none =>
  cases hbody : t.body with
  | stmts b =>
   refine makeFunction_K (mg := mg) hcl c.fr.glob hg hcode hC hP hTr hA hgP hb fun c' ctv doc h' tk hx hge hlt hr hP' => ?_
   unfold fnMade
   rw [jd hbody]
   exact ig K hT c.inv ht hPt hTr hA hx hge hlt hr hP'
  | expr b =>
   refine kla_makeFunction (mg := mg) hcl c.fr.glob hg hcode hC hP hTr hA hgP hb fun c' ctv h' tk hx hge hlt hr hP' => ?_
   unfold kla_obj
   rw [lz hbody]
   exact ig K hT c.inv ht hPt hTr hA hx hge hlt hr hP'
theorem hO (F : FR R lay env X μ s.heap ρ) : ∀ {xs : List Str} {is : List Nat} {l : List PV},List.length xs = List.length is → (∀ (n : Nat) x i,xs[n]? = some x → is[n]? = some i → (x,Kd.frz,i) ∈ lay) → dh ρ is = some l →
  ∃ (cs : List Addr) (vs : List Value),xs.map (fun x => env.cells.lookup x) = cs.map some ∧ cs.map s.heap.get? = vs.map (fun v => some (U3 (some v))) ∧ (∀ d ∈ cs,¬ X d ∧ d ∉ μ) ∧ g9 R.Θ X μ s.heap l vs
 | [],[],l,_,_,e => by cases e; exact ⟨[],[],rfl,rfl,fun _ h => (nomatch h),.nil⟩
 | [],_ :: _,l,hl,_,_ => by simp at hl
 | _ :: _,[],l,hl,_,_ => by simp at hl
 | x :: xs,i :: is,l,hl,hm,e => by
  obtain ⟨v,e1,e2⟩ := bd e
  obtain ⟨r,e3,rfl⟩ := mq e2
  have hm0 := hm 0 x i rfl rfl
  obtain ⟨cs,vs,g1,g2,g3,g4⟩ := hO F (xs := xs) (is := is) (by simpa using hl) (fun n y j hy hj => hm (n + 1) y j (by simpa using hy) (by simpa using hj)) e3
  obtain ⟨_,cc,w,h1,h2,h3,h4,_,h6⟩ := F.cel x .frz i hm0 (.inr rfl)
  obtain ⟨hv,hu⟩ := cf e1
  obtain ⟨v',rfl,hr⟩ := h4 v hv hu
  refine ⟨cc :: cs,v' :: vs,by simp [h1,g1],by simp [h2,g2],fun d hd => ?_,.cons hr g4⟩
  rcases List.mem_cons.mp hd with rfl | hd
  ·exact ⟨h6 rfl,h3⟩
  ·exact g3 d hd
theorem cJ (F : FR R lay env X μ s.heap ρ) {scope : Scope} (hfr : ∀ x,(x,NameKind.free) ∈ scope.names → ∃ k i,(x,k,i) ∈ lay ∧ (k = .cel ∨ k = .frz)) :
  ∃ cl,closureFor scope env = pure cl ∧ ∀ x,(x,NameKind.free) ∈ scope.names → cl.lookup x = env.cells.lookup x := by
 obtain ⟨cl,h1,_,h3⟩ := U4 (scope := scope) (env := env) (fun x hx => by
  obtain ⟨k,i,h1,h2⟩ := hfr x hx
  obtain ⟨_,c',w,h3,_⟩ := F.cel x k i h1 h2
  exact ⟨c',h3⟩)
 exact ⟨cl,h1,h3⟩
theorem ES.lam (K : gc R mg) (hT : d3 R) {k : Nat} {t : Tm} {q : Str} {body : Expr} {cap : List Nat} (ht : R.Θ k = some t) (hcod : (q,Kd.cod,t.c) ∈ lay) (hname : t.name = Str.ofString "<lambda>") (hqual : t.qual = q ++ Str.ofString "<lambda>") (hbody : t.body = .expr body) (hself : t.self = Option.none)
  (hd0 : t.params.defaults = []) (hk0 : t.params.kw_defaults = []) (hlen : t.caps.length = cap.length) (hcap : ∀ (n : Nat) x i,t.caps[n]? = some x → cap[n]? = some i → (x,Kd.frz,i) ∈ lay) (hcn : ∀ x ∈ t.caps,(x,NameKind.free) ∈ t.scope.names)
  (hfr : ∀ x,(x,NameKind.free) ∈ t.scope.names → ∃ k i,(x,k,i) ∈ lay ∧ (k = .cel ∨ k = .frz)) :
  ES R C d lay (.Lambda t.params body t.scope t.pos) (.lam k cap) := fun env A X μ s ρ σ v c ev => by
 obtain ⟨l,e1,e2⟩ := bd ev
 split at e2 <;> cases e2
 obtain ⟨clos,hcl,hcl2⟩ := cJ c.fr hfr
 have hq : env.qual = q := (c.fr.cod q t.c hcod).2
 rw [arm_eval_Lambda,defaultsOf_eq,hd0,hk0]
 refine wpAny_bind (wpAny_pure ?_)
 refine wpAny_bind (wpAny_holding (wpAny_pure ?_))
 have hm := kI (M := model R.prog R.w) (E := noE) (fl := t.pos.line) K hT c ht hcod hcl
 rw [hname,hqual,hbody] at hm
 rw [hq]
 refine wt hm fun v' s' h' => ?_
 obtain ⟨a,c',pm,doc,ct,h0,h1,h2,h3,h4,S⟩ := h'
 obtain ⟨cs,vs,g1,g2,g3,g4⟩ := hO c.fr hlen hcap e1
 have f := c.inv.fresh_of h0
 refine ⟨.clo ht (clos := clos) (pm := pm) (doc := doc) (ct := ct) (c := c') (cs := cs) (vs := vs) ?_ f.1 f.2 h2 h3 h4 ?_ ?_ g3 (fun x hx => by exact nxx hself hx) (B4 S g4),S⟩
 ·exact h1
 ·rw [← g1]
  exact List.map_congr_left fun x hx => hcl2 x (hcn x hx)
 ·rw [← g2]
  refine List.map_congr_left fun b hb => ?_
  have hb' : s.heap.get? b ∈ cs.map s.heap.get? := List.mem_map_of_mem hb
  rw [g2] at hb'
  obtain ⟨v,_,e⟩ := List.mem_map.mp hb'
  rw [← e]
  exact S.keep b _ e.symm fun ht => (g3 b hb).1 (c.inv.xt b ht)
end
section
variable {R : Run} {C : Orc} {d : Nat} {X Y : Addr → Prop} {μ μ' μ'' : List Addr} {s s' s'' s₁ s₂ : Shared} {lay lay' : Lay} {env : Env} {A : Around} {ρ ρ' : Rho} {σ σ' : Sto} {mg : Str → Option Value}
theorem FR.know {h : Heap} (hl : D9 lay) {i : Nat} {x : Str} {p : PV} {cc : Addr} {v : Value} (hm : (x,Kd.frz,i) ∈ lay) (F : FR R lay env X μ h (ρ.set i .unb)) (hx : env.cells.lookup x = some cc) (hg : h.get? cc = some (U3 (some v))) (r : n4 R.Θ X μ h p v) :
  FR R lay env X μ h (ρ.set i p) := by
 have tr : ∀ j q,(ρ.set i p)[j]? = some q → (j = i ∧ q = p) ∨ (j ≠ i ∧ (ρ.set i .unb)[j]? = some q) := fun j q e => by
  rcases W1 e with ⟨rfl,rfl⟩ | ⟨hne,e⟩
  ·exact .inl ⟨rfl,rfl⟩
  ·exact .inr ⟨Ne.symm hne,by rw [List.getElem?_set_ne hne]; exact e⟩
 refine { kind := F.kind,glob := F.glob,blt := F.blt,llo := F.llo,lx := F.lx,lmu := F.lmu,glo := F.glo,cod := F.cod,apart := F.apart,loc := ?_,cel := ?_ }
 ·obtain ⟨m,hn,hloc⟩ := F.loc
  refine ⟨m,hn,fun y j hy => ⟨(hloc y j hy).1,fun q e hu => ?_⟩⟩
  rcases tr j q e with ⟨rfl,rfl⟩ | ⟨hne,e⟩
  ·have e1 := hl.slot x .frz y .loc j hm hy (by simp) (by simp)
   subst e1
   have := (hl.name x .frz j .loc j hm hy (by simp) (by simp)).2
   cases this
  ·exact (hloc y j hy).2 q e hu
 ·intro y kk j hy hk
  obtain ⟨h0,c,w,h1,h2,h3,h4,h5⟩ := F.cel y kk j hy hk
  refine ⟨h0,c,w,h1,h2,h3,fun q e hu => ?_,h5⟩
  rcases tr j q e with ⟨rfl,rfl⟩ | ⟨hne,e⟩
  ·have e1 := hl.slot x .frz y kk j hm hy (by simp) (by rcases hk with rfl | rfl <;> simp)
   subst e1
   cases sxx hx h1
   cases sxx hg h2
   exact ⟨v,rfl,r⟩
  ·exact h4 q e hu
theorem gg {i : Nat} {v : PV} : ∀ {is : List Nat} {l : List PV},i ∉ is → dh ρ is = some l → dh (ρ.set i v) is = some l
 | [],l,_,h => h
 | j :: is,l,hn,h => by
  obtain ⟨q,e1,e2⟩ := bd h
  obtain ⟨r,e3,rfl⟩ := mq e2
  have hj : i ≠ j := fun e => hn (e ▸ List.mem_cons_self)
  have e4 : n7 (ρ.set i v) j = some q := by
   unfold n7 at e1 ⊢
   rw [List.getElem?_set_ne hj]; exact e1
  rw [zvb,e4,i9,gg (fun h => hn (G6 _ h)) e3]; rfl
theorem l3.defn (K : gc R mg) (hT : d3 R) (hl : D9 lay) (hl' : D9 lay') {k i : Nat} {t : Tm} {q : Str} {body : List Stmt} {cap : List Nat} {rest : List Stmt} {ms : List MS} (ht : R.Θ k = some t) (hcod : (q,Kd.cod,t.c) ∈ lay) (hqual : t.qual = q ++ t.name) (hbody : t.body = .stmts body)
  (hself : t.self = some t.name) (hd0 : t.params.defaults = []) (hk0 : t.params.kw_defaults = []) (ha : ∀ env,annTrees t.params Option.none env = []) (Z : sY lay lay') (hm : (t.name,Kd.cel,i) ∈ lay) (hm' : (t.name,Kd.frz,i) ∈ lay') (hic : i ∉ cap)
  (hlen : t.caps.length = cap.length) (hcap : ∀ (n : Nat) x j,t.caps[n]? = some x → cap[n]? = some j → (x,Kd.frz,j) ∈ lay') (hcn : ∀ x ∈ t.caps,(x,NameKind.free) ∈ t.scope.names) (hsn : (t.name,NameKind.free) ∈ t.scope.names)
  (hfr : ∀ x,(x,NameKind.free) ∈ t.scope.names → ∃ k i,(x,k,i) ∈ lay ∧ (k = .cel ∨ k = .frz)) (hs : l3 R C d lay' rest ms) :
  l3 R C d lay (.FunctionDef t.name t.params body [] Option.none [] t.scope Option.none t.name t.pos :: rest) (.defn i k cap :: ms) := fun env A X μ s ρ σ fl S' c ev => by
 obtain ⟨⟨f1,S1⟩,e1,ev⟩ := bd ev
 obtain ⟨l,e2,e1⟩ := bd e1
 obtain ⟨S2,e3,e1⟩ := mq e1
 cases e1
 obtain ⟨hi,rfl⟩ := Q5 e3
 obtain ⟨clos,hcl,hcl2⟩ := cJ c.fr hfr
 have hq : env.qual = q := (c.fr.cod q t.c hcod).2
 have hkind : env.kindOf t.name = some .cell := by
  rcases (c.fr.cel t.name .cel i hm (.inl rfl)).1 with h | ⟨h,_⟩
  ·exact h
  ·cases h
 have hqn : qualnameIn env t.name t.name = t.qual := by
  unfold qualnameIn
  rw [hkind,hq,hqual]; rfl
 have hmk := kI (M := model R.prog R.w) (E := noE) (fl := t.pos.line) K hT c ht hcod hcl
 rw [hbody] at hmk
 refine wpAny_execs_cons (nestDef_K hd0 hk0 (ha env) ?_)
 rw [hqn]
 refine wt hmk fun v' s₁ h₁ => ?_
 obtain ⟨a,c',pm,doc,ct,h0,h1,h2,h3,h4,S⟩ := h₁
 refine gf hT hl (c.fr.step hT S) S.inv hm (.inr rfl) (p := .unb) (fun h => by cases h) fun s₂ b hcell => ?_
 obtain ⟨cc,hcc,hcg⟩ := hcell rfl
 have c₂ : Cx R d lay env A X μ s₂ (ρ.set i .unb) σ := ⟨b.fr,(c.st.step S).set b.wx b.keep,b.inv,c.room⟩
 have c₃ := c₂.freeze hT Z
 have f := c.inv.fresh_of h0
 obtain ⟨cs,vs,g1,g2,g3,g4⟩ := hO c₃.fr hlen hcap (gg hic e2)
 have hwk : ∀ x o,s₁.heap.get? x = some o → ¬ X x → s₂.heap.get? x = some o := fun x o e hx => b.keep x o e fun h => hx (b.wx x h)
 have hrel : n4 R.Θ (fun b => X b ∧ ¬ FzC lay lay' env b) μ s₂.heap (.clo k l) (.ref a) := by
  obtain ⟨c0,oc,ws,tk,e5,g,dc,vc⟩ := h2
  cases e5
  refine .clo ht (clos := clos) (pm := pm) (doc := doc) (ct := ct) (c := c') (cs := cs) (vs := vs) (hwk _ _ h1 f.1) (fun h => f.1 h.1) f.2 ⟨c',oc,ws,tk,rfl,hwk _ _ g h3,dc,vc⟩ (fun h => h3 h.1) h4 ?_ g2 g3 (fun x hx => ?_) g4
  ·rw [← g1]
   exact List.map_congr_left fun x hx => hcl2 x (hcn x hx)
  ·cases sxx hself hx
   refine ⟨cc,by rw [hcl2 _ hsn]; exact hcc,hcg,fun h => h.2 ⟨_,i,hm,hm',hcc⟩,?_⟩
   obtain ⟨_,c'',w,e6,_,e7,_⟩ := c₂.fr.cel t.name .cel i hm (.inl rfl)
   cases sxx hcc e6
   exact e7
 have F₃ := FR.know hl' hm' c₃.fr hcc hcg hrel
 refine wt (hs env A _ μ s₂ (ρ.set i (.clo k l)) σ fl S' ⟨F₃,c₃.st,c₃.inv,c₃.room⟩ ev) fun f' s₃ hL => ?_
 obtain ⟨μ',X',L⟩ := hL
 have own : ∀ b,gv lay' env b → gv lay env b := by
  rintro b (h | ⟨x,i,h1,h2⟩)
  ·exact .inl h
  ·exact .inr ⟨x,i,Z.cel x i h1,h2⟩
 refine ⟨μ',X',fun b hb => (L.down b hb).1,fun b hb => ?_,L.inv,L.st,fun b' o e hb => ?_,fun g z e => L.gens g z (by rw [b.gens]; exact S.gens g z e),?_,L.fl⟩
 ·by_cases hz : FzC lay lay' env b
  ·obtain ⟨x,i,h1,_,h3⟩ := hz
   exact .inr (.inr ⟨x,i,h1,h3⟩)
  ·exact (L.up b ⟨hb,hz⟩).imp id (own b)
 ·refine L.keep b' o (b.keep b' o (S.keep b' o e fun h => hb (.tab h)) fun h => hb (.own (R6 hl c.fr hm (.inr rfl) h))) ?_
  rintro (h | h | h)
  ·exact hb (.tab h)
  ·exact hb (.mu h)
  ·exact hb (.own (own b' h))
 ·obtain ⟨l',rfl,hl''⟩ := L.mu
  refine ⟨l',rfl,fun b' hb => ?_⟩
  cases e : s.heap.get? b' with
  | none => rfl
  | some o =>
   exfalso
   by_cases hx : b' ∈ Tabs ∨ WN env t.name b'
   ·have hX : X b' := hx.elim (c.inv.xt b') (b.wx b')
    obtain ⟨o',e'⟩ := b.inv.xex b' hX
    exact nxx (hl'' b' hb) e'
   ·have := b.keep b' o (S.keep b' o e fun h => hx (.inl h)) fun h => hx (.inr h)
    exact nxx (hl'' b' hb) this
end
section
variable {R : Run} {C : Orc} {d : Nat} {X Y : Addr → Prop} {μ μ' μ'' : List Addr} {s s' s'' s₁ s₂ : Shared} {lay lay' : Lay} {env : Env} {A : Around} {ρ ρ' : Rho} {σ σ' : Sto}
theorem sO {fd : FuncData} {body : Expr} {mb : ME} {v : PV} {o : Obj} {a : Addr} {vals : List Value} {kws : List (Str × Value)} {ps : List PV} {bvals : List Value} {pl : List (Str × Kd × Nat)} {ρ₀ : Rho} (hT : d3 R) (hlim : R.base.NoLimit)
  (I : Inv R X μ s) (st : N9 R X μ s.heap σ) (hroom : du A (d + 1)) (ho : s.heap.get? a = some o) (hd : o.data = .func fd) (hcd : s.heap.CodeRec fd.code fd.qualname) (hbody : fd.body = .expr body) (hbind : BindsTo s fd ⟨vals,kws⟩ ((pl.map (·.1)).zip bvals))
  (hrs : g9 R.Θ X μ s.heap ps bvals) (hlen : pl.length = bvals.length) (hpl : ∀ e ∈ pl,e ∈ lay ∧ (e.2.1 = .loc ∨ e.2.1 = .cel)) (hl : D9 lay)
  (hk : fd.scope.kind = .function) (hco : fd.scope.isCoroutine = false) (hgen : fd.scope.isGenerator = false) (hg : fd.globals = mainGlobals) (hb : fd.builtins = builtinsNs) (nd : (fd.scope.names.map Prod.fst).Nodup)
  (hloc : ∀ x i,(x,Kd.loc,i) ∈ lay → (x,NameKind.local) ∈ fd.scope.names ∧ ∀ v,ρ₀[i]? = some v → v.isUnb = true)
  (hglo : ∀ x i,(x,Kd.glo,i) ∈ lay → (x,NameKind.globalImplicit) ∈ fd.scope.names)
  (hcod : ∀ x c,(x,Kd.cod,c) ∈ lay → fd.code = .ref c ∧ fd.qualname ++ ".<locals>." = x)
  (hcel : ∀ x i,(x,Kd.cel,i) ∈ lay → (x,NameKind.cell) ∈ fd.scope.names ∧ ∀ v,ρ₀[i]? = some v → v.isUnb = true)
  (hfrz : ∀ x i,(x,Kd.frz,i) ∈ lay → (x,NameKind.free) ∈ fd.scope.names ∧ ∃ c w,fd.closure.lookup x = some c ∧ s.heap.get? c = some (U3 w) ∧ c ∉ μ ∧ ¬ X c ∧ ∀ v,ρ₀[i]? = some v → v.isUnb = false → ∃ v',w = some v' ∧ n4 R.Θ X μ s.heap v v')
  (hB : ES R C d lay body mb) (hev : evE C mb (X0 pl ps ρ₀) σ = some v) :
  wpAny (model R.prog R.w) A (call (.ref a) vals kws) (fun v' s' => ∃ μ',Ret R X μ μ' s v σ v' s') noE s := by
 refine wpAny_call (kla_callFunE (by have := hroom.2.1; lia) ho hd hco hgen hbody hcd (hbind _ _ _ _ ?_))
 refine E5 ?_
 have fr := mB (lay' := lay) (ρ := ρ₀) (tk := s.toks) I (names := fd.scope.names) (closure := fd.closure) (o := { cls := .type (if (Option.none : Option Env).isSome then "dict" else "frame"),data := .dict #[] })
  (scope' := fd.scope) (env' := newEnv fd.scope s.heap.objs.size fd.globals (cellsFrom (s.heap.objs.size + 1) fd.scope.names fd.closure) (fd.qualname ++ ".<locals>.") (some a) fd.code Option.none fd.builtins)
  ⟨_,rfl⟩ hk nd rfl hg hb rfl rfl (fun x i hm => ⟨l5 nd (hloc x i hm).1,(hloc x i hm).2⟩) (fun x i hm => l5 nd (hglo x i hm))
  (fun x k i hm hkk => by
   rcases hkk with rfl | rfl
   ·exact .inl ⟨(hcel x i hm).1,rfl,l5 nd (hcel x i hm).1,(hcel x i hm).2⟩
   ·obtain ⟨h1,c,w,h2,h3,h4,h5,h6⟩ := hfrz x i hm
    exact .inr ⟨fun h => (nomatch V7 nd h1 h),.inr ⟨rfl,l5 nd h1⟩,c,w,h2,h3,h4,h6,fun e => (nomatch e),fun _ => h5⟩)
  hcod (fun x i y j c hx hy hxn => absurd (hcel x i hx).1 hxn)
 obtain ⟨X1,F⟩ := fr
 have hown : ∀ b,gv lay (newEnv fd.scope s.heap.objs.size fd.globals (cellsFrom (s.heap.objs.size + 1) fd.scope.names fd.closure) (fd.qualname ++ ".<locals>.") (some a) fd.code Option.none fd.builtins) b → s.heap.get? b = Option.none := by
  rintro b (h | ⟨x,i,h1,h2⟩)
  ·rw [h]; exact Heap.none_at_size _
  ·have sp := J7 fd.scope.names (s.heap.push { cls := .type "frame",data := .dict #[] }) fd.closure nd
   rw [Heap.size_push] at sp
   obtain ⟨c',g1,g2,_⟩ := sp.1 x (hcel x i h1).1
   have h2' : (cellsFrom (s.heap.objs.size + 1) fd.scope.names fd.closure).lookup x = some b := h2
   cases sxx g1 h2'
   exact Heap.get?_none_of_le (Nat.le_trans (Nat.le_succ _) g2)
 generalize hY : (fun b => X b ∨ cX s (pushCells (s.heap.push { cls := .type (if (Option.none : Option Env).isSome then "dict" else "frame"),data := .dict #[] }) fd.scope.names) b) = Y at X1 F
 have upY : ∀ b,X b → Y b := X1.up
 generalize newEnv fd.scope s.heap.objs.size fd.globals (cellsFrom (s.heap.objs.size + 1) fd.scope.names fd.closure) (fd.qualname ++ ".<locals>.") (some a) fd.code Option.none fd.builtins = env at F hown ⊢
 refine fk (A := A.in1) hT hl pl F X1.inv hpl (Y3 X1 hrs) hlen fun s₂ F₂ I₂ k₂ g₂ => ⟨ax hlim I₂,kla_codeExpr ?_⟩
 have wxO : ∀ b,gv lay env b → Y b := fun b h => eO (s := s₂) F₂ h
 have c₂ : Cx R d lay env (A.deeper env) Y μ s₂ (X0 pl ps ρ₀) σ := ⟨F₂,(st.ext X1).set wxO k₂,I₂,hroom.deeper env⟩
 refine wt (hB env _ Y μ s₂ _ σ v c₂ hev) fun v' s' hq => ?_
 obtain ⟨rv,S⟩ := hq
 have k02 : ∀ b o,s.heap.get? b = some o → b ∉ Tabs → s₂.heap.get? b = some o := fun b o e ht => k₂ b o (X1.keep b o e ht) fun h => by exact nxx (hown b h) e
 exact ⟨μ,C6 upY rv,S.inv.down I.xt upY,(c₂.st.step S).down upY,fun b o e hb => S.keep b o (k02 b o e fun h => hb (.inl h)) fun h => hb (.inl h),fun g q e => S.gens g q (by rw [g₂]; exact X1.gens g q e),.refl _ _⟩
end
section
variable {prog : Program} {w : World} {A : Around} {E : Value → Shared → Prop} {s : Shared}
noncomputable def inR (n : Nat) {α : Type} : KasT α → Bool
 | .ret _ => true
 | .ask i j k => decide (i < n) && decide (j < n) && inR n (k true) && inR n (k false)
theorem iE {α : Type} {n : Nat} {cmp : Nat → Nat → (Bool → Shared → Prop) → Shared → Prop} {lt : Nat → Nat → Bool} (hc : ∀ i j C,i < n → j < n → C (lt i j) s → cmp i j C s) : ∀ (t : KasT α) {Q : α → Shared → Prop},inR n t = true → Q (tN lt t) s → t.kasWp cmp Q s
 | .ret a,Q,_,h => h
 | .ask i j k,Q,hr,h => by
  have hr : ((decide (i < n) && decide (j < n) && inR n (k true)) && inR n (k false)) = true := hr
  simp only [z5,decide_eq_true_eq] at hr
  refine hc i j _ hr.1.1.1 hr.1.1.2 (iE hc (k (lt i j)) ?_ h)
  cases lt i j
  ·exact hr.2
  ·exact hr.1.2
theorem vo : inR 5 (kas_sort 5) = true := by decide +kernel
inductive B7 (h : Heap) : List Value → List (Int × Int) → Prop
 | nil : B7 h [] []
 | cons {a : Addr} {t u : Tok} {p : Int × Int} {vs : List Value} {ps : List (Int × Int)} : h.IsTuple a #[.int p.1 t,.int p.2 u] → B7 h vs ps → B7 h (.ref a :: vs) (p :: ps)
theorem B7.length {h : Heap} {vs : List Value} {ps : List (Int × Int)} (x : B7 h vs ps) : vs.length = ps.length := by
 induction x with
 | nil => rfl
 | cons _ _ ih => exact congrArg Nat.succ ih
theorem B7.keeps {h h' : Heap} (k : ∀ b o,o.cls = .type "tuple" → h.get? b = some o → h'.get? b = some o) {vs : List Value} {ps : List (Int × Int)} (x : B7 h vs ps) : B7 h' vs ps := by
 induction x with
 | nil => exact .nil
 | cons r _ ih =>
  obtain ⟨o,ho,hc,r⟩ := r
  exact .cons ⟨o,k _ _ hc ho,hc,r⟩ ih
theorem B7.get {h : Heap} {vs : List Value} {ps : List (Int × Int)} (x : B7 h vs ps) : ∀ (i : Nat),i < vs.length → ∃ a t u,vs.getD i Value.none = .ref a ∧ h.IsTuple a #[.int (ps.getD i (0,0)).1 t,.int (ps.getD i (0,0)).2 u] := by
 induction x with
 | nil => exact fun i hi => absurd hi (Nat.not_lt_zero _)
 | cons r _ ih =>
  intro i hi
  cases i with
  | zero => exact ⟨_,_,_,rfl,r⟩
  | succ i => exact ih i (Nat.lt_of_succ_lt_succ hi)
theorem mP {x y : Addr} {a b c d : Int} {t u t' u' : Tok} {Q : Bool → Shared → Prop} (hx : s.heap.IsTuple x #[.int a t,.int b u]) (hy : s.heap.IsTuple y #[.int c t',.int d u']) (h : Q (nv (a,b) (c,d)) s) :
  wpAny (model prog w) A (keyLt' (tuples' true) (.ref x) (.ref y)) Q E s := by
 obtain ⟨ox,hox,_,n,dx⟩ := hx
 obtain ⟨oy,hoy,_,k,dy⟩ := hy
 refine kat_lt hox dx hoy dy ?_
 show KatLex prog w A true _ Q [(.int a t,.int c t'),(.int b u,.int d u')] 0 s
 unfold nv at h
 refine kat_cons (wpAny_eqBool_int ?_)
 by_cases hac : a = c
 ·rw [if_pos hac] at h
  have e : (a == c) = true := by simpa using hac
  rw [e]
  refine kat_yes (kat_cons (wpAny_eqBool_int ?_))
  by_cases hbd : b = d
  ·have e : (b == d) = true := by simpa using hbd
   rw [e]
   refine kat_yes (kat_nil ?_)
   have e2 : decide (b < d) = false := by simp [hbd]
   rw [show decide ((b : Int) < d) = false from e2] at h
   exact h
  ·have e : (b == d) = false := by simpa using hbd
   rw [e]
   refine kat_no (kat_one _ _ (lt_int ?_))
   exact h
 ·rw [if_neg hac] at h
  have e : (a == c) = false := by simpa using hac
  rw [e]
  exact kat_no (oneLt_int h)
theorem lg {h : Heap} {vs : List Value} {ps : List (Int × Int)} (x : B7 h vs ps) : ∃ fs,KatTups h vs fs ∧ fs.length = vs.length ∧ ∀ v ∈ fs,∃ i t,v = Value.int i t := by
 induction x with
 | nil => exact ⟨[],KatTups.nil,rfl,fun _ h => nomatch h⟩
 | @cons a t u p vs ps r _ ih =>
  obtain ⟨o,ho,hc,n,hd⟩ := r
  obtain ⟨fs,h1,h2,h3⟩ := ih
  exact ⟨.int p.1 t :: fs,KatTups.cons ho hc hd rfl h1,congrArg Nat.succ h2,List.forall_mem_cons.mpr ⟨⟨_,_,rfl⟩,h3⟩⟩
theorem oB {a : Addr} {n : Nat} {vs : List Value} {ps : List (Int × Int)} {P : PySem.Fin → Shared → Prop} (ho : s.heap.get? a = some (seqObj "list" vs.toArray n)) (hp : B7 s.heap vs ps) (h5 : vs.length = 5)
  (h : ∀ h' e2,(∀ b o,b ≠ a → s.heap.get? b = some o → h'.get? b = some o) → h'.get? a = some (seqObj "list" ((I6 ps).map fun i => vs.getD i Value.none).toArray e2) → P (.done (.ret .none)) { s with heap := h' }) :
  wpAny (model prog w) A (Builtin.«list.sort» ⟨[.ref a],[]⟩) P E s := by
 have h2 : 2 ≤ vs.length := by lia
 have h64 : vs.length < 64 := by lia
 have hlen := hp.length
 obtain ⟨e1,ho1⟩ : ∃ e1,(s.heap.update a (Obj.mapSeq fun _ => (#[] : Array Value))).get? a = some (seqObj "list" #[] e1) := ⟨_,get?_update_seq ho fun _ => #[]⟩
 have s1 := Heap.SameBut.update s.heap a (Obj.mapSeq fun _ => (#[] : Array Value))
 rw [list_sort_plain]
 refine wpAny_bind (listItems_at ho rfl ?_)
 refine wpAny_bind (listUpdate_at ho rfl ?_ (by rw [List.size_toArray,sizeLine_eq]; lia) (Nat.zero_le _))
 refine wpAny_bind (seqEpoch_at ho1 rfl ?_)
 refine wpAny_bind (wpAny_newTuple ?_ (by show vs.length ≤ _; rw [sizeLine_eq]; lia))
 refine wpAny_bind (wpAny_newList ?_ (Nat.zero_le _))
 refine wpAny_holding ?_
 have hk3 : ∀ b o,b ≠ a → s.heap.get? b = some o → (((s.heap.update a (Obj.mapSeq fun _ => (#[] : Array Value))).push (seqObj "tuple" vs.toArray 0)).push (seqObj "list" #[] 0)).get? b = some o := fun b o hb e => Heap.get?_push_of_some _ (Heap.get?_push_of_some _ ((s1.2 b hb).trans e))
 have ho3 : (((s.heap.update a (Obj.mapSeq fun _ => (#[] : Array Value))).push (seqObj "tuple" vs.toArray 0)).push (seqObj "list" #[] 0)).get? a = some (seqObj "list" #[] e1) := Heap.get?_push_of_some _ (Heap.get?_push_of_some _ ho1)
 have hp3 : B7 (((s.heap.update a (Obj.mapSeq fun _ => (#[] : Array Value))).push (seqObj "tuple" vs.toArray 0)).push (seqObj "list" #[] 0)) vs ps :=
  hp.keeps fun b o hc e => hk3 b o (fun hb => by subst hb; cases sxx ho e; simp at hc) e
 show wpAny (model prog w) A _ P E { s with heap := ((s.heap.update a (Obj.mapSeq fun _ => (#[] : Array Value))).push (seqObj "tuple" vs.toArray 0)).push (seqObj "list" #[] 0) }
 generalize hH : ((s.heap.update a (Obj.mapSeq fun _ => (#[] : Array Value))).push (seqObj "tuple" vs.toArray 0)).push (seqObj "list" #[] 0) = H at hk3 ho3 hp3 ⊢
 dsimp only
 have hn2 : ¬ vs.toArray.size < 2 := by rw [List.size_toArray]; lia
 rw [if_neg hn2,if_neg hn2]
 obtain ⟨fs,hf1,hf2,hf3⟩ := lg hp3
 refine wpAny_bind (kat_kind (s := { s with heap := H }) (T := .type "int") hf1 (by lia) (fun v hv => ?_) (by decide) ?_)
 ·obtain ⟨i,t,rfl⟩ := hf3 v hv
  exact Looks.of_pure rfl
 have hb : (Value.type "int" != Value.type "tuple") = true := by decide
 rw [hb]
 refine wpAny_bind (wpAny_mono (kat_run (s := { s with heap := H }) (ks := vs) (κ := tuples' true) (Q := fun st' s' => ∃ p : Array Nat,p.size = vs.length ∧ arrOf st' = p.map (kas_item (vs.toArray.zip vs.toArray)) ∧ failedOf st' = none ∧ (p.toList = I6 ps ∧ s' = { s with heap := H }))
  (G := fun p s' => p.toList = I6 ps ∧ s' = { s with heap := H }) rfl h2 h64 (fun p' st' s' a1 a2 a3 a4 => ⟨p',a1,a2,a3,a4⟩)
  (iE (n := 5) (lt := fun i j => nv (ps.getD i (0,0)) (ps.getD j (0,0))) (fun i j C hi hj hC => ?_) (kas_sort vs.length) (by rw [h5]; exact vo) ⟨by unfold I6; rw [hlen],rfl⟩)) ?_ fun _ _ e => e)
 ·obtain ⟨x,t,u,ex,hx⟩ := hp3.get i (by lia)
  obtain ⟨y,t',u',ey,hy⟩ := hp3.get j (by lia)
  show wpAny (model prog w) A (keyLt' (tuples' true) (vs.getD i Value.none) (vs.getD j Value.none)) C (fun _ _ => False) _
  rw [ex,ey]
  exact mP hx hy hC
 rintro ⟨⟨⟩,st'⟩ s' ⟨p,hp',har,hfl,hpl,rfl⟩
 dsimp only
 have hout := kat_snds rfl har
 rw [hout]
 refine wpAny_bind (seqEpoch_at ho3 rfl ?_)
 have hsz : (List.toArray (p.toList.map fun i => vs.getD i Value.none)).size = vs.length := by rw [List.size_toArray,List.length_map,Array.length_toList,hp']
 refine wpAny_bind (listUpdate_at ho3 rfl ?_ (Nat.zero_le _) (Nat.le_trans (Nat.le_of_eq hsz) (by rw [sizeLine_eq]; lia)))
 rw [hfl]
 simp only [bne_self_eq_false,u4,if_false]
 have s2 := Heap.SameBut.update H a (Obj.mapSeq fun _ => List.toArray (p.toList.map fun i => vs.getD i Value.none))
 obtain ⟨c2,hc2⟩ : ∃ c2,(H.update a (Obj.mapSeq fun _ => List.toArray (p.toList.map fun i => vs.getD i Value.none))).get? a = some (seqObj "list" (List.toArray (p.toList.map fun i => vs.getD i Value.none)) c2) := ⟨_,get?_update_seq ho3 fun _ => List.toArray (p.toList.map fun i => vs.getD i Value.none)⟩
 rw [hpl] at hc2
 exact wpAny_pure (h _ c2 (fun b o hb e => (s2.2 b hb).trans (hk3 b o hb e)) (by rw [hpl]; exact hc2))
theorem bM {l : Addr} {vs : List Value} {ps : List (Int × Int)} {Q : Value → Shared → Prop} (hl : s.heap.IsList l vs.toArray) (hp : B7 s.heap vs ps) (h5 : vs.length = 5)
  (h : ∀ D h',s.heap.get? D = Option.none → (∀ b o,s.heap.get? b = some o → h'.get? b = some o) → h'.IsList D ((I6 ps).map fun i => vs.getD i Value.none).toArray → Q (.ref D) { s with heap := h' }) :
  wpAny (model prog w) A (call (.builtin "sorted") [.ref l]) Q E s := by
 refine Calls.call_function_entry kind_sorted plain_sorted entry_sorted (args_sorted1 _) ?_
 unfold Builtin.«sorted»
 refine wpAny_bind (m := checkCount "sorted" 1 1 _) (wpAny_pure ?_)
 refine wpAny_bind (collect_list hl ?_ (by rw [sizeLine_eq]; lia))
 refine wpAny_bind (wpAny_newList ?_ (by rw [sizeLine_eq]; lia))
 have hsz : ((s.heap.push (seqObj "list" #[] 0)).update s.heap.objs.size (Obj.mapSeq (· ++ vs.toArray))).objs.size = s.heap.objs.size + 1 := by
  rw [Heap.size_update,size_push']
 have hoL : (((s.heap.push (seqObj "list" #[] 0)).update s.heap.objs.size (Obj.mapSeq (· ++ vs.toArray))).push (seqObj "list" vs.toArray 0)).get? (s.heap.objs.size + 1) = some (seqObj "list" vs.toArray 0) := by
  rw [← hsz]; exact Heap.get?_push_size _ rfl
 have keep : ∀ b o,s.heap.get? b = some o → (((s.heap.push (seqObj "list" #[] 0)).update s.heap.objs.size (Obj.mapSeq (· ++ vs.toArray))).push (seqObj "list" vs.toArray 0)).get? b = some o := fun b o q => by
  have hlt : b < s.heap.objs.size := Heap.lt_size q
  rw [Heap.get?_push_ne _ _ _ (by rw [hsz]; exact Nat.ne_of_lt (Nat.lt_succ_of_lt hlt)),Heap.get?_update_ne _ _ _ _ (Nat.ne_of_lt hlt),Heap.get?_push_ne _ _ _ (Nat.ne_of_lt hlt)]
  exact q
 show wpAny _ _ _ _ _ { s with heap := ((s.heap.push (seqObj "list" #[] 0)).update s.heap.objs.size (Obj.mapSeq (· ++ vs.toArray))).push (seqObj "list" vs.toArray 0) }
 rw [hsz]
 refine wpAny_bind (wpAny_holding (wpAny_call_entry slot_list_sort ⟨_,hoL,rfl⟩ entry_list_sort ?body (args_list_sort _)))
 case body =>
  refine oB (s := { s with heap := ((s.heap.push (seqObj "list" #[] 0)).update s.heap.objs.size (Obj.mapSeq (· ++ vs.toArray))).push (seqObj "list" vs.toArray 0) }) hoL (hp.keeps fun b o _ e => keep b o e) h5 fun h' e2 hk hg => ?_
  refine ⟨_,rfl,wpAny_pure ⟨_,rfl,h (s.heap.objs.size + 1) h' (Heap.get?_none_of_le (Nat.le_succ _)) (fun b o e => hk b o (Nat.ne_of_lt (Nat.lt_succ_of_lt (Heap.lt_size e))) (keep b o e)) ⟨_,hg,rfl,e2,rfl⟩⟩⟩
end
section
variable {R : Run} {X : Addr → Prop} {μ : List Addr} {h : Heap}
noncomputable def tL (p : PV) : Prop := ∃ a b,p = .tup [.int a,.int b]
theorem fX {p : PV} {l : List PV} {ps : List (Int × Int)} (e : L8 (p :: l) = some ps) : tL p := by
 cases p with
 | tup k => cases k with
  | nil => exact nos e
  | cons x k => cases x with
   | int a => cases k with
    | nil => exact nos e
    | cons y k => cases y with
     | int b => cases k with
      | nil => exact ⟨a,b,rfl⟩
      | cons _ _ => exact nos e
     | _ => exact nos e
   | _ => exact nos e
 | _ => exact nos e
theorem ls {l : List PV} {vs : List Value} {ps : List (Int × Int)} (r : g9 R.Θ X μ h l vs) (e : L8 l = some ps) : B7 h vs ps :=
 r.ind (M := fun l vs => ∀ ps,L8 l = some ps → B7 h vs ps) (fun ps e => by cases (show some [] = some ps from e); exact .nil) (fun {p v l vs} a _ ih ps e => by
  obtain ⟨i,j,rfl⟩ := fX e
  obtain ⟨qs,e1,rfl⟩ := mq (show (L8 l).map ((i,j) :: ·) = some ps from e)
  obtain ⟨a,ws,hT,-,-,rs⟩ := a.tup_inv
  obtain ⟨v,w,r1,r2⟩ := rs.inv2
  obtain ⟨t⟩ := r1.int_inv
  obtain ⟨u⟩ := r2.int_inv
  exact .cons (p := (i,j)) hT (ih qs e1)) ps e
theorem nJ {l : List PV} {vs : List Value} (rs : g9 R.Θ X μ h l vs) (i : Nat) : n4 R.Θ X μ h (l.getD i .none) (vs.getD i Value.none) := by
 cases e : l[i]? with
 | none =>
  have : vs[i]? = Option.none := by rw [List.getElem?_eq_none_iff] at e ⊢; rw [← rs.length]; exact e
  rw [List.getD_eq_getElem?_getD,List.getD_eq_getElem?_getD,e,this]; exact .none
 | some p =>
  obtain ⟨v,e1,e2⟩ := rs.get i p e
  rw [List.getD_eq_getElem?_getD,List.getD_eq_getElem?_getD,e,e1]; exact e2
theorem O1.sorted : O1 R (fun v => call (.builtin "sorted") [v]) .sorted := fun A X μ s σ a a' r I st hr e ha => by
 obtain ⟨l,rfl,e⟩ := eS e
 obtain ⟨ad,vs,hl,hx,hm,rs⟩ := ha.list_inv
 obtain ⟨ps,e1,e2⟩ := bd e
 obtain ⟨h5,rfl⟩ := j9 e2
 have hlen := rs.length
 refine bM hl (ls rs e1) (by lia) fun D h' h0 hk hL => ?_
 have S : w5 R X μ s { s with heap := h' } := w5.grow (tk := s.toks) I hk
 have f := I.fresh_of h0
 exact ⟨.list hL f.1 f.2 (g9.map fun i _ => nJ (B4 S rs) i),S⟩
end
structure MvG (hc : Heap) (gw : Nat → Prop) (s s' : Shared) : Prop where
 keep : ∀ b o,s.heap.get? b = some o → (VK o ∨ ∃ o',hc.get? b = some o') → s'.heap.get? b = some o
 os : s'.os = s.os
 bare : AllBare s.gens → AllBare s'.gens
 gens : R8 gw s s'
structure pM (R : Run) (t : MT) (hc : Heap) (gw : Nat → Prop) (x : PV) (St : Nat → Shared → Prop) (s : Shared) (i : Nat) (v : Value) (s' : Shared) : Prop where
 item : ∀ (X : Addr → Prop) (μ : List Addr),aa R.Θ X μ s'.heap t x v
 st : St i s'
 mv : MvG hc gw s s'
structure lF (R : Run) (A : Around) (target : Expr) (t : MT) (I : Addr) (gw : Nat → Prop) (xs : List PV) (s₁ : Shared) (St : Nat → Shared → Prop) : Prop where
 gfresh : ∀ g,gw g → s₁.gens[g]? = Option.none
 frame : ∀ i s s',St i s → (∀ b o,s.heap.get? b = some o → s₁.heap.get? b = Option.none → (∀ xs n,o.data ≠ .seq xs n) → s'.heap.get? b = some o) → (∀ b o,R.base.get? b = some o → b ∉ Tabs → s'.heap.get? b = some o) → H8 s s' → St i s'
 turn : ∀ i x s (ρ ρ' : Rho) (Q : Value → Shared → Prop),xs[i]? = some x → I7 t x ρ = some ρ' → St i s → (∀ v s',(∀ (X : Addr → Prop) (μ : List Addr),aa R.Θ X μ s'.heap t x v) → St (i + 1) s' → MvG s₁.heap gw s s' → Q v s') →
  wpAny (model R.prog R.w) A (pyNext (.ref I)) (fun r s₁ => Got (fun v => wpAny (model R.prog R.w) A (letOwnedTupleGo target (.ref I) v) (fun _ s₂ => Q v s₂) noE s₁) r) noE s
 done : ∀ s (Q : Shared → Prop),St xs.length s → (∀ s',MvG s₁.heap gw s s' → Q s') → wpAny (model R.prog R.w) A (pyNext (.ref I)) (fun r s' => r = Option.none ∧ Q s') noE s
noncomputable def ISG (R : Run) (C : Orc) (d : Nat) (lay : Lay) (e : Expr) (tg : Expr) (t : MT) (m : MI) : Prop :=
 gi e ∧ ∀ env A X μ s ρ σ xs,Cx R d lay env A X μ s ρ σ → evI C m ρ σ = some xs →
  wpAny (model R.prog R.w) A (eval e env) (fun xv s₀ => wpAny (model R.prog R.w) A (pyIter xv) (fun it s₂ => ∃ s₁ I gw St,it = .ref I ∧ w5 R X μ s s₁ ∧ w5 R X μ s₁ s₂ ∧ lF R A tg t I gw xs s₁ St ∧ St 0 s₂) noE s₀) noE s
section
variable {R : Run} {C : Orc} {d : Nat} {X Y : Addr → Prop} {μ μ' μ'' : List Addr} {s s' s'' s₁ s₂ : Shared} {lay : Lay} {env : Env} {A : Around} {ρ ρ' : Rho} {σ σ' : Sto} {hc : Heap} {gw : Nat → Prop}
theorem iB (m : MvG hc gw s s') {p : PV} {v : Value} (r : n4 R.Θ X μ s.heap p v) : n4 R.Θ X μ s'.heap p v :=
 au (X' := X) (μ' := μ) (h' := s'.heap) (fun b o e hv hx hm => ⟨m.keep b o e (.inl hv),hx,hm⟩) (fun _ _ e => e) r
theorem lA (m : MvG hc gw s s') {p : List PV} {v : List Value} (r : g9 R.Θ X μ s.heap p v) : g9 R.Θ X μ s'.heap p v :=
 bO (X' := X) (μ' := μ) (h' := s'.heap) (fun b o e hv hx hm => ⟨m.keep b o e (.inl hv),hx,hm⟩) (fun _ _ e => e) r
theorem FR.mvg (m : MvG hc gw s s') (F : FR R lay env X μ s.heap ρ) (hL : ∃ o,hc.get? env.locals = some o) : FR R lay env X μ s'.heap ρ where
 kind := F.kind
 glob := F.glob
 blt := F.blt
 llo := F.llo
 lx := F.lx
 lmu := F.lmu
 glo := F.glo
 apart := F.apart
 cod := F.cod
 loc := by
  obtain ⟨mm,hn,hl⟩ := F.loc
  refine ⟨mm,hn.at' fun o e => m.keep _ o e (.inr hL),fun x i hm => ⟨(hl x i hm).1,fun v ev hu => ?_⟩⟩
  obtain ⟨v',e1,e2⟩ := (hl x i hm).2 v ev hu
  exact ⟨v',e1,iB m e2⟩
 cel := fun x kk i hm hk => by
  obtain ⟨h0,c,w,h1,h2,h3,h4,h5⟩ := F.cel x kk i hm hk
  refine ⟨h0,c,w,h1,m.keep _ _ h2 (.inl (.inr (.inr (.inl ⟨_,rfl⟩)))),h3,fun v ev hu => ?_,h5⟩
  obtain ⟨v',e1,e2⟩ := h4 v ev hu
  exact ⟨v',e1,iB m e2⟩
theorem N9.mvg (m : MvG hc gw s s') (x : N9 R X μ s.heap σ) : N9 R X μ s'.heap σ := by
 refine ⟨x.len,x.nd,fun n xs e => ?_⟩
 obtain ⟨a,vs,k,h1,h2,h3,h4⟩ := x.bx n xs e
 exact ⟨a,vs,k,h1,m.keep a _ h2 (.inl (.inl ⟨_,_,rfl⟩)),h3,lA m h4⟩
theorem N9.at (x : N9 R X μ s.heap σ) {b : Addr} (hb : b ∈ μ) : ∃ vs k,s.heap.get? b = some (af vs k) := by
 obtain ⟨n,hn⟩ := List.getElem?_of_mem hb
 have hlt : n < σ.length := by rw [← x.len]; exact (List.getElem?_eq_some_iff.mp hn).1
 obtain ⟨a',ws,k,g1,g2,g3,_⟩ := x.bx n σ[n] (List.getElem?_eq_getElem hlt)
 cases sxx hn g1
 exact ⟨ws,k,g2⟩
theorem Inv.mvg (m : MvG s₁.heap gw s s') (I₁ : Inv R X μ s₁) (I : Inv R X μ' s) (st : N9 R X μ' s.heap σ) : Inv R X μ' s' where
 keep := fun b o e hb => m.keep b o (I.keep b o e hb) (.inr ⟨o,I₁.keep b o e hb⟩)
 tabs := fun j t e => by
  obtain ⟨hp,ps,h1,h2,h3⟩ := I.tabs j t e
  refine ⟨hp,ps,m.keep _ _ h1 (.inr (I₁.xex _ (I₁.xt _ hp))),h2,fun cv e => ?_⟩
  obtain ⟨c',e1,e2,e3,e4⟩ := h3 cv e
  obtain ⟨c,o,vs,t',e5,g,hd,hv⟩ := e2
  cases e5
  exact ⟨c',e1,⟨c',o,vs,t',rfl,m.keep _ _ g (.inl (.inr (.inr (.inr ⟨vs,_,t',hd,hv⟩)))),hd,hv⟩,e3,e4⟩
 os := m.os.trans I.os
 bare := m.bare I.bare
 xt := I.xt
 xlo := I.xlo
 xex := fun b hb => by
  obtain ⟨o,e⟩ := I.xex b hb
  exact ⟨o,m.keep b o e (.inr (I₁.xex b hb))⟩
 mulo := I.mulo
 muex := fun b hb => by
  obtain ⟨vs,k,e⟩ := st.at hb
  exact ⟨_,m.keep b _ e (.inl (.inl ⟨_,_,rfl⟩))⟩
theorem Cx.mvg (m : MvG s₁.heap gw s s') (I₁ : Inv R X μ s₁) (c : Cx R d lay env A X μ' s ρ σ) (hL : ∃ o,s₁.heap.get? env.locals = some o) : Cx R d lay env A X μ' s' ρ σ :=
 ⟨c.fr.mvg m hL,c.st.mvg m,I₁.mvg m c.inv c.st,c.room⟩
structure fE (R : Run) (d : Nat) (lay : Lay) (env : Env) (A : Around) (X : Addr → Prop) (μ : List Addr) (s s₁ : Shared) (ρ : Rho) (σ : Sto) (tg : Expr) (t : MT) (I : Addr) (gw : Nat → Prop) (xs : List PV) (St : Nat → Shared → Prop) : Prop where
 low : d3 R
 ok : D9 lay
 ht : M1 lay tg t
 c : Cx R d lay env A X μ s ρ σ
 S : w5 R X μ s s₁
 T : lF R A tg t I gw xs s₁ St
inductive uj (R : Run) (d : Nat) (lay : Lay) (env : Env) (A : Around) (X : Addr → Prop) (μ : List Addr) (s₁ : Shared) (gw : Nat → Prop) (St : Nat → Shared → Prop) (n : Nat) (go : Nat → Mine.St → Prop) : Nat → Shared → Prop
 | mk (i : Nat) (μ' : List Addr) (S1 : Mine.St) (s' : Shared) (hi : i ≤ n) (c : Cx R d lay env A X μ' s' S1.ρ S1.σ) (st : St i s') (k : n5 (WP lay env μ) s₁.heap s'.heap) (kg : R8 gw s₁ s') (gr : A4 μ μ' s₁.heap) (e : go i S1) :
  uj R d lay env A X μ s₁ gw St n go (n - i) s'
section
variable {tg : Expr} {t : MT} {I : Addr} {xs : List PV} {St : Nat → Shared → Prop}
theorem fE.hL (H : fE R d lay env A X μ s s₁ ρ σ tg t I gw xs St) : ∃ o,s₁.heap.get? env.locals = some o := H.S.inv.xex _ H.c.fr.lx
theorem fE.leave (H : fE R d lay env A X μ s s₁ ρ σ tg t I gw xs St) {f : Flow} {fl : Fl} {S2 : Mine.St} (cc : Cx R d lay env A X μ' s' S2.ρ S2.σ) (k : n5 (WP lay env μ) s₁.heap s'.heap) (kg : R8 gw s₁ s') (gr : A4 μ μ' s₁.heap)
  (hf : FlR R.Θ X μ' s'.heap fl f) : P9 R d lay env A X μ μ' s fl S2 f s' := by
 refine ⟨cc,fun b o e hb => k b o (H.S.keep b o e fun h => hb (.tab h)) hb,fun g q e => ?_,?_,hf⟩
 ·have e1 := H.S.gens g q e
  exact kg g q e1 fun h => by have := H.T.gfresh g h; exact nxx this e1
 ·obtain ⟨l,rfl,hl⟩ := gr
  exact ⟨l,rfl,fun b hb => fx H.low H.S (hl b hb) H.c.inv⟩
theorem fE.kM {s₃ : Shared} (k : n5 (WP lay env μ) s₁.heap s'.heap) (mv : MvG s₁.heap gw s' s₃) : n5 (WP lay env μ) s₁.heap s₃.heap := fun b o e hb => mv.keep b o (k b o e hb) (.inr ⟨o,e⟩)
theorem fE.k4 (H : fE R d lay env A X μ s s₁ ρ σ tg t I gw xs St) {s₃ s₄ : Shared} {ρ₄ : Rho} (k : n5 (WP lay env μ) s₁.heap s₃.heap) (b₄ : eB R lay env X μ' (WT env tg) ρ₄ s₃ s₄) : n5 (WP lay env μ) s₁.heap s₄.heap := fun b o e hb =>
 b₄.keep b o (k b o e hb) fun h => hb (.own (ab H.ok H.c.fr H.ht h))
theorem fE.k5 {s₄ s₅ : Shared} {μ₅ : List Addr} {fl : Fl} {f : Flow} {S3 : Mine.St} (k : n5 (WP lay env μ) s₁.heap s₄.heap) (gr : A4 μ μ' s₁.heap) (P : P9 R d lay env A X μ' μ₅ s₄ fl S3 f s₅) : n5 (WP lay env μ) s₁.heap s₅.heap := fun b o e hb =>
 P.keep b o (k b o e hb) fun h => hb (h.back gr e)
theorem fE.gr5 (H : fE R d lay env A X μ s s₁ ρ σ tg t I gw xs St) {s₄ s₅ : Shared} {μ₅ : List Addr} {fl : Fl} {f : Flow} {S3 : Mine.St} (k : n5 (WP lay env μ) s₁.heap s₄.heap) (I₄ : Inv R X μ' s₄) (gr : A4 μ μ' s₁.heap) (P : P9 R d lay env A X μ' μ₅ s₄ fl S3 f s₅) : A4 μ μ₅ s₁.heap :=
 gr.trans (s' := s₄) P.mu fun b o e => by
  by_cases hm : WP lay env μ b
  ·exact pZ I₄ ((hm.xm H.c).imp_right gr.sub)
  ·exact ⟨o,k b o e hm⟩
theorem fE.fr5 (H : fE R d lay env A X μ s s₁ ρ σ tg t I gw xs St) {s₃ s₄ s₅ : Shared} {μ₅ : List Addr} {ρ₄ : Rho} {fl : Fl} {f : Flow} {S3 : Mine.St} {i : Nat} (st : St i s₃) (b₄ : eB R lay env X μ' (WT env tg) ρ₄ s₃ s₄) (st₄ : N9 R X μ' s₄.heap σ')
  (P : P9 R d lay env A X μ' μ₅ s₄ fl S3 f s₅) (g35 : H8 s₃ s₅) : St i s₅ := H.T.frame _ _ _ st (fun b o e hn hq => by
 have notX : ¬ X b := fun h => by obtain ⟨o',e'⟩ := H.S.inv.xex b h; exact nxx hn e'
 have e4 := b₄.keep b o e fun h => notX (eO H.c.fr (ab H.ok H.c.fr H.ht h))
 refine P.keep b o e4 fun h => ?_
 cases h with
 | tab h => exact notX (H.c.inv.xt b h)
 | mu h =>
  obtain ⟨vs,kk,e'⟩ := st₄.at h
  cases sxx e4 e'
  exact hq vs kk rfl
 | own h => exact notX (eO H.c.fr h)) P.cx.inv.keep g35
end
theorem SS.forG (hT : d3 R) (hl : D9 lay) {tg iter : Expr} {t : MT} {mi : MI} {a : List Stmt} {ma : List MS} {pos : Pos} (hI : ISG R C d lay iter tg t mi) (ht : M1 lay tg t) (ha : SB R C d lay a ma) : SS R C d lay (.For tg iter a [] pos) (.for t mi ma) := fun env A X μ s ρ σ fl S' c ev => by
 obtain ⟨xs,e0,ev⟩ := bd ev
 obtain ⟨_,ev⟩ := C5 ev
 refine wpAny_For (wt (hI.2 env A X μ s ρ σ xs c e0) fun xv s₀ h₀ => wt h₀ fun it s₂ h₂ => ?_) (X6 hI.1 env)
 obtain ⟨s₁,I,gw,St,rfl,S₁,S₂,T,st₂⟩ := h₂
 have H : fE R d lay env A X μ s s₁ ρ σ tg t I gw xs St := ⟨hT,hl,ht,c,S₁,T⟩
 refine codeAny_forLoop_any (uj R d lay env A X μ s₁ gw St xs.length fun i S => G1 t (fun s => exB C ma s) (xs.drop i) S = some (fl,S')) (fun n s' hJ => ?_) xs.length (.mk (n := xs.length) 0 μ ⟨ρ,σ⟩ s₂ (Nat.zero_le _) ((c.step hT S₁).step hT S₂) st₂ (fun b o e hb => S₂.keep b o e fun h => hb (.tab h)) (fun g q e _ => S₂.gens g q e) (.refl _ _) ev)
 obtain ⟨i,μ',S1,s',hi,c',st,k,kg,gr,e⟩ := hJ
 by_cases hlt : i < xs.length
 ·have hx : xs[i]? = some xs[i] := List.getElem?_eq_getElem hlt
  rw [List.drop_eq_getElem_cons hlt] at e
  obtain ⟨ρ',eb,e⟩ := bd e
  obtain ⟨⟨f1,S3⟩,e5,e6⟩ := bd e
  refine wt (T.turn i xs[i] s' S1.ρ ρ' (pM R t s₁.heap gw xs[i] St s' (i + 1)) hx eb st fun v s₃ a b c => ⟨a,b,c⟩) (fun r s₃ h₃ => ?_)
  obtain ⟨v,hgo'⟩ := h₃
  refine wt hgo' fun _ s₃ h₃ => ?_
  have mv := h₃.mv
  have c₃ := c'.mvg mv S₁.inv H.hL
  refine R2 hT hl c.room.1 c₃.fr c₃.inv ht (h₃.item X μ') eb fun s₄ b₄ => ?_
  have c₄ : Cx R d lay env A X μ' s₄ ρ' S1.σ := ⟨b₄.fr,c₃.st.set b₄.wx b₄.keep,b₄.inv,c.room⟩
  refine wt (ha env A X μ' s₄ ρ' S1.σ f1 S3 c₄ e5) fun f s₅ h₅ => ?_
  obtain ⟨μ₅,P⟩ := h₅
  have k4 := H.k4 (fE.kM k mv) b₄
  have g35 : H8 s₃ s₅ := fun g q e => P.gens g q (by rw [b₄.gens]; exact e)
  have kg5 : R8 gw s₁ s₅ := fun g q e h => g35 g q (mv.gens g q (kg g q e h) h)
  have hf := P.fl
  cases hf with
  | next => exact ⟨xs.length - (i + 1),la4 hlt,.mk (i + 1) μ₅ S3 s₅ hlt P.cx (H.fr5 h₃.st b₄ c₄.st P g35) (fE.k5 k4 gr P) kg5 (H.gr5 k4 b₄.inv gr P) e6⟩
  | ret r =>
   cases e6
   exact ⟨μ₅,H.leave P.cx (fE.k5 k4 gr P) kg5 (H.gr5 k4 b₄.inv gr P) (.ret r)⟩
 ·have hin : i = xs.length := Nat.le_antisymm hi (Nat.le_of_not_lt hlt)
  subst hin
  rw [List.drop_length] at e
  cases e
  refine wt (T.done s' (fun s'' => MvG s₁.heap gw s' s'') st fun s'' m => m) (fun r s'' h => ?_)
  obtain ⟨rfl,mv⟩ := h
  exact wpAny_execs_nil ⟨μ',H.leave (fl := .next) (f := .next) (S2 := S') (c'.mvg mv S₁.inv H.hL) (fE.kM k mv) (fun g q e h => mv.gens g q (kg g q e h) h) gr .next⟩
end
structure MvK (hc : Heap) (s s' : Shared) : Prop where
 keep : ∀ b o,s.heap.get? b = some o → (VK o ∨ ∃ o',hc.get? b = some o') → s'.heap.get? b = some o
 os : s'.os = s.os
 gens : s'.gens = s.gens
theorem MvK.refl (hc : Heap) (s : Shared) : MvK hc s s := ⟨fun _ _ e _ => e,rfl,rfl⟩
theorem MvK.trans {hc : Heap} {a b c : Shared} (x : MvK hc a b) (y : MvK hc b c) : MvK hc a c :=
 ⟨fun p o e h => y.keep p o (x.keep p o e h) h,y.os.trans x.os,y.gens.trans x.gens⟩
theorem MvK.of {hc : Heap} {s : Shared} {h' : Heap} {tk : Nat} (wr : List Addr) (hw : ∀ b ∈ wr,hc.get? b = none ∧ ∀ o,s.heap.get? b = some o → ¬ VK o)
  (k : ∀ b o,b ∉ wr → s.heap.get? b = some o → h'.get? b = some o) : MvK hc s { s with heap := h',toks := tk } :=
 ⟨fun b o e h => k b o (fun hb => by
  obtain ⟨h1,h2⟩ := hw b hb
  rcases h with h | ⟨o',h⟩
  ·exact h2 o e h
  ·exact nxx h1 h) e,rfl,rfl⟩
noncomputable def qR (hc : Heap) (J : Shared → Prop) (s : Shared) : Prop :=
 ∃ fp : List Addr,(∀ b ∈ fp,hc.get? b = none ∧ ∃ o,s.heap.get? b = some o ∧ ∀ xs n,o.data ≠ .seq xs n) ∧
  ∀ s'' : Shared,(∀ b ∈ fp,∀ o,s.heap.get? b = some o → s''.heap.get? b = some o) → J s''
noncomputable def lb (p : PV) (v : Value) (h : Heap) : Prop :=
 ∃ (n : Nat) (q : List Nat) (T : Addr) (tn tq : Tok),p = .tup [.int n,.str q] ∧ v = .ref T ∧ h.IsTuple T #[.int n tn,.str (str q) tq]
noncomputable def ef (hc : Heap) (xs : List PV) : Protocol := fun m s₀ v s kap =>
 (∃ p,xs[xs.length - 1 - m]? = some p ∧ lb p v s.heap) ∧ MvK hc s₀ s ∧ qR hc (fun s'' => kap (.send .none) s'') s
noncomputable def qN (hc : Heap) : GenEnd := fun n s₀ r s₁ => r = .ok (.ret .none) ∧ (n = 0 ∧ MvK hc s₀ s₁)
section
variable {M : Model} {A : Around} {R : GenEnd} {Y : Protocol} {n : Nat} {s₀ : Shared} {c : Code} {fs : List Frame} {s : Shared} {env : Env}
 {K : Flow → Sem Fin} {H : Value → Sem Fin} {gd : Bool → Bool} {lv : List Value → List Value}
theorem ir {α : Type} {m : Sem α} {K : α → Sem Fin} (h : wpAny M (A.over c fs) m (fun f s' => Seg M A R Y n s₀ c (K f) fs s') noE s) : Seg M A R Y n s₀ c (m.wrap K H gd lv) fs s :=
 seg_wrap (wpAny_mono h (fun _ _ x => x) fun _ _ x => x.elim)
theorem Q4 {α β : Type} {m : Sem α} {K : α → Sem β} {K' : β → Sem Fin} (h : wpAny M (A.over c fs) m (fun a s' => Seg M A R Y n s₀ c ((K a).wrap K' H gd lv) fs s') noE s) :
  Seg M A R Y n s₀ c ((m >>= K).wrap K' H gd lv) fs s :=
 seg_bind_wrap (wpAny_mono h (fun _ _ x => x) fun _ _ x => x.elim)
theorem lO {test : Expr} {body orelse : List Stmt} {pos : Pos}
  (h : wpAny M (A.over c fs) (isTrue test env (eval test env)) (fun b s' => Seg M A R Y n s₀ c ((if b = true then execs body env else execs orelse env).wrap K H gd lv) fs s') noE s) :
  Seg M A R Y n s₀ c ((exec (.If test body orelse pos) env).wrap K H gd lv) fs s := by
 rw [exec_If]
 exact Q4 (wpAny_standAt (Q4 h))
theorem qg {target iter : Expr} {body orelse : List Stmt} {pos : Pos} (hs : ∀ x,foldedSetIterable iter env x = pure x)
  (h : wpAny M (A.over c fs) (eval iter env) (fun x s₁ => wpAny M (A.over c fs) (pyIter x) (fun it s₂ => ∀ p,
   Seg M A R Y n s₀ (.forLoop target it body orelse env) (M.den (.forLoop target it body orelse env))
   (.ret (fun r => ((match r with | .ok f => (.pure f : Sem Flow) | .error e => .raise e).onRaise fun (x : Value) => do
    if (← field x 1) == Value.none then unsupported "frame.own-activation:exception-without-traceback"
    setFlight x env.frame).wrap K H gd lv) none (gd false) (lv []) c p [] :: fs) s₂) noE s₁) noE s) :
  Seg M A R Y n s₀ c ((exec (.For target iter body orelse pos) env).wrap K H gd lv) fs s := by
 rw [exec_For]
 refine Q4 (wpAny_standAt (Q4 (wt h fun x s₁ h₁ => Q4 (wpAny_of_eq (hs x) (Q4 (wpAny_standAt (Q4 (wpAny_holding (wt h₁ fun it s₂ h₂ => ?_)))))))))
 exact seg_call h₂
end
structure GE (env : Env) (xp xe xc : Str) : Prop where
 kind : env.scope.kind = .function
 co : env.scope.isCoroutine = false
 int : interactive env = false
 p : env.kindOf xp = some .local
 e : env.kindOf xe = some .local
 c : env.kindOf xc = some .local
 pe : xp ≠ xe
 pc : xp ≠ xc
 ec : xe ≠ xc
 dp : (xp == ("__debug__" : Str)) = false
 de : (xe == ("__debug__" : Str)) = false
 dc : (xc == ("__debug__" : Str)) = false
noncomputable def Nm (L : Addr) (xp xe : Str) (esc : Bool) (last : Nat) (h : Heap) : Prop :=
 ∃ m,h.Ns L m ∧ (∃ t,m xp = some (.int last t)) ∧ m xe = some (.bool esc)
structure LS (hc : Heap) (L e it : Addr) (x : Str) (t : Tok) (xp xe : Str) (i : Nat) (esc : Bool) (last : Nat) (s : Shared) : Prop where
 nm : Nm L xp xe esc last s.heap
 en : ∃ old,IsEnum s.heap e it i old
 st : s.heap.IsStrIter it (strIterType x) x t i
structure ApG (hc : Heap) (L e it : Addr) : Prop where
 zL : hc.get? L = none
 ze : hc.get? e = none
 zi : hc.get? it = none
 Le : L ≠ e
 Li : L ≠ it
 ei : e ≠ it
section
variable {prog : Program} {w : World} {A : Around} {n : Nat} {s₀ s : Shared} {env : Env} {hc : Heap} {L e it : Addr} {x : Str} {t : Tok} {xp xe xc : Str} {i last : Nat} {esc : Bool}
theorem Nm.at {h h' : Heap} (a : Nm L xp xe esc last h) (k : ∀ o,h.get? L = some o → h'.get? L = some o) : Nm L xp xe esc last h' := by
 obtain ⟨m,hn,r⟩ := a
 exact ⟨m,hn.at' k,r⟩
theorem Nm.dict {h : Heap} (a : Nm L xp xe esc last h) : ∃ o,h.get? L = some o ∧ ¬ VK o ∧ ∀ xs n,o.data ≠ .seq xs n := by
 obtain ⟨m,⟨o,es,ep,ho,hd,_⟩,_⟩ := a
 refine ⟨o,ho,?_,?_⟩
 ·rintro (⟨_,_,h⟩ | ⟨_,h⟩ | ⟨_,h⟩ | ⟨_,_,_,h,_⟩) <;> rw [hd] at h <;> cases h
 ·intro xs n h; rw [hd] at h; cases h
theorem LS.at (a : LS hc L e it x t xp xe i esc last s) {s' : Shared} (k : ∀ b ∈ [L,e,it],∀ o,s.heap.get? b = some o → s'.heap.get? b = some o) : LS hc L e it x t xp xe i esc last s' where
 nm := a.nm.at fun o e => k _ (by simp) o e
 en := by obtain ⟨old,h⟩ := a.en; exact ⟨old,k _ (by simp) _ h⟩
 st := by obtain ⟨o,ho,r⟩ := a.st; exact ⟨o,k _ (by simp) _ ho,r⟩
theorem LS.objs (P : ApG hc L e it) (a : LS hc L e it x t xp xe i esc last s) : ∀ b ∈ [L,e,it],hc.get? b = none ∧ ∃ o,s.heap.get? b = some o ∧ ∀ xs n,o.data ≠ .seq xs n := by
 intro b hb
 simp only [List.mem_cons,B8,or_false] at hb
 rcases hb with rfl | rfl | rfl
 ·obtain ⟨o,ho,_,h⟩ := a.nm.dict
  exact ⟨P.zL,o,ho,h⟩
 ·obtain ⟨old,h⟩ := a.en
  exact ⟨P.ze,_,h,fun xs n h => nomatch h⟩
 ·obtain ⟨o,ho,_,hd⟩ := a.st
  exact ⟨P.zi,o,ho,fun xs n h => by rw [hd] at h; cases h⟩
theorem LS.stab (P : ApG hc L e it) (a : LS hc L e it x t xp xe i esc last s) {J : Shared → Prop} (h : ∀ s'',LS hc L e it x t xp xe i esc last s'' → J s'') : qR hc J s :=
 ⟨[L,e,it],a.objs P,fun s'' k => h s'' (a.at k)⟩
theorem LS.novk (P : ApG hc L e it) (a : LS hc L e it x t xp xe i esc last s) : ∀ b ∈ [L,e,it],hc.get? b = none ∧ ∀ o,s.heap.get? b = some o → ¬ VK o := by
 intro b hb
 simp only [List.mem_cons,B8,or_false] at hb
 rcases hb with rfl | rfl | rfl
 ·obtain ⟨o,ho,h,_⟩ := a.nm.dict
  exact ⟨P.zL,fun o' e => by cases sxx ho e; exact h⟩
 ·obtain ⟨old,h⟩ := a.en
  refine ⟨P.ze,fun o' e => ?_⟩
  cases sxx h e
  rintro (⟨_,_,h⟩ | ⟨_,h⟩ | ⟨_,h⟩ | ⟨vs,q,u,h,h1⟩) <;> cases h
  simp at h1
 ·obtain ⟨o,ho,_,hd⟩ := a.st
  refine ⟨P.zi,fun o' e => ?_⟩
  cases sxx ho e
  rintro (⟨_,_,h⟩ | ⟨_,h⟩ | ⟨_,h⟩ | ⟨vs,q,u,h,h1⟩) <;> rw [hd] at h <;> cases h
  simp at h1
theorem bN {A : Around} (G : GE env xp xe xc) (hL : env.locals = L) {m : Str → Option Value} {y : Str} {v : Value} (hy : env.kindOf y = some .local) (hn : s.heap.Ns L m) {Q : Unit → Shared → Prop} {E : Value → Shared → Prop}
  (h : ∀ h',h'.Ns L (fun z => if z = y then some v else m z) → Heap.SameBut L s.heap h' → Q () { s with heap := h',toks := s.toks + 1 }) : wpAny (model prog w) A (storeName env y v) Q E s := by
 subst hL
 exact wpAny_storeName_local hy hn h (by rw [G.kind]; rfl)
end
theorem qR.mono {hc : Heap} {J J' : Shared → Prop} {s : Shared} (a : qR hc J s) (h : ∀ s'',J s'' → J' s'') : qR hc J' s := by
 obtain ⟨fp,h1,h2⟩ := a
 exact ⟨fp,h1,fun s'' k => h s'' (h2 s'' k)⟩
section
variable {M : Model} {A : Around} {n : Nat} {s₀ : Shared} {c : Code} {fs : List Frame} {s : Shared} {env : Env} {hc : Heap} {xs pre rest : List PV} {p : PV}
 {K : Flow → Sem Fin} {H : Value → Sem Fin} {gd : Bool → Bool} {lv : List Value → List Value}
theorem lS {ex : Expr} {ypos pos : Pos} (hco : env.scope.isCoroutine = false) (hi : interactive env = false) (hfs : splitAtGen fs = none) (hgd : gd false = false) (hfg : fs.any Frame.guarded = false)
  (hx : xs = pre ++ p :: rest) (hn : rest.length = n)
  (h : wpAny M (A.over c fs) (eval ex env) (fun v s' => lb p v s'.heap ∧ MvK hc s₀ s' ∧ qR hc (fun s'' => Seg M A (qN hc) (ef hc xs) n s'' c (K .next) fs s'') s') noE s) :
  Seg M A (qN hc) (ef hc xs) (n + 1) s₀ c ((exec (.Expr (.Yield (some ex) ypos) pos) env).wrap K H gd lv) fs s := by
 refine seg_Expr_Yield hfs hgd hfg (wpAny_mono h (fun v s' h' kap hk => ?_) (fun _ _ x => x.elim)) hco hi
 refine ⟨⟨p,?_,h'.1⟩,h'.2.1,h'.2.2.mono fun s'' a => hk .none s'' a⟩
 subst hx hn
 have e : (pre ++ p :: rest).length - 1 - rest.length = pre.length := by simp
 rw [e,List.getElem?_append_right (Nat.le_refl _),Nat.sub_self]; rfl
end
section
variable {prog : Program} {w : World}
theorem aH {A : Around} {R : GenEnd} {Y : Protocol} {n : Nat} {s₀ : Shared} {c : Code} {fs : List Frame} {s : Shared} {env : Env} {body rest : List Stmt} {st : Stmt} {K : Flow → Sem Fin} {H : Value → Sem Fin} {gd : Bool → Bool} {lv : List Value → List Value} (hb : body = st :: rest)
  (h : Seg (model prog w) A R Y n s₀ c ((exec st env).wrap (fun f => match f with | .next => (execs rest env).wrap K H gd lv | f => K f) H gd lv) fs s) :
  Seg (model prog w) A R Y n s₀ c ((execs body env).wrap K H gd lv) fs s := by
 subst hb; exact seg_execs_cons h
theorem bG {A : Around} {R : GenEnd} {Y : Protocol} {n : Nat} {s₀ : Shared} {fs : List Frame} {s : Shared} {env : Env} {target : Expr} {it : Value} {body orelse : List Stmt}
  (h : wpAny (model prog w) (A.over (.forLoop target it body orelse env) fs) (pyNext it) (fun r s₁ => (r = none → Seg (model prog w) A R Y n s₀ (.block orelse env) ((model prog w).den (.block orelse env)) fs s₁) ∧
   ∀ v,r = some v → wpAny (model prog w) (A.over (.forLoop target it body orelse env) fs) (letOwnedTupleGo target it v) (fun _ s₂ => wpAny (model prog w) (A.over (.forLoop target it body orelse env) fs) (assign target env v) (fun _ s₃ =>
    Seg (model prog w) A R Y n s₀ (.forLoop target it body orelse env) ((execs body env).wrap (fun f => match f with
      | .next | .cont => .pure (.again (.forLoop target it body orelse env))
      | .brk => .pure (.done .next)
      | .ret v => .pure (.done (.ret v))) (fun e => (do noteFrame e env; theTreesLotGoes e : Sem Unit).wrap (fun _ => .raise e) .raise id id) id id) fs s₃) noE s₂) noE s₁) noE s) :
  Seg (model prog w) A R Y n s₀ (.forLoop target it body orelse env) ((model prog w).den (.forLoop target it body orelse env)) fs s := by
 show Seg _ A _ _ _ s₀ _ ((forTurn target it body orelse env).onRaise (fun x => do noteFrame x env; theTreesLotGoes x)) _ s
 rw [Sem.onRaise_eq_wrap]
 unfold forTurn
 refine Q4 (wpAny_standAt ?_)
 refine Q4 (wpAny_onRaise (wpAny_mono h (fun r s₁ h₁ => ?_) fun _ _ x => x.elim))
 cases r with
 | none => exact seg_again (c' := .block orelse env) rfl (h₁.1 rfl)
 | some v =>
  refine Q4 (wt (h₁.2 v rfl) fun _ s₂ h₂ => Q4 (wt h₂ fun _ s₃ h₃ => ?_))
  rw [Sem.bind_eq_wrap',Sem.wrap_wrap]
  rw [Sem.wrap_congr (execs body env) _ _ (K' := fun f => match f with
      | .next | .cont => .pure (.again (.forLoop target it body orelse env))
      | .brk => .pure (.done .next)
      | .ret v => .pure (.done (.ret v))) (H' := (fun e => (do noteFrame e env; theTreesLotGoes e : Sem Unit).wrap (fun _ => .raise e) .raise id id))
    (fun f => by cases f <;> rfl)
    (fun e => by first | exact Sem.bind_eq_wrap _ _ | (show (do noteFrame e env; theTreesLotGoes e : Sem Unit).bind (fun _ => .raise e) = _; rw [Sem.bind_eq_wrap]))]
  exact h₃
theorem jS {A : Around} (hh : A.handled = none) (it : Addr) (x : Str) (t : Tok) :
  Draws prog w A it [it] x.cps.size (fun i v => ∃ c u,x.cps[i]? = some c ∧ v = .str ⟨#[c]⟩ u) (fun i h => h.IsStrIter it (strIterType x) x t i) := by
 unfold strIterType
 split
 ·exact Draws.strAscii hh it x t
 ·exact Draws.strWide hh it x t
variable {A : Around} {env : Env} {hc : Heap} {L e it : Addr} {l : List Nat} {t : Tok} {xp xe xc : Str} {xs : List PV}
 {q1 q2 q3 q4 q5 q6 q7 q8 q9 q10 q11 q12 q13 q14 q15 q16 q17 q18 q19 q20 q21 q22 q23 q24 q25 q26 q27 : Pos} {k1 k2 k3 k4 k5 k6 k7 : Nat}
theorem oj (hh : A.handled = none) (G : GE env xp xe xc) (hL : env.locals = L) (P : ApG hc L e it) (hlen : l.length ≤ 1000000) {k0 : Result → Sem Fin} {l0 : List Value} {c0 : Code} {p0 : Pos} {body : List Stmt} (hbody : body = [.If (.Name xe q4) [.Expr (.Yield (some (.Tuple [.Name xp q5,.BinOp (.Constant (.str (str [92])) k2 q6) .Add (.Name xc q7) q8] k3 q9)) q10) q11,.Assign [.Name xe q12] (.Constant (.bool false) k4 q13) q14]
      [.If (.Compare (.Name xc q15) [.Eq] [.Constant (.str (str [92])) k5 q16] q17) [.Assign [.Name xe q18] (.Constant (.bool true) k6 q19) q20]
       [.Expr (.Yield (some (.Tuple [.Name xp q21,.Name xc q22] k7 q23)) q24) q25] q26] q27])
  (hk : ∀ (pre : List PV) (esc : Bool) (i last : Nat) (s₀ s : Shared),xs = pre ++ l7 esc i last [] → Nm L xp xe esc last s.heap → MvK hc s₀ s →
   Seg (model prog w) A (qN hc) (ef hc xs) (l7 esc i last []).length s₀ c0 (k0 (.ok .next)) [] s) :
  ∀ (r : List Nat) (i : Nat) (esc : Bool) (last : Nat) (pre : List PV) (s₀ s : Shared),l.drop i = r → i ≤ l.length → xs = pre ++ l7 esc i last r → LS hc L e it (str l) t xp xe i esc last s → MvK hc s₀ s →
   Seg (model prog w) A (qN hc) (ef hc xs) (l7 esc i last r).length s₀
    (.forLoop (.Tuple [.Name xp q1,.Name xc q2] k1 q3) (.ref e) body [] env)
    ((model prog w).den (.forLoop (.Tuple [.Name xp q1,.Name xc q2] k1 q3) (.ref e) body [] env))
    [.ret k0 none false l0 c0 p0 []] s := by
 have W : ∀ c,_ := fun c => WalksT.enumerateD (prog := prog) (w := w) (A := A.over c [.ret k0 none false l0 c0 p0 []]) (jS (A := (A.over c [.ret k0 none false l0 c0 p0 []]).in1) hh it (str l) t) e P.ei (by simpa using P.ei) (by simp)
 have hsz : (str l).cps.size = l.length := by show l.toArray.size = _; simp
 have wrs : ∀ {i esc last s},LS hc L e it (str l) t xp xe i esc last s → ∀ b ∈ [e,it],hc.get? b = none ∧ ∀ o,s.heap.get? b = some o → ¬ VK o := fun a b hb => a.novk P b (G6 _ hb)
 intro r
 induction r with
 | nil =>
  intro i esc last pre s₀ s hd hi hx a mv
  have hin : i = l.length := by
   have := congrArg List.length hd
   simp at this; lia
  refine bG ((W _).done s _ _ (by rw [hsz,← hin]; exact ⟨a.en,a.st⟩) fun h' tk kk => ⟨fun _ => ?_,fun v hv => nomatch hv⟩)
  have m1 : MvK hc s { s with heap := h',toks := tk } := MvK.of [e,it] (wrs a) kk
  refine seg_leaf (.ok .next) (hk pre esc i last s₀ _ hx (a.nm.at fun o e => kk _ o (fun hb => ?_) e) (mv.trans m1))
  simp only [List.mem_cons,B8,or_false] at hb
  exact hb.elim P.Le P.Li
 | cons ch r ih =>
  intro i esc last pre s₀ s hd hi hx a mv
  have hlt : i < l.length := by
   rcases Nat.lt_or_ge i l.length with h | h
   ·exact h
   ·rw [List.drop_eq_nil_of_le h] at hd; cases hd
  have hch : l[i]? = some ch := by
   have := congrArg List.head? hd
   rw [List.head?_drop] at this; simpa using this
  have hd' : l.drop (i + 1) = r := by
   have := congrArg List.tail hd
   rw [List.tail_drop] at this; simpa using this
  refine bG ((W _).item i s _ _ (by rw [hsz]; exact hlt) ⟨a.en,a.st⟩ fun T vals h1 tk1 hP hTs hT hMid kk1 => ⟨(fun h => nomatch h),fun v hv => ?_⟩)
  cases hv
  refine (W _).go _ _ _ i T _ _ _ hMid fun h2 hst2 kk2 => ?_
  obtain ⟨u,q,⟨cc,cu,hcc,rfl⟩,rfl⟩ := hP
  have : cc = ch := by
   have e : (str l).cps[i]? = l[i]? := by show l.toArray[i]? = _; simp
   rw [e,hch] at hcc; cases hcc; rfl
  subst this
  have hT2 : h2.IsTuple T #[.int i u,.str ⟨#[cc]⟩ cu] := by
   obtain ⟨o,ho,r⟩ := hT
   exact ⟨o,kk2 _ o ((W c0).apart i T _ hMid) ho,r⟩
  refine wpAny_assign_Tuple hh hT2 rfl rfl fun h3 he3 => ?_
  obtain ⟨m,hm,⟨tp,hp⟩,he⟩ := a.nm
  have hLw : L ∉ [e,it] := fun hb => by
   simp only [List.mem_cons,B8,or_false] at hb
   exact hb.elim P.Le P.Li
  have hm3 : h3.Ns L m := hm.at' fun o ho => by
   have h2' := kk2 L o hLw (kk1 L o hLw ho)
   exact he3 L o (fun hb => by exact nsz hb h2') h2'
  refine wpAny_assignInOrder_more (wpAny_assign_Name (bN G hL G.p hm3 fun h4 hm4 hs4 => ?_))
  refine wpAny_assignInOrder_more (wpAny_assign_Name (bN G hL G.c hm4 fun h5 hm5 hs5 => wpAny_assignInOrder_none ?_))
  have neL : ∀ b ∈ [e,it],b ≠ L := fun b hb h => hLw (h ▸ hb)
  have up35 : ∀ b o,b ≠ L → h3.get? b = some o → h5.get? b = some o := fun b o hb y => hs5.extBut b o hb (hs4.extBut b o hb y)
  have up23 : ∀ b o,h2.get? b = some o → h3.get? b = some o := fun b o y => he3 b o (fun hb => by exact nsz hb y) y
  obtain ⟨⟨old,hE2⟩,hS2⟩ := hst2
  have hE5 : ∃ old,IsEnum h5 e it ((i + 1 : Nat) : Int) old := ⟨old,up35 e _ (neL e (by simp)) (up23 e _ hE2)⟩
  have hS5 : h5.IsStrIter it (strIterType (str l)) (str l) t (i + 1) := by
   obtain ⟨o,ho,r⟩ := hS2
   exact ⟨o,up35 it o (neL it (by simp)) (up23 it o ho),r⟩
  have m5 : ∀ tk,MvK hc s { s with heap := h5,toks := tk } := fun tk => MvK.of [L,e,it] (a.novk P) fun b o hb y => by
   simp only [List.mem_cons,B8,or_false,not_or] at hb
   refine up35 b o hb.1 (up23 b o (kk2 b o ?_ (kk1 b o ?_ y))) <;> simp [hb.2.1,hb.2.2]
  generalize hm' : (fun z => if z = xc then some (Value.str ⟨#[cc]⟩ cu) else (if z = xp then some (Value.int i u) else m z)) = m' at hm5
  have mc : m' xc = some (.str ⟨#[cc]⟩ cu) := by rw [← hm']; simp
  have mp : m' xp = some (.int i u) := by rw [← hm']; simp [G.pc]
  have me : m' xe = some (.bool esc) := by rw [← hm']; simp [G.ec,Ne.symm G.pe,he]
  clear hm'
  generalize hs6 : ({ s with heap := h5,toks := _ } : Shared) = s6
  have m6 : MvK hc s s6 := hs6 ▸ m5 _
  have a6 : LS hc L e it (str l) t xp xe (i + 1) esc i s6 := by subst hs6; exact ⟨⟨m',hm5,⟨u,mp⟩,me⟩,hE5,hS5⟩
  have hm6 : s6.heap.Ns L m' := by subst hs6; exact hm5
  clear hs6
  have ld : ∀ {c : Code} {E' : Value → Shared → Prop} {Q : Value → Shared → Prop} {s : Shared} {m : Str → Option Value} {y : Str} {v : Value} {q : Pos},env.kindOf y = some .local → (y == ("__debug__" : Str)) = false → s.heap.Ns L m → m y = some v → Q v s →
    wpAny (model prog w) (A.over c [.ret k0 none false l0 c0 p0 []]) (eval (.Name y q) env) Q E' s := fun hy hd hn hv hq =>
   wpAny_Name (wpAny_loadName_local G.kind hy (by rw [hL]; exact hn) hv hq) hd
  have sx : ∀ {c : Code} {b : Bool} {i last : Nat} {esc : Bool} {k : Nat} {qa qb qc : Pos} {s : Shared} {Q : Flow → Shared → Prop},LS hc L e it (str l) t xp xe i esc last s →
    (∀ s',LS hc L e it (str l) t xp xe i b last s' → MvK hc s s' → Q .next s') →
    wpAny (model prog w) (A.over c [.ret k0 none false l0 c0 p0 []]) (exec (.Assign [.Name xe qa] (.Constant (.bool b) k qb) qc) env) Q noE s := fun {c b i last esc k qa qb qc s Q} a hq => by
   obtain ⟨m,hm,⟨tp,hp⟩,he⟩ := a.nm
   refine wpAny_Assign_Name (wpAny_Constant_bool (bN G hL G.e hm fun h' hn hs => ?_))
   refine hq _ ⟨⟨_,hn,⟨tp,by simp [G.pe,hp]⟩,by simp⟩,?_,?_⟩ (MvK.of [L] (fun b hb => a.novk P b (by simp at hb; simp [hb])) fun b o hb y => hs.extBut b o (by simpa using hb) y)
   ·obtain ⟨old,h⟩ := a.en
    exact ⟨old,hs.extBut e _ (Ne.symm P.Le) h⟩
   ·obtain ⟨o,ho,r⟩ := a.st
    exact ⟨o,hs.extBut it o (Ne.symm P.Li) ho,r⟩
  refine aH hbody ?_
  refine lO (wpAny_isTrue_value (ld G.e G.de hm6 me (wpAny_truthy_bool ?_)))
  cases esc with
  | true =>
   rw [if_pos rfl]
   refine seg_execs_cons ?_
   refine lS (p := .tup [.int i,.str [92,cc]]) (rest := l7 false (i + 1) i _) G.co G.int rfl rfl rfl hx rfl ?_
   refine wpAny_Tuple (wpAny_items_cons (ld G.p G.dp hm6 mp (wpAny_items_cons (wpAny_BinOp (PySem.wpAny_Constant_str (ld G.c G.dc (s := { s6 with toks := _ }) hm6 mc (PyProof.Rows.add_str (fun t' tk => wpAny_items_nil ⟨by show 2 ≤ 16777216; decide,?_,?_,?_⟩) (by show 1 + 1 ≤ 16777216; decide))))))))
   ·exact ⟨i,[92,cc],_,u,t',rfl,rfl,⟨_,Heap.get?_push_size _ rfl,rfl,0,rfl⟩⟩
   ·exact mv.trans (m6.trans (MvK.of [] (fun _ h => nomatch h) fun b o _ y => Heap.get?_push_of_some _ y))
   ·refine (a6.at (s' := { s6 with heap := s6.heap.push _,toks := tk }) fun b _ o y => Heap.get?_push_of_some _ y).stab P fun s'' a'' => ?_
    refine seg_execs_cons (ir (sx a'' fun s3 a3 m3 => ?_))
    exact seg_again rfl (ih (i + 1) false i (pre ++ [.tup [.int i,.str [92,cc]]]) s'' s3 hd' hlt (by rw [hx]; simp [zxa,zxb]) a3 m3)
  | false =>
   rw [if_neg (by simp)]
   refine seg_execs_cons (lO (wpAny_isTrue_Compare1 (ld G.c G.dc hm6 mc (PySem.wpAny_Constant_str (PySem.P.eq_str (wpAny_truthy_bool ?_))))))
   have eb : ((⟨#[cc]⟩ : Str).cps.toList == (str [92]).cps.toList) = decide (cc = 92) := by
    show ([cc] == [92]) = _
    by_cases h : cc = 92 <;> simp [h]
   rw [eb]
   have a7 : LS hc L e it (str l) t xp xe (i + 1) false i { s6 with toks := s6.toks + 1 } := a6.at fun b _ o y => y
   have m7 : MvK hc s6 { s6 with toks := s6.toks + 1 } := MvK.of [] (fun _ h => nomatch h) fun b o _ y => y
   by_cases h92 : cc = 92
   ·have ee : l7 false i last (cc :: r) = l7 true (i + 1) i r := by simp [zxa,zxb,h92]
    rw [if_pos (by simp [h92])]
    rw [ee] at hx ⊢
    refine seg_execs_cons (ir (sx a7 fun s3 a3 m3 => ?_))
    exact seg_again rfl (ih (i + 1) true i pre s₀ s3 hd' hlt hx a3 (mv.trans (m6.trans (m7.trans m3))))
   ·have ee : l7 false i last (cc :: r) = .tup [.int i,.str [cc]] :: l7 false (i + 1) i r := by simp [zxa,zxb,h92]
    rw [if_neg (by simp [h92])]
    rw [ee] at hx ⊢
    refine seg_execs_cons (lS (p := .tup [.int i,.str [cc]]) (rest := l7 false (i + 1) i r) G.co G.int rfl rfl rfl hx rfl ?_)
    refine wpAny_Tuple (wpAny_items_cons (ld G.p G.dp (s := { s6 with toks := _ }) hm6 mp (wpAny_items_cons (ld G.c G.dc (s := { s6 with toks := _ }) hm6 mc (wpAny_items_nil ⟨by show 2 ≤ 16777216; decide,?_,?_,?_⟩)))))
    ·exact ⟨i,[cc],_,u,cu,rfl,rfl,⟨_,Heap.get?_push_size _ rfl,rfl,0,rfl⟩⟩
    ·exact mv.trans (m6.trans (MvK.of [] (fun _ h => nomatch h) fun b o _ y => Heap.get?_push_of_some _ y))
    ·refine (a7.at (s' := { s6 with heap := s6.heap.push _,toks := s6.toks + 1 }) fun b _ o y => Heap.get?_push_of_some _ y).stab P fun s'' a'' => ?_
     exact seg_again rfl (ih (i + 1) false i (pre ++ [.tup [.int i,.str [cc]]]) s'' s'' hd' hlt (by rw [hx]; simp) a'' (.refl _ _))
end
section
variable {prog : Program} {w : World} {A : Around} {env : Env} {hc : Heap} {L : Addr} {l : List Nat} {t : Tok} {xa xp xe xc xn : Str} {mg mb : Str → Option Value}
 {q1 q2 q3 q4 q5 q6 q7 q8 q9 q10 q11 q12 q13 q14 q15 q16 q17 q18 q19 q20 q21 q22 q23 q24 q25 q26 q27 : Pos} {k1 k2 k3 k4 k5 k6 k7 : Nat}
 {p1 p2 p3 p4 p5 p6 p7 p8 p9 p10 p11 p12 p13 p14 p15 p16 p17 : Pos} {j1 j2 j3 j4 : Nat}
theorem pY (hh : A.handled = none) (G : GE env xp xe xc) (hL : env.locals = L) (hlen : l.length ≤ 1000000) (ka : env.kindOf xa = some .local) (da : (xa == ("__debug__" : Str)) = false) (ap : xa ≠ xp) (ae : xa ≠ xe)
  (kn : env.kindOf xn = some .globalImplicit) (dn : (xn == ("__debug__" : Str)) = false) (ng : mg xn = none) (nb : mb xn = some (.type "enumerate")) (gL : env.globals ≠ L) (bL : env.builtins ≠ L) (zL : hc.get? L = none) (hLs : hc.objs.size ≤ L)
  {fbody body : List Stmt} (hbody : body = [.If (.Name xe q4) [.Expr (.Yield (some (.Tuple [.Name xp q5,.BinOp (.Constant (.str (str [92])) k2 q6) .Add (.Name xc q7) q8] k3 q9)) q10) q11,.Assign [.Name xe q12] (.Constant (.bool false) k4 q13) q14]
      [.If (.Compare (.Name xc q15) [.Eq] [.Constant (.str (str [92])) k5 q16] q17) [.Assign [.Name xe q18] (.Constant (.bool true) k6 q19) q20]
       [.Expr (.Yield (some (.Tuple [.Name xp q21,.Name xc q22] k7 q23)) q24) q25] q26] q27])
  (hf : fbody = [.Assign [.Name xp p1] (.Constant (.int 0) j1 p2) p3,.Assign [.Name xe p4] (.Constant (.bool false) j2 p5) p6,.For (.Tuple [.Name xp q1,.Name xc q2] k1 q3) (.Call (.Name xn p7) [.Name xa p8] [] p9) body [] p10,
   .If (.Name xe p11) [.Expr (.Yield (some (.Tuple [.Name xp p12,.Constant (.str (str [92])) j3 p13] j4 p14)) p15) p16] [] p17])
  {s : Shared} {m : Str → Option Value} (hm : s.heap.Ns L m) (ma : m xa = some (.str (str l) t)) (hg : s.heap.Ns env.globals mg) (hb : s.heap.Ns env.builtins mb) :
  Seg (model prog w) A (qN hc) (ef hc (l7 false 0 0 l)) (l7 false 0 0 l).length s (.func fbody env) ((model prog w).den (.func fbody env)) [] s := by
 refine seg_func ?_
 have hh1 : ∀ c,(A.over c []).handled = none := fun c => hh
 have dict : ∀ {h : Heap} {m},h.Ns L m → ∀ o,h.get? L = some o → ¬ VK o := fun hn o e => by
  obtain ⟨o',es,ep,ho,hd,_⟩ := hn
  cases sxx ho e
  rintro (⟨_,_,h⟩ | ⟨_,h⟩ | ⟨_,h⟩ | ⟨_,_,_,h,_⟩) <;> rw [hd] at h <;> cases h
 have ld : ∀ {c : Code} {E' : Value → Shared → Prop} {Q : Value → Shared → Prop} {s : Shared} {m : Str → Option Value} {y : Str} {v : Value} {q : Pos},env.kindOf y = some .local → (y == ("__debug__" : Str)) = false → s.heap.Ns L m → m y = some v → Q v s →
   wpAny (model prog w) (A.over c []) (eval (.Name y q) env) Q E' s := fun hy hd hn hv hq =>
  wpAny_Name (wpAny_loadName_local G.kind hy (by rw [hL]; exact hn) hv hq) hd
 refine aH hf (ir (wpAny_Assign_Name (wpAny_Constant_int (bN G hL G.p (s := { s with toks := s.toks + 1 }) hm fun h1 hm1 hs1 => ?_))))
 refine seg_execs_cons (ir (wpAny_Assign_Name (wpAny_Constant_bool (bN G hL G.e hm1 fun h2 hm2 hs2 => ?_))))
 have up02 : ∀ b o,b ≠ L → s.heap.get? b = some o → h2.get? b = some o := fun b o hb y => hs2.extBut b o hb (hs1.extBut b o hb y)
 generalize hm' : (fun z => if z = xe then some (Value.bool false) else (if z = xp then some (Value.int 0 s.toks) else m z)) = m' at hm2
 have mp : m' xp = some (.int ((0 : Nat) : Int) s.toks) := by rw [← hm']; simp [G.pe]
 have me : m' xe = some (.bool false) := by rw [← hm']; simp
 have ma' : m' xa = some (.str (str l) t) := by rw [← hm']; simp [ap,ae,ma]
 clear hm'
 generalize hs6 : ({ s with heap := h2,toks := _ } : Shared) = s6
 have hm6 : s6.heap.Ns L m' := by subst hs6; exact hm2
 have m6 : MvK hc s s6 := hs6 ▸ MvK.of [L] (fun b hb' => by
  rw [List.mem_singleton] at hb'; subst hb'; exact ⟨zL,dict hm⟩) fun b o hb' y => up02 b o (by simpa using hb') y
 have hg6 : s6.heap.Ns env.globals mg := by subst hs6; exact hg.at' fun o y => up02 _ o gL y
 have hb6 : s6.heap.Ns env.builtins mb := by subst hs6; exact hb.at' fun o y => up02 _ o bL y
 clear hs6
 have lt6 : @LT.lt Nat _ L s6.heap.objs.size := by obtain ⟨o,_,_,ho,_⟩ := hm6; exact Heap.lt_size ho
 refine seg_execs_cons (qg (fun x => rfl) ?_)
 refine wpAny_Call_Name_kw (Name_function_global G.kind kn (loadGlobal_builtin hg6 ng hb6 nb ?_) dn)
 refine PySem.Pv.callWith_type1 (wpAny_items_cons (ld ka da hm6 ma' (wpAny_items_nil ?_)))
 refine call_enumerate_str fun h7 hE hI hz hk7 => ?_
 refine wpAny_pyIter_enum hE fun pp => ?_
 have P : ApG hc L (s6.heap.objs.size + 1) s6.heap.objs.size := ⟨zL,Heap.get?_none_of_le (by lia),Heap.get?_none_of_le (by lia),Nat.ne_of_lt (Nat.lt_succ_of_lt lt6),Nat.ne_of_lt lt6,Nat.succ_ne_self _⟩
 refine oj (xs := l7 false 0 0 l) hh G hL P hlen hbody ?_ l 0 false 0 [] s _ rfl (Nat.zero_le _) rfl ⟨⟨m',hm6.at' fun o y => hk7 _ o y,⟨_,mp⟩,me⟩,⟨_,hE⟩,hI⟩ (m6.trans (MvK.of [] (fun _ h => nomatch h) fun b o _ y => hk7 b o y))
 intro pre esc i last s₀ s8 hx ⟨m8,hm8,⟨tp,mp8⟩,me8⟩ mv8
 refine seg_execs_cons (lO (wpAny_isTrue_value (ld G.e G.de hm8 me8 (wpAny_truthy_bool ?_))))
 cases esc with
 | false => exact seg_end (.ok (.ret .none)) ⟨rfl,rfl,mv8⟩
 | true =>
  rw [if_pos rfl]
  refine seg_execs_cons (lS (pre := pre) (p := .tup [.int last,.str [92]]) (rest := []) G.co G.int rfl rfl rfl hx rfl ?_)
  refine wpAny_Tuple (wpAny_items_cons (ld G.p G.dp hm8 mp8 (wpAny_items_cons (PySem.wpAny_Constant_str (wpAny_items_nil ⟨by show 2 ≤ 16777216; decide,?_,?_,?_⟩)))))
  ·exact ⟨last,[92],_,tp,_,rfl,rfl,⟨_,Heap.get?_push_size _ rfl,rfl,0,rfl⟩⟩
  ·exact mv8.trans (MvK.of [] (fun _ h => nomatch h) fun b o _ y => Heap.get?_push_of_some _ y)
  ·refine ⟨[],(fun _ h => nomatch h),fun s'' _ => ?_⟩
   exact seg_end (.ok (.ret .none)) ⟨rfl,rfl,.refl _ _⟩
end
section
variable {prog : Program} {w : World} {A : Around} {s : Shared}
theorem iJ {a : Addr} {g n : Nat} {gs : GenState} {P : Nat → Shared → Shared → Prop} {Y : Protocol} {Q : Option Value → Shared → Prop} (hh : A.handled = none) (hl : s.heap.NoLimit) (hroom : A.depth < recursionLimit)
  (hg : s.heap.IsGen a g) (hgs : s.gens[g]? = some gs) (hgo : gs.Goes (model prog w) A.in1 (fun n s₀ r s₁ => r = .ok (.ret .none) ∧ P n s₀ s₁) Y n (.send .none) (s.setGen g .running))
  (hY : ∀ v s₁ gs',gs'.bare = true → Y (n - 1) (s.setGen g .running) v s₁ (fun r' s'' => match n with
    | 0 => False
    | m + 1 => gs'.Goes (model prog w) A.in1 (fun n s₀ r s₁ => r = .ok (.ret .none) ∧ P n s₀ s₁) Y m r' s'') → Q (some v) (s₁.setGen g gs'))
  (hP : ∀ s₁,P n (s.setGen g .running) s₁ → ∀ h',(∀ b o,s₁.heap.get? b = some o → h'.get? b = some o) → Q none { s₁.setGen g .finished with heap := h' }) :
  wpAny (model prog w) A (pyNext (.ref a)) Q noE s := by
 unfold pyNext
 refine wpAny_bind (wpAny_attempt (wpAny_callSpecial?_slot (name := Str.ofString "__next__") hg.typeIs slot_gen_next (wpAny_call_entry slot_gen_next hg.typeIs entry_gen_next ?_ (args_gen_next _))))
 show wpAny _ A.in1 (Builtin.Generator.genWake (.ref a) (.send .none)) _ _ s
 unfold Builtin.Generator.genWake
 refine wpAny_bind (wpAny_holding (wpAny_genNumber hg (wpAny_bind (wpAny_genState hgs ?_))))
 cases gs with
 | running => exact hgo.elim
 | finished => exact hgo.elim
 | _ =>
  refine wpAny_bind (wpAny_roomToWake hl hroom ?_)
  show wpAny _ A.in1 (.resume g (.send .none) [] _) _ _ s
  refine wpAny_resumeQ hgs hgo (fun x s₁ hx => ?_) (fun v s₁ gs' hb hv => wpAny_pure ⟨v,rfl,wpAny_pure (hY v s₁ gs' hb hv)⟩)
  obtain ⟨rfl,hp⟩ := hx
  show wpAny _ A.in1 (newExc (.type "StopIteration") [] >>= _) _ _ _
  refine wpAny_bind ?_
  simp only [newExc,newTuple]
  refine wpAny_bind (wpAny_newObj_type ?_ (by size_fits))
  refine wpAny_bind (m := firstArgMember _ _) (wpAny_of_eq (a := Value.none) (by first | rfl | (simp only [firstArgMember]; rfl)) ?_)
  refine wpAny_newObj_type ?_ (by size_fits)
  simp only [raiseNew]
  refine wpAny_bind (wpAny_bind (wpAny_handled ?_))
  rw [show A.in1.handled = none from hh]
  refine wpAny_throw (wpAny_bind (wpAny_isInstance (T := "StopIteration") (b := true) ⟨_,Heap.get?_push_size _ rfl,rfl⟩ isSubtype_stop ?_))
  exact wpAny_pure (hP s₁ hp _ fun b o hb => Heap.get?_push_of_some _ (Heap.get?_push_of_some _ hb))
structure fM (R : Run) (s : Shared) : Prop where
 keep : ∀ b o,R.base.get? b = some o → b ∉ Tabs → s.heap.get? b = some o
structure GAt (R : Run) (A : Around) (hc : Heap) (I : Addr) (g : Nat) (xs : List PV) (i : Nat) (s : Shared) : Prop where
 gen : s.heap.IsGen I g
 vk : ∀ o,s.heap.get? I = some o → VK o
 base : fM R s
 goes : ∃ gs,∃ fp : List Addr,s.gens[g]? = some gs ∧ (∀ b ∈ fp,hc.get? b = none ∧ ∃ o,s.heap.get? b = some o ∧ ∀ xs n,o.data ≠ .seq xs n) ∧
  ∀ s'' : Shared,(∀ b ∈ fp,∀ o,s.heap.get? b = some o → s''.heap.get? b = some o) → fM R s'' → gs.Goes (model R.prog R.w) A.in1 (qN hc) (ef hc xs) (xs.length - i) (.send .none) s''
end
theorem iG {g : Nat} {gs : GenState} {a : Array GenState} (h : AllBare a) (hb : gs.bare = true) : AllBare (a.setIfInBounds g gs) := by
 intro x hx
 obtain ⟨i,hi,rfl⟩ := Array.mem_iff_getElem.mp hx
 rw [Array.getElem_setIfInBounds]
 split
 ·exact hb
 ·exact h _ (Array.getElem_mem _)
 ·simpa using hi
theorem MvK.mvg {hc : Heap} {g : Nat} {gs gr : GenState} {s s₁ : Shared} (hb : gs.bare = true) (hr : gr.bare = true) (m : MvK hc (s.setGen g gr) s₁) : MvG hc (fun k => k = g) s (s₁.setGen g gs) where
 keep := m.keep
 os := m.os
 bare := fun h => by
  show AllBare (s₁.gens.setIfInBounds g gs)
  rw [m.gens]
  exact iG (iG h hr) hb
 gens := fun k st e hk => by
  show (s₁.gens.setIfInBounds g gs)[k]? = some st
  rw [m.gens]
  show ((s.gens.setIfInBounds g gr).setIfInBounds g gs)[k]? = some st
  rw [Array.getElem?_setIfInBounds_ne (Ne.symm hk),Array.getElem?_setIfInBounds_ne (Ne.symm hk)]
  exact e
section
variable {R : Run} {A : Around} {hc : Heap} {I : Addr} {g : Nat} {xs : List PV} {tg : Expr} {a b : Nat}
theorem gU {s : Shared} {g : Nat} {x : GenState} (h : ∃ gs,s.gens[g]? = some gs) : (s.setGen g x).gens[g]? = some x := by
 obtain ⟨gs,h⟩ := h
 exact setGen_self h
theorem sv (hlim : R.base.NoLimit) (hh : A.handled = none) (hroom : A.depth < recursionLimit) {s₁ : Shared} (K₁ : L9 R.base s₁.heap) (zI : s₁.heap.get? I = none) (zg : s₁.gens[g]? = none) :
  lF R A tg (.two a b) I (fun k => k = g) xs s₁ (GAt R A s₁.heap I g xs) := by
 have lim : ∀ s,fM R s → s.heap.NoLimit := fun s B => by
  obtain ⟨mc,hn,h⟩ := hlim
  exact ⟨mc,hn.at' fun o e => B.keep _ o e (by decide),h⟩
 have keepB : ∀ {s s' : Shared} {gr gs : GenState},fM R s → L9 R.base s₁.heap → MvK s₁.heap (s.setGen g gr) s' → fM R (s'.setGen g gs) := fun B K m => ⟨fun b o e ht => m.keep b o (B.keep b o e ht) (.inr ⟨o,K b o e ht⟩)⟩
 have keepI : ∀ {s s' : Shared} {gr : GenState},s.heap.IsGen I g → (∀ o,s.heap.get? I = some o → VK o) → MvK s₁.heap (s.setGen g gr) s' → s'.heap.IsGen I g ∧ (∀ o,s'.heap.get? I = some o → VK o) ∧ ∃ o,s'.heap.get? I = some o ∧ o.cls = .type "generator" := fun {s s' gr} G V m => by
  obtain ⟨o,nm,qn,ho,r⟩ := G
  have h' := m.keep I o ho (.inl (V o ho))
  exact ⟨⟨o,nm,qn,h',r⟩,fun o' e => by cases sxx h' e; exact V o ho,o,h',r.1⟩
 refine ⟨fun k hk => by rw [hk]; exact zg,fun i s s' st k kb kg => ?_,fun i x s ρ ρ' Q hx eb st hQ => ?_,fun s Q st hQ => ?_⟩
 ·obtain ⟨⟨o,nm,qn,ho,r⟩,vk,B,gs,fp,h1,h2,h3⟩ := st
  have ho' := k I o ho zI (fun xs n h => by rw [r.2.1] at h; cases h)
  have kf : ∀ b ∈ fp,∀ o,s.heap.get? b = some o → s'.heap.get? b = some o := fun b hb o e => by
   obtain ⟨n1,o',e',ns⟩ := h2 b hb
   cases sxx e e'
   exact k b o e n1 ns
  refine ⟨⟨o,nm,qn,ho',r⟩,fun o' e => ?_,⟨kb⟩,gs,fp,kg g gs h1,fun b hb => ?_,fun s'' hk B' => h3 s'' (fun b hb o e => hk b hb o (kf b hb o e)) B'⟩
  ·cases sxx ho' e; exact vk o ho
  ·obtain ⟨n1,o',e',ns⟩ := h2 b hb
   exact ⟨n1,o',kf b hb o' e',ns⟩
 ·obtain ⟨G,vk,B,gs,fp,h1,h2,h3⟩ := st
  have hlt : i < xs.length := (List.getElem?_eq_some_iff.mp hx).1
  obtain ⟨m,hm⟩ : ∃ m,xs.length - i = m + 1 := ⟨xs.length - i - 1,la3 hlt⟩
  rw [hm] at h3
  refine iJ (P := fun n s₀ s' => n = 0 ∧ MvK s₁.heap s₀ s') hh (lim s B) hroom G h1 (h3 _ (fun _ _ _ e => e) ⟨B.keep⟩) (fun v s' gs' hb hv => ?_) (fun s' hp h' hk => absurd hp.1 (Nat.succ_ne_zero m))
  obtain ⟨⟨p,hp,n,q,T,tn,tq,rfl,rfl,hT⟩,mv,fp',f1,f2⟩ := hv
  have hi : xs.length - 1 - (m + 1 - 1) = i := la1 hlt hm
  rw [hi,hx] at hp
  cases hp
  obtain ⟨G',vk',oI,hoI,cI⟩ := keepI G vk mv
  refine ⟨_,G2 (s := s'.setGen g gs') hoI cI (by decide) (hQ _ _ (fun X μ => ⟨_,_,_,_,T,hT,.int _ tn,.str q tq⟩) ⟨G',vk',keepB B K₁ mv,gs',fp',gU ⟨.running,?_⟩,f1,fun s'' hk B' => ?_⟩ (mv.mvg hb rfl))⟩
  ·rw [mv.gens]; exact setGen_self h1
  ·have e : xs.length - (i + 1) = m := la2 hm
   rw [e]
   exact f2 s'' hk
 ·obtain ⟨G,vk,B,gs,fp,h1,h2,h3⟩ := st
  rw [Nat.sub_self] at h3
  refine iJ (P := fun n s₀ s' => n = 0 ∧ MvK s₁.heap s₀ s') hh (lim s B) hroom G h1 (h3 _ (fun _ _ _ e => e) ⟨B.keep⟩) (fun v s' gs' hb hv => ?_) (fun s' hp h' hk => ?_)
  ·obtain ⟨_,_,fp',f1,f2⟩ := hv
   exact (f2 s' fun _ _ _ e => e).elim
  ·have M := hp.2.mvg (gs := .finished) rfl rfl
   exact ⟨rfl,hQ _ ⟨fun b o e h => hk b o (M.keep b o e h),M.os,M.bare,M.gens⟩⟩
end
structure rl (R : Run) (mg mb : Str → Option Value) (a : Addr) (o : Obj) (fd : FuncData) (xa xp xe xc xn : Str) (fbody : List Stmt) : Prop where
 ho : R.base.get? a = some o
 ht : a ∉ Tabs
 hd : o.data = .func fd
 code : ∀ h : Heap,L9 R.base h → h.CodeRec fd.code fd.qualname
 body : fd.body = .stmts fbody
 kind : fd.scope.kind = .function
 co : fd.scope.isCoroutine = false
 gen : fd.scope.isGenerator = true
 glob : fd.globals = mainGlobals
 blt : fd.builtins = builtinsNs
 cells : ∀ x ∈ fd.scope.names,x.2 ≠ .cell
 ka : fd.scope.names.lookup xa = some .local
 kp : fd.scope.names.lookup xp = some .local
 ke : fd.scope.names.lookup xe = some .local
 kc : fd.scope.names.lookup xc = some .local
 kn : fd.scope.names.lookup xn = some .globalImplicit
 binds : ∀ (s : Shared) (v : Value),BindsTo s fd ⟨[v],[]⟩ [(xa,v)]
 ap : xa ≠ xp
 ae : xa ≠ xe
 pe : xp ≠ xe
 pc : xp ≠ xc
 ec : xe ≠ xc
 da : (xa == ("__debug__" : Str)) = false
 dp : (xp == ("__debug__" : Str)) = false
 de : (xe == ("__debug__" : Str)) = false
 dc : (xc == ("__debug__" : Str)) = false
 dn : (xn == ("__debug__" : Str)) = false
 ng : mg xn = none
 nb : mb xn = some (.type "enumerate")
section
variable {R : Run} {C : Orc} {d : Nat} {lay : Lay} {mg mb : Str → Option Value} {xa xp xe xc xn : Str}
 {q1 q2 q3 q4 q5 q6 q7 q8 q9 q10 q11 q12 q13 q14 q15 q16 q17 q18 q19 q20 q21 q22 q23 q24 q25 q26 q27 : Pos} {k1 k2 k3 k4 k5 k6 k7 : Nat}
 {p1 p2 p3 p4 p5 p6 p7 p8 p9 p10 p11 p12 p13 p14 p15 p16 p17 : Pos} {j1 j2 j3 j4 : Nat}
theorem ISG.gen (B : BOK R mg mb) (hlim : R.base.NoLimit) {x : Str} {a : Addr} {o : Obj} {fd : FuncData} {i ia ib : Nat} {np pos : Pos} {e tg : Expr} {me : ME} {fbody body : List Stmt} (hm : (x,Kd.glo,i) ∈ lay) (hv : mg x = some (.ref a)) (hx : (x == ("__debug__" : Str)) = false) (hs : n8 e) (he : ES R C d lay e me)
  (F : rl R mg mb a o fd xa xp xe xc xn fbody)
  (hbody : body = [.If (.Name xe q4) [.Expr (.Yield (some (.Tuple [.Name xp q5,.BinOp (.Constant (.str (str [92])) k2 q6) .Add (.Name xc q7) q8] k3 q9)) q10) q11,.Assign [.Name xe q12] (.Constant (.bool false) k4 q13) q14]
      [.If (.Compare (.Name xc q15) [.Eq] [.Constant (.str (str [92])) k5 q16] q17) [.Assign [.Name xe q18] (.Constant (.bool true) k6 q19) q20]
       [.Expr (.Yield (some (.Tuple [.Name xp q21,.Name xc q22] k7 q23)) q24) q25] q26] q27])
  (hf : fbody = [.Assign [.Name xp p1] (.Constant (.int 0) j1 p2) p3,.Assign [.Name xe p4] (.Constant (.bool false) j2 p5) p6,.For (.Tuple [.Name xp q1,.Name xc q2] k1 q3) (.Call (.Name xn p7) [.Name xa p8] [] p9) body [] p10,
   .If (.Name xe p11) [.Expr (.Yield (some (.Tuple [.Name xp p12,.Constant (.str (str [92])) j3 p13] j4 p14)) p15) p16] [] p17]) :
  ISG R C d lay (.Call (.Name x np) [e] [] pos) tg (.two ia ib) (.gen me) := ⟨rfl,fun env A X μ s ρ σ xs c ev => by
 obtain ⟨v,e1,e2⟩ := bd ev
 have hT := B.low
 refine wpAny_Call_Name_kw (U9 B c hm hv hx ?_)
 refine callWith_function_kw (o := o) (fd := fd) (wt (br hT (.cons hs he .nil) pos c (vs := [v]) (by rw [zsb,zsa,e1]; rfl)) fun z s₁ h₁ => ?_)
 obtain ⟨rk,ra,S⟩ := h₁
 refine ⟨⟨S.inv.keep a o F.ho F.ht,F.hd⟩,?_⟩
 obtain ⟨zp,zk⟩ := z
 simp only at rk ra
 subst rk
 cases ra with | cons r ra => cases ra with | nil =>
 cases r with
 | @str l t =>
  simp only at e2
  split at e2 <;> cases e2
  rename_i hlen
  have room : A.depth < recursionLimit := by have := c.room.2.1; lia
  refine wpAny_call (codeAny_call_generator room (S.inv.keep a o F.ho F.ht) F.hd F.co F.gen F.body (F.code _ S.inv.keep) (F.binds s₁ _ _ _ _ _ ?_))
  refine wpAny_newFunctionEnv F.cells (fun y hy => ?_) (fun h' hn hsb => ?_) F.kind
  ·rw [List.mem_singleton] at hy; subst hy; exact F.ka
  have zL : s₁.heap.get? s₁.heap.objs.size = none := Heap.none_at_size _
  have up1 : ∀ b o,s₁.heap.get? b = some o → h'.get? b = some o := fun b o y => hsb.extBut b o (fun hb => by rw [hb,zL] at y; cases y) (Heap.get?_push_of_some _ y)
  have hz : h'.objs.size = s₁.heap.objs.size + 1 := by rw [hsb.1,Heap.size_push]
  have lim : s₁.heap.NoLimit := ax hlim S.inv
  refine ⟨let ⟨mc,hn,h⟩ := lim; ⟨mc,hn.at' fun o e => up1 _ o e,h⟩,?_⟩
  have hgo := Heap.get?_push_size h' (o := { cls := .type "generator",data := .fields #[.int (s₁.gens.size : Nat) 0,.str fd.name (s₁.toks + 1),.str fd.qualname (s₁.toks + 1 + 1)] }) rfl
  have up2 : ∀ b o,s₁.heap.get? b = some o → (h'.push { cls := .type "generator",data := .fields #[.int (s₁.gens.size : Nat) 0,.str fd.name (s₁.toks + 1),.str fd.qualname (s₁.toks + 1 + 1)] }).get? b = some o := fun b o y => Heap.get?_push_of_some _ (up1 b o y)
  refine wpAny_pyIter_gen (g := s₁.gens.size) ⟨_,_,_,hgo,rfl,rfl,rfl⟩ ?_
  refine ⟨s₁,h'.objs.size,fun k => k = s₁.gens.size,GAt R A s₁.heap h'.objs.size s₁.gens.size (l7 false 0 0 l),rfl,S,?_,sv hlim c.room.1 room S.inv.keep (Heap.get?_none_of_le (by lia)) (by simp),?_⟩
  ·have I' := S.inv.grow (tk := s₁.toks) up2
   refine ⟨.of up2,⟨I'.keep,I'.tabs,I'.os,fun y hy => ?_,I'.xt,I'.xlo,I'.xex,I'.mulo,I'.muex⟩,fun g st y => ?_⟩
   ·rcases Array.mem_push.mp hy with h | h
    ·exact S.inv.bare y h
    ·rw [h]; rfl
   ·have hlt := (Array.getElem?_eq_some_iff.mp y).1
    show (s₁.gens.push _)[g]? = some st
    rw [Array.getElem?_push_lt hlt,← y,Array.getElem?_eq_getElem hlt]
  ·refine ⟨⟨_,_,_,hgo,rfl,rfl,rfl⟩,fun o' y => ?_,⟨fun b o y ht => up2 b o (S.inv.keep b o y ht)⟩,.fresh _,[s₁.heap.objs.size],Array.getElem?_push_size ..,fun b hb => ?_,fun s'' hk B' => ⟨rfl,?_⟩⟩
   ·have y' : some _ = some o' := hgo.symm.trans y
    cases y'
    exact .inr (.inr (.inr ⟨_,_,_,rfl,rfl⟩))
   ·rw [List.mem_singleton] at hb
    subst hb
    obtain ⟨o',es,ep,ho',hd',_⟩ := hn
    exact ⟨zL,o',Heap.get?_push_of_some _ ho',fun xs n h => by rw [hd'] at h; cases h⟩
   ·have G : GE (newEnv fd.scope s₁.heap.objs.size fd.globals fd.closure (fd.qualname ++ ".<locals>.") (some a) fd.code none fd.builtins) xp xe xc := by
     refine ⟨F.kind,F.co,?_,F.kp,F.ke,F.kc,F.pe,F.pc,F.ec,F.dp,F.de,F.dc⟩
     show ((fd.scope.kind == .module) && _) = false
     rw [F.kind]; rfl
    have ne : ∀ {b : Addr} {mm : Str → Option Value},R.base.Ns b mm → b ∉ Tabs → b ≠ s₁.heap.objs.size := fun hn ht h => by
     obtain ⟨o',es,ep,ho',_⟩ := hn
     have := S.inv.keep _ o' ho' ht
     rw [h,zL] at this; cases this
    rw [Nat.sub_zero]
    refine pY (A := A.in1) (t := t) (mg := mg) (mb := mb) (xa := xa) (xn := xn) c.room.1 G rfl hlen F.ka F.da F.ap F.ae F.kn F.dn F.ng F.nb ?_ ?_ zL (Nat.le_refl _) hbody hf
     (hn.at' fun o y => hk _ (by simp) o (Heap.get?_push_of_some _ y)) ?_ ?_ ?_
    ·show fd.globals ≠ _
     rw [F.glob]
     exact ne B.g (by decide)
    ·show fd.builtins ≠ _
     rw [F.blt]
     exact ne B.b (by decide)
    ·simp
    ·show s''.heap.Ns fd.globals mg
     rw [F.glob]
     exact B.g.at' fun o y => B'.keep _ o y (by decide)
    ·show s''.heap.Ns fd.builtins mb
     rw [F.blt]
     exact B.b.at' fun o y => B'.keep _ o y (by decide)
 | _ => cases e2⟩
end
noncomputable def g8 : List MS := [.ite (.prim .notin (.cons (.lit (.str [34])) (.cons (.var 0) .nil))) [.ret (.var 0)] [],.assign (.one 1) (.lit (.int 0)),.assign (.one 2) (.lit .none),.own 3 (.list .nil),.for (.two 4 5) (.gen (.var 0)) [.ite (.prim .eq (.cons (.var 5) (.cons (.lit (.str [34])) .nil))) [.ite (.prim (.isc .none) (.cons (.var 2) .nil)) [.assign (.one 2) (.var 4)] [.ite (.prim .ne (.cons (.var 1) (.cons (.var 2) .nil))) [.append 3 (.prim (.slice true true false) (.cons (.var 0) (.cons (.var 1) (.cons (.var 2) .nil))))] [],.assign (.one 1) (.prim .add (.cons (.var 4) (.cons (.lit (.int 1)) .nil))),.assign (.one 2) (.lit .none)]] []],.ite (.prim .lt (.cons (.var 1) (.cons (.prim .len (.cons (.var 0) .nil)) .nil))) [.append 3 (.prim (.slice true false false) (.cons (.var 0) (.cons (.var 1) .nil)))] [],.ret (.prim .join (.cons (.lit (.str [])) (.cons (.var 3) .nil)))]
noncomputable def o3 : FD := ⟨1,false,[],[.arg 0,.unb,.unb,.unb,.unb,.unb],g8⟩
noncomputable def l6 : List MS := [.assign (.one 0) (.call (.glob 28) (.cons (.var 0) .nil) none),.assign (.one 1) (.lit (.int 0)),.for (.two 2 3) (.gen (.var 0)) [.ite (.prim .eq (.cons (.var 3) (.cons (.lit (.str [40])) .nil))) [.aug 1 .add (.lit (.int 1))] [.ite (.prim .eq (.cons (.var 3) (.cons (.lit (.str [41])) .nil))) [.aug 1 .sub (.lit (.int 1)),.ite (.prim .lt (.cons (.var 1) (.cons (.lit (.int 0)) .nil))) [.ret (.lit (.bool false))] []] []]],.ret (.prim .eq (.cons (.var 1) (.cons (.lit (.int 0)) .nil)))]
noncomputable def u9 : FD := ⟨1,false,[],[.arg 0,.unb,.unb,.unb],l6⟩
noncomputable def j7 : List MS := [.own 1 (.list .nil),.for (.one 2) (.val (.var 0)) [.ite (.prim .not (.cons (.call (.glob 35) (.cons (.var 2) .nil) none) .nil)) [.assign (.one 2) (.lit (.str [40,39,39,44,32,39,39,41]))] [],.append 1 (.var 2)],.ret (.var 1)]
noncomputable def o8 : FD := ⟨1,false,[],[.arg 0,.unb,.unb],j7⟩
noncomputable def o6 : List MS := [.ite (.prim .le (.cons (.prim .sub (.cons (.prim .bitlen (.cons (.var 0) .nil)) (.cons (.var 2) .nil))) (.cons (.lit (.int 4000)) .nil))) [.ret (.prim .divmod (.cons (.var 0) (.cons (.var 1) .nil)))] [],.assign (.one 3) (.prim .band (.cons (.var 2) (.cons (.lit (.int 1)) .nil))),.ite (.var 3) [.aug 0 .shl (.lit (.int 1)),.aug 1 .shl (.lit (.int 1)),.aug 2 .add (.lit (.int 1))] [],.assign (.one 4) (.prim .shr (.cons (.var 2) (.cons (.lit (.int 1)) .nil))),.assign (.one 5) (.prim .sub (.cons (.prim .shl (.cons (.lit (.int 1)) (.cons (.var 4) .nil))) (.cons (.lit (.int 1)) .nil))),.assign (.two 6 7) (.tup (.cons (.prim .shr (.cons (.var 1) (.cons (.var 4) .nil))) (.cons (.prim .band (.cons (.var 1) (.cons (.var 5) .nil))) .nil))),.assign (.two 8 9) (.call (.glob 56) (.cons (.prim .shr (.cons (.var 0) (.cons (.var 2) .nil))) (.cons (.prim .band (.cons (.prim .shr (.cons (.var 0) (.cons (.var 4) .nil))) (.cons (.var 5) .nil))) (.cons (.var 1) (.cons (.var 6) (.cons (.var 7) (.cons (.var 4) .nil)))))) none),.assign (.two 10 9) (.call (.glob 56) (.cons (.var 9) (.cons (.prim .band (.cons (.var 0) (.cons (.var 5) .nil))) (.cons (.var 1) (.cons (.var 6) (.cons (.var 7) (.cons (.var 4) .nil)))))) none),.ite (.var 3) [.aug 9 .shr (.lit (.int 1))] [],.ret (.tup (.cons (.prim .bor (.cons (.prim .shl (.cons (.var 8) (.cons (.var 4) .nil))) (.cons (.var 10) .nil))) (.cons (.var 9) .nil)))]
noncomputable def D5 : FD := ⟨3,false,[],[.arg 0,.arg 1,.arg 2,.unb,.unb,.unb,.unb,.unb,.unb,.unb,.unb],o6⟩
noncomputable def N6 : List MS := [.ite (.prim .eq (.cons (.prim .shr (.cons (.var 0) (.cons (.var 5) .nil))) (.cons (.var 3) .nil))) [.assign (.two 6 7) (.tup (.cons (.prim .sub (.cons (.prim .shl (.cons (.lit (.int 1)) (.cons (.var 5) .nil))) (.cons (.lit (.int 1)) .nil))) (.cons (.prim .add (.cons (.prim .sub (.cons (.var 0) (.cons (.prim .shl (.cons (.var 3) (.cons (.var 5) .nil))) .nil))) (.cons (.var 3) .nil))) .nil)))] [.assign (.two 6 7) (.call (.glob 49) (.cons (.var 0) (.cons (.var 3) (.cons (.var 5) .nil))) none)],.assign (.one 7) (.prim .sub (.cons (.prim .bor (.cons (.prim .shl (.cons (.var 7) (.cons (.var 5) .nil))) (.cons (.var 1) .nil))) (.cons (.prim .mul (.cons (.var 6) (.cons (.var 4) .nil))) .nil))),.wh (.prim .lt (.cons (.var 7) (.cons (.lit (.int 0)) .nil))) [.aug 6 .sub (.lit (.int 1)),.aug 7 .add (.var 2)],.ret (.tup (.cons (.var 6) (.cons (.var 7) .nil)))]
noncomputable def K1 : FD := ⟨6,false,[],[.arg 0,.arg 1,.arg 2,.arg 3,.arg 4,.arg 5,.unb,.unb],N6⟩
noncomputable def u3 : List MS := [.ite (.prim .eq (.cons (.prim .add (.cons (.var 1) (.cons (.lit (.int 1)) .nil))) (.cons (.var 2) .nil))) [.setat 3 (.var 1) (.var 0),.ret (.lit .none)] [],.assign (.one 4) (.prim .shr (.cons (.prim .add (.cons (.var 1) (.cons (.var 2) .nil))) (.cons (.lit (.int 1)) .nil))),.assign (.one 5) (.prim .mul (.cons (.prim .sub (.cons (.var 4) (.cons (.var 1) .nil))) (.cons (.var 6) .nil))),.assign (.one 7) (.prim .shr (.cons (.var 0) (.cons (.var 5) .nil))),.assign (.one 8) (.prim .bxor (.cons (.var 0) (.cons (.prim .shl (.cons (.var 7) (.cons (.var 5) .nil))) .nil))),.scall (.var 9) (.cons (.var 8) (.cons (.var 1) (.cons (.var 4) .nil))) none,.scall (.var 9) (.cons (.var 7) (.cons (.var 4) (.cons (.var 2) .nil))) none]
noncomputable def t8 : FD := ⟨3,false,[],[.arg 0,.arg 1,.arg 2,.cap 0,.unb,.unb,.cap 1,.unb,.unb,.self],u3⟩
noncomputable def C2 : List MS := [.own 2 (.rep 0 (.prim .fdiv (.cons (.prim .sub (.cons (.prim .add (.cons (.prim .bitlen (.cons (.var 0) .nil)) (.cons (.var 1) .nil))) (.cons (.lit (.int 1)) .nil))) (.cons (.var 1) .nil)))),.defn 3 0 [2,1],.ite (.var 0) [.scall (.var 3) (.cons (.var 0) (.cons (.lit (.int 0)) (.cons (.prim .len (.cons (.var 2) .nil)) .nil))) none] [],.ret (.var 2)]
noncomputable def C0 : FD := ⟨2,false,[],[.arg 0,.arg 1,.unb,.unb],C2⟩
noncomputable def u0 : List MS := [.ite (.prim .eq (.cons (.prim .add (.cons (.var 0) (.cons (.lit (.int 1)) .nil))) (.cons (.var 1) .nil))) [.ret (.prim .idx (.cons (.var 2) (.cons (.var 0) .nil)))] [],.assign (.one 3) (.prim .shr (.cons (.prim .add (.cons (.var 0) (.cons (.var 1) .nil))) (.cons (.lit (.int 1)) .nil))),.assign (.one 4) (.prim .mul (.cons (.prim .sub (.cons (.var 3) (.cons (.var 0) .nil))) (.cons (.var 5) .nil))),.ret (.prim .add (.cons (.prim .shl (.cons (.call (.var 6) (.cons (.var 3) (.cons (.var 1) .nil)) none) (.cons (.var 4) .nil))) (.cons (.call (.var 6) (.cons (.var 0) (.cons (.var 3) .nil)) none) .nil)))]
noncomputable def t9 : FD := ⟨2,false,[],[.arg 0,.arg 1,.cap 0,.unb,.unb,.cap 1,.self],u0⟩
noncomputable def C3 : List MS := [.defn 2 1 [0,1],.ret (.ite (.var 0) (.call (.var 2) (.cons (.lit (.int 0)) (.cons (.prim .len (.cons (.var 0) .nil)) .nil)) none) (.lit (.int 0)))]
noncomputable def C1 : FD := ⟨2,false,[],[.arg 0,.arg 1,.unb],C3⟩
noncomputable def o5 : List MS := [.assign (.one 2) (.prim .bitlen (.cons (.var 1) .nil)),.assign (.one 3) (.call (.glob 63) (.cons (.var 0) (.cons (.var 2) .nil)) none),.assign (.one 4) (.lit (.int 0)),.own 5 (.list .nil),.for (.one 6) (.rev (.var 3)) [.assign (.two 7 4) (.call (.glob 49) (.cons (.prim .add (.cons (.prim .shl (.cons (.var 4) (.cons (.var 2) .nil))) (.cons (.var 6) .nil))) (.cons (.var 1) (.cons (.var 2) .nil))) none),.append 5 (.var 7)],.reverse 5,.assign (.one 8) (.call (.glob 70) (.cons (.var 5) (.cons (.var 2) .nil)) none),.ret (.tup (.cons (.var 8) (.cons (.var 4) .nil)))]
noncomputable def C4 : FD := ⟨2,false,[],[.arg 0,.arg 1,.unb,.unb,.unb,.unb,.unb,.unb,.unb],o5⟩
noncomputable def y0 : List MS := [.ite (.prim .eq (.cons (.var 1) (.cons (.lit (.int 0)) .nil))) [.fail] [.ite (.prim .lt (.cons (.var 1) (.cons (.lit (.int 0)) .nil))) [.assign (.two 2 3) (.call (.glob 84) (.cons (.prim .neg (.cons (.var 0) .nil)) (.cons (.prim .neg (.cons (.var 1) .nil)) .nil)) none),.ret (.tup (.cons (.var 2) (.cons (.prim .neg (.cons (.var 3) .nil)) .nil)))] [.ite (.prim .lt (.cons (.var 0) (.cons (.lit (.int 0)) .nil))) [.assign (.two 2 3) (.call (.glob 84) (.cons (.prim .inv (.cons (.var 0) .nil)) (.cons (.var 1) .nil)) none),.ret (.tup (.cons (.prim .inv (.cons (.var 2) .nil)) (.cons (.prim .add (.cons (.var 1) (.cons (.prim .inv (.cons (.var 3) .nil)) .nil))) .nil)))] [.ret (.call (.glob 77) (.cons (.var 0) (.cons (.var 1) .nil)) none)]]]]
noncomputable def w6 : FD := ⟨2,false,[],[.arg 0,.arg 1,.unb,.unb],y0⟩
noncomputable def Q9 : List MS := [.ite (.prim (.isc .none) (.cons (.var 4) .nil)) [.assign (.one 2) (.call (.glob 102) (.cons (.var 0) (.cons (.var 1) (.cons (.var 2) (.cons (.var 3) .nil)))) none)] [.assign (.one 2) (.call (.glob 102) (.cons (.var 0) (.cons (.call (.var 4) (.cons (.var 1) .nil) none) (.cons (.var 2) (.cons (.var 3) .nil)))) (some (.var 4)))],.insert 0 (.var 2) (.var 1)]
noncomputable def K6 : FD := ⟨4,true,[.int 0,.none],[.arg 0,.arg 1,.arg 2,.arg 3,.key],Q9⟩
noncomputable def T5 : List MS := [.ite (.prim .lt (.cons (.var 2) (.cons (.lit (.int 0)) .nil))) [.fail] [],.ite (.prim (.isc .none) (.cons (.var 3) .nil)) [.assign (.one 3) (.prim .len (.cons (.var 0) .nil))] [],.ite (.prim (.isc .none) (.cons (.var 4) .nil)) [.wh (.prim .lt (.cons (.var 2) (.cons (.var 3) .nil))) [.assign (.one 5) (.prim .fdiv (.cons (.prim .add (.cons (.var 2) (.cons (.var 3) .nil))) (.cons (.lit (.int 2)) .nil))),.ite (.prim .lt (.cons (.var 1) (.cons (.prim .idx (.cons (.var 0) (.cons (.var 5) .nil))) .nil))) [.assign (.one 3) (.var 5)] [.assign (.one 2) (.prim .add (.cons (.var 5) (.cons (.lit (.int 1)) .nil)))]]] [.wh (.prim .lt (.cons (.var 2) (.cons (.var 3) .nil))) [.assign (.one 5) (.prim .fdiv (.cons (.prim .add (.cons (.var 2) (.cons (.var 3) .nil))) (.cons (.lit (.int 2)) .nil))),.ite (.prim .lt (.cons (.var 1) (.cons (.call (.var 4) (.cons (.prim .idx (.cons (.var 0) (.cons (.var 5) .nil))) .nil) none) .nil))) [.assign (.one 3) (.var 5)] [.assign (.one 2) (.prim .add (.cons (.var 5) (.cons (.lit (.int 1)) .nil)))]]],.ret (.var 2)]
noncomputable def K2 : FD := ⟨4,true,[.int 0,.none],[.arg 0,.arg 1,.arg 2,.arg 3,.key,.unb],T5⟩
noncomputable def A7 : List MS := [.ite (.prim .lt (.cons (.var 2) (.cons (.lit (.int 0)) .nil))) [.fail] [],.ite (.prim (.isc .none) (.cons (.var 3) .nil)) [.assign (.one 3) (.prim .len (.cons (.var 0) .nil))] [],.ite (.prim (.isc .none) (.cons (.var 4) .nil)) [.wh (.prim .lt (.cons (.var 2) (.cons (.var 3) .nil))) [.assign (.one 5) (.prim .fdiv (.cons (.prim .add (.cons (.var 2) (.cons (.var 3) .nil))) (.cons (.lit (.int 2)) .nil))),.ite (.prim .lt (.cons (.prim .idx (.cons (.var 0) (.cons (.var 5) .nil))) (.cons (.var 1) .nil))) [.assign (.one 2) (.prim .add (.cons (.var 5) (.cons (.lit (.int 1)) .nil)))] [.assign (.one 3) (.var 5)]]] [.wh (.prim .lt (.cons (.var 2) (.cons (.var 3) .nil))) [.assign (.one 5) (.prim .fdiv (.cons (.prim .add (.cons (.var 2) (.cons (.var 3) .nil))) (.cons (.lit (.int 2)) .nil))),.ite (.prim .lt (.cons (.call (.var 4) (.cons (.prim .idx (.cons (.var 0) (.cons (.var 5) .nil))) .nil) none) (.cons (.var 1) .nil))) [.assign (.one 2) (.prim .add (.cons (.var 5) (.cons (.lit (.int 1)) .nil)))] [.assign (.one 3) (.var 5)]]],.ret (.var 2)]
noncomputable def B9 : FD := ⟨4,true,[.int 0,.none],[.arg 0,.arg 1,.arg 2,.arg 3,.key,.unb],A7⟩
noncomputable def X8 : List MS := [.ret (.prim .idx (.cons (.var 0) (.cons (.lit (.int 0)) .nil)))]
noncomputable def P0 : FD := ⟨1,false,[],[.arg 0],X8⟩
noncomputable def aK : List MS := [.assign (.one 0) (.list (.cons (.lit (.str [])) .nil)),.for (.one 1) (.range (.cons (.lit (.int 6)) .nil)) [.assign (.one 0) (.comp2 (.prim .add (.cons (.var 2) (.cons (.var 3) .nil))) (.one 2) (.val (.var 0)) (.one 3) (.val (.lit (.str [40,41]))) (.prim .lt (.cons (.prim .count (.cons (.var 2) (.cons (.var 3) .nil))) (.cons (.lit (.int 3)) .nil))))],.ret (.var 0)]
noncomputable def L4 : FD := ⟨0,false,[],[.unb,.unb,.unb,.unb],aK⟩
noncomputable def I8 : List MS := [.own2 2 3 (.comp (.prim .add (.cons (.prim .idx (.cons (.var 0) (.cons (.var 6) .nil))) (.cons (.prim .idx (.cons (.var 1) (.cons (.var 6) .nil))) .nil))) (.one 6) (.range (.cons (.lit (.int 6)) .nil)) none) (.list (.cons (.lit (.int 6)) (.cons (.lit (.int 6)) (.cons (.lit (.int 6)) (.cons (.lit (.int 6)) (.cons (.lit (.int 6)) (.cons (.lit (.int 6)) .nil))))))),.for (.one 4) (.range (.cons (.lit (.int 6)) .nil)) [.for (.one 5) (.range (.cons (.prim .add (.cons (.var 4) (.cons (.lit (.int 1)) .nil))) (.cons (.lit (.int 6)) (.cons (.lit (.int 2)) .nil)))) [.ite (.and (.prim .eq (.cons (.prim .idx (.cons (.var 3) (.cons (.var 4) .nil))) (.cons (.lit (.int 6)) .nil))) (.prim (.isc (.bool true)) (.cons (.call (.glob 35) (.cons (.prim .join (.cons (.lit (.str [])) (.cons (.prim (.slice true true false) (.cons (.var 2) (.cons (.var 4) (.cons (.prim .add (.cons (.var 5) (.cons (.lit (.int 1)) .nil))) .nil)))) .nil))) .nil) none) .nil))) [.set2 3 (.var 4) (.var 5) (.var 5) (.var 4)] []]],.ret (.var 3)]
noncomputable def E9 : FD := ⟨2,false,[],[.arg 0,.arg 1,.unb,.unb,.unb,.unb,.unb],I8⟩
noncomputable def Y5 : List MS := [.own 1 (.list (.cons (.lit (.int 6)) (.cons (.lit (.int 6)) (.cons (.lit (.int 6)) (.cons (.lit (.int 6)) (.cons (.lit (.int 6)) (.cons (.lit (.int 6)) .nil))))))),.for (.one 2) (.range (.cons (.lit (.int 6)) .nil)) [.for (.one 3) (.range (.cons (.var 2) .nil)) [.ite (.and (.prim .eq (.cons (.prim .idx (.cons (.var 0) (.cons (.var 2) .nil))) (.cons (.lit (.str [41])) .nil))) (.and (.prim .eq (.cons (.prim .idx (.cons (.var 0) (.cons (.var 3) .nil))) (.cons (.lit (.str [40])) .nil))) (.prim .eq (.cons (.prim .count (.cons (.prim (.slice true true false) (.cons (.var 0) (.cons (.var 3) (.cons (.prim .add (.cons (.var 2) (.cons (.lit (.int 1)) .nil))) .nil)))) (.cons (.lit (.str [40])) .nil))) (.cons (.prim .count (.cons (.prim (.slice true true false) (.cons (.var 0) (.cons (.var 3) (.cons (.prim .add (.cons (.var 2) (.cons (.lit (.int 1)) .nil))) .nil)))) (.cons (.lit (.str [41])) .nil))) .nil))))) [.ite (.prim .eq (.cons (.prim .idx (.cons (.var 1) (.cons (.var 3) .nil))) (.cons (.lit (.int 6)) .nil))) [.set2 1 (.var 2) (.var 3) (.var 3) (.var 2)] []] []]],.ret (.var 1)]
noncomputable def N7 : FD := ⟨1,false,[],[.arg 0,.unb,.unb,.unb],Y5⟩
noncomputable def W7 : List MS := [.assign (.two 2 3) (.tup (.cons (.lit (.int 0)) (.cons (.list .nil) .nil))),.for (.one 4) (.range (.cons (.lit (.int 6)) .nil)) [.ite (.prim .notin (.cons (.var 4) (.cons (.var 3) .nil))) [.assign (.two 2 5) (.tup (.cons (.prim .add (.cons (.var 2) (.cons (.lit (.int 1)) .nil))) (.cons (.var 4) .nil))),.for (.one 6) (.range (.cons (.lit (.int 3)) .nil)) [.assign (.one 3) (.prim .add (.cons (.var 3) (.cons (.list (.cons (.var 5) (.cons (.prim .idx (.cons (.var 0) (.cons (.var 5) .nil))) .nil))) .nil))),.assign (.one 5) (.prim .idx (.cons (.var 1) (.cons (.prim .idx (.cons (.var 0) (.cons (.var 5) .nil))) .nil)))]] []],.ret (.var 2)]
noncomputable def P4 : FD := ⟨2,false,[],[.arg 0,.arg 1,.unb,.unb,.unb,.unb,.unb],W7⟩
noncomputable def U1 : List MS := [.ret (.ite (.prim .eq (.cons (.prim .idx (.cons (.call (.glob 84) (.cons (.var 1) (.cons (.prim .pow (.cons (.var 2) (.cons (.var 0) .nil))) .nil)) none) (.cons (.lit (.int 1)) .nil))) (.cons (.lit (.int 0)) .nil))) (.lit (.int 0)) (.lit (.int 1)))]
noncomputable def z0 : FD := ⟨1,false,[],[.arg 0,.cap 0,.cap 1],U1⟩
noncomputable def Y4 : List MS := [.ret (.call (.glob 111) (.cons (.list (.cons (.lit (.int 1)) (.cons (.lit (.int 2)) (.cons (.lit (.int 3)) (.cons (.lit (.int 4)) (.cons (.lit (.int 5)) (.cons (.lit (.int 6)) (.cons (.lit (.int 7)) .nil)))))))) (.cons (.lit (.int 1)) .nil)) (some (.lam 2 [0,1])))]
noncomputable def E0 : FD := ⟨2,false,[],[.arg 0,.arg 1],Y4⟩
noncomputable def w3 : List MS := [.assign (.one 1) (.prim (.slice false true false) (.cons (.var 0) (.cons (.lit (.int 60)) .nil))),.assign (.one 2) (.comp (.prim .add (.cons (.var 25) (.cons (.prim .sum (.cons (.prim (.slice true false true) (.cons (.var 1) (.cons (.var 24) (.cons (.lit (.int 5)) .nil)))) .nil)) .nil))) (.two 24 25) (.enum (.list (.cons (.lit (.int 1)) (.cons (.lit (.int 0)) (.cons (.lit (.int 3)) (.cons (.lit (.int 6)) (.cons (.lit (.int 2)) .nil))))))) none),.assign (.one 3) (.list (.cons (.lit (.str [])) (.cons (.lit (.str [92,40])) (.cons (.lit (.str [92,41])) (.cons (.lit (.str [34,40,34])) (.cons (.lit (.str [34,41,34])) (.cons (.lit (.str [92,92])) (.cons (.lit (.str [92,34])) .nil)))))))),.assign (.one 4) (.prim .add (.cons (.comp (.prim .idx (.cons (.var 3) (.cons (.prim .mod (.cons (.var 26) (.cons (.lit (.int 7)) .nil))) .nil))) (.one 26) (.val (.prim (.slice false true false) (.cons (.var 2) (.cons (.lit (.int 4)) .nil)))) none) (.cons (.list (.cons (.lit (.str [])) (.cons (.lit (.str [])) .nil))) .nil))),.assign (.one 5) (.call (.glob 123) .nil none),.assign (.one 6) (.comp (.var 27) (.one 27) (.val (.var 5)) (some (.prim .gt (.cons (.prim .min (.cons (.comp (.prim .sub (.cons (.prim .mul (.cons (.lit (.int 2)) (.cons (.prim .count (.cons (.prim (.slice false true false) (.cons (.var 27) (.cons (.var 28) .nil))) (.cons (.lit (.str [40])) .nil))) .nil))) (.cons (.var 28) .nil))) (.one 28) (.val (.tup (.cons (.lit (.int 1)) (.cons (.lit (.int 3)) (.cons (.lit (.int 5)) .nil))))) none) .nil)) (.cons (.lit (.int 0)) .nil))))),.assign (.one 7) (.comp (.prim .join (.cons (.lit (.str [])) (.cons (.comp (.prim .add (.cons (.prim .idx (.cons (.var 29) (.cons (.var 30) .nil))) (.cons (.prim .idx (.cons (.var 4) (.cons (.var 30) .nil))) .nil))) (.one 30) (.range (.cons (.lit (.int 6)) .nil)) none) .nil))) (.one 29) (.val (.var 5)) none),.assign (.one 8) (.call (.glob 42) (.cons (.var 7) .nil) none),.ite (.prim .ne (.cons (.var 8) (.cons (.comp (.ite (.prim .inn (.cons (.prim .idx (.cons (.var 5) (.cons (.var 31) .nil))) (.cons (.var 6) .nil))) (.prim .idx (.cons (.var 7) (.cons (.var 31) .nil))) (.lit (.str [40,39,39,44,32,39,39,41]))) (.one 31) (.range (.cons (.lit (.int 20)) .nil)) none) .nil))) [.ret (.lit (.bool false))] [],.own2 9 10 (.comp (.var 32) (.one 32) (.range (.cons (.lit (.int 20)) .nil)) (some (.prim .eq (.cons (.prim .idx (.cons (.var 8) (.cons (.var 32) .nil))) (.cons (.prim .idx (.cons (.var 7) (.cons (.var 32) .nil))) .nil))))) (.list .nil),.for (.one 11) (.val (.tup (.cons (.lit (.int 4)) (.cons (.lit (.int 3)) (.cons (.lit (.int 2)) (.cons (.lit (.int 1)) (.cons (.lit (.int 0)) .nil))))))) [.scall (.glob 93) (.cons (.var 10) (.cons (.tup (.cons (.prim .mod (.cons (.prim .idx (.cons (.var 2) (.cons (.var 11) .nil))) (.cons (.lit (.int 3)) .nil))) (.cons (.prim .idx (.cons (.var 5) (.cons (.prim .idx (.cons (.var 9) (.cons (.var 11) .nil))) .nil))) .nil))) .nil)) (some (.glob 118))],.ite (.prim .ne (.cons (.var 10) (.cons (.comp (.tup (.cons (.var 35) (.cons (.prim .idx (.cons (.var 6) (.cons (.prim .neg (.cons (.var 36) .nil)) .nil))) .nil))) (.two 35 36) (.val (.prim .sorted (.cons (.comp (.tup (.cons (.prim .mod (.cons (.prim .idx (.cons (.var 2) (.cons (.var 34) .nil))) (.cons (.lit (.int 3)) .nil))) (.cons (.prim .neg (.cons (.var 34) .nil)) .nil))) (.one 34) (.range (.cons (.lit (.int 5)) .nil)) none) .nil))) none) .nil))) [.ret (.lit (.bool false))] [],.assign (.one 12) (.comp (.call (.glob 35) (.cons (.prim .add (.cons (.var 37) (.cons (.prim .idx (.cons (.var 7) (.cons (.prim .idx (.cons (.var 9) (.cons (.prim .mod (.cons (.prim .sum (.cons (.var 2) .nil)) (.cons (.lit (.int 5)) .nil))) .nil))) .nil))) .nil))) .nil) none) (.one 37) (.val (.tup (.cons (.lit (.str [])) (.cons (.lit (.str [40])) (.cons (.lit (.str [41])) .nil))))) none),.ite (.ite (.prim .ne (.cons (.comp (.prim (.isc (.bool true)) (.cons (.var 38) .nil)) (.one 38) (.val (.var 12)) none) (.cons (.list (.cons (.lit (.bool true)) (.cons (.lit (.bool false)) (.cons (.lit (.bool false)) .nil)))) .nil))) (.lit (.bool true)) (.prim .ne (.cons (.comp (.prim (.isc (.bool false)) (.cons (.var 39) .nil)) (.one 39) (.val (.var 12)) none) (.cons (.list (.cons (.lit (.bool false)) (.cons (.lit (.bool true)) (.cons (.lit (.bool true)) .nil)))) .nil)))) [.ret (.lit (.bool false))] [],.assign (.one 13) (.comp (.call (.glob 128) (.cons (.var 41) (.cons (.var 4) .nil)) none) (.two 40 41) (.boxl (.var 10)) none),.ite (.prim .ne (.cons (.var 13) (.cons (.comp (.call (.glob 135) (.cons (.var 43) .nil) none) (.two 42 43) (.boxl (.var 10)) none) .nil))) [.ret (.lit (.bool false))] [],.assign (.one 14) (.prim .add (.cons (.lit (.int 3)) (.cons (.prim .mod (.cons (.prim .sum (.cons (.var 2) .nil)) (.cons (.prim .pow (.cons (.lit (.int 10)) (.cons (.lit (.int 6)) .nil))) .nil))) .nil))),.assign (.one 14) (.ite (.prim .eq (.cons (.prim .mod (.cons (.prim .fdiv (.cons (.prim .idx (.cons (.var 2) (.cons (.lit (.int 1)) .nil))) (.cons (.lit (.int 7)) .nil))) (.cons (.lit (.int 3)) .nil))) (.cons (.lit (.int 2)) .nil))) (.prim .mul (.cons (.var 14) (.cons (.prim .pow (.cons (.lit (.int 2)) (.cons (.lit (.int 701)) .nil))) .nil))) (.var 14)),.assign (.one 14) (.ite (.prim .eq (.cons (.prim .mod (.cons (.prim .fdiv (.cons (.prim .idx (.cons (.var 2) (.cons (.lit (.int 0)) .nil))) (.cons (.lit (.int 7)) .nil))) (.cons (.lit (.int 2)) .nil))) (.cons (.lit (.int 1)) .nil))) (.prim .neg (.cons (.var 14) .nil)) (.var 14)),.assign (.one 15) (.comp (.comp (.prim .pow (.cons (.var 14) (.cons (.call (.glob 142) (.cons (.var 44) (.cons (.var 45) .nil)) none) .nil))) (.one 45) (.val (.var 13)) none) (.one 44) (.val (.var 13)) none),.assign (.one 16) (.lit (.int 1)),.for (.one 17) (.range (.cons (.lit (.int 4)) .nil)) [.own 18 (.list .nil),.for (.one 19) (.val (.prim (.slice true false false) (.cons (.var 15) (.cons (.lit (.int 1)) .nil)))) [.assign (.one 20) (.comp (.prim .sub (.cons (.prim .mul (.cons (.prim .idx (.cons (.var 19) (.cons (.var 46) .nil))) (.cons (.prim .idx (.cons (.prim .idx (.cons (.var 15) (.cons (.lit (.int 0)) .nil))) (.cons (.lit (.int 0)) .nil))) .nil))) (.cons (.prim .mul (.cons (.prim .idx (.cons (.var 19) (.cons (.lit (.int 0)) .nil))) (.cons (.prim .idx (.cons (.prim .idx (.cons (.var 15) (.cons (.lit (.int 0)) .nil))) (.cons (.var 46) .nil))) .nil))) .nil))) (.one 46) (.range (.cons (.lit (.int 1)) (.cons (.prim .len (.cons (.var 19) .nil)) .nil))) none),.assign (.one 21) (.comp (.ite (.prim .lt (.cons (.var 47) (.cons (.lit (.int 3)) .nil))) (.prim .fdiv (.cons (.var 16) (.cons (.lit (.int 2)) .nil))) (.lit (.int 0))) (.one 47) (.range (.cons (.lit (.int 1)) (.cons (.prim .len (.cons (.var 19) .nil)) .nil))) none),.assign (.one 22) (.comp (.ite (.prim .gt (.cons (.var 17) (.cons (.lit (.int 0)) .nil))) (.call (.glob 84) (.cons (.prim .add (.cons (.var 48) (.cons (.var 49) .nil))) (.cons (.var 16) .nil)) none) (.tup (.cons (.var 48) (.cons (.lit (.int 0)) .nil)))) (.two 48 49) (.zip (.var 20) (.var 21)) none),.ite (.prim .ne (.cons (.comp (.var 51) (.two 50 51) (.val (.var 22)) none) (.cons (.var 21) .nil))) [.ret (.lit (.bool false))] [],.append 18 (.comp (.var 52) (.two 52 53) (.val (.var 22)) none)],.assign (.two 16 15) (.tup (.cons (.prim .idx (.cons (.prim .idx (.cons (.var 15) (.cons (.lit (.int 0)) .nil))) (.cons (.lit (.int 0)) .nil))) (.cons (.var 18) .nil)))],.assign (.one 23) (.prim .idx (.cons (.prim .idx (.cons (.var 15) (.cons (.lit (.int 0)) .nil))) (.cons (.lit (.int 0)) .nil))),.ite (.prim .ne (.cons (.var 23) (.cons (.prim .mul (.cons (.prim .mul (.cons (.prim .pow (.cons (.var 14) (.cons (.lit (.int 5)) .nil))) (.cons (.prim .pow (.cons (.prim .sub (.cons (.prim .mul (.cons (.var 14) (.cons (.var 14) .nil))) (.cons (.lit (.int 1)) .nil))) (.cons (.lit (.int 4)) .nil))) .nil))) (.cons (.prim .sub (.cons (.prim .mul (.cons (.var 14) (.cons (.var 14) .nil))) (.cons (.lit (.int 2)) .nil))) .nil))) .nil))) [.ret (.lit (.bool false))] [],.ret (.prim .eq (.cons (.comp (.call (.glob 149) (.cons (.var 23) (.cons (.var 54) .nil)) none) (.one 54) (.val (.tup (.cons (.var 14) (.cons (.prim .sub (.cons (.prim .mul (.cons (.var 14) (.cons (.var 14) .nil))) (.cons (.lit (.int 1)) .nil))) (.cons (.prim .sub (.cons (.prim .mul (.cons (.var 14) (.cons (.var 14) .nil))) (.cons (.lit (.int 2)) .nil))) .nil))))) none) (.cons (.list (.cons (.lit (.int 5)) (.cons (.lit (.int 4)) (.cons (.lit (.int 1)) .nil)))) .nil)))]
noncomputable def fR : FD := ⟨1,false,[],[.arg 0,.unb,.unb,.unb,.unb,.unb,.unb,.unb,.unb,.unb,.unb,.unb,.unb,.unb,.unb,.unb,.unb,.unb,.unb,.unb,.unb,.unb,.unb,.unb,.unb,.unb,.unb,.unb,.unb,.unb,.unb,.unb,.unb,.unb,.unb,.unb,.unb,.unb,.unb,.unb,.unb,.unb,.unb,.unb,.unb,.unb,.unb,.unb,.unb,.unb,.unb,.unb,.unb,.unb,.unb],w3⟩
theorem mm {α : Type} {l : List α} {a : α} (n : Nat) (h : l[n]? = some a) : a ∈ l := List.mem_of_getElem? h
noncomputable def Kd.n : Kd → Nat
 | .loc => 0 | .cel => 1 | .frz => 2 | .glo => 3 | .cod => 4
noncomputable def Kd.of : Nat → Kd
 | 0 => .loc | 1 => .cel | 2 => .frz | 3 => .glo | _ => .cod
theorem Kd.on (a : Kd) : Kd.of a.n = a := by cases a <;> rfl
noncomputable def Kd.beq (a b : Kd) : Bool := Nat.beq a.n b.n
theorem Kd.beq_iff {a b : Kd} : Kd.beq a b = true ↔ a = b := ⟨fun h => by rw [← Kd.on a,← Kd.on b,Nat.eq_of_beq_eq_true h],fun h => h ▸ Nat.beq_refl a.n⟩
abbrev LE := Str × Kd × Nat
noncomputable def LE.beq (a b : LE) : Bool := (a.1 == b.1) && (Kd.beq a.2.1 b.2.1 && (a.2.2 == b.2.2))
theorem LE.beq_iff {a b : LE} : LE.beq a b = true ↔ a = b := by
 obtain ⟨x,k,i⟩ := a
 obtain ⟨y,k',j⟩ := b
 simp [LE.beq,Kd.beq_iff]
noncomputable def inL (l : Lay) (e : LE) : Bool := l.any fun a => LE.beq a e
theorem G5 {l : Lay} {e : LE} : inL l e = true ↔ e ∈ l := by
 simp only [inL,List.any_eq_true]
 constructor
 ·rintro ⟨a,h,e'⟩; rw [LE.beq_iff] at e'; exact e' ▸ h
 ·exact fun h => ⟨e,h,LE.beq_iff.mpr rfl⟩
noncomputable def qL (l : Lay) : Bool := l.all fun a => l.all fun b => Kd.beq a.2.1 .glo || Kd.beq b.2.1 .glo ||
 ((!(a.1 == b.1) || (a.2.2 == b.2.2 && Kd.beq a.2.1 b.2.1)) && (!(a.2.2 == b.2.2) || a.1 == b.1))
theorem U0 {l : Lay} (h : qL l = true) : D9 l := by
 have key : ∀ a ∈ l,∀ b ∈ l,a.2.1 ≠ .glo → b.2.1 ≠ .glo → (a.1 = b.1 → a.2.2 = b.2.2 ∧ a.2.1 = b.2.1) ∧ (a.2.2 = b.2.2 → a.1 = b.1) := by
  intro a ha b hb h1 h2
  have := z4.mp (z4.mp h a ha) b hb
  simp only [Bool.or_eq_true,z5,Bool.not_eq_true',Kd.beq_iff,beq_iff_eq,beq_eq_false_iff_ne] at this
  rcases this with (h | h) | h
  ·exact absurd h h1
  ·exact absurd h h2
  ·refine ⟨fun e => (h.1.resolve_left (fun q => q e)),fun e => h.2.resolve_left fun q => q e⟩
 exact ⟨fun x k i k' j ha hb h1 h2 => (key _ ha _ hb h1 h2).1 rfl,fun x k y k' i ha hb h1 h2 => (key _ ha _ hb h1 h2).2 rfl⟩
noncomputable def inN (l : List (Str × NameKind)) (x : Str) (k : NameKind) : Bool := l.any fun a => a.1 == x && a.2 == k
theorem B0 {l : List (Str × NameKind)} {x : Str} {k : NameKind} : inN l x k = true ↔ (x,k) ∈ l := by
 simp only [inN,List.any_eq_true,z5,beq_iff_eq]
 constructor
 ·rintro ⟨⟨y,k'⟩,h,e1,e2⟩
  simp only at e1 e2
  exact e1 ▸ e2 ▸ h
 ·exact fun h => ⟨_,h,rfl,rfl⟩
noncomputable def rB (lay lay' : Lay) (names : List (Str × NameKind)) (own : List Nat) : Bool :=
 qL lay' && lay'.all (fun e => match e.2.1 with
  | .loc => inN names e.1 .local && own.contains e.2.2
  | .glo => inN names e.1 .globalImplicit
  | .cel => (inN names e.1 .cell && own.contains e.2.2) || (inN names e.1 .free && inL lay e)
  | .frz => inN names e.1 .free && inL lay e
  | .cod => false) && names.all (fun q => match q.2 with
  | .free => (lay.any fun e => e.1 == q.1 && ((Kd.beq e.2.1 .cel || Kd.beq e.2.1 .frz) && inL lay' e))
  | .cell => (lay'.any fun e => e.1 == q.1 && Kd.beq e.2.1 .cel)
  | _ => true)
theorem m9 {lay lay' : Lay} {scope : Scope} {own : List Nat} (hk : scope.kind = .function) (nd : (scope.names.map Prod.fst).Nodup) (h : rB lay lay' scope.names own = true) : aI lay lay' scope own := by
 simp only [rB,z5] at h
 obtain ⟨⟨h1,h2⟩,h3⟩ := h
 have k2 := fun e he => z4.mp h2 e he
 have k3 := fun e he => z4.mp h3 e he
 refine ⟨hk,nd,fun x i hm => ?_,fun x i hm => ?_,fun x k i hm hkk => ?_,fun x hx => ?_,fun x hx => ?_,U0 h1,fun x c hm => ?_⟩
 ·have := k2 _ hm
  simp only [z5] at this
  exact ⟨B0.mp this.1,by simpa using this.2⟩
 ·exact B0.mp (k2 _ hm)
 ·have := k2 _ hm
  rcases hkk with rfl | rfl
  ·simp only [Bool.or_eq_true,z5] at this
   rcases this with h | h
   ·exact .inl ⟨B0.mp h.1,rfl,by simpa using h.2⟩
   ·exact .inr ⟨B0.mp h.1,G5.mp h.2⟩
  ·simp only [z5] at this
   exact .inr ⟨B0.mp this.1,G5.mp this.2⟩
 ·have := k3 _ hx
  simp only [List.any_eq_true,z5,Bool.or_eq_true,Kd.beq_iff,beq_iff_eq] at this
  obtain ⟨⟨y,k,i⟩,h4,h5,h6,h7⟩ := this
  simp only at h5 h6
  exact ⟨k,i,h5 ▸ h4,h5 ▸ G5.mp h7,h6⟩
 ·have := k3 _ hx
  simp only [List.any_eq_true,z5,Kd.beq_iff,beq_iff_eq] at this
  obtain ⟨⟨y,k,i⟩,h4,h5,h6⟩ := this
  simp only at h5 h6
  exact ⟨i,h5 ▸ h6 ▸ h4⟩
 ·have := k2 _ hm
  cases this
noncomputable def rM (lay lay' : Lay) : Bool := qL lay && lay'.all (fun e => (match e.2.1 with
  | .frz => inL lay e || inL lay (e.1,.cel,e.2.2)
  | _ => inL lay e) && (!(Kd.beq e.2.1 .cel) || lay'.all fun f => !(f.1 == e.1 && Kd.beq f.2.1 .frz)))
theorem cZ {lay lay' : Lay} (h : rM lay lay' = true) : sY lay lay' := by
 simp only [rM,z5] at h
 obtain ⟨h1,h2⟩ := h
 have k2 := fun e he => z4.mp h2 e he
 refine ⟨U0 h1,fun x i hm => ?_,fun x i hm => ?_,fun x i hm => ?_,fun x i hm => ?_,fun x i hm => ?_,fun x i j hm hm' => ?_⟩
 ·have := k2 _ hm; simp only [z5] at this; exact G5.mp this.1
 ·have := k2 _ hm; simp only [z5] at this; exact G5.mp this.1
 ·have := k2 _ hm; simp only [z5] at this; exact G5.mp this.1
 ·have := k2 _ hm; simp only [z5] at this; exact G5.mp this.1
 ·have := k2 _ hm
  simp only [z5,Bool.or_eq_true] at this
  exact this.1.imp G5.mp G5.mp
 ·have := k2 _ hm
  simp only [z5,Bool.or_eq_true] at this
  rcases this.2 with h | h
  ·simp [Kd.beq] at h
  ·have := z4.mp h _ hm'
   simp [Kd.beq] at this
noncomputable def tnB (names : List (Str × NameKind)) (tg : Expr) : Bool := (Q8 tg).all fun x => inN names x .local || inN names x .cell
theorem I0 {names : List (Str × NameKind)} {tg : Expr} (h : tnB names tg = true) : ∀ x ∈ Q8 tg,(x,NameKind.local) ∈ names ∨ (x,NameKind.cell) ∈ names := fun x hx => by
 have := z4.mp h x hx
 simp only [Bool.or_eq_true] at this
 exact this.imp B0.mp B0.mp
section
variable {R : Run} {C : Orc} {d : Nat} {X Y : Addr → Prop} {μ : List Addr} {s s' s₁ s₂ : Shared} {lay lay' : Lay} {env : Env} {A : Around} {ρ ρ' : Rho} {σ : Sto} {tg : Expr} {t : MT}
theorem ET.or2 (hT : d3 R) {x y : Expr} {mx my : ME} {pos : Pos} (hx : ET R C d lay x mx) (hy : ET R C d lay y my) : ET R C d lay (.BoolOp .Or [x,y] pos) (.ite mx (.lit (.bool true)) my) :=
 fun env A X μ s ρ σ v t c e ht => by
 obtain ⟨w,ew,e2⟩ := bd e
 obtain ⟨tt,et,e3⟩ := bd e2
 refine wpAny_isTrue_BoolOp (wpAny_allTrue_Or_cons (wt (hx env A X μ s ρ σ w tt c ew et) fun b s₁ h₁ => ?_))
 obtain ⟨rfl,S⟩ := h₁
 cases b with
 | true => cases e3; cases ht; exact ⟨rfl,S⟩
 | false =>
  refine wpAny_allTrue_Or_cons (wt (hy env A X μ s₁ ρ σ v t (c.step hT S) e3 ht) fun b s₂ h₂ => ?_)
  obtain ⟨rfl,S₂⟩ := h₂
  cases b with
  | true => exact ⟨rfl,S.trans S₂⟩
  | false => exact wpAny_allTrue_Or_nil ⟨rfl,S.trans S₂⟩
theorem SS.fail {st : Stmt} : SS R C d lay st .fail := fun env A X μ s ρ σ fl S' c ev => by
 cases ev
noncomputable def swN (env : Env) (l : Nat) : Expr → Option Str
 | .Name id pos => if env.kindOf id == some .local && pos.line == l then some id else Option.none
 | _ => Option.none
noncomputable def sw3 (names : List Str) (vs : List Expr) : Sem (Option (List Str)) :=
 if (names.length != 2 || names.eraseDups.length != names.length) = true then pure Option.none else if vs.all (foldedForSure 8) = true then pure Option.none else if vs.all (constantsAlone 8) = true then (do unsupported "assign.tuple-of-constant-expressions:order-of-the-stores"; pure (some names)) else pure (some names)
theorem aM {x y : Str} {px py p pt : Pos} {kk kt : Nat} {e f : Expr} (hs : n8 e) (hs' : n8 f) (hxy : x ≠ y) (hc : ([e,f].all (foldedForSure 8) || !([e,f].all (constantsAlone 8))) = true) :
  ∀ (env : Env) (X : Addr → Prop) (μ : List Addr) (h : Heap) (ρ : Rho),FR R lay env X μ h ρ → swappedStores [.Tuple [.Name x px,.Name y py] kk p] (.Tuple [e,f] kt pt) env = pure Option.none ∨ swappedStores [.Tuple [.Name x px,.Name y py] kk p] (.Tuple [e,f] kt pt) env = pure (some [x,y]) := by
 intro env X μ h ρ F
 have hb : env.blockKind = .function := by
  unfold Env.blockKind
  rw [F.kind]; rfl
 have h : ∃ A B : Bool,∃ l : Nat,swappedStores [.Tuple [.Name x px,.Name y py] kk p] (.Tuple [e,f] kt pt) env = (if A = true then pure Option.none else if B = true then pure Option.none else
   sw3 (List.filterMap (swN env l) [.Name x px,.Name y py]) [e,f]) := ⟨_,_,_,rfl⟩
 obtain ⟨A,B,l,h⟩ := h
 rw [h]
 cases A with
 | true => exact .inl rfl
 | false => cases B with
  | true => exact .inl rfl
  | false =>
   have k : ∀ ns : List Str,ns.length ≠ 2 → sw3 ns [e,f] = pure Option.none := fun ns h => by
    unfold sw3
    rw [if_pos (by simp [h])]
   show sw3 _ _ = _ ∨ sw3 _ _ = _
   rw [List.filterMap_cons,List.filterMap_cons,List.filterMap_nil]
   unfold swN
   by_cases h1 : (env.kindOf x == some .local && px.line == l) = true <;> by_cases h2 : (env.kindOf y == some .local && py.line == l) = true
   ·simp only [if_pos h1,if_pos h2]
    unfold sw3
    split
    ·exact .inl rfl
    ·split
     ·exact .inl rfl
     ·split
      ·rename_i h3 h4
       rw [h4] at hc
       rw [Bool.eq_false_iff.mpr h3] at hc
       cases hc
      ·exact .inr rfl
   ·simp only [if_pos h1,if_neg h2]; exact .inl (k _ (by simp))
   ·simp only [if_neg h1,if_pos h2]; exact .inl (k _ (by simp))
   ·simp only [if_neg h1,if_neg h2]; exact .inl (k _ (by simp))
theorem mJ (hT : d3 R) {elt iter1 iter2 tg1 tg2 : Expr} {ifs : List Expr} {scope : Scope} {cp pos : Pos} {t1 t2 : MT} {mi1 mi2 : MI} {melt mc : ME} {use : Option (Value → Sem Unit)} {Q : Value → Shared → Prop} {xs out : List PV} (K : aI lay lay' scope (t1.slots ++ t2.slots))
  (ht1 : M1 lay' tg1 t1) (hn1 : ∀ x ∈ Q8 tg1,(x,NameKind.local) ∈ scope.names ∨ (x,NameKind.cell) ∈ scope.names) (ht2 : M1 lay' tg2 t2) (hn2 : ∀ x ∈ Q8 tg2,(x,NameKind.local) ∈ scope.names ∨ (x,NameKind.cell) ∈ scope.names)
  (hI1 : IS R C d lay iter1 tg1 t1 mi1) (hI2 : IS R C d lay' iter2 tg2 t2 mi2) (hc : cR R C d lay' ifs (some mc)) (he : ES R C d lay' elt melt)
  (hu : ¬ (df t1 ρ = false ∨ df t2 ρ = false)) (c : Cx R d lay env A X μ s ρ σ) (e1 : evI C mi1 ρ σ = some xs)
  (e3 : D8 (fun _ => some true) (fun ρ₁ => (evI C mi2 ρ₁ σ).bind fun ys => if df t2 ρ₁ = false then Option.none else
     D8 (fun ρ' => (evE C mc ρ' σ).bind (I5 σ)) (fun ρ' => (evE C melt ρ' σ).map fun v => [v]) t2 ρ₁ ys) t1 ρ xs = some out) (hlen : out.length ≤ a8)
  (hpost : ∀ s' C' D m,Ext R X (fun b => X b ∨ b = C') μ s s' → s.heap.get? C' = Option.none → s'.heap.Ns C' m → C' ∉ μ → n4 R.Θ (fun b => X b ∨ b = C') μ s'.heap (.list out) (.ref D) → compPost (model R.prog R.w) A noE use Q (.ref D) C' (.ok .next) s') :
  wpAny (model R.prog R.w) A (comprehension (.ListComp elt [⟨tg1,iter1,[],0⟩,⟨tg2,iter2,ifs,0⟩] scope cp) scope env pos (newList []) false (eval iter1 env) use) Q noE s := by
 have hU1 : fP t1 ρ := bq fun h => hu (.inl h)
 have hU2 : fP t2 ρ := bq fun h => hu (.inr h)
 refine eQ (C := C) (em := em2 elt ⟨tg1,iter1,[],0⟩ tg2 iter2 ifs scope cp) (test := fun _ => some true) (out := out) hT K ht1 hn1 hI1 hU1
  (fun i hi => (List.mem_append.mp hi).elim (Y6 hU1 i) (Y6 hU2 i)) (tH elt tg1 iter1 tg2 iter2 [] ifs scope cp)
  (fun cenv Y s ρ' b cx e => by cases e; exact wpAny_tests_nil ⟨rfl,.refl cx.inv⟩) (fun cenv Y D s ρ₁ acc l cx ag hD hDt hDm hDW hWO hkl hcn ha e hl => ?_) c e1 e3 hlen hpost
 obtain ⟨ys,e5,e6⟩ := bd e
 split at e6
 ·cases e6
 rename_i hu2
 have hU2' := bq hu2
 unfold em2
 refine wpAny_bind (wt (hI2.2 cenv A Y μ s ρ₁ σ ys cx e5) fun xv s₀ h₀ => wpAny_bind (wpAny_standAt (wpAny_bind (wpAny_of_eq (X6 hI2.1 cenv xv) (wpAny_bind (wpAny_holding (wt h₀ fun it s₂ h₂ => ?_)))))))
 obtain ⟨s₁,I,wr,fp,gw,St,rfl,S₁,X12,T,st₂,_⟩ := h₂
 have c₁ := cx.step hT S₁
 have hWOt : ∀ b,WT cenv tg2 b → WO scope cenv b := fun b h => oS ht2 hn2 hkl h
 have cell_at : ∀ x c',cenv.cells.lookup x = some c' → ∃ w,s₁.heap.get? c' = some (U3 w) := fun x c' h => by
  rcases hcn x c' h with h1 | h1
  ·obtain ⟨i,hi⟩ := K.cell x h1
   obtain ⟨_,c'',w,g3,g4,_⟩ := c₁.fr.cel x .cel i hi (.inl rfl)
   cases sxx h g3; exact ⟨w,g4⟩
  ·obtain ⟨k,i,_,g1,g2⟩ := K.free x h1
   obtain ⟨_,c'',w,g3,g4,_⟩ := c₁.fr.cel x k i g1 g2
   cases sxx h g3; exact ⟨w,g4⟩
 have a₁ : Acc R Y μ D acc s₁.heap := ha.set (fun b hb => cx.inv.xt b hb) S₁.keep hDt
 have loop : codeAny (model R.prog R.w) A (.compLoop (.ListComp elt [⟨tg1,iter1,[],0⟩,⟨tg2,iter2,ifs,0⟩] scope cp) 1 (.ref I) (.ref D) cenv)
   (fun r s' => match r with
    | .ok f => (fun (f : Flow) (s' : Shared) => Cx R d lay' cenv A Y μ s' ρ₁ σ ∧ n5 (EW D (WO scope cenv)) s.heap s'.heap ∧ H8 s s' ∧ Acc R Y μ D (acc ++ l) s'.heap) f s'
    | .error e => cameBackBy (model R.prog R.w) A cenv noE e s') s₂ := by
  refine bI (C := C) (em := (do let _ ← call (.builtin "list.append") [.ref D,← eval elt cenv])) (WD := fun _ => False) (acc₀ := acc) (test := jp C σ (some mc)) (el := fun ρ' => (evE C melt ρ' σ).map fun v => [v]) (X₀ := Y) (Yb := Y) hT K.ok (ud elt tg1 iter1 tg2 iter2 [] ifs scope cp (.ref I) (.ref D) cenv) T ht2 hU2' cx.inv.xt (fun _ h => h) (fun _ h => .inl h)
   (fun b hb => T.fpx b (T.sub b hb)) (fun b hb hm => ?_) hD (fun h => hDW (hWOt D h)) hDt (fun _ h => h.elim) (fun b hb => ⟨fun h => T.fpx b hb (h ▸ hD),fun h => T.fpx b hb (hWO b (hWOt b h)),fun h => h⟩) (fun x c' h hb => ?_)
   (fun s ρ' b cx' e => ak hc cx' e) (fun s ρ' acc l cx' ag hk ha e hl => wt (gM hT K he cx' (.inl hD) hDt hDm hDW hcn ha e hl) fun _ s' h => ⟨h.1,h.2.1.mono fun b hb => hb.elim .tab .eq,h.2.2⟩)
   e6 hl ⟨c₁.fr.ext hT X12,c₁.st.ext X12,X12.inv,cx.room⟩ (fun b o e hb => X12.keep b o e fun ht => hb (.y (cx.inv.xt b ht))) st₂ ?_ ?_
  ·obtain ⟨o,e⟩ := S₁.inv.muex b hm
   exact nxx (T.fresh b hb) e
  ·obtain ⟨w,e⟩ := cell_at x c' h
   exact nxx (T.fresh c' hb) e
  ·obtain ⟨vs,hL,rs⟩ := a₁
   exact ⟨vs,hL.at fun o e => X12.keep D o e hDt,Y3 X12 rs⟩
  ·intro s' c' k kg ha'
   refine ⟨c',fun b o e hb => ?_,fun g q e => ?_,ha'⟩
   ·have e1 := S₁.keep b o e fun h => hb (.tab h)
    have e2 := X12.keep b o e1 fun h => hb (.tab h)
    refine k b o e2 ?_
    rintro (h | h | h | h | h)
    ·exact hb (.tab h)
    ·exact hb (.eq h)
    ·exact hb (.wd (hWOt b h))
    ·exact h
    ·exact nxx (T.fresh b h) e1
   ·have e1 := S₁.gens g q e
    exact kg g q (X12.gens g q e1) fun h => by have := T.gfresh g h; exact nxx this e1
 refine wpAny_bind (wpAny_runOwn (Q := fun f s' => wpAny (model R.prog R.w) A (pure ()) (fun _ s' => Cx R d lay' cenv A Y μ s' ρ₁ σ ∧ n5 (EW D (WO scope cenv)) s.heap s'.heap ∧ H8 s s' ∧ Acc R Y μ D (acc ++ l) s'.heap) noE s') ?_)
 refine codeAny_mono (R := fun r s' => match r with
    | .ok f => (fun (f : Flow) (s' : Shared) => Cx R d lay' cenv A Y μ s' ρ₁ σ ∧ n5 (EW D (WO scope cenv)) s.heap s'.heap ∧ H8 s s' ∧ Acc R Y μ D (acc ++ l) s'.heap) f s'
    | .error e => cameBackBy (model R.prog R.w) A cenv noE e s') ?_ fun r s' h => ?_
 ·exact bc loop (wt (T.self s₂ _ st₂ loop) fun v s' h => by rw [h.1]; exact h.2)
 ·cases r with
  | ok f => exact wpAny_pure h
  | error e => exact h
inductive rU (C : Orc) (melt : ME) (t1 : MT) (mi1 : MI) (t2 : MT) (mi2 : MI) (mc : ME) (ρ : Rho) (σ : Sto) : PV → Prop
 | mk (xs out : List PV) (e1 : evI C mi1 ρ σ = some xs) (hu : ¬ (df t1 ρ = false ∨ df t2 ρ = false))
   (e3 : D8 (fun _ => some true) (fun ρ₁ => (evI C mi2 ρ₁ σ).bind fun ys => if df t2 ρ₁ = false then Option.none else D8 (fun ρ' => (evE C mc ρ' σ).bind (I5 σ)) (fun ρ' => (evE C melt ρ' σ).map fun v => [v]) t2 ρ₁ ys) t1 ρ xs = some out)
   (hl : out.length ≤ a8) : rU C melt t1 mi1 t2 mi2 mc ρ σ (.list out)
theorem kL {melt : ME} {t1 t2 : MT} {mi1 mi2 : MI} {mc : ME} {v : PV} (e : evE C (.comp2 melt t1 mi1 t2 mi2 mc) ρ σ = some v) : rU C melt t1 mi1 t2 mi2 mc ρ σ v := by
 obtain ⟨xs,e1,e2⟩ := bd e
 split at e2
 ·cases e2
 ·obtain ⟨out,e3,e4⟩ := bd e2
  split at e4 <;> cases e4
  exact ⟨xs,out,e1,‹_›,e3,And.right ‹_›⟩
theorem SS.assignComp2 (hT : d3 R) (hl : D9 lay) {x : Str} {i : Nat} {elt iter1 iter2 tg1 tg2 : Expr} {t1 t2 : MT} {ifs : List Expr} {scope : Scope} {cp p pos : Pos} {mi1 mi2 : MI} {melt mc : ME} (hm : (x,Kd.loc,i) ∈ lay)
  (hp : (p.line == cp.line) = true) (hnx : (scope.names.any fun (n,k) => n == x && (k == .local || k == .cell)) = false)
  (K : aI lay lay' scope (t1.slots ++ t2.slots))
  (ht1 : M1 lay' tg1 t1) (hn1 : ∀ x ∈ Q8 tg1,(x,NameKind.local) ∈ scope.names ∨ (x,NameKind.cell) ∈ scope.names) (ht2 : M1 lay' tg2 t2) (hn2 : ∀ x ∈ Q8 tg2,(x,NameKind.local) ∈ scope.names ∨ (x,NameKind.cell) ∈ scope.names)
  (hI1 : IS R C d lay iter1 tg1 t1 mi1) (hI2 : IS R C d lay' iter2 tg2 t2 mi2) (hc : cR R C d lay' ifs (some mc)) (he : ES R C d lay' elt melt) :
  SS R C d lay (.Assign [.Name x p] (.ListComp elt [⟨tg1,iter1,[],0⟩,⟨tg2,iter2,ifs,0⟩] scope cp) pos) (.assign (.one i) (.comp2 melt t1 mi1 t2 mi2 mc)) := fun env A X μ s ρ σ fl S' c ev => by
 obtain ⟨v,ρ',e1,e3⟩ := eA ev
 obtain ⟨xs,out,e5,hu,e7,hlen⟩ := kL e1
 obtain ⟨_,rfl⟩ := Z7 e3
 have hk : env.kindOf x = some .local := by
  obtain ⟨m,_,h⟩ := c.fr.loc
  exact (h x i hm).1
 refine li c.fr.kind hk hp hnx fun _ => ?_
 exact mJ (C := C) (use := some (PySem.assign (.Name x p) env)) (out := out) hT K ht1 hn1 ht2 hn2 hI1 hI2 hc he hu c e5 e7 hlen fun s' C' D m E hs hN hCm r => iH hT hl hm hk c E hs hN hCm r e3
end
noncomputable def fnB (n : Nat) : List Stmt := match PySem.Challenge.pw_rs0190_01.main.body[n]? with | some (.FunctionDef _ _ b _ _ _ _ _ _ _) => b | _ => []
noncomputable def A6 : Stmt := .Pass ⟨0,0,0,0⟩
noncomputable def inB (n k : Nat) : List Stmt := match (fnB n)[k]? with | some (.FunctionDef _ _ b _ _ _ _ _ _ _) => b | _ => []
noncomputable def Kd.isV : Kd → Bool
 | .loc | .cel | .frz => true
 | _ => false
noncomputable def Kd.isW : Kd → Bool
 | .loc | .cel => true
 | _ => false
theorem Kd.v {k : Kd} (h : k.isV = true) : k = .loc ∨ k = .cel ∨ k = .frz := by
 cases k with
 | loc => exact .inl rfl
 | cel => exact .inr (.inl rfl)
 | frz => exact .inr (.inr rfl)
 | _ => cases h
theorem Kd.w {k : Kd} (h : k.isW = true) : k = .loc ∨ k = .cel := by
 cases k with
 | loc => exact .inl rfl
 | cel => exact .inr rfl
 | _ => cases h
noncomputable def nmB (lay : Lay) : Bool := lay.all fun e => !(e.1 == ("__debug__" : Str)) && !(e.1 == ("__classdict__" : Str))
structure B1 (lay : Lay) : Prop where
 ok : D9 lay
 nm : nmB lay = true
theorem k9 {lay : Lay} (h : (qL lay && nmB lay) = true) : B1 lay := by
 simp only [z5] at h
 exact ⟨U0 h.1,h.2⟩
theorem B1.at {lay : Lay} (L : B1 lay) {x k i} (h : (x,k,i) ∈ lay) : (x == ("__debug__" : Str)) = false ∧ (x == ("__classdict__" : Str)) = false := by
 have := z4.mp L.nm _ h
 simpa using this
noncomputable def gfun : List (Str × Addr) := [(Str.ofString "_iter_escaped_chars",21),(Str.ofString "_strip_quoted_realnames",28),(Str.ofString "_check_parenthesis",35),(Str.ofString "_pre_parse_validation",42),(Str.ofString "_div2n1n",49),
 (Str.ofString "_div3n2n",56),(Str.ofString "_int2digits",63),(Str.ofString "_digits2int",70),(Str.ofString "_divmod_pos",77),(Str.ofString "int_divmod",84),(Str.ofString "insort_right",93),(Str.ofString "bisect_right",102),
 (Str.ofString "bisect_left",111),(Str.ofString "_law_first",118),(Str.ofString "_law_rows",123),(Str.ofString "_law_mates",128),(Str.ofString "_law_plain",135),(Str.ofString "_law_rings",142),(Str.ofString "_law_often",149)]
noncomputable def gbi : List (Str × String) := [(Str.ofString "len","len"),(Str.ofString "sum","sum"),(Str.ofString "sorted","sorted"),(Str.ofString "min","min"),(Str.ofString "divmod","divmod")]
noncomputable def gty : List (Str × String) := [(Str.ofString "range","range"),(Str.ofString "enumerate","enumerate"),(Str.ofString "zip","zip"),(Str.ofString "reversed","reversed")]
noncomputable def vr : List Stmt := fnB 1
structure Glo (R : Run) (mg mb : Str → Option Value) : Prop where
 B : BOK R mg mb
 K : gc R mg
 hlim : R.base.NoLimit
 f : ∀ p ∈ gfun,mg p.1 = some (.ref p.2)
 b : ∀ p ∈ gbi,mg p.1 = Option.none ∧ mb p.1 = some (.builtin p.2)
 t : ∀ p ∈ gty,mg p.1 = Option.none ∧ mb p.1 = some (.type p.2)
 lim : ∃ tk,mg (Str.ofString "_DIV_LIMIT") = some (.int 4000 tk)
 gen : ∃ o fd,rl R mg mb 21 o fd (Str.ofString "addr") (Str.ofString "pos") (Str.ofString "escape") (Str.ofString "ch") (Str.ofString "enumerate") vr
theorem Glo.l {R : Run} {mg mb : Str → Option Value} (G : Glo R mg mb) : d3 R := G.B.low
noncomputable def yL (x : String) (i : Nat) : Str × Kd × Nat := (Str.ofString x,.loc,i)
noncomputable def yG (x : String) : Str × Kd × Nat := (Str.ofString x,.glo,0)
noncomputable def yC (x : String) (i : Nat) : Str × Kd × Nat := (Str.ofString x,.cel,i)
noncomputable def yF (x : String) (i : Nat) : Str × Kd × Nat := (Str.ofString x,.frz,i)
theorem nn1 {α : Type} {a : α} {l : List α} {P : Prop} : a :: l ≠ [] ∨ P := .inl (List.cons_ne_nil _ _)
section
variable {R : Run} {C : Orc} {d : Nat} {lay : Lay} {mg mb : Str → Option Value} {tg : Expr} {t : MT}
theorem Wv (L : B1 lay) {x : Str} {k : Kd} {i : Nat} {pos : Pos} (n : Nat) (h : lay[n]? = some (x,k,i)) (hk : k.isV = true) : ES R C d lay (.Name x pos) (.var i) :=
 ES.var (mm n h) (Kd.v hk) (L.at (mm n h)).1 (L.at (mm n h)).2
theorem Wg (G : Glo R mg mb) (L : B1 lay) {x : Str} {a : Addr} {i : Nat} {pos : Pos} (n : Nat) (h : lay[n]? = some (x,Kd.glo,i)) (m : Nat) (hm : gfun[m]? = some (x,a)) : ES R C d lay (.Name x pos) (.glob a) :=
 ES.glob G.B (mm n h) (G.f _ (mm m hm)) (L.at (mm n h)).1
theorem vx (G : Glo R mg mb) (L : B1 lay) {i : Nat} {pos : Pos} (n : Nat) (h : lay[n]? = some (Str.ofString "_DIV_LIMIT",Kd.glo,i)) : ES R C d lay (.Name (Str.ofString "_DIV_LIMIT") pos) (.lit (.int 4000)) := by
 obtain ⟨tk,e⟩ := G.lim
 exact ES.globInt G.B (mm n h) e (L.at (mm n h)).1
theorem aV {x : Str} {l : List Nat} {k : Nat} {pos : Pos} (h : x.cps.toList = l) : ES R C d lay (.Constant (.str x) k pos) (.lit (.str l)) := h ▸ ES.str
theorem Wb1 (G : Glo R mg mb) (L : B1 lay) {x : Str} {id : String} {i : Nat} {np pos : Pos} {e : Expr} {m : ME} {p : Y0} (n : Nat) (h : lay[n]? = some (x,Kd.glo,i)) (q : Nat) (hq : gbi[q]? = some (x,id))
  (hs : n8 e) (he : ES R C d lay e m) (ho : O1 R (fun v => call (.builtin id) [v]) p) : ES R C d lay (.Call (.Name x np) [e] [] pos) (.prim p (.cons m .nil)) :=
 ES.b1 G.B (mm n h) (G.b _ (mm q hq)).1 (G.b _ (mm q hq)).2 (L.at (mm n h)).1 hs he ho
theorem Wb2 (G : Glo R mg mb) (L : B1 lay) {x : Str} {id : String} {i : Nat} {np pos : Pos} {e f : Expr} {m m' : ME} {p : Y0} (n : Nat) (h : lay[n]? = some (x,Kd.glo,i)) (q : Nat) (hq : gbi[q]? = some (x,id))
  (hs : n8 e) (he : ES R C d lay e m) (hs' : n8 f) (hf : ES R C d lay f m') (ho : O2 R (fun v w => call (.builtin id) [v,w]) p) : ES R C d lay (.Call (.Name x np) [e,f] [] pos) (.prim p (.cons m (.cons m' .nil))) :=
 ES.b2 G.B (mm n h) (G.b _ (mm q hq)).1 (G.b _ (mm q hq)).2 (L.at (mm n h)).1 hs he hs' hf ho
noncomputable def Y0.isCmp : Y0 → Bool
 | .eq | .ne | .lt | .le | .gt | .ge | .inn | .notin => true
 | _ => false
theorem ny {p : Y0} (hp : p.isCmp = true) (a b : PV) (σ : Sto) (v : PV) (e : evP p [a,b] σ = some v) : ∃ b,v = .bool b := by
 have k2 : ∀ f : Int → Int → Bool,eI2 (fun a b => some (.bool (f a b))) [a,b] = some v → ∃ b,v = .bool b := fun f e => by
  obtain ⟨i,j,_,_,h⟩ := iP e
  exact ⟨_,(Option.some.inj h).symm⟩
 have ke : ∀ (x : Option PyData) (y : Option PyData) (f : PyData → PyData → Bool),(x.bind fun da => y.map fun db => PV.bool (f da db)) = some v → ∃ b,v = .bool b := fun x y f e => by
  obtain ⟨_,_,e⟩ := bd e
  obtain ⟨_,_,e⟩ := mq e
  exact ⟨_,e.symm⟩
 have ki : tX [a,b] = some v → ∃ b,v = .bool b := fun e => by
  obtain ⟨_,_,_,_,_,_,e⟩ := fU e; exact ⟨_,e⟩
 have kn : iX [a,b] = some v → ∃ b,v = .bool b := fun e => by
  rcases cT e with ⟨_,_,_,_,_,_,e⟩ | ⟨_,_,_,_,e⟩ <;> exact ⟨_,e⟩
 cases p <;> first | (cases hp; done) | exact k2 _ e | exact ke _ _ _ e | exact ki e | exact kn e
theorem Tc (G : Glo R mg mb) {l r : Expr} {ml mr : ME} {op : CmpOp} {p : Y0} {pos : Pos} (hl : ES R C d lay l ml) (hr : ES R C d lay r mr) (ho : O2 R (compareOp op) p) (hm : behindInMarks op r = false) (hp : p.isCmp = true) :
  ET R C d lay (.Compare l [op] [r] pos) (.prim p (.cons ml (.cons mr .nil))) := ET.cmp G.l hl hr ho hm (ny hp)
theorem D4 (G : Glo R mg mb) (L : B1 lay) {x : Str} {i : Nat} {np pos : Pos} {es : List Expr} {ms : MEs} (n : Nat) (h : lay[n]? = some (x,Kd.glo,i)) (hq : gty[0]? = some (x,"range")) (he : ESs R C d lay es ms) :
  IS R C d lay (.Call (.Name x np) es [] pos) tg t (.range ms) := IS.range G.B (mm n h) (G.t _ (mm 0 hq)).1 (G.t _ (mm 0 hq)).2 (L.at (mm n h)).1 he
theorem sn (G : Glo R mg mb) (L : B1 lay) {x : Str} {i a b : Nat} {np pos : Pos} {e : Expr} {m : ME} {elts : List Expr} {kk : Nat} {tp : Pos} (n : Nat) (h : lay[n]? = some (x,Kd.glo,i)) (hq : gty[1]? = some (x,"enumerate")) (hs : n8 e) (he : ES R C d lay e m) :
  IS R C d lay (.Call (.Name x np) [e] [] pos) (.Tuple elts kk tp) (.two a b) (.enum m) := IS.enum G.B (mm n h) (G.t _ (mm 1 hq)).1 (G.t _ (mm 1 hq)).2 (L.at (mm n h)).1 hs he
theorem ua (G : Glo R mg mb) (L : B1 lay) {x : Str} {i a b : Nat} {np pos : Pos} {e f : Expr} {m m' : ME} {elts : List Expr} {kk : Nat} {tp : Pos} (n : Nat) (h : lay[n]? = some (x,Kd.glo,i)) (hq : gty[2]? = some (x,"zip")) (hs : n8 e) (he : ES R C d lay e m) (hs' : n8 f) (hf : ES R C d lay f m') :
  IS R C d lay (.Call (.Name x np) [e,f] [] pos) (.Tuple elts kk tp) (.two a b) (.zip m m') := IS.zip G.B (mm n h) (G.t _ (mm 2 hq)).1 (G.t _ (mm 2 hq)).2 (L.at (mm n h)).1 hs he hs' hf
theorem tJ (G : Glo R mg mb) (L : B1 lay) {x : Str} {i : Nat} {np pos : Pos} {e : Expr} {m : ME} (n : Nat) (h : lay[n]? = some (x,Kd.glo,i)) (hq : gty[3]? = some (x,"reversed")) (hs : n8 e) (he : ES R C d lay e m) :
  IS R C d lay (.Call (.Name x np) [e] [] pos) tg t (.rev m) := IS.rev G.B (mm n h) (G.t _ (mm 3 hq)).1 (G.t _ (mm 3 hq)).2 (L.at (mm n h)).1 hs he
theorem sg (G : Glo R mg mb) (L : B1 lay) {x : Str} {i ia ib : Nat} {np pos : Pos} {e tg : Expr} {me : ME} (n : Nat) (h : lay[n]? = some (x,Kd.glo,i)) (hq : gfun[0]? = some (x,21)) (hs : n8 e) (he : ES R C d lay e me) :
  ISG R C d lay (.Call (.Name x np) [e] [] pos) tg (.two ia ib) (.gen me) := by
 obtain ⟨o,fd,F⟩ := G.gen
 exact ISG.gen G.B G.hlim (mm n h) (G.f _ (mm 0 hq)) (L.at (mm n h)).1 hs he F rfl rfl
theorem V9 (L : B1 lay) {x : Str} {k : Kd} {i : Nat} {p : Pos} (n : Nat) (h : lay[n]? = some (x,k,i)) (hk : k.isW = true) : M1 lay (.Name x p) (.one i) := .one (mm n h) (Kd.w hk)
theorem ot (L : B1 lay) {x y : Str} {k k' : Kd} {i j kk : Nat} {p p' pp : Pos} (n : Nat) (h : lay[n]? = some (x,k,i)) (hk : k.isW = true) (n' : Nat) (h' : lay[n']? = some (y,k',j)) (hk' : k'.isW = true) :
  M1 lay (.Tuple [.Name x p,.Name y p'] kk pp) (.two i j) := .two (mm n h) (Kd.w hk) (mm n' h') (Kd.w hk')
theorem j6 (G : Glo R mg mb) (L : B1 lay) {x : Str} {k : Kd} {i : Nat} {e : Expr} {m : ME} {p pos : Pos} (n : Nat) (h : lay[n]? = some (x,k,i)) (hk : k.isW = true) (he : ES R C d lay e m)
  (hs : (ah e || Kd.beq k .cel) = true) : SS R C d lay (.Assign [.Name x p] e pos) (.assign (.one i) m) := by
 simp only [Bool.or_eq_true,Kd.beq_iff] at hs
 exact SS.assign G.l L.ok (mm n h) (Kd.w hk) he hs
theorem qS (G : Glo R mg mb) (L : B1 lay) {x : Str} {k : Kd} {i : Nat} {e : Expr} {m : ME} {p pos : Pos} (n : Nat) (h : lay[n]? = some (x,k,i)) (hk : k.isW = true) (he : ESn R C d lay e m) (hs : ah e = true) :
  SS R C d lay (.Assign [.Name x p] e pos) (.own i m) := SS.own G.l L.ok (mm n h) (Kd.w hk) he hs
theorem pf (G : Glo R mg mb) (L : B1 lay) {x : Str} {k : Kd} {i : Nat} {e : Expr} {m : ME} {op : Operator} {pr : Y0} {p pos : Pos} (n : Nat) (h : lay[n]? = some (x,k,i)) (hk : k.isW = true) (he : ES R C d lay e m) (ho : OI R op pr) :
  SS R C d lay (.AugAssign (.Name x p) op e pos) (.aug i pr m) := SS.aug G.l L.ok (mm n h) (Kd.w hk) he ho
theorem jF (G : Glo R mg mb) (L : B1 lay) {x y : Str} {k k' : Kd} {i j : Nat} {e : Expr} {m : ME} {px py p pos : Pos} {kk : Nat} (n : Nat) (h : lay[n]? = some (x,k,i)) (hk : k.isW = true) (n' : Nat) (h' : lay[n']? = some (y,k',j)) (hk' : k'.isW = true) (he : ES R C d lay e m)
  (hxy : x ≠ y) (hc : ∀ vs k p,e ≠ .Tuple vs k p) : SS R C d lay (.Assign [.Tuple [.Name x px,.Name y py] kk p] e pos) (.assign (.two i j) m) :=
 SS.assign2 G.l L.ok (mm n h) (Kd.w hk) (mm n' h') (Kd.w hk') he hxy fun _ _ _ _ _ _ => .inl (fS hc)
theorem lj (G : Glo R mg mb) (L : B1 lay) {x y : Str} {k k' : Kd} {i j : Nat} {e f : Expr} {m : ME} {px py p pt pos : Pos} {kk kt : Nat} (n : Nat) (h : lay[n]? = some (x,k,i)) (hk : k.isW = true) (n' : Nat) (h' : lay[n']? = some (y,k',j)) (hk' : k'.isW = true) (he : ES R C d lay (.Tuple [e,f] kt pt) m)
  (hxy : x ≠ y) (hs : n8 e) (hs' : n8 f) (hc : ([e,f].all (foldedForSure 8) || !([e,f].all (constantsAlone 8))) = true) : SS R C d lay (.Assign [.Tuple [.Name x px,.Name y py] kk p] (.Tuple [e,f] kt pt) pos) (.assign (.two i j) m) :=
 SS.assign2 G.l L.ok (mm n h) (Kd.w hk) (mm n' h') (Kd.w hk') he hxy (aM hs hs' hxy hc)
theorem rO (G : Glo R mg mb) (L : B1 lay) {x y : Str} {k k' : Kd} {i j : Nat} {e f : Expr} {m m' : ME} {px py p pt pos : Pos} {kk kt : Nat} (n : Nat) (h : lay[n]? = some (x,k,i)) (hk : k.isW = true) (n' : Nat) (h' : lay[n']? = some (y,k',j)) (hk' : k'.isW = true)
  (hs : n8 e) (he : ES R C d lay e m) (hs' : n8 f) (hf : ESn R C d lay f m') (hxy : x ≠ y) (hc : ([e,f].all (foldedForSure 8) || !([e,f].all (constantsAlone 8))) = true) :
  SS R C d lay (.Assign [.Tuple [.Name x px,.Name y py] kk p] (.Tuple [e,f] kt pt) pos) (.own2 i j m m') :=
 SS.own2 G.l L.ok (mm n h) (Kd.w hk) (mm n' h') (Kd.w hk') hs he hs' hf hxy (aM hs hs' hxy hc)
end
noncomputable def uL : Tm := ⟨⟨#[]⟩,⟨#[]⟩,⟨[],[],none,[],[],none,[]⟩,.stmts [],⟨.module,[],false,false,[]⟩,[],none,0,0,⟨0,0,0,0⟩⟩
noncomputable def tK (s : Option Stmt) (qual : Str) (caps : List Str) (self : Option Str) (c P : Addr) : Tm := match s with
 | some (.FunctionDef n ps b _ _ _ sc _ _ pos) => ⟨n,qual,ps,.stmts b,sc,caps,self,c,P,pos⟩
 | _ => uL
noncomputable def ub (e : Expr) (qual : Str) (caps : List Str) (c P : Addr) : Tm := match e with
 | .Lambda ps b sc pos => ⟨Str.ofString "<lambda>",qual,ps,.expr b,sc,caps,none,c,P,pos⟩
 | _ => uL
noncomputable def uA : Expr := match fnB 23 with
 | [.Return (some (.Call _ _ [⟨_,e,_⟩] _)) _] => e
 | _ => .Constant .none 0 ⟨0,0,0,0⟩
noncomputable def uE : Expr := match uA with
 | .Lambda _ b _ _ => b
 | _ => .Constant .none 0 ⟨0,0,0,0⟩
noncomputable def mT : Tm := tK ((fnB 9)[1]?) (Str.ofString "_int2digits.<locals>.inner") [Str.ofString "a_digits",Str.ofString "n"] (some (Str.ofString "inner")) 62 58
noncomputable def mQ : Tm := tK ((fnB 10)[0]?) (Str.ofString "_digits2int.<locals>.inner") [Str.ofString "digits",Str.ofString "n"] (some (Str.ofString "inner")) 69 65
noncomputable def mU : Tm := ub uA (Str.ofString "_law_often.<locals>.<lambda>") [Str.ofString "whole",Str.ofString "base"] 148 144
noncomputable def tms : Tms
 | 0 => some mT
 | 1 => some mQ
 | 2 => some mU
 | _ => none
theorem kX {lay : Lay} {caps : List Str} {cap : List Nat} (h : ((caps.zip cap).all fun p => inL lay (p.1,Kd.frz,p.2)) = true) : ∀ (n : Nat) x i,caps[n]? = some x → cap[n]? = some i → (x,Kd.frz,i) ∈ lay := fun n x i h1 h2 => by
 have : (x,i) ∈ caps.zip cap := List.mem_of_getElem? (i := n) (by rw [List.getElem?_zip_eq_some]; exact ⟨h1,h2⟩)
 exact G5.mp (z4.mp h _ this)
theorem gP {names : List (Str × NameKind)} {caps : List Str} (h : (caps.all fun x => inN names x .free) = true) : ∀ x ∈ caps,(x,NameKind.free) ∈ names := fun x hx => B0.mp (z4.mp h x hx)
theorem iC {names : List (Str × NameKind)} {x : Str} (h : inN names x .free = true) : (x,NameKind.free) ∈ names := B0.mp h
theorem gR {lay : Lay} {names : List (Str × NameKind)} (h : (names.all fun q => !(q.2 == .free) || lay.any fun e => e.1 == q.1 && (Kd.beq e.2.1 .cel || Kd.beq e.2.1 .frz)) = true) : ∀ x,(x,NameKind.free) ∈ names → ∃ k i,(x,k,i) ∈ lay ∧ (k = .cel ∨ k = .frz) := fun x hx => by
 have := z4.mp h _ hx
 simp only [beq_self_eq_true,Bool.not_true,Bool.false_or,List.any_eq_true,z5,Bool.or_eq_true,Kd.beq_iff,beq_iff_eq] at this
 obtain ⟨⟨y,k,i⟩,h4,h5,h6⟩ := this
 simp only at h5 h6
 exact ⟨k,i,h5 ▸ h4,h6⟩
section
variable {R : Run} {C : Orc} {d : Nat} {mg mb : Str → Option Value}
noncomputable def q0 : Lay := [yL "addr" 0,yL "start" 1,yL "open_pos" 2,yL "result" 3,yL "pos" 4,yL "ch" 5,yG "_iter_escaped_chars",yG "len"]
theorem a0 : B1 q0 := k9 (by decide +kernel)
theorem J4 (G : Glo R mg mb) (O : l9 R C d) : l3 R C d q0 (fnB 2) g8 :=
 (l3.of (SB.cons G.l (SS.ite G.l (Tc G (aV (by decide +kernel)) (Wv a0 0 rfl rfl) O2.notin rfl rfl) (SB.cons G.l (SS.ret G.l (Wv a0 0 rfl rfl)) (SB.nil G.l)) (SB.nil G.l)) (SB.cons G.l (j6 G a0 1 rfl rfl ES.int rfl) (SB.cons G.l (j6 G a0 2 rfl rfl ES.none rfl) (SB.cons G.l (qS G a0 3 rfl rfl (ESn.list G.l .nil (by decide)) rfl) (SB.cons G.l (SS.forG G.l a0.ok (sg G a0 6 rfl rfl rfl (Wv a0 0 rfl rfl)) (ot a0 4 rfl rfl 5 rfl rfl) (SB.cons G.l (SS.ite G.l (Tc G (Wv a0 5 rfl rfl) (aV (by decide +kernel)) O2.eq rfl rfl) (SB.cons G.l (SS.ite G.l (ET.isNone G.l (Wv a0 2 rfl rfl)) (SB.cons G.l (j6 G a0 2 rfl rfl (Wv a0 4 rfl rfl) rfl) (SB.nil G.l)) (SB.cons G.l (SS.ite G.l (Tc G (Wv a0 1 rfl rfl) (Wv a0 2 rfl rfl) O2.ne rfl rfl) (SB.cons G.l (SS.append G.l (Wv a0 3 rfl rfl) rfl rfl rfl (ES.sliceMid G.l (Wv a0 0 rfl rfl) (Wv a0 1 rfl rfl) (Wv a0 2 rfl rfl))) (SB.nil G.l)) (SB.nil G.l)) (SB.cons G.l (j6 G a0 1 rfl rfl (ES.bin G.l (Wv a0 4 rfl rfl) ES.int O2.add) rfl) (SB.cons G.l (j6 G a0 2 rfl rfl ES.none rfl) (SB.nil G.l))))) (SB.nil G.l)) (SB.nil G.l)) (SB.nil G.l))) (SB.cons G.l (SS.ite G.l (Tc G (Wv a0 1 rfl rfl) (Wb1 G a0 7 rfl 0 rfl rfl (Wv a0 0 rfl rfl) O1.len) O2.lt rfl rfl) (SB.cons G.l (SS.append G.l (Wv a0 3 rfl rfl) rfl rfl rfl (ES.sliceFrom G.l (Wv a0 0 rfl rfl) (Wv a0 1 rfl rfl))) (SB.nil G.l)) (SB.nil G.l)) (SB.cons G.l (SS.ret G.l (ES.join G.l (by decide +kernel) rfl rfl (Wv a0 3 rfl rfl))) (SB.nil G.l)))))))))
noncomputable def x9 : Lay := [yL "addr" 0,yL "opens" 1,yL "pos" 2,yL "ch" 3,yG "_iter_escaped_chars",yG "_strip_quoted_realnames"]
theorem d7 : B1 x9 := k9 (by decide +kernel)
theorem O6 (G : Glo R mg mb) (O : l9 R C d) : l3 R C d x9 (fnB 3) l6 :=
 (l3.of (SB.cons G.l (j6 G d7 0 rfl rfl (ES.call G.l O (Wg G d7 5 rfl 1 rfl) (.cons rfl (Wv d7 0 rfl rfl) .nil) .none nn1) rfl) (SB.cons G.l (j6 G d7 1 rfl rfl ES.int rfl) (SB.cons G.l (SS.forG G.l d7.ok (sg G d7 4 rfl rfl rfl (Wv d7 0 rfl rfl)) (ot d7 2 rfl rfl 3 rfl rfl) (SB.cons G.l (SS.ite G.l (Tc G (Wv d7 3 rfl rfl) (aV (by decide +kernel)) O2.eq rfl rfl) (SB.cons G.l (pf G d7 1 rfl rfl ES.int OI.add) (SB.nil G.l)) (SB.cons G.l (SS.ite G.l (Tc G (Wv d7 3 rfl rfl) (aV (by decide +kernel)) O2.eq rfl rfl) (SB.cons G.l (pf G d7 1 rfl rfl ES.int OI.sub) (SB.cons G.l (SS.ite G.l (Tc G (Wv d7 1 rfl rfl) ES.int O2.lt rfl rfl) (SB.cons G.l (SS.ret G.l ES.bool) (SB.nil G.l)) (SB.nil G.l)) (SB.nil G.l))) (SB.nil G.l)) (SB.nil G.l))) (SB.nil G.l))) (SB.cons G.l (SS.ret G.l (ES.cmp G.l (Wv d7 1 rfl rfl) ES.int O2.eq rfl)) (SB.nil G.l))))))
noncomputable def u6 : Lay := [yL "email_header_fields" 0,yL "accepted_values" 1,yL "v" 2,yG "_check_parenthesis"]
theorem i5 : B1 u6 := k9 (by decide +kernel)
theorem K9 (G : Glo R mg mb) (O : l9 R C d) : l3 R C d u6 (fnB 4) j7 :=
 (l3.of (SB.cons G.l (qS G i5 1 rfl rfl (ESn.list G.l .nil (by decide)) rfl) (SB.cons G.l (SS.for G.l i5.ok (IS.val (by rfl) (Wv i5 0 rfl rfl)) (V9 i5 2 rfl rfl) (SB.cons G.l (SS.ite G.l (ET.not G.l (ET.of G.l (ES.call G.l O (Wg G i5 3 rfl 2 rfl) (.cons rfl (Wv i5 2 rfl rfl) .nil) .none nn1) (fun _ _ => rfl))) (SB.cons G.l (j6 G i5 2 rfl rfl (aV (by decide +kernel)) rfl) (SB.nil G.l)) (SB.nil G.l)) (SB.cons G.l (SS.append G.l (Wv i5 1 rfl rfl) rfl rfl rfl (Wv i5 2 rfl rfl)) (SB.nil G.l)))) (SB.cons G.l (SS.ret G.l (Wv i5 1 rfl rfl)) (SB.nil G.l)))))
noncomputable def L3 : Lay := [yL "a" 0,yL "b" 1,yL "n" 2,yL "pad" 3,yL "half_n" 4,yL "mask" 5,yL "b1" 6,yL "b2" 7,yL "q1" 8,yL "r" 9,yL "q2" 10,yG "_DIV_LIMIT",yG "_div3n2n",yG "divmod"]
theorem c7 : B1 L3 := k9 (by decide +kernel)
theorem eE (G : Glo R mg mb) (O : l9 R C d) : l3 R C d L3 (fnB 7) o6 :=
 (l3.of (SB.cons G.l (SS.ite G.l (Tc G (ES.bin G.l (ES.bitlen G.l rfl rfl (Wv c7 0 rfl rfl)) (Wv c7 2 rfl rfl) O2.sub) (vx G c7 11 rfl) O2.le rfl rfl) (SB.cons G.l (SS.ret G.l (Wb2 G c7 13 rfl 4 rfl rfl (Wv c7 0 rfl rfl) rfl (Wv c7 1 rfl rfl) O2.divmod)) (SB.nil G.l)) (SB.nil G.l)) (SB.cons G.l (j6 G c7 3 rfl rfl (ES.bin G.l (Wv c7 2 rfl rfl) ES.int O2.band) rfl) (SB.cons G.l (SS.ite G.l (ET.of G.l (Wv c7 3 rfl rfl) (fun _ _ => rfl)) (SB.cons G.l (pf G c7 0 rfl rfl ES.int OI.shl) (SB.cons G.l (pf G c7 1 rfl rfl ES.int OI.shl) (SB.cons G.l (pf G c7 2 rfl rfl ES.int OI.add) (SB.nil G.l)))) (SB.nil G.l)) (SB.cons G.l (j6 G c7 4 rfl rfl (ES.bin G.l (Wv c7 2 rfl rfl) ES.int O2.shr) rfl) (SB.cons G.l (j6 G c7 5 rfl rfl (ES.bin G.l (ES.bin G.l ES.int (Wv c7 4 rfl rfl) O2.shl) ES.int O2.sub) rfl) (SB.cons G.l (lj G c7 6 rfl rfl 7 rfl rfl (ES.tup G.l (.cons rfl (ES.bin G.l (Wv c7 1 rfl rfl) (Wv c7 4 rfl rfl) O2.shr) (.cons rfl (ES.bin G.l (Wv c7 1 rfl rfl) (Wv c7 5 rfl rfl) O2.band) .nil)) (by decide)) (by decide +kernel) rfl rfl rfl) (SB.cons G.l (jF G c7 8 rfl rfl 9 rfl rfl (ES.call G.l O (Wg G c7 12 rfl 5 rfl) (.cons rfl (ES.bin G.l (Wv c7 0 rfl rfl) (Wv c7 2 rfl rfl) O2.shr) (.cons rfl (ES.bin G.l (ES.bin G.l (Wv c7 0 rfl rfl) (Wv c7 4 rfl rfl) O2.shr) (Wv c7 5 rfl rfl) O2.band) (.cons rfl (Wv c7 1 rfl rfl) (.cons rfl (Wv c7 6 rfl rfl) (.cons rfl (Wv c7 7 rfl rfl) (.cons rfl (Wv c7 4 rfl rfl) .nil)))))) .none nn1) (by decide +kernel) (fun _ _ _ h => by cases h)) (SB.cons G.l (jF G c7 10 rfl rfl 9 rfl rfl (ES.call G.l O (Wg G c7 12 rfl 5 rfl) (.cons rfl (Wv c7 9 rfl rfl) (.cons rfl (ES.bin G.l (Wv c7 0 rfl rfl) (Wv c7 5 rfl rfl) O2.band) (.cons rfl (Wv c7 1 rfl rfl) (.cons rfl (Wv c7 6 rfl rfl) (.cons rfl (Wv c7 7 rfl rfl) (.cons rfl (Wv c7 4 rfl rfl) .nil)))))) .none nn1) (by decide +kernel) (fun _ _ _ h => by cases h)) (SB.cons G.l (SS.ite G.l (ET.of G.l (Wv c7 3 rfl rfl) (fun _ _ => rfl)) (SB.cons G.l (pf G c7 9 rfl rfl ES.int OI.shr) (SB.nil G.l)) (SB.nil G.l)) (SB.cons G.l (SS.ret G.l (ES.tup G.l (.cons rfl (ES.bin G.l (ES.bin G.l (Wv c7 8 rfl rfl) (Wv c7 4 rfl rfl) O2.shl) (Wv c7 10 rfl rfl) O2.bor) (.cons rfl (Wv c7 9 rfl rfl) .nil)) (by decide))) (SB.nil G.l))))))))))))
noncomputable def L7 : Lay := [yL "a12" 0,yL "a3" 1,yL "b" 2,yL "b1" 3,yL "b2" 4,yL "n" 5,yL "q" 6,yL "r" 7,yG "_div2n1n"]
theorem f4 : B1 L7 := k9 (by decide +kernel)
theorem fc (G : Glo R mg mb) (O : l9 R C d) : l3 R C d L7 (fnB 8) N6 :=
 (l3.of (SB.cons G.l (SS.ite G.l (Tc G (ES.bin G.l (Wv f4 0 rfl rfl) (Wv f4 5 rfl rfl) O2.shr) (Wv f4 3 rfl rfl) O2.eq rfl rfl) (SB.cons G.l (lj G f4 6 rfl rfl 7 rfl rfl (ES.tup G.l (.cons rfl (ES.bin G.l (ES.bin G.l ES.int (Wv f4 5 rfl rfl) O2.shl) ES.int O2.sub) (.cons rfl (ES.bin G.l (ES.bin G.l (Wv f4 0 rfl rfl) (ES.bin G.l (Wv f4 3 rfl rfl) (Wv f4 5 rfl rfl) O2.shl) O2.sub) (Wv f4 3 rfl rfl) O2.add) .nil)) (by decide)) (by decide +kernel) rfl rfl rfl) (SB.nil G.l)) (SB.cons G.l (jF G f4 6 rfl rfl 7 rfl rfl (ES.call G.l O (Wg G f4 8 rfl 4 rfl) (.cons rfl (Wv f4 0 rfl rfl) (.cons rfl (Wv f4 3 rfl rfl) (.cons rfl (Wv f4 5 rfl rfl) .nil))) .none nn1) (by decide +kernel) (fun _ _ _ h => by cases h)) (SB.nil G.l))) (SB.cons G.l (j6 G f4 7 rfl rfl (ES.bin G.l (ES.bin G.l (ES.bin G.l (Wv f4 7 rfl rfl) (Wv f4 5 rfl rfl) O2.shl) (Wv f4 1 rfl rfl) O2.bor) (ES.bin G.l (Wv f4 6 rfl rfl) (Wv f4 4 rfl rfl) O2.mul) O2.sub) rfl) (SB.cons G.l (SS.wh G.l (Tc G (Wv f4 7 rfl rfl) ES.int O2.lt rfl rfl) (SB.cons G.l (pf G f4 6 rfl rfl ES.int OI.sub) (SB.cons G.l (pf G f4 7 rfl rfl (Wv f4 2 rfl rfl) OI.add) (SB.nil G.l)))) (SB.cons G.l (SS.ret G.l (ES.tup G.l (.cons rfl (Wv f4 6 rfl rfl) (.cons rfl (Wv f4 7 rfl rfl) .nil)) (by decide))) (SB.nil G.l))))))
noncomputable def y2 : Lay := [yL "x" 0,yL "L" 1,yL "R" 2,yF "a_digits" 3,yL "mid" 4,yL "shift" 5,yF "n" 6,yL "upper" 7,yL "lower" 8,yF "inner" 9]
theorem c6 : B1 y2 := k9 (by decide +kernel)
theorem Q0 (G : Glo R mg mb) (O : l9 R C d) : l3 R C d y2 (inB 9 1) u3 :=
 (l3.of (SB.cons G.l (SS.ite G.l (Tc G (ES.bin G.l (Wv c6 1 rfl rfl) ES.int O2.add) (Wv c6 2 rfl rfl) O2.eq rfl rfl) (SB.cons G.l (SS.setat G.l (Wv c6 3 rfl rfl) (Wv c6 1 rfl rfl) (Wv c6 0 rfl rfl) rfl) (SB.cons G.l (SS.ret0 G.l) (SB.nil G.l))) (SB.nil G.l)) (SB.cons G.l (j6 G c6 4 rfl rfl (ES.bin G.l (ES.bin G.l (Wv c6 1 rfl rfl) (Wv c6 2 rfl rfl) O2.add) ES.int O2.shr) rfl) (SB.cons G.l (j6 G c6 5 rfl rfl (ES.bin G.l (ES.bin G.l (Wv c6 4 rfl rfl) (Wv c6 1 rfl rfl) O2.sub) (Wv c6 6 rfl rfl) O2.mul) rfl) (SB.cons G.l (j6 G c6 7 rfl rfl (ES.bin G.l (Wv c6 0 rfl rfl) (Wv c6 5 rfl rfl) O2.shr) rfl) (SB.cons G.l (j6 G c6 8 rfl rfl (ES.bin G.l (Wv c6 0 rfl rfl) (ES.bin G.l (Wv c6 7 rfl rfl) (Wv c6 5 rfl rfl) O2.shl) O2.bxor) rfl) (SB.cons G.l (SS.scall G.l O (Wv c6 9 rfl rfl) (.cons rfl (Wv c6 8 rfl rfl) (.cons rfl (Wv c6 1 rfl rfl) (.cons rfl (Wv c6 4 rfl rfl) .nil))) .none nn1) (SB.cons G.l (SS.scall G.l O (Wv c6 9 rfl rfl) (.cons rfl (Wv c6 7 rfl rfl) (.cons rfl (Wv c6 4 rfl rfl) (.cons rfl (Wv c6 2 rfl rfl) .nil))) .none nn1) (SB.nil G.l)))))))))
noncomputable def E1 : Lay := [yL "a" 0,yC "n" 1,yC "a_digits" 2,yC "inner" 3,yG "len",(Str.ofString "_int2digits.<locals>.",.cod,62)]
theorem B2 : B1 E1 := k9 (by decide +kernel)
noncomputable def aR : Lay := [yL "a" 0,yF "n" 1,yF "a_digits" 2,yC "inner" 3,yG "len",(Str.ofString "_int2digits.<locals>.",.cod,62)]
theorem Z5 : B1 aR := k9 (by decide +kernel)
noncomputable def P8 : Lay := [yL "a" 0,yF "n" 1,yF "a_digits" 2,yF "inner" 3,yG "len",(Str.ofString "_int2digits.<locals>.",.cod,62)]
theorem r9 : B1 P8 := k9 (by decide +kernel)
theorem aZ (G : Glo R mg mb) (O : l9 R C d) (hT : ∀ k t,tms k = some t → R.Θ k = some t) : l3 R C d E1 (fnB 9) C2 :=
 (l3.cons G.l (qS G B2 2 rfl rfl (ESn.rep G.l (ES.bin G.l (ES.bin G.l (ES.bin G.l (ES.bitlen G.l rfl rfl (Wv B2 0 rfl rfl)) (Wv B2 1 rfl rfl) O2.add) ES.int O2.sub) (Wv B2 1 rfl rfl) O2.fdiv)) rfl) (l3.freeze G.l (cZ (by decide +kernel)) (l3.defn (t := mT) (q := Str.ofString "_int2digits.<locals>.") (lay' := P8) G.K G.l Z5.ok r9.ok (hT 0 _ rfl) (mm 5 rfl) (by decide +kernel) rfl rfl rfl rfl (fun _ => rfl) (cZ (by decide +kernel)) (mm 3 rfl) (mm 3 rfl) (by decide) rfl (kX (by decide +kernel)) (gP (by decide +kernel)) (iC (by decide +kernel)) (gR (by decide +kernel)) (l3.of (SB.cons G.l (SS.ite G.l (ET.of G.l (Wv r9 0 rfl rfl) (fun _ _ => rfl)) (SB.cons G.l (SS.scall G.l O (Wv r9 3 rfl rfl) (.cons rfl (Wv r9 0 rfl rfl) (.cons rfl ES.int (.cons rfl (Wb1 G r9 4 rfl 0 rfl rfl (Wv r9 2 rfl rfl) O1.len) .nil))) .none nn1) (SB.nil G.l)) (SB.nil G.l)) (SB.cons G.l (SS.ret G.l (Wv r9 2 rfl rfl)) (SB.nil G.l)))))))
noncomputable def y1 : Lay := [yL "L" 0,yL "R" 1,yF "digits" 2,yL "mid" 3,yL "shift" 4,yF "n" 5,yF "inner" 6]
theorem d4 : B1 y1 := k9 (by decide +kernel)
theorem Q1 (G : Glo R mg mb) (O : l9 R C d) : l3 R C d y1 (inB 10 0) u0 :=
 (l3.of (SB.cons G.l (SS.ite G.l (Tc G (ES.bin G.l (Wv d4 0 rfl rfl) ES.int O2.add) (Wv d4 1 rfl rfl) O2.eq rfl rfl) (SB.cons G.l (SS.ret G.l (ES.idx G.l (Wv d4 2 rfl rfl) (Wv d4 0 rfl rfl) rfl)) (SB.nil G.l)) (SB.nil G.l)) (SB.cons G.l (j6 G d4 3 rfl rfl (ES.bin G.l (ES.bin G.l (Wv d4 0 rfl rfl) (Wv d4 1 rfl rfl) O2.add) ES.int O2.shr) rfl) (SB.cons G.l (j6 G d4 4 rfl rfl (ES.bin G.l (ES.bin G.l (Wv d4 3 rfl rfl) (Wv d4 0 rfl rfl) O2.sub) (Wv d4 5 rfl rfl) O2.mul) rfl) (SB.cons G.l (SS.ret G.l (ES.bin G.l (ES.bin G.l (ES.call G.l O (Wv d4 6 rfl rfl) (.cons rfl (Wv d4 3 rfl rfl) (.cons rfl (Wv d4 1 rfl rfl) .nil)) .none nn1) (Wv d4 4 rfl rfl) O2.shl) (ES.call G.l O (Wv d4 6 rfl rfl) (.cons rfl (Wv d4 0 rfl rfl) (.cons rfl (Wv d4 3 rfl rfl) .nil)) .none nn1) O2.add)) (SB.nil G.l))))))
noncomputable def K4 : Lay := [yC "digits" 0,yC "n" 1,yC "inner" 2,yG "len",(Str.ofString "_digits2int.<locals>.",.cod,69)]
noncomputable def bf : Lay := [yF "digits" 0,yF "n" 1,yC "inner" 2,yG "len",(Str.ofString "_digits2int.<locals>.",.cod,69)]
theorem X3 : B1 bf := k9 (by decide +kernel)
noncomputable def P7 : Lay := [yF "digits" 0,yF "n" 1,yF "inner" 2,yG "len",(Str.ofString "_digits2int.<locals>.",.cod,69)]
theorem y8 : B1 P7 := k9 (by decide +kernel)
theorem bl (G : Glo R mg mb) (O : l9 R C d) (hT : ∀ k t,tms k = some t → R.Θ k = some t) : l3 R C d K4 (fnB 10) C3 :=
 (l3.freeze G.l (cZ (by decide +kernel)) (l3.defn (t := mQ) (q := Str.ofString "_digits2int.<locals>.") (lay' := P7) G.K G.l X3.ok y8.ok (hT 1 _ rfl) (mm 4 rfl) (by decide +kernel) rfl rfl rfl rfl (fun _ => rfl) (cZ (by decide +kernel)) (mm 2 rfl) (mm 2 rfl) (by decide) rfl (kX (by decide +kernel)) (gP (by decide +kernel)) (iC (by decide +kernel)) (gR (by decide +kernel)) (l3.of (SB.cons G.l (SS.ret G.l (ES.ite G.l (ET.of G.l (Wv y8 0 rfl rfl) (fun _ _ => rfl)) (ES.call G.l O (Wv y8 2 rfl rfl) (.cons rfl ES.int (.cons rfl (Wb1 G y8 3 rfl 0 rfl rfl (Wv y8 0 rfl rfl) O1.len) .nil)) .none nn1) ES.int)) (SB.nil G.l)))))
noncomputable def E2 : Lay := [yL "a" 0,yL "b" 1,yL "n" 2,yL "a_digits" 3,yL "r" 4,yL "q_digits" 5,yL "a_digit" 6,yL "q_digit" 7,yL "q" 8,yG "_digits2int",yG "_div2n1n",yG "_int2digits",yG "reversed"]
theorem d0 : B1 E2 := k9 (by decide +kernel)
theorem aX (G : Glo R mg mb) (O : l9 R C d) : l3 R C d E2 (fnB 11) o5 :=
 (l3.of (SB.cons G.l (j6 G d0 2 rfl rfl (ES.bitlen G.l rfl rfl (Wv d0 1 rfl rfl)) rfl) (SB.cons G.l (j6 G d0 3 rfl rfl (ES.call G.l O (Wg G d0 11 rfl 6 rfl) (.cons rfl (Wv d0 0 rfl rfl) (.cons rfl (Wv d0 2 rfl rfl) .nil)) .none nn1) rfl) (SB.cons G.l (j6 G d0 4 rfl rfl ES.int rfl) (SB.cons G.l (qS G d0 5 rfl rfl (ESn.list G.l .nil (by decide)) rfl) (SB.cons G.l (SS.for G.l d0.ok (tJ G d0 12 rfl rfl rfl (Wv d0 3 rfl rfl)) (V9 d0 6 rfl rfl) (SB.cons G.l (jF G d0 7 rfl rfl 4 rfl rfl (ES.call G.l O (Wg G d0 10 rfl 4 rfl) (.cons rfl (ES.bin G.l (ES.bin G.l (Wv d0 4 rfl rfl) (Wv d0 2 rfl rfl) O2.shl) (Wv d0 6 rfl rfl) O2.add) (.cons rfl (Wv d0 1 rfl rfl) (.cons rfl (Wv d0 2 rfl rfl) .nil))) .none nn1) (by decide +kernel) (fun _ _ _ h => by cases h)) (SB.cons G.l (SS.append G.l (Wv d0 5 rfl rfl) rfl rfl rfl (Wv d0 7 rfl rfl)) (SB.nil G.l)))) (SB.cons G.l (SS.reverse G.l (Wv d0 5 rfl rfl) rfl rfl) (SB.cons G.l (j6 G d0 8 rfl rfl (ES.call G.l O (Wg G d0 9 rfl 7 rfl) (.cons rfl (Wv d0 5 rfl rfl) (.cons rfl (Wv d0 2 rfl rfl) .nil)) .none nn1) rfl) (SB.cons G.l (SS.ret G.l (ES.tup G.l (.cons rfl (Wv d0 8 rfl rfl) (.cons rfl (Wv d0 4 rfl rfl) .nil)) (by decide))) (SB.nil G.l))))))))))
noncomputable def G9 : Lay := [yL "a" 0,yL "b" 1,yL "q" 2,yL "r" 3,yG "_divmod_pos",yG "int_divmod"]
theorem i6 : B1 G9 := k9 (by decide +kernel)
theorem ck (G : Glo R mg mb) (O : l9 R C d) : l3 R C d G9 (fnB 12) y0 :=
 (l3.of (SB.cons G.l (SS.ite G.l (Tc G (Wv i6 1 rfl rfl) ES.int O2.eq rfl rfl) (SB.cons G.l SS.fail (SB.nil G.l)) (SB.cons G.l (SS.ite G.l (Tc G (Wv i6 1 rfl rfl) ES.int O2.lt rfl rfl) (SB.cons G.l (jF G i6 2 rfl rfl 3 rfl rfl (ES.call G.l O (Wg G i6 5 rfl 9 rfl) (.cons rfl (ES.un G.l (Wv i6 0 rfl rfl) O1.neg) (.cons rfl (ES.un G.l (Wv i6 1 rfl rfl) O1.neg) .nil)) .none nn1) (by decide +kernel) (fun _ _ _ h => by cases h)) (SB.cons G.l (SS.ret G.l (ES.tup G.l (.cons rfl (Wv i6 2 rfl rfl) (.cons rfl (ES.un G.l (Wv i6 3 rfl rfl) O1.neg) .nil)) (by decide))) (SB.nil G.l))) (SB.cons G.l (SS.ite G.l (Tc G (Wv i6 0 rfl rfl) ES.int O2.lt rfl rfl) (SB.cons G.l (jF G i6 2 rfl rfl 3 rfl rfl (ES.call G.l O (Wg G i6 5 rfl 9 rfl) (.cons rfl (ES.un G.l (Wv i6 0 rfl rfl) O1.inv) (.cons rfl (Wv i6 1 rfl rfl) .nil)) .none nn1) (by decide +kernel) (fun _ _ _ h => by cases h)) (SB.cons G.l (SS.ret G.l (ES.tup G.l (.cons rfl (ES.un G.l (Wv i6 2 rfl rfl) O1.inv) (.cons rfl (ES.bin G.l (Wv i6 1 rfl rfl) (ES.un G.l (Wv i6 3 rfl rfl) O1.inv) O2.add) .nil)) (by decide))) (SB.nil G.l))) (SB.cons G.l (SS.ret G.l (ES.call G.l O (Wg G i6 4 rfl 8 rfl) (.cons rfl (Wv i6 0 rfl rfl) (.cons rfl (Wv i6 1 rfl rfl) .nil)) .none nn1)) (SB.nil G.l))) (SB.nil G.l))) (SB.nil G.l))) (SB.nil G.l)))
noncomputable def D2 : Lay := [yL "a" 0,yL "x" 1,yL "lo" 2,yL "hi" 3,yL "key" 4,yG "bisect_right"]
theorem f8 : B1 D2 := k9 (by decide +kernel)
theorem aw (G : Glo R mg mb) (O : l9 R C d) : l3 R C d D2 (fnB 14) Q9 :=
 (l3.of (SB.cons G.l (SS.ite G.l (ET.isNone G.l (Wv f8 4 rfl rfl)) (SB.cons G.l (j6 G f8 2 rfl rfl (ES.call G.l O (Wg G f8 5 rfl 11 rfl) (.cons rfl (Wv f8 0 rfl rfl) (.cons rfl (Wv f8 1 rfl rfl) (.cons rfl (Wv f8 2 rfl rfl) (.cons rfl (Wv f8 3 rfl rfl) .nil)))) .none nn1) rfl) (SB.nil G.l)) (SB.cons G.l (j6 G f8 2 rfl rfl (ES.call G.l O (Wg G f8 5 rfl 11 rfl) (.cons rfl (Wv f8 0 rfl rfl) (.cons rfl (ES.call G.l O (Wv f8 4 rfl rfl) (.cons rfl (Wv f8 1 rfl rfl) .nil) .none nn1) (.cons rfl (Wv f8 2 rfl rfl) (.cons rfl (Wv f8 3 rfl rfl) .nil)))) (.some (Wv f8 4 rfl rfl)) nn1) rfl) (SB.nil G.l))) (SB.cons G.l (SS.insert G.l (Wv f8 0 rfl rfl) rfl rfl rfl rfl (Wv f8 2 rfl rfl) (Wv f8 1 rfl rfl)) (SB.nil G.l))))
noncomputable def C9 : Lay := [yL "a" 0,yL "x" 1,yL "lo" 2,yL "hi" 3,yL "key" 4,yL "mid" 5,yG "len"]
theorem c8 : B1 C9 := k9 (by decide +kernel)
theorem aj (G : Glo R mg mb) (O : l9 R C d) : l3 R C d C9 (fnB 15) T5 :=
 (l3.of (SB.cons G.l (SS.ite G.l (Tc G (Wv c8 2 rfl rfl) ES.int O2.lt rfl rfl) (SB.cons G.l SS.fail (SB.nil G.l)) (SB.nil G.l)) (SB.cons G.l (SS.ite G.l (ET.isNone G.l (Wv c8 3 rfl rfl)) (SB.cons G.l (j6 G c8 3 rfl rfl (Wb1 G c8 6 rfl 0 rfl rfl (Wv c8 0 rfl rfl) O1.len) rfl) (SB.nil G.l)) (SB.nil G.l)) (SB.cons G.l (SS.ite G.l (ET.isNone G.l (Wv c8 4 rfl rfl)) (SB.cons G.l (SS.wh G.l (Tc G (Wv c8 2 rfl rfl) (Wv c8 3 rfl rfl) O2.lt rfl rfl) (SB.cons G.l (j6 G c8 5 rfl rfl (ES.bin G.l (ES.bin G.l (Wv c8 2 rfl rfl) (Wv c8 3 rfl rfl) O2.add) ES.int O2.fdiv) rfl) (SB.cons G.l (SS.ite G.l (Tc G (Wv c8 1 rfl rfl) (ES.idx G.l (Wv c8 0 rfl rfl) (Wv c8 5 rfl rfl) rfl) O2.lt rfl rfl) (SB.cons G.l (j6 G c8 3 rfl rfl (Wv c8 5 rfl rfl) rfl) (SB.nil G.l)) (SB.cons G.l (j6 G c8 2 rfl rfl (ES.bin G.l (Wv c8 5 rfl rfl) ES.int O2.add) rfl) (SB.nil G.l))) (SB.nil G.l)))) (SB.nil G.l)) (SB.cons G.l (SS.wh G.l (Tc G (Wv c8 2 rfl rfl) (Wv c8 3 rfl rfl) O2.lt rfl rfl) (SB.cons G.l (j6 G c8 5 rfl rfl (ES.bin G.l (ES.bin G.l (Wv c8 2 rfl rfl) (Wv c8 3 rfl rfl) O2.add) ES.int O2.fdiv) rfl) (SB.cons G.l (SS.ite G.l (Tc G (Wv c8 1 rfl rfl) (ES.call G.l O (Wv c8 4 rfl rfl) (.cons rfl (ES.idx G.l (Wv c8 0 rfl rfl) (Wv c8 5 rfl rfl) rfl) .nil) .none nn1) O2.lt rfl rfl) (SB.cons G.l (j6 G c8 3 rfl rfl (Wv c8 5 rfl rfl) rfl) (SB.nil G.l)) (SB.cons G.l (j6 G c8 2 rfl rfl (ES.bin G.l (Wv c8 5 rfl rfl) ES.int O2.add) rfl) (SB.nil G.l))) (SB.nil G.l)))) (SB.nil G.l))) (SB.cons G.l (SS.ret G.l (Wv c8 2 rfl rfl)) (SB.nil G.l))))))
noncomputable def E6 : Lay := [yL "a" 0,yL "x" 1,yL "lo" 2,yL "hi" 3,yL "key" 4,yL "mid" 5,yG "len"]
theorem c9 : B1 E6 := k9 (by decide +kernel)
theorem aW (G : Glo R mg mb) (O : l9 R C d) : l3 R C d E6 (fnB 16) A7 :=
 (l3.of (SB.cons G.l (SS.ite G.l (Tc G (Wv c9 2 rfl rfl) ES.int O2.lt rfl rfl) (SB.cons G.l SS.fail (SB.nil G.l)) (SB.nil G.l)) (SB.cons G.l (SS.ite G.l (ET.isNone G.l (Wv c9 3 rfl rfl)) (SB.cons G.l (j6 G c9 3 rfl rfl (Wb1 G c9 6 rfl 0 rfl rfl (Wv c9 0 rfl rfl) O1.len) rfl) (SB.nil G.l)) (SB.nil G.l)) (SB.cons G.l (SS.ite G.l (ET.isNone G.l (Wv c9 4 rfl rfl)) (SB.cons G.l (SS.wh G.l (Tc G (Wv c9 2 rfl rfl) (Wv c9 3 rfl rfl) O2.lt rfl rfl) (SB.cons G.l (j6 G c9 5 rfl rfl (ES.bin G.l (ES.bin G.l (Wv c9 2 rfl rfl) (Wv c9 3 rfl rfl) O2.add) ES.int O2.fdiv) rfl) (SB.cons G.l (SS.ite G.l (Tc G (ES.idx G.l (Wv c9 0 rfl rfl) (Wv c9 5 rfl rfl) rfl) (Wv c9 1 rfl rfl) O2.lt rfl rfl) (SB.cons G.l (j6 G c9 2 rfl rfl (ES.bin G.l (Wv c9 5 rfl rfl) ES.int O2.add) rfl) (SB.nil G.l)) (SB.cons G.l (j6 G c9 3 rfl rfl (Wv c9 5 rfl rfl) rfl) (SB.nil G.l))) (SB.nil G.l)))) (SB.nil G.l)) (SB.cons G.l (SS.wh G.l (Tc G (Wv c9 2 rfl rfl) (Wv c9 3 rfl rfl) O2.lt rfl rfl) (SB.cons G.l (j6 G c9 5 rfl rfl (ES.bin G.l (ES.bin G.l (Wv c9 2 rfl rfl) (Wv c9 3 rfl rfl) O2.add) ES.int O2.fdiv) rfl) (SB.cons G.l (SS.ite G.l (Tc G (ES.call G.l O (Wv c9 4 rfl rfl) (.cons rfl (ES.idx G.l (Wv c9 0 rfl rfl) (Wv c9 5 rfl rfl) rfl) .nil) .none nn1) (Wv c9 1 rfl rfl) O2.lt rfl rfl) (SB.cons G.l (j6 G c9 2 rfl rfl (ES.bin G.l (Wv c9 5 rfl rfl) ES.int O2.add) rfl) (SB.nil G.l)) (SB.cons G.l (j6 G c9 3 rfl rfl (Wv c9 5 rfl rfl) rfl) (SB.nil G.l))) (SB.nil G.l)))) (SB.nil G.l))) (SB.cons G.l (SS.ret G.l (Wv c9 2 rfl rfl)) (SB.nil G.l))))))
noncomputable def H2 : Lay := [yL "pair" 0]
theorem bk : B1 H2 := k9 (by decide +kernel)
theorem cy (G : Glo R mg mb) (O : l9 R C d) : l3 R C d H2 (fnB 18) X8 :=
 (l3.of (SB.cons G.l (SS.ret G.l (ES.idx G.l (Wv bk 0 rfl rfl) ES.int rfl)) (SB.nil G.l)))
noncomputable def J5 : Lay := [yL "rows" 0,yL "step" 1,yG "range"]
theorem w8 : B1 J5 := k9 (by decide +kernel)
noncomputable def P6 : Lay := [yL "row" 2,yL "sign" 3]
theorem w0 : B1 P6 := k9 (by decide +kernel)
theorem dl (G : Glo R mg mb) (O : l9 R C d) : l3 R C d J5 (fnB 19) aK :=
 (l3.of (SB.cons G.l (j6 G w8 0 rfl rfl (ES.list G.l (.cons rfl (aV (by decide +kernel)) .nil) (by decide)) rfl) (SB.cons G.l (SS.for G.l w8.ok (D4 G w8 2 rfl rfl (.cons rfl ES.int .nil)) (V9 w8 1 rfl rfl) (SB.cons G.l (SS.assignComp2 G.l w8.ok (mm 0 rfl) rfl (by decide +kernel) (lay' := P6) (m9 rfl (by decide +kernel) (by decide +kernel)) (V9 w0 0 rfl rfl) (I0 (by decide +kernel)) (V9 w0 1 rfl rfl) (I0 (by decide +kernel)) (IS.val (by rfl) (Wv w8 0 rfl rfl)) (IS.val (by rfl) (aV (by decide +kernel))) (.some (Tc G (ES.count G.l rfl rfl rfl (Wv w0 0 rfl rfl) (Wv w0 1 rfl rfl)) ES.int O2.lt rfl rfl)) (ES.bin G.l (Wv w0 0 rfl rfl) (Wv w0 1 rfl rfl) O2.add)) (SB.nil G.l))) (SB.cons G.l (SS.ret G.l (Wv w8 0 rfl rfl)) (SB.nil G.l)))))
noncomputable def H0 : Lay := [yC "row" 0,yC "pieces" 1,yL "cells" 2,yL "mates" 3,yL "i" 4,yL "j" 5,yG "_check_parenthesis",yG "range"]
theorem d9 : B1 H0 := k9 (by decide +kernel)
noncomputable def M4 : Lay := [yL "k" 6,yC "pieces" 1,yC "row" 0]
theorem w9 : B1 M4 := k9 (by decide +kernel)
theorem bQ (G : Glo R mg mb) (O : l9 R C d) : l3 R C d H0 (fnB 20) I8 :=
 (l3.of (SB.cons G.l (rO G d9 2 rfl rfl 3 rfl rfl rfl (ES.comp G.l (lay' := M4) (m9 rfl (by decide +kernel) (by decide +kernel)) (V9 w9 0 rfl rfl) (I0 (by decide +kernel)) (D4 G d9 7 rfl rfl (.cons rfl ES.int .nil)) .none (ES.bin G.l (ES.idx G.l (Wv w9 2 rfl rfl) (Wv w9 0 rfl rfl) rfl) (ES.idx G.l (Wv w9 1 rfl rfl) (Wv w9 0 rfl rfl) rfl) O2.add)) rfl (ESn.list G.l (.cons rfl ES.int (.cons rfl ES.int (.cons rfl ES.int (.cons rfl ES.int (.cons rfl ES.int (.cons rfl ES.int .nil)))))) (by decide)) (by decide +kernel) rfl) (SB.cons G.l (SS.for G.l d9.ok (D4 G d9 7 rfl rfl (.cons rfl ES.int .nil)) (V9 d9 4 rfl rfl) (SB.cons G.l (SS.for G.l d9.ok (D4 G d9 7 rfl rfl (.cons rfl (ES.bin G.l (Wv d9 4 rfl rfl) ES.int O2.add) (.cons rfl ES.int (.cons rfl ES.int .nil)))) (V9 d9 5 rfl rfl) (SB.cons G.l (SS.ite G.l (ET.and2 G.l (Tc G (ES.idx G.l (Wv d9 3 rfl rfl) (Wv d9 4 rfl rfl) rfl) ES.int O2.eq rfl rfl) (ET.isBool G.l (ES.call G.l O (Wg G d9 6 rfl 2 rfl) (.cons rfl (ES.join G.l (by decide +kernel) rfl rfl (ES.sliceMid G.l (Wv d9 2 rfl rfl) (Wv d9 4 rfl rfl) (ES.bin G.l (Wv d9 5 rfl rfl) ES.int O2.add))) .nil) .none nn1))) (SB.cons G.l (SS.set2 G.l (Wv d9 3 rfl rfl) (Wv d9 3 rfl rfl) (Wv d9 4 rfl rfl) (Wv d9 5 rfl rfl) rfl (Wv d9 5 rfl rfl) rfl (Wv d9 4 rfl rfl)) (SB.nil G.l)) (SB.nil G.l)) (SB.nil G.l))) (SB.nil G.l))) (SB.cons G.l (SS.ret G.l (Wv d9 3 rfl rfl)) (SB.nil G.l)))))
noncomputable def G7 : Lay := [yL "row" 0,yL "mates" 1,yL "i" 2,yL "j" 3,yG "range"]
theorem d5 : B1 G7 := k9 (by decide +kernel)
theorem cA (G : Glo R mg mb) (O : l9 R C d) : l3 R C d G7 (fnB 21) Y5 :=
 (l3.of (SB.cons G.l (qS G d5 1 rfl rfl (ESn.list G.l (.cons rfl ES.int (.cons rfl ES.int (.cons rfl ES.int (.cons rfl ES.int (.cons rfl ES.int (.cons rfl ES.int .nil)))))) (by decide)) rfl) (SB.cons G.l (SS.for G.l d5.ok (D4 G d5 4 rfl rfl (.cons rfl ES.int .nil)) (V9 d5 2 rfl rfl) (SB.cons G.l (SS.for G.l d5.ok (D4 G d5 4 rfl rfl (.cons rfl (Wv d5 2 rfl rfl) .nil)) (V9 d5 3 rfl rfl) (SB.cons G.l (SS.ite G.l (ET.and3 G.l (Tc G (ES.idx G.l (Wv d5 0 rfl rfl) (Wv d5 2 rfl rfl) rfl) (aV (by decide +kernel)) O2.eq rfl rfl) (Tc G (ES.idx G.l (Wv d5 0 rfl rfl) (Wv d5 3 rfl rfl) rfl) (aV (by decide +kernel)) O2.eq rfl rfl) (Tc G (ES.count G.l rfl rfl rfl (ES.sliceMid G.l (Wv d5 0 rfl rfl) (Wv d5 3 rfl rfl) (ES.bin G.l (Wv d5 2 rfl rfl) ES.int O2.add)) (aV (by decide +kernel))) (ES.count G.l rfl rfl rfl (ES.sliceMid G.l (Wv d5 0 rfl rfl) (Wv d5 3 rfl rfl) (ES.bin G.l (Wv d5 2 rfl rfl) ES.int O2.add)) (aV (by decide +kernel))) O2.eq rfl rfl)) (SB.cons G.l (SS.ite G.l (Tc G (ES.idx G.l (Wv d5 1 rfl rfl) (Wv d5 3 rfl rfl) rfl) ES.int O2.eq rfl rfl) (SB.cons G.l (SS.set2 G.l (Wv d5 1 rfl rfl) (Wv d5 1 rfl rfl) (Wv d5 2 rfl rfl) (Wv d5 3 rfl rfl) rfl (Wv d5 3 rfl rfl) rfl (Wv d5 2 rfl rfl)) (SB.nil G.l)) (SB.nil G.l)) (SB.nil G.l)) (SB.nil G.l)) (SB.nil G.l))) (SB.nil G.l))) (SB.cons G.l (SS.ret G.l (Wv d5 1 rfl rfl)) (SB.nil G.l)))))
noncomputable def G8 : Lay := [yL "one" 0,yL "other" 1,yL "rings" 2,yL "met" 3,yL "start" 4,yL "place" 5,yL "step" 6,yG "range"]
theorem d8 : B1 G8 := k9 (by decide +kernel)
theorem bK (G : Glo R mg mb) (O : l9 R C d) : l3 R C d G8 (fnB 22) W7 :=
 (l3.of (SB.cons G.l (lj G d8 2 rfl rfl 3 rfl rfl (ES.tup G.l (.cons rfl ES.int (.cons rfl (ES.list G.l .nil (by decide)) .nil)) (by decide)) (by decide +kernel) rfl rfl rfl) (SB.cons G.l (SS.for G.l d8.ok (D4 G d8 7 rfl rfl (.cons rfl ES.int .nil)) (V9 d8 4 rfl rfl) (SB.cons G.l (SS.ite G.l (Tc G (Wv d8 4 rfl rfl) (Wv d8 3 rfl rfl) O2.notin rfl rfl) (SB.cons G.l (lj G d8 2 rfl rfl 5 rfl rfl (ES.tup G.l (.cons rfl (ES.bin G.l (Wv d8 2 rfl rfl) ES.int O2.add) (.cons rfl (Wv d8 4 rfl rfl) .nil)) (by decide)) (by decide +kernel) rfl rfl rfl) (SB.cons G.l (SS.for G.l d8.ok (D4 G d8 7 rfl rfl (.cons rfl ES.int .nil)) (V9 d8 6 rfl rfl) (SB.cons G.l (j6 G d8 3 rfl rfl (ES.bin G.l (Wv d8 3 rfl rfl) (ES.list G.l (.cons rfl (Wv d8 5 rfl rfl) (.cons rfl (ES.idx G.l (Wv d8 0 rfl rfl) (Wv d8 5 rfl rfl) rfl) .nil)) (by decide)) O2.add) rfl) (SB.cons G.l (j6 G d8 5 rfl rfl (ES.idx G.l (Wv d8 1 rfl rfl) (ES.idx G.l (Wv d8 0 rfl rfl) (Wv d8 5 rfl rfl) rfl) rfl) rfl) (SB.nil G.l)))) (SB.nil G.l))) (SB.nil G.l)) (SB.nil G.l))) (SB.cons G.l (SS.ret G.l (Wv d8 2 rfl rfl)) (SB.nil G.l)))))
noncomputable def y4 : Lay := [yL "power" 0,yF "whole" 1,yF "base" 2,yG "int_divmod"]
theorem w7 : B1 y4 := k9 (by decide +kernel)
theorem Q2 (G : Glo R mg mb) (O : l9 R C d) : ES R C d y4 uE (.ite (.prim .eq (.cons (.prim .idx (.cons (.call (.glob 84) (.cons (.var 1) (.cons (.prim .pow (.cons (.var 2) (.cons (.var 0) .nil))) .nil)) none) (.cons (.lit (.int 1)) .nil))) (.cons (.lit (.int 0)) .nil))) (.lit (.int 0)) (.lit (.int 1))) :=
 (ES.ite G.l (Tc G (ES.idx G.l (ES.call G.l O (Wg G w7 3 rfl 9 rfl) (.cons rfl (Wv w7 1 rfl rfl) (.cons rfl (ES.bin G.l (Wv w7 2 rfl rfl) (Wv w7 0 rfl rfl) O2.pow) .nil)) .none nn1) ES.int rfl) ES.int O2.eq rfl rfl) ES.int ES.int)
noncomputable def M0 : Lay := [yC "whole" 0,yC "base" 1,yG "bisect_left",(Str.ofString "_law_often.<locals>.",.cod,148)]
noncomputable def R1 : Lay := [yF "whole" 0,yF "base" 1,yG "bisect_left",(Str.ofString "_law_often.<locals>.",.cod,148)]
theorem ao : B1 R1 := k9 (by decide +kernel)
theorem cG (G : Glo R mg mb) (O : l9 R C d) (hT : ∀ k t,tms k = some t → R.Θ k = some t) : l3 R C d M0 (fnB 23) Y4 :=
 (l3.freeze G.l (lay' := R1) (cZ (by decide +kernel)) (l3.of (SB.cons G.l (SS.ret G.l (ES.call G.l O (Wg G ao 2 rfl 12 rfl) (.cons rfl (ES.list G.l (.cons rfl ES.int (.cons rfl ES.int (.cons rfl ES.int (.cons rfl ES.int (.cons rfl ES.int (.cons rfl ES.int (.cons rfl ES.int .nil))))))) (by decide)) (.cons rfl ES.int .nil)) (.some (ES.lam G.K G.l (t := mU) (q := Str.ofString "_law_often.<locals>.") (hT 2 _ rfl) (mm 3 rfl) rfl (by decide +kernel) rfl rfl rfl rfl rfl (kX (by decide +kernel)) (gP (by decide +kernel)) (gR (by decide +kernel)))) nn1)) (SB.nil G.l))))
end
section
variable {R : Run} {C : Orc} {d : Nat} {mg mb : Str → Option Value}
noncomputable def t6 : Lay := [yL "script" 0,yC "told" 1,yC "cells" 2,yC "menu" 3,yC "pieces" 4,yC "rows" 5,yC "good" 6,yC "fields" 7,yC "kept" 8,yC "closed" 9,yL "shelf" 10,yL "k" 11,yL "answers" 12,yC "mates" 13,yC "q" 14,yC "table" 15,yC "past" 16,yC "step" 17,yL "lines" 18,yC "line" 19,yL "tops" 20,yL "more" 21,yL "parts" 22,yC "whole" 23,yG "_law_first",yG "_law_rows",yG "_pre_parse_validation",yG "enumerate",yG "insort_right",yG "len",yG "range",yG "sorted",yG "sum",yG "zip"]
theorem c5 : B1 t6 := k9 (by decide +kernel)
noncomputable def dw : Lay := [yL "k" 24,yL "one" 25,yG "sum",yC "told" 1]
theorem H7 : B1 dw := k9 (by decide +kernel)
noncomputable def dO : Lay := [yL "cell" 26,yC "menu" 3]
theorem T6 : B1 dO := k9 (by decide +kernel)
noncomputable def eh : Lay := [yL "k" 28,yC "row" 27]
theorem L6 : B1 eh := k9 (by decide +kernel)
noncomputable def dJ : Lay := [yC "row" 27,yG "min"]
theorem R0 : B1 dJ := k9 (by decide +kernel)
noncomputable def dW : Lay := [yL "k" 30,yC "pieces" 4,yC "row" 29]
theorem I1 : B1 dW := k9 (by decide +kernel)
noncomputable def dI : Lay := [yC "row" 29,yC "pieces" 4,yG "range"]
theorem aJ : B1 dI := k9 (by decide +kernel)
noncomputable def dH : Lay := [yL "i" 31,yC "fields" 7,yC "good" 6,yC "rows" 5]
theorem D6 : B1 dH := k9 (by decide +kernel)
noncomputable def eu : Lay := [yL "i" 32,yC "fields" 7,yC "kept" 8]
theorem D7 : B1 eu := k9 (by decide +kernel)
noncomputable def dT : Lay := [yL "k" 34,yC "cells" 2]
theorem L5 : B1 dT := k9 (by decide +kernel)
noncomputable def bX : Lay := [yL "rank" 35,yL "k" 36,yC "good" 6]
theorem I9 : B1 bX := k9 (by decide +kernel)
noncomputable def bR : Lay := [yL "ahead" 37,yG "_check_parenthesis",yC "cells" 2,yC "closed" 9,yC "fields" 7,yG "sum"]
theorem z6 : B1 bR := k9 (by decide +kernel)
noncomputable def cg : Lay := [yL "answer" 38]
theorem Z2 : B1 cg := k9 (by decide +kernel)
noncomputable def bC : Lay := [yL "answer" 39]
theorem Y2 : B1 bC := k9 (by decide +kernel)
noncomputable def cB : Lay := [yL "rank" 40,yL "row" 41,yG "_law_mates",yC "pieces" 4]
theorem J2 : B1 cB := k9 (by decide +kernel)
noncomputable def cz : Lay := [yL "rank" 42,yL "row" 43,yG "_law_plain"]
theorem P5 : B1 cz := k9 (by decide +kernel)
noncomputable def cr : Lay := [yL "other" 45,yG "_law_rings",yC "one" 44,yC "q" 14]
theorem E8 : B1 cr := k9 (by decide +kernel)
noncomputable def bS : Lay := [yC "one" 44,yC "mates" 13,yC "q" 14]
theorem Z1 : B1 bS := k9 (by decide +kernel)
noncomputable def bT : Lay := [yL "j" 46,yC "line" 19,yC "table" 15]
theorem z7 : B1 bT := k9 (by decide +kernel)
noncomputable def bH : Lay := [yL "j" 47,yC "past" 16]
theorem O3 : B1 bH := k9 (by decide +kernel)
noncomputable def cC : Lay := [yL "top" 48,yL "rest" 49,yG "int_divmod",yC "past" 16,yC "step" 17]
theorem z9 : B1 cC := k9 (by decide +kernel)
noncomputable def cP : Lay := [yL "part" 50,yL "rest" 51]
theorem Y1 : B1 cP := k9 (by decide +kernel)
noncomputable def cQ : Lay := [yL "part" 52,yL "rest" 53]
theorem Y9 : B1 cQ := k9 (by decide +kernel)
noncomputable def cm : Lay := [yL "base" 54,yG "_law_often",yC "whole" 23]
theorem J6 : B1 cm := k9 (by decide +kernel)
theorem nw (G : Glo R mg mb) (O : l9 R C d) : SS R C d t6 ((fnB 24).getD 0 A6) (w3.getD 0 .fail) :=
 (j6 G c5 1 rfl rfl (ES.sliceTo G.l (Wv c5 0 rfl rfl) ES.int) rfl)
theorem nS (G : Glo R mg mb) (O : l9 R C d) : SS R C d t6 ((fnB 24).getD 1 A6) (w3.getD 1 .fail) :=
 (j6 G c5 2 rfl rfl (ES.comp G.l (lay' := dw) (m9 rfl (by decide +kernel) (by decide +kernel)) (ot H7 0 rfl rfl 1 rfl rfl) (I0 (by decide +kernel)) (sn G c5 27 rfl rfl rfl (ES.list G.l (.cons rfl ES.int (.cons rfl ES.int (.cons rfl ES.int (.cons rfl ES.int (.cons rfl ES.int .nil))))) (by decide))) .none (ES.bin G.l (Wv H7 1 rfl rfl) (Wb1 G H7 2 rfl 1 rfl rfl (ES.sliceEvery G.l (Wv H7 3 rfl rfl) (Wv H7 0 rfl rfl) ES.int) O1.sum) O2.add)) rfl)
theorem oL (G : Glo R mg mb) (O : l9 R C d) : SS R C d t6 ((fnB 24).getD 2 A6) (w3.getD 2 .fail) :=
 (j6 G c5 3 rfl rfl (ES.list G.l (.cons rfl (aV (by decide +kernel)) (.cons rfl (aV (by decide +kernel)) (.cons rfl (aV (by decide +kernel)) (.cons rfl (aV (by decide +kernel)) (.cons rfl (aV (by decide +kernel)) (.cons rfl (aV (by decide +kernel)) (.cons rfl (aV (by decide +kernel)) .nil))))))) (by decide)) rfl)
theorem nE (G : Glo R mg mb) (O : l9 R C d) : SS R C d t6 ((fnB 24).getD 3 A6) (w3.getD 3 .fail) :=
 (j6 G c5 4 rfl rfl (ES.bin G.l (ES.comp G.l (lay' := dO) (m9 rfl (by decide +kernel) (by decide +kernel)) (V9 T6 0 rfl rfl) (I0 (by decide +kernel)) (IS.val (by rfl) (ES.sliceTo G.l (Wv c5 2 rfl rfl) ES.int)) .none (ES.idx G.l (Wv T6 1 rfl rfl) (ES.bin G.l (Wv T6 0 rfl rfl) ES.int O2.mod) rfl)) (ES.list G.l (.cons rfl (aV (by decide +kernel)) (.cons rfl (aV (by decide +kernel)) .nil)) (by decide)) O2.add) rfl)
theorem ol (G : Glo R mg mb) (O : l9 R C d) : SS R C d t6 ((fnB 24).getD 4 A6) (w3.getD 4 .fail) :=
 (j6 G c5 5 rfl rfl (ES.call G.l O (Wg G c5 25 rfl 14 rfl) .nil .none (.inr rfl)) rfl)
theorem nB (G : Glo R mg mb) (O : l9 R C d) : SS R C d t6 ((fnB 24).getD 5 A6) (w3.getD 5 .fail) :=
 (j6 G c5 6 rfl rfl (ES.comp G.l (lay' := dJ) (m9 rfl (by decide +kernel) (by decide +kernel)) (V9 R0 0 rfl rfl) (I0 (by decide +kernel)) (IS.val (by rfl) (Wv c5 5 rfl rfl)) (.some (Tc G (Wb1 G R0 1 rfl 3 rfl rfl (ES.comp G.l (lay' := eh) (m9 rfl (by decide +kernel) (by decide +kernel)) (V9 L6 0 rfl rfl) (I0 (by decide +kernel)) (IS.val (by rfl) (ES.tup G.l (.cons rfl ES.int (.cons rfl ES.int (.cons rfl ES.int .nil))) (by decide))) .none (ES.bin G.l (ES.bin G.l ES.int (ES.count G.l rfl rfl rfl (ES.sliceTo G.l (Wv L6 1 rfl rfl) (Wv L6 0 rfl rfl)) (aV (by decide +kernel))) O2.mul) (Wv L6 0 rfl rfl) O2.sub)) O1.min) ES.int O2.gt rfl rfl)) (Wv R0 0 rfl rfl)) rfl)
theorem nO (G : Glo R mg mb) (O : l9 R C d) : SS R C d t6 ((fnB 24).getD 6 A6) (w3.getD 6 .fail) :=
 (j6 G c5 7 rfl rfl (ES.comp G.l (lay' := dI) (m9 rfl (by decide +kernel) (by decide +kernel)) (V9 aJ 0 rfl rfl) (I0 (by decide +kernel)) (IS.val (by rfl) (Wv c5 5 rfl rfl)) .none (ES.join G.l (by decide +kernel) rfl rfl (ES.comp G.l (lay' := dW) (m9 rfl (by decide +kernel) (by decide +kernel)) (V9 I1 0 rfl rfl) (I0 (by decide +kernel)) (D4 G aJ 2 rfl rfl (.cons rfl ES.int .nil)) .none (ES.bin G.l (ES.idx G.l (Wv I1 2 rfl rfl) (Wv I1 0 rfl rfl) rfl) (ES.idx G.l (Wv I1 1 rfl rfl) (Wv I1 0 rfl rfl) rfl) O2.add)))) rfl)
theorem oM (G : Glo R mg mb) (O : l9 R C d) : SS R C d t6 ((fnB 24).getD 7 A6) (w3.getD 7 .fail) :=
 (j6 G c5 8 rfl rfl (ES.call G.l O (Wg G c5 26 rfl 3 rfl) (.cons rfl (Wv c5 7 rfl rfl) .nil) .none nn1) rfl)
theorem nK (G : Glo R mg mb) (O : l9 R C d) : SS R C d t6 ((fnB 24).getD 8 A6) (w3.getD 8 .fail) :=
 (SS.ite G.l (Tc G (Wv c5 8 rfl rfl) (ES.comp G.l (lay' := dH) (m9 rfl (by decide +kernel) (by decide +kernel)) (V9 D6 0 rfl rfl) (I0 (by decide +kernel)) (D4 G c5 30 rfl rfl (.cons rfl ES.int .nil)) .none (ES.ite G.l (Tc G (ES.idx G.l (Wv D6 3 rfl rfl) (Wv D6 0 rfl rfl) rfl) (Wv D6 2 rfl rfl) O2.inn rfl rfl) (ES.idx G.l (Wv D6 1 rfl rfl) (Wv D6 0 rfl rfl) rfl) (aV (by decide +kernel)))) O2.ne rfl rfl) (SB.cons G.l (SS.ret G.l ES.bool) (SB.nil G.l)) (SB.nil G.l))
theorem nf (G : Glo R mg mb) (O : l9 R C d) : SS R C d t6 ((fnB 24).getD 9 A6) (w3.getD 9 .fail) :=
 (rO G c5 9 rfl rfl 10 rfl rfl rfl (ES.comp G.l (lay' := eu) (m9 rfl (by decide +kernel) (by decide +kernel)) (V9 D7 0 rfl rfl) (I0 (by decide +kernel)) (D4 G c5 30 rfl rfl (.cons rfl ES.int .nil)) (.some (Tc G (ES.idx G.l (Wv D7 2 rfl rfl) (Wv D7 0 rfl rfl) rfl) (ES.idx G.l (Wv D7 1 rfl rfl) (Wv D7 0 rfl rfl) rfl) O2.eq rfl rfl)) (Wv D7 0 rfl rfl)) rfl (ESn.list G.l .nil (by decide)) (by decide +kernel) rfl)
theorem lh (G : Glo R mg mb) (O : l9 R C d) : SS R C d t6 ((fnB 24).getD 10 A6) (w3.getD 10 .fail) :=
 (SS.for G.l c5.ok (IS.val (by rfl) (ES.tup G.l (.cons rfl ES.int (.cons rfl ES.int (.cons rfl ES.int (.cons rfl ES.int (.cons rfl ES.int .nil))))) (by decide))) (V9 c5 11 rfl rfl) (SB.cons G.l (SS.scall G.l O (Wg G c5 28 rfl 10 rfl) (.cons rfl (Wv c5 10 rfl rfl) (.cons rfl (ES.tup G.l (.cons rfl (ES.bin G.l (ES.idx G.l (Wv c5 2 rfl rfl) (Wv c5 11 rfl rfl) rfl) ES.int O2.mod) (.cons rfl (ES.idx G.l (Wv c5 5 rfl rfl) (ES.idx G.l (Wv c5 9 rfl rfl) (Wv c5 11 rfl rfl) rfl) rfl) .nil)) (by decide)) .nil)) (.some (Wg G c5 24 rfl 13 rfl)) nn1) (SB.nil G.l)))
theorem jR (G : Glo R mg mb) (O : l9 R C d) : SS R C d t6 ((fnB 24).getD 11 A6) (w3.getD 11 .fail) :=
 (SS.ite G.l (Tc G (Wv c5 10 rfl rfl) (ES.comp G.l (lay' := bX) (m9 rfl (by decide +kernel) (by decide +kernel)) (ot I9 0 rfl rfl 1 rfl rfl) (I0 (by decide +kernel)) (IS.val (by rfl) (Wb1 G c5 31 rfl 2 rfl rfl (ES.comp G.l (lay' := dT) (m9 rfl (by decide +kernel) (by decide +kernel)) (V9 L5 0 rfl rfl) (I0 (by decide +kernel)) (D4 G c5 30 rfl rfl (.cons rfl ES.int .nil)) .none (ES.tup G.l (.cons rfl (ES.bin G.l (ES.idx G.l (Wv L5 1 rfl rfl) (Wv L5 0 rfl rfl) rfl) ES.int O2.mod) (.cons rfl (ES.un G.l (Wv L5 0 rfl rfl) O1.neg) .nil)) (by decide))) O1.sorted)) .none (ES.tup G.l (.cons rfl (Wv I9 0 rfl rfl) (.cons rfl (ES.idx G.l (Wv I9 2 rfl rfl) (ES.un G.l (Wv I9 1 rfl rfl) O1.neg) rfl) .nil)) (by decide))) O2.ne rfl rfl) (SB.cons G.l (SS.ret G.l ES.bool) (SB.nil G.l)) (SB.nil G.l))
theorem md (G : Glo R mg mb) (O : l9 R C d) : SS R C d t6 ((fnB 24).getD 12 A6) (w3.getD 12 .fail) :=
 (SS.assignComp G.l c5.ok (mm 12 rfl) rfl (by decide +kernel) (lay' := bR) (m9 rfl (by decide +kernel) (by decide +kernel)) (V9 z6 0 rfl rfl) (I0 (by decide +kernel)) (IS.val (by rfl) (ES.tup G.l (.cons rfl (aV (by decide +kernel)) (.cons rfl (aV (by decide +kernel)) (.cons rfl (aV (by decide +kernel)) .nil))) (by decide))) .none (ES.call G.l O (Wg G z6 1 rfl 2 rfl) (.cons rfl (ES.bin G.l (Wv z6 0 rfl rfl) (ES.idx G.l (Wv z6 4 rfl rfl) (ES.idx G.l (Wv z6 3 rfl rfl) (ES.bin G.l (Wb1 G z6 5 rfl 1 rfl rfl (Wv z6 2 rfl rfl) O1.sum) ES.int O2.mod) rfl) rfl) O2.add) .nil) .none nn1))
theorem mO (G : Glo R mg mb) (O : l9 R C d) : SS R C d t6 ((fnB 24).getD 13 A6) (w3.getD 13 .fail) :=
 (SS.ite G.l (ET.or2 G.l (Tc G (ES.comp G.l (lay' := cg) (m9 rfl (by decide +kernel) (by decide +kernel)) (V9 Z2 0 rfl rfl) (I0 (by decide +kernel)) (IS.val (by rfl) (Wv c5 12 rfl rfl)) .none (ES.isBool G.l (Wv Z2 0 rfl rfl))) (ES.list G.l (.cons rfl ES.bool (.cons rfl ES.bool (.cons rfl ES.bool .nil))) (by decide)) O2.ne rfl rfl) (Tc G (ES.comp G.l (lay' := bC) (m9 rfl (by decide +kernel) (by decide +kernel)) (V9 Y2 0 rfl rfl) (I0 (by decide +kernel)) (IS.val (by rfl) (Wv c5 12 rfl rfl)) .none (ES.isBool G.l (Wv Y2 0 rfl rfl))) (ES.list G.l (.cons rfl ES.bool (.cons rfl ES.bool (.cons rfl ES.bool .nil))) (by decide)) O2.ne rfl rfl)) (SB.cons G.l (SS.ret G.l ES.bool) (SB.nil G.l)) (SB.nil G.l))
theorem lI (G : Glo R mg mb) (O : l9 R C d) : SS R C d t6 ((fnB 24).getD 14 A6) (w3.getD 14 .fail) :=
 (j6 G c5 13 rfl rfl (ES.comp G.l (lay' := cB) (m9 rfl (by decide +kernel) (by decide +kernel)) (ot J2 0 rfl rfl 1 rfl rfl) (I0 (by decide +kernel)) (IS.boxl (by rfl) (Wv c5 10 rfl rfl)) .none (ES.call G.l O (Wg G J2 2 rfl 15 rfl) (.cons rfl (Wv J2 1 rfl rfl) (.cons rfl (Wv J2 3 rfl rfl) .nil)) .none nn1)) rfl)
theorem lM (G : Glo R mg mb) (O : l9 R C d) : SS R C d t6 ((fnB 24).getD 15 A6) (w3.getD 15 .fail) :=
 (SS.ite G.l (Tc G (Wv c5 13 rfl rfl) (ES.comp G.l (lay' := cz) (m9 rfl (by decide +kernel) (by decide +kernel)) (ot P5 0 rfl rfl 1 rfl rfl) (I0 (by decide +kernel)) (IS.boxl (by rfl) (Wv c5 10 rfl rfl)) .none (ES.call G.l O (Wg G P5 2 rfl 16 rfl) (.cons rfl (Wv P5 1 rfl rfl) .nil) .none nn1)) O2.ne rfl rfl) (SB.cons G.l (SS.ret G.l ES.bool) (SB.nil G.l)) (SB.nil G.l))
theorem jT (G : Glo R mg mb) (O : l9 R C d) : SS R C d t6 ((fnB 24).getD 16 A6) (w3.getD 16 .fail) :=
 (j6 G c5 14 rfl rfl (ES.bin G.l ES.int (ES.bin G.l (Wb1 G c5 32 rfl 1 rfl rfl (Wv c5 2 rfl rfl) O1.sum) (ES.bin G.l ES.int ES.int O2.pow) O2.mod) O2.add) rfl)
theorem kT (G : Glo R mg mb) (O : l9 R C d) : SS R C d t6 ((fnB 24).getD 17 A6) (w3.getD 17 .fail) :=
 (j6 G c5 14 rfl rfl (ES.ite G.l (Tc G (ES.bin G.l (ES.bin G.l (ES.idx G.l (Wv c5 2 rfl rfl) ES.int rfl) ES.int O2.fdiv) ES.int O2.mod) ES.int O2.eq rfl rfl) (ES.bin G.l (Wv c5 14 rfl rfl) (ES.bin G.l ES.int ES.int O2.pow) O2.mul) (Wv c5 14 rfl rfl)) rfl)
theorem mK (G : Glo R mg mb) (O : l9 R C d) : SS R C d t6 ((fnB 24).getD 18 A6) (w3.getD 18 .fail) :=
 (j6 G c5 14 rfl rfl (ES.ite G.l (Tc G (ES.bin G.l (ES.bin G.l (ES.idx G.l (Wv c5 2 rfl rfl) ES.int rfl) ES.int O2.fdiv) ES.int O2.mod) ES.int O2.eq rfl rfl) (ES.un G.l (Wv c5 14 rfl rfl) O1.neg) (Wv c5 14 rfl rfl)) rfl)
theorem kN (G : Glo R mg mb) (O : l9 R C d) : SS R C d t6 ((fnB 24).getD 19 A6) (w3.getD 19 .fail) :=
 (j6 G c5 15 rfl rfl (ES.comp G.l (lay' := bS) (m9 rfl (by decide +kernel) (by decide +kernel)) (V9 Z1 0 rfl rfl) (I0 (by decide +kernel)) (IS.val (by rfl) (Wv c5 13 rfl rfl)) .none (ES.comp G.l (lay' := cr) (m9 rfl (by decide +kernel) (by decide +kernel)) (V9 E8 0 rfl rfl) (I0 (by decide +kernel)) (IS.val (by rfl) (Wv Z1 1 rfl rfl)) .none (ES.bin G.l (Wv E8 3 rfl rfl) (ES.call G.l O (Wg G E8 1 rfl 17 rfl) (.cons rfl (Wv E8 2 rfl rfl) (.cons rfl (Wv E8 0 rfl rfl) .nil)) .none nn1) O2.pow))) rfl)
theorem lY (G : Glo R mg mb) (O : l9 R C d) : SS R C d t6 ((fnB 24).getD 20 A6) (w3.getD 20 .fail) :=
 (j6 G c5 16 rfl rfl ES.int rfl)
theorem kJ (G : Glo R mg mb) (O : l9 R C d) : SS R C d t6 ((fnB 24).getD 21 A6) (w3.getD 21 .fail) :=
 (SS.for G.l c5.ok (D4 G c5 30 rfl rfl (.cons rfl ES.int .nil)) (V9 c5 17 rfl rfl) (SB.cons G.l (qS G c5 18 rfl rfl (ESn.list G.l .nil (by decide)) rfl) (SB.cons G.l (SS.for G.l c5.ok (IS.val (by rfl) (ES.sliceFrom G.l (Wv c5 15 rfl rfl) ES.int)) (V9 c5 19 rfl rfl) (SB.cons G.l (SS.assignComp G.l c5.ok (mm 20 rfl) rfl (by decide +kernel) (lay' := bT) (m9 rfl (by decide +kernel) (by decide +kernel)) (V9 z7 0 rfl rfl) (I0 (by decide +kernel)) (D4 G c5 30 rfl rfl (.cons rfl ES.int (.cons rfl (Wb1 G c5 29 rfl 0 rfl rfl (Wv c5 19 rfl rfl) O1.len) .nil))) .none (ES.bin G.l (ES.bin G.l (ES.idx G.l (Wv z7 1 rfl rfl) (Wv z7 0 rfl rfl) rfl) (ES.idx G.l (ES.idx G.l (Wv z7 2 rfl rfl) ES.int rfl) ES.int rfl) O2.mul) (ES.bin G.l (ES.idx G.l (Wv z7 1 rfl rfl) ES.int rfl) (ES.idx G.l (ES.idx G.l (Wv z7 2 rfl rfl) ES.int rfl) (Wv z7 0 rfl rfl) rfl) O2.mul) O2.sub)) (SB.cons G.l (SS.assignComp G.l c5.ok (mm 21 rfl) rfl (by decide +kernel) (lay' := bH) (m9 rfl (by decide +kernel) (by decide +kernel)) (V9 O3 0 rfl rfl) (I0 (by decide +kernel)) (D4 G c5 30 rfl rfl (.cons rfl ES.int (.cons rfl (Wb1 G c5 29 rfl 0 rfl rfl (Wv c5 19 rfl rfl) O1.len) .nil))) .none (ES.ite G.l (Tc G (Wv O3 0 rfl rfl) ES.int O2.lt rfl rfl) (ES.bin G.l (Wv O3 1 rfl rfl) ES.int O2.fdiv) ES.int)) (SB.cons G.l (SS.assignComp G.l c5.ok (mm 22 rfl) rfl (by decide +kernel) (lay' := cC) (m9 rfl (by decide +kernel) (by decide +kernel)) (ot z9 0 rfl rfl 1 rfl rfl) (I0 (by decide +kernel)) (ua G c5 33 rfl rfl rfl (Wv c5 20 rfl rfl) rfl (Wv c5 21 rfl rfl)) .none (ES.ite G.l (Tc G (Wv z9 4 rfl rfl) ES.int O2.gt rfl rfl) (ES.call G.l O (Wg G z9 2 rfl 9 rfl) (.cons rfl (ES.bin G.l (Wv z9 0 rfl rfl) (Wv z9 1 rfl rfl) O2.add) (.cons rfl (Wv z9 3 rfl rfl) .nil)) .none nn1) (ES.tup G.l (.cons rfl (Wv z9 0 rfl rfl) (.cons rfl ES.int .nil)) (by decide)))) (SB.cons G.l (SS.ite G.l (Tc G (ES.comp G.l (lay' := cP) (m9 rfl (by decide +kernel) (by decide +kernel)) (ot Y1 0 rfl rfl 1 rfl rfl) (I0 (by decide +kernel)) (IS.val (by rfl) (Wv c5 22 rfl rfl)) .none (Wv Y1 1 rfl rfl)) (Wv c5 21 rfl rfl) O2.ne rfl rfl) (SB.cons G.l (SS.ret G.l ES.bool) (SB.nil G.l)) (SB.nil G.l)) (SB.cons G.l (SS.append G.l (Wv c5 18 rfl rfl) rfl rfl rfl (ES.comp G.l (lay' := cQ) (m9 rfl (by decide +kernel) (by decide +kernel)) (ot Y9 0 rfl rfl 1 rfl rfl) (I0 (by decide +kernel)) (IS.val (by rfl) (Wv c5 22 rfl rfl)) .none (Wv Y9 0 rfl rfl))) (SB.nil G.l))))))) (SB.cons G.l (lj G c5 16 rfl rfl 15 rfl rfl (ES.tup G.l (.cons rfl (ES.idx G.l (ES.idx G.l (Wv c5 15 rfl rfl) ES.int rfl) ES.int rfl) (.cons rfl (Wv c5 18 rfl rfl) .nil)) (by decide)) (by decide +kernel) rfl rfl rfl) (SB.nil G.l)))))
theorem kz (G : Glo R mg mb) (O : l9 R C d) : SS R C d t6 ((fnB 24).getD 22 A6) (w3.getD 22 .fail) :=
 (j6 G c5 23 rfl rfl (ES.idx G.l (ES.idx G.l (Wv c5 15 rfl rfl) ES.int rfl) ES.int rfl) rfl)
theorem kd (G : Glo R mg mb) (O : l9 R C d) : SS R C d t6 ((fnB 24).getD 23 A6) (w3.getD 23 .fail) :=
 (SS.ite G.l (Tc G (Wv c5 23 rfl rfl) (ES.bin G.l (ES.bin G.l (ES.bin G.l (Wv c5 14 rfl rfl) ES.int O2.pow) (ES.bin G.l (ES.bin G.l (ES.bin G.l (Wv c5 14 rfl rfl) (Wv c5 14 rfl rfl) O2.mul) ES.int O2.sub) ES.int O2.pow) O2.mul) (ES.bin G.l (ES.bin G.l (Wv c5 14 rfl rfl) (Wv c5 14 rfl rfl) O2.mul) ES.int O2.sub) O2.mul) O2.ne rfl rfl) (SB.cons G.l (SS.ret G.l ES.bool) (SB.nil G.l)) (SB.nil G.l))
theorem kU (G : Glo R mg mb) (O : l9 R C d) : SS R C d t6 ((fnB 24).getD 24 A6) (w3.getD 24 .fail) :=
 (SS.ret G.l (ES.cmp G.l (ES.comp G.l (lay' := cm) (m9 rfl (by decide +kernel) (by decide +kernel)) (V9 J6 0 rfl rfl) (I0 (by decide +kernel)) (IS.val (by rfl) (ES.tup G.l (.cons rfl (Wv c5 14 rfl rfl) (.cons rfl (ES.bin G.l (ES.bin G.l (Wv c5 14 rfl rfl) (Wv c5 14 rfl rfl) O2.mul) ES.int O2.sub) (.cons rfl (ES.bin G.l (ES.bin G.l (Wv c5 14 rfl rfl) (Wv c5 14 rfl rfl) O2.mul) ES.int O2.sub) .nil))) (by decide))) .none (ES.call G.l O (Wg G J6 1 rfl 18 rfl) (.cons rfl (Wv J6 2 rfl rfl) (.cons rfl (Wv J6 0 rfl rfl) .nil)) .none nn1)) (ES.list G.l (.cons rfl ES.int (.cons rfl ES.int (.cons rfl ES.int .nil))) (by decide)) O2.eq rfl))
theorem mX (G : Glo R mg mb) (O : l9 R C d) : l3 R C d t6 (fnB 24) w3 :=
 l3.of (SB.cons G.l (nw G O) (SB.cons G.l (nS G O) (SB.cons G.l (oL G O) (SB.cons G.l (nE G O) (SB.cons G.l (ol G O) (SB.cons G.l (nB G O) (SB.cons G.l (nO G O) (SB.cons G.l (oM G O) (SB.cons G.l (nK G O) (SB.cons G.l (nf G O) (SB.cons G.l (lh G O) (SB.cons G.l (jR G O) (SB.cons G.l (md G O) (SB.cons G.l (mO G O) (SB.cons G.l (lI G O) (SB.cons G.l (lM G O) (SB.cons G.l (jT G O) (SB.cons G.l (kT G O) (SB.cons G.l (mK G O) (SB.cons G.l (kN G O) (SB.cons G.l (lY G O) (SB.cons G.l (kJ G O) (SB.cons G.l (kz G O) (SB.cons G.l (kd G O) (SB.cons G.l (kU G O) (SB.nil G.l))))))))))))))))))))))))))
end
noncomputable def dfn (n : Nat) : Tm := tK (PySem.Challenge.pw_rs0190_01.main.body[n]?) ⟨#[]⟩ [] none 0 0
noncomputable def fdN (n : Nat) (c : Addr) (dV kV pm : Value) : FuncData := { name := (dfn n).name,qualname := (dfn n).name,params := (dfn n).params,body := (dfn n).body,scope := (dfn n).scope,globals := mainGlobals,closure := [],defaults := dV,kwdefaults := kV,pyModule := pm,code := .ref c,builtins := builtinsNs }
structure FnA (R : Run) (n : Nat) (a c : Addr) (dV kV : Value) : Prop where
 tab : a ∉ Tabs
 obj : ∃ pm,R.base.get? a = some { cls := .type "function",data := .func (fdN n c dV kV pm) }
 ctab : c ∉ Tabs
 code : ∃ o vs t,R.base.get? c = some o ∧ o.data = .fields vs ∧ vs[1]? = some (.str (fdN n c dV kV .none).qualname t)
noncomputable def defsL : List (Nat × Addr × Value × Value) := [(2,28,.none,.none),(3,35,.none,.none),(4,42,.none,.none),(7,49,.none,.none),(8,56,.none,.none),(9,63,.none,.none),(10,70,.none,.none),(11,77,.none,.none),
 (12,84,.none,.none),(14,93,.ref 85,.ref 86),(15,102,.ref 94,.ref 95),(16,111,.ref 103,.ref 104),(18,118,.none,.none),(19,123,.none,.none),(20,128,.none,.none),(21,135,.none,.none),(22,142,.none,.none),(23,149,.none,.none),(24,154,.none,.none)]
structure I3 (R : Run) (mg mb : Str → Option Value) : Prop extends Glo R mg mb where
 th : R.Θ = tms
 fn : ∀ q ∈ defsL,FnA R q.1 q.2.1 (q.2.1 - 1) q.2.2.1 q.2.2.2
 dfl : ∀ T ∈ [85,94,103],T ∉ Tabs ∧ ∃ o tk n,R.base.get? T = some o ∧ o = { cls := .type "tuple",data := .seq #[.int 0 tk,.none] n }
noncomputable def FD.takes (fd : FD) (args : List PV) (kw : Option PV) : Option (List PV) := if kw.isSome != fd.key then Option.none else fd.fill args
noncomputable def z2 (R : Run) (C : Orc) (d : Nat) (f : PV) : Prop :=
 ∀ A X μ s σ args kw v σ' fv vs kvs,Inv R X μ s → N9 R X μ s.heap σ → du A d → C f args kw σ = some (v,σ') → n4 R.Θ X μ s.heap f fv → g9 R.Θ X μ s.heap args vs → KwR R.Θ X μ s.heap kw kvs →
  wpAny (model R.prog R.w) A (call fv vs kvs) (fun v' s' => ∃ μ',Ret R X μ μ' s v σ' v' s') noE s
noncomputable def z3 (R : Run) (fd : FD) (n : Nat) (a c : Addr) (dV kV : Value) (pl : Lay) : Prop :=
 ∀ args kw as,fd.takes args kw = some as → ∃ ps,pl.length = ps.length ∧ fd.start as (kw.getD .none) [] (.glob a) = X0 pl ps (List.replicate fd.init.length .unb) ∧
  ∀ X μ (s : Shared) vs kvs pm,Inv R X μ s → g9 R.Θ X μ s.heap args vs → KwR R.Θ X μ s.heap kw kvs → ∃ bvals,g9 R.Θ X μ s.heap ps bvals ∧ BindsTo s (fdN n c dV kV pm) ⟨vs,kvs⟩ ((pl.map (·.1)).zip bvals)
noncomputable def uR (lay pl : Lay) (names : List (Str × NameKind)) (c : Addr) (q : Str) : Bool := qL lay && pl.all (fun e => inL lay e && e.2.1.isW) && lay.all fun e => match e.2.1 with
 | .loc => inN names e.1 .local
 | .glo => inN names e.1 .globalImplicit
 | .cel => inN names e.1 .cell
 | .frz => false
 | .cod => e.2.2 == c && q ++ ".<locals>." == e.1
theorem lw {N i : Nat} {v : PV} (h : (List.replicate N PV.unb)[i]? = some v) : v.isUnb = true := by
 rw [List.getElem?_replicate] at h
 split at h <;> cases h
 rfl
section
variable {R : Run} {mg mb : Str → Option Value} {G Cl : Nat → Option FD}
theorem t7 (D : I3 R mg mb) {m n a c : Nat} {dV kV : Value} {fd : FD} {lay pl : Lay} {body : List Stmt} (hg : G a = some fd) (F : FnA R n a c dV kV)
  (S : z3 R fd n a c dV kV pl) (hbody : ∀ pm,(fdN n c dV kV pm).body = .stmts body) (hsc : ∀ pm,(fdN n c dV kV pm).scope = (fdN n c dV kV .none).scope) (hq : ∀ pm,(fdN n c dV kV pm).qualname = (fdN n c dV kV .none).qualname)
  (hcode : ∀ pm,(fdN n c dV kV pm).code = .ref c) (hclo : ∀ pm,(fdN n c dV kV pm).globals = mainGlobals ∧ (fdN n c dV kV pm).builtins = builtinsNs)
  (hk : (fdN n c dV kV .none).scope.kind = .function) (hco : (fdN n c dV kV .none).scope.isCoroutine = false) (hgen : (fdN n c dV kV .none).scope.isGenerator = false)
  (nd : ((fdN n c dV kV .none).scope.names.map Prod.fst).Nodup) (hent : uR lay pl (fdN n c dV kV .none).scope.names c (fdN n c dV kV .none).qualname = true)
  (hB : l3 R (td G Cl m) m lay body fd.body) : z2 R (td G Cl (m + 1)) (m + 1) (.glob a) := by
 intro A X μ s σ args kw v σ' fv vs kvs I st hr ev rf ra rk
 cases rf
 obtain ⟨q,e0,ev⟩ := bd ev
 have e0 : (G a).map (fun d => (d,[])) = some q := e0
 rw [hg] at e0
 cases e0
 obtain ⟨as,e1,e2⟩ := bd ev
 obtain ⟨⟨fl,S'⟩,e3,e4⟩ := mq e2
 cases e4
 obtain ⟨ps,hlen,hst,hb⟩ := S args kw as e1
 rw [hst] at e3
 obtain ⟨pm,ho⟩ := F.obj
 obtain ⟨bvals,rb,hbind⟩ := hb X μ s vs kvs pm I ra rk
 have ho' := I.keep _ _ ho F.tab
 simp only [uR,z5] at hent
 obtain ⟨⟨h1,h2⟩,h3⟩ := hent
 have k3 := fun e he => z4.mp h3 e he
 refine rj (lay := lay) (pl := pl) (ps := ps) (bvals := bvals) D.B.low D.hlim I st hr ho' rfl ?_ (hbody pm) hbind rb (hlen.trans rb.length) ?_ (U0 h1) (by rw [hsc]; exact hk) (by rw [hsc]; exact hco) (by rw [hsc]; exact hgen) (hclo pm).1 (hclo pm).2
  (by rw [hsc]; exact nd) ?_ ?_ ?_ ?_ ?_ hB e3
 ·obtain ⟨o,ws,t,g1,g2,g3⟩ := F.code
  rw [hcode,hq]
  exact ⟨c,o,ws,t,rfl,I.keep _ _ g1 F.ctab,g2,g3⟩
 ·intro e he
  have := z4.mp h2 e he
  simp only [z5] at this
  exact ⟨G5.mp this.1,Kd.w this.2⟩
 ·intro x i hm
  rw [hsc]
  exact ⟨B0.mp (k3 _ hm),fun v => lw⟩
 ·intro x i hm
  rw [hsc]
  exact B0.mp (k3 _ hm)
 ·intro x i hm
  have := k3 _ hm
  simp only [z5,beq_iff_eq] at this
  rw [hcode,hq,this.1]
  exact ⟨rfl,this.2⟩
 ·intro x i hm
  rw [hsc]
  exact ⟨B0.mp (k3 _ hm),fun v => lw⟩
 ·intro x i hm
  have := k3 _ hm
  cases this
theorem o4 {fd : FD} {args as : List PV} {kw : Option PV} (hk : fd.key = false) (hd : fd.dfl = []) (h : fd.takes args kw = some as) : kw = none ∧ as = args ∧ args.length = fd.np := by
 unfold FD.takes at h
 split at h
 ·cases h
 rename_i h1
 rw [hk] at h1
 unfold FD.fill at h
 split at h
 ·rename_i h2
  cases h
  rw [hd] at h2 ⊢
  refine ⟨?_,by simp,?_⟩
  ·cases kw
   ·rfl
   ·simp at h1
  ·simp only [A5] at h2
   lia
 ·cases h
theorem bE {fd : FD} {args as : List PV} {kw : Option PV} (hk : fd.key = true) (h : fd.takes args kw = some as) : ∃ k,kw = some k ∧ fd.fill args = some as := by
 unfold FD.takes at h
 rw [hk] at h
 cases kw with
 | none => simp at h
 | some k => exact ⟨k,rfl,by simpa using h⟩
theorem fg {fd : FD} {args as : List PV} (hn : fd.np = 4) (hd : fd.dfl = [.int 0,.none]) (h : fd.fill args = some as) :
  (∃ p0 p1,args = [p0,p1] ∧ as = [p0,p1,.int 0,.none]) ∨ (∃ p0 p1 p2,args = [p0,p1,p2] ∧ as = [p0,p1,p2,.none]) ∨ (∃ p0 p1 p2 p3,args = [p0,p1,p2,p3] ∧ as = [p0,p1,p2,p3]) := by
 unfold FD.fill at h
 rw [hn,hd] at h
 split at h
 ·rename_i h2
  cases h
  simp only [A0,A5] at h2
  match args,h2 with
  | [p0,p1],_ => exact .inl ⟨p0,p1,rfl,rfl⟩
  | [p0,p1,p2],_ => exact .inr (.inl ⟨p0,p1,p2,rfl,rfl⟩)
  | [p0,p1,p2,p3],_ => exact .inr (.inr ⟨p0,p1,p2,p3,rfl,rfl⟩)
  | [],h => exact absurd h.2 (by simp)
  | [_],h => exact absurd h.2 (by simp)
  | _ :: _ :: _ :: _ :: _ :: _,h => exact absurd h.1 (by simp)
 ·cases h
end
noncomputable def jf : List (Nat × FD) := [(28,o3),(35,u9),(42,o8),(49,D5),(56,K1),(63,C0),(70,C1),(77,C4),(84,w6),(93,K6),(102,K2),(111,B9),(118,P0),(123,L4),(128,E9),(135,N7),(142,P4),(149,E0),(154,fR)]
noncomputable def pG (a : Nat) : Option FD := jf.lookup a
noncomputable def ctab : Nat → Option FD
 | 0 => some t8
 | 1 => some t9
 | 2 => some z0
 | _ => none
noncomputable abbrev orc (m : Nat) : Orc := td pG ctab m
section
variable {R : Run} {mg mb : Str → Option Value}
theorem I3.thk (D : I3 R mg mb) : ∀ k t,tms k = some t → R.Θ k = some t := fun k t h => by rw [D.th]; exact h
theorem M8 (h : Heap) : Frag.In [] h := fun a o e => by cases e
theorem I4 (D : I3 R mg mb) : z3 R o3 2 28 27 .none .none (q0.take 1) := by
 intro args kw as e
 obtain ⟨rfl,rfl,hl⟩ := o4 rfl rfl e
 obtain ⟨p0,rfl⟩ := nY hl
 refine ⟨[p0],rfl,rfl,fun X μ s vs kvs pm I rs rk => ?_⟩
 cases rk
 obtain ⟨v0,r0⟩ := rs.inv1
 exact ⟨[v0],(.cons r0 .nil),kp_binds (M8 _) fun _ => rfl⟩
theorem J1 (D : I3 R mg mb) {m : Nat} (O : l9 R (orc m) m) : z2 R (orc (m + 1)) (m + 1) (.glob 28) :=
 t7 D (dV := .none) (kV := .none) (fd := o3) (lay := q0) (body := fnB 2) rfl (D.fn _ (mm 0 rfl)) (I4 D) (fun _ => rfl) (fun _ => rfl) (fun _ => rfl) (fun _ => rfl) (fun _ => ⟨rfl,rfl⟩) rfl rfl rfl (by decide +kernel) (by decide +kernel) (J4 D.toGlo O)
theorem N1 (D : I3 R mg mb) : z3 R u9 3 35 34 .none .none (x9.take 1) := by
 intro args kw as e
 obtain ⟨rfl,rfl,hl⟩ := o4 rfl rfl e
 obtain ⟨p0,rfl⟩ := nY hl
 refine ⟨[p0],rfl,rfl,fun X μ s vs kvs pm I rs rk => ?_⟩
 cases rk
 obtain ⟨v0,r0⟩ := rs.inv1
 exact ⟨[v0],(.cons r0 .nil),kp_binds (M8 _) fun _ => rfl⟩
theorem N4 (D : I3 R mg mb) {m : Nat} (O : l9 R (orc m) m) : z2 R (orc (m + 1)) (m + 1) (.glob 35) :=
 t7 D (dV := .none) (kV := .none) (fd := u9) (lay := x9) (body := fnB 3) rfl (D.fn _ (mm 1 rfl)) (N1 D) (fun _ => rfl) (fun _ => rfl) (fun _ => rfl) (fun _ => rfl) (fun _ => ⟨rfl,rfl⟩) rfl rfl rfl (by decide +kernel) (by decide +kernel) (O6 D.toGlo O)
theorem K5 (D : I3 R mg mb) : z3 R o8 4 42 41 .none .none (u6.take 1) := by
 intro args kw as e
 obtain ⟨rfl,rfl,hl⟩ := o4 rfl rfl e
 obtain ⟨p0,rfl⟩ := nY hl
 refine ⟨[p0],rfl,rfl,fun X μ s vs kvs pm I rs rk => ?_⟩
 cases rk
 obtain ⟨v0,r0⟩ := rs.inv1
 exact ⟨[v0],(.cons r0 .nil),kp_binds (M8 _) fun _ => rfl⟩
theorem L0 (D : I3 R mg mb) {m : Nat} (O : l9 R (orc m) m) : z2 R (orc (m + 1)) (m + 1) (.glob 42) :=
 t7 D (dV := .none) (kV := .none) (fd := o8) (lay := u6) (body := fnB 4) rfl (D.fn _ (mm 2 rfl)) (K5 D) (fun _ => rfl) (fun _ => rfl) (fun _ => rfl) (fun _ => rfl) (fun _ => ⟨rfl,rfl⟩) rfl rfl rfl (by decide +kernel) (by decide +kernel) (K9 D.toGlo O)
theorem dj (D : I3 R mg mb) : z3 R D5 7 49 48 .none .none (L3.take 3) := by
 intro args kw as e
 obtain ⟨rfl,rfl,hl⟩ := o4 rfl rfl e
 obtain ⟨p0,p1,p2,rfl⟩ := tl hl
 refine ⟨[p0,p1,p2],rfl,rfl,fun X μ s vs kvs pm I rs rk => ?_⟩
 cases rk
 obtain ⟨v0,v1,v2,r0,r1,r2⟩ := rs.inv3
 exact ⟨[v0,v1,v2],(.cons r0 (.cons r1 (.cons r2 .nil))),kp_binds (M8 _) fun _ => rfl⟩
theorem fe (D : I3 R mg mb) {m : Nat} (O : l9 R (orc m) m) : z2 R (orc (m + 1)) (m + 1) (.glob 49) :=
 t7 D (dV := .none) (kV := .none) (fd := D5) (lay := L3) (body := fnB 7) rfl (D.fn _ (mm 3 rfl)) (dj D) (fun _ => rfl) (fun _ => rfl) (fun _ => rfl) (fun _ => rfl) (fun _ => ⟨rfl,rfl⟩) rfl rfl rfl (by decide +kernel) (by decide +kernel) (eE D.toGlo O)
theorem dg (D : I3 R mg mb) : z3 R K1 8 56 55 .none .none (L7.take 6) := by
 intro args kw as e
 obtain ⟨rfl,rfl,hl⟩ := o4 rfl rfl e
 obtain ⟨p0,p1,p2,p3,p4,p5,rfl⟩ := vw hl
 refine ⟨[p0,p1,p2,p3,p4,p5],rfl,rfl,fun X μ s vs kvs pm I rs rk => ?_⟩
 cases rk
 obtain ⟨v0,v1,v2,v3,v4,v5,r0,r1,r2,r3,r4,r5⟩ := rs.inv6
 exact ⟨[v0,v1,v2,v3,v4,v5],(.cons r0 (.cons r1 (.cons r2 (.cons r3 (.cons r4 (.cons r5 .nil)))))),kp_binds (M8 _) fun _ => rfl⟩
theorem eG (D : I3 R mg mb) {m : Nat} (O : l9 R (orc m) m) : z2 R (orc (m + 1)) (m + 1) (.glob 56) :=
 t7 D (dV := .none) (kV := .none) (fd := K1) (lay := L7) (body := fnB 8) rfl (D.fn _ (mm 4 rfl)) (dg D) (fun _ => rfl) (fun _ => rfl) (fun _ => rfl) (fun _ => rfl) (fun _ => ⟨rfl,rfl⟩) rfl rfl rfl (by decide +kernel) (by decide +kernel) (fc D.toGlo O)
theorem ai (D : I3 R mg mb) : z3 R C0 9 63 62 .none .none (E1.take 2) := by
 intro args kw as e
 obtain ⟨rfl,rfl,hl⟩ := o4 rfl rfl e
 obtain ⟨p0,p1,rfl⟩ := mS hl
 refine ⟨[p0,p1],rfl,rfl,fun X μ s vs kvs pm I rs rk => ?_⟩
 cases rk
 obtain ⟨v0,v1,r0,r1⟩ := rs.inv2
 exact ⟨[v0,v1],(.cons r0 (.cons r1 .nil)),kp_binds (M8 _) fun _ => rfl⟩
theorem ba (D : I3 R mg mb) {m : Nat} (O : l9 R (orc m) m) : z2 R (orc (m + 1)) (m + 1) (.glob 63) :=
 t7 D (dV := .none) (kV := .none) (fd := C0) (lay := E1) (body := fnB 9) rfl (D.fn _ (mm 5 rfl)) (ai D) (fun _ => rfl) (fun _ => rfl) (fun _ => rfl) (fun _ => rfl) (fun _ => ⟨rfl,rfl⟩) rfl rfl rfl (by decide +kernel) (by decide +kernel) (aZ D.toGlo O D.thk)
theorem an (D : I3 R mg mb) : z3 R C1 10 70 69 .none .none (K4.take 2) := by
 intro args kw as e
 obtain ⟨rfl,rfl,hl⟩ := o4 rfl rfl e
 obtain ⟨p0,p1,rfl⟩ := mS hl
 refine ⟨[p0,p1],rfl,rfl,fun X μ s vs kvs pm I rs rk => ?_⟩
 cases rk
 obtain ⟨v0,v1,r0,r1⟩ := rs.inv2
 exact ⟨[v0,v1],(.cons r0 (.cons r1 .nil)),kp_binds (M8 _) fun _ => rfl⟩
theorem be (D : I3 R mg mb) {m : Nat} (O : l9 R (orc m) m) : z2 R (orc (m + 1)) (m + 1) (.glob 70) :=
 t7 D (dV := .none) (kV := .none) (fd := C1) (lay := K4) (body := fnB 10) rfl (D.fn _ (mm 6 rfl)) (an D) (fun _ => rfl) (fun _ => rfl) (fun _ => rfl) (fun _ => rfl) (fun _ => ⟨rfl,rfl⟩) rfl rfl rfl (by decide +kernel) (by decide +kernel) (bl D.toGlo O D.thk)
theorem aE (D : I3 R mg mb) : z3 R C4 11 77 76 .none .none (E2.take 2) := by
 intro args kw as e
 obtain ⟨rfl,rfl,hl⟩ := o4 rfl rfl e
 obtain ⟨p0,p1,rfl⟩ := mS hl
 refine ⟨[p0,p1],rfl,rfl,fun X μ s vs kvs pm I rs rk => ?_⟩
 cases rk
 obtain ⟨v0,v1,r0,r1⟩ := rs.inv2
 exact ⟨[v0,v1],(.cons r0 (.cons r1 .nil)),kp_binds (M8 _) fun _ => rfl⟩
theorem bh (D : I3 R mg mb) {m : Nat} (O : l9 R (orc m) m) : z2 R (orc (m + 1)) (m + 1) (.glob 77) :=
 t7 D (dV := .none) (kV := .none) (fd := C4) (lay := E2) (body := fnB 11) rfl (D.fn _ (mm 7 rfl)) (aE D) (fun _ => rfl) (fun _ => rfl) (fun _ => rfl) (fun _ => rfl) (fun _ => ⟨rfl,rfl⟩) rfl rfl rfl (by decide +kernel) (by decide +kernel) (aX D.toGlo O)
theorem aY (D : I3 R mg mb) : z3 R w6 12 84 83 .none .none (G9.take 2) := by
 intro args kw as e
 obtain ⟨rfl,rfl,hl⟩ := o4 rfl rfl e
 obtain ⟨p0,p1,rfl⟩ := mS hl
 refine ⟨[p0,p1],rfl,rfl,fun X μ s vs kvs pm I rs rk => ?_⟩
 cases rk
 obtain ⟨v0,v1,r0,r1⟩ := rs.inv2
 exact ⟨[v0,v1],(.cons r0 (.cons r1 .nil)),kp_binds (M8 _) fun _ => rfl⟩
theorem cD (D : I3 R mg mb) {m : Nat} (O : l9 R (orc m) m) : z2 R (orc (m + 1)) (m + 1) (.glob 84) :=
 t7 D (dV := .none) (kV := .none) (fd := w6) (lay := G9) (body := fnB 12) rfl (D.fn _ (mm 8 rfl)) (aY D) (fun _ => rfl) (fun _ => rfl) (fun _ => rfl) (fun _ => rfl) (fun _ => ⟨rfl,rfl⟩) rfl rfl rfl (by decide +kernel) (by decide +kernel) (ck D.toGlo O)
set_option maxHeartbeats 4000000 in
theorem X9 (D : I3 R mg mb) : z3 R K6 14 93 92 (.ref 85) (.ref 86) (D2.take 5) := by
 intro args kw as e
 obtain ⟨k,rfl,e⟩ := bE rfl e
 obtain ⟨hT,o,tk,n,ho,rfl⟩ := D.dfl 85 (by decide)
 have kin : ∀ {X μ} {s : Shared},Inv R X μ s → Frag.In [(85,{ cls := .type "tuple",data := .seq #[.int 0 tk,.none] n })] s.heap := fun I b o' e => by
  simp only [List.lookup] at e
  split at e
  ·rename_i h; cases e; rw [beq_iff_eq.mp h]; exact I.keep _ _ ho hT
  ·cases e
 rcases fg rfl rfl e with ⟨p0,p1,rfl,rfl⟩ | ⟨p0,p1,p2,rfl,rfl⟩ | ⟨p0,p1,p2,p3,rfl,rfl⟩
 ·refine ⟨[p0,p1,.int 0,.none,k],rfl,rfl,fun X μ s vs kvs pm I rs rk => ?_⟩
  cases rk with | @some _ kv rk =>
  obtain ⟨v0,v1,r0,r1⟩ := rs.inv2
  exact ⟨[v0,v1,.int 0 tk,.none,kv],(.cons r0 (.cons r1 (.cons (.int 0 tk) (.cons .none (.cons rk .nil))))),kp_binds (kin I) fun _ => rfl⟩
 ·refine ⟨[p0,p1,p2,.none,k],rfl,rfl,fun X μ s vs kvs pm I rs rk => ?_⟩
  cases rk with | @some _ kv rk =>
  obtain ⟨v0,v1,v2,r0,r1,r2⟩ := rs.inv3
  exact ⟨[v0,v1,v2,.none,kv],(.cons r0 (.cons r1 (.cons r2 (.cons .none (.cons rk .nil))))),kp_binds (kin I) fun _ => rfl⟩
 ·refine ⟨[p0,p1,p2,p3,k],rfl,rfl,fun X μ s vs kvs pm I rs rk => ?_⟩
  cases rk with | @some _ kv rk =>
  obtain ⟨v0,v1,v2,v3,r0,r1,r2,r3⟩ := rs.inv4
  exact ⟨[v0,v1,v2,v3,kv],(.cons r0 (.cons r1 (.cons r2 (.cons r3 (.cons rk .nil))))),kp_binds (kin I) fun _ => rfl⟩
theorem ar (D : I3 R mg mb) {m : Nat} (O : l9 R (orc m) m) : z2 R (orc (m + 1)) (m + 1) (.glob 93) :=
 t7 D (dV := (.ref 85)) (kV := (.ref 86)) (fd := K6) (lay := D2) (body := fnB 14) rfl (D.fn _ (mm 9 rfl)) (X9 D) (fun _ => rfl) (fun _ => rfl) (fun _ => rfl) (fun _ => rfl) (fun _ => ⟨rfl,rfl⟩) rfl rfl rfl (by decide +kernel) (by decide +kernel) (aw D.toGlo O)
set_option maxHeartbeats 4000000 in
theorem Y7 (D : I3 R mg mb) : z3 R K2 15 102 101 (.ref 94) (.ref 95) (C9.take 5) := by
 intro args kw as e
 obtain ⟨k,rfl,e⟩ := bE rfl e
 obtain ⟨hT,o,tk,n,ho,rfl⟩ := D.dfl 94 (by decide)
 have kin : ∀ {X μ} {s : Shared},Inv R X μ s → Frag.In [(94,{ cls := .type "tuple",data := .seq #[.int 0 tk,.none] n })] s.heap := fun I b o' e => by
  simp only [List.lookup] at e
  split at e
  ·rename_i h; cases e; rw [beq_iff_eq.mp h]; exact I.keep _ _ ho hT
  ·cases e
 rcases fg rfl rfl e with ⟨p0,p1,rfl,rfl⟩ | ⟨p0,p1,p2,rfl,rfl⟩ | ⟨p0,p1,p2,p3,rfl,rfl⟩
 ·refine ⟨[p0,p1,.int 0,.none,k],rfl,rfl,fun X μ s vs kvs pm I rs rk => ?_⟩
  cases rk with | @some _ kv rk =>
  obtain ⟨v0,v1,r0,r1⟩ := rs.inv2
  exact ⟨[v0,v1,.int 0 tk,.none,kv],(.cons r0 (.cons r1 (.cons (.int 0 tk) (.cons .none (.cons rk .nil))))),kp_binds (kin I) fun _ => rfl⟩
 ·refine ⟨[p0,p1,p2,.none,k],rfl,rfl,fun X μ s vs kvs pm I rs rk => ?_⟩
  cases rk with | @some _ kv rk =>
  obtain ⟨v0,v1,v2,r0,r1,r2⟩ := rs.inv3
  exact ⟨[v0,v1,v2,.none,kv],(.cons r0 (.cons r1 (.cons r2 (.cons .none (.cons rk .nil))))),kp_binds (kin I) fun _ => rfl⟩
 ·refine ⟨[p0,p1,p2,p3,k],rfl,rfl,fun X μ s vs kvs pm I rs rk => ?_⟩
  cases rk with | @some _ kv rk =>
  obtain ⟨v0,v1,v2,v3,r0,r1,r2,r3⟩ := rs.inv4
  exact ⟨[v0,v1,v2,v3,kv],(.cons r0 (.cons r1 (.cons r2 (.cons r3 (.cons rk .nil))))),kp_binds (kin I) fun _ => rfl⟩
theorem aB (D : I3 R mg mb) {m : Nat} (O : l9 R (orc m) m) : z2 R (orc (m + 1)) (m + 1) (.glob 102) :=
 t7 D (dV := (.ref 94)) (kV := (.ref 95)) (fd := K2) (lay := C9) (body := fnB 15) rfl (D.fn _ (mm 10 rfl)) (Y7 D) (fun _ => rfl) (fun _ => rfl) (fun _ => rfl) (fun _ => rfl) (fun _ => ⟨rfl,rfl⟩) rfl rfl rfl (by decide +kernel) (by decide +kernel) (aj D.toGlo O)
set_option maxHeartbeats 4000000 in
theorem aC (D : I3 R mg mb) : z3 R B9 16 111 110 (.ref 103) (.ref 104) (E6.take 5) := by
 intro args kw as e
 obtain ⟨k,rfl,e⟩ := bE rfl e
 obtain ⟨hT,o,tk,n,ho,rfl⟩ := D.dfl 103 (by decide)
 have kin : ∀ {X μ} {s : Shared},Inv R X μ s → Frag.In [(103,{ cls := .type "tuple",data := .seq #[.int 0 tk,.none] n })] s.heap := fun I b o' e => by
  simp only [List.lookup] at e
  split at e
  ·rename_i h; cases e; rw [beq_iff_eq.mp h]; exact I.keep _ _ ho hT
  ·cases e
 rcases fg rfl rfl e with ⟨p0,p1,rfl,rfl⟩ | ⟨p0,p1,p2,rfl,rfl⟩ | ⟨p0,p1,p2,p3,rfl,rfl⟩
 ·refine ⟨[p0,p1,.int 0,.none,k],rfl,rfl,fun X μ s vs kvs pm I rs rk => ?_⟩
  cases rk with | @some _ kv rk =>
  obtain ⟨v0,v1,r0,r1⟩ := rs.inv2
  exact ⟨[v0,v1,.int 0 tk,.none,kv],(.cons r0 (.cons r1 (.cons (.int 0 tk) (.cons .none (.cons rk .nil))))),kp_binds (kin I) fun _ => rfl⟩
 ·refine ⟨[p0,p1,p2,.none,k],rfl,rfl,fun X μ s vs kvs pm I rs rk => ?_⟩
  cases rk with | @some _ kv rk =>
  obtain ⟨v0,v1,v2,r0,r1,r2⟩ := rs.inv3
  exact ⟨[v0,v1,v2,.none,kv],(.cons r0 (.cons r1 (.cons r2 (.cons .none (.cons rk .nil))))),kp_binds (kin I) fun _ => rfl⟩
 ·refine ⟨[p0,p1,p2,p3,k],rfl,rfl,fun X μ s vs kvs pm I rs rk => ?_⟩
  cases rk with | @some _ kv rk =>
  obtain ⟨v0,v1,v2,v3,r0,r1,r2,r3⟩ := rs.inv4
  exact ⟨[v0,v1,v2,v3,kv],(.cons r0 (.cons r1 (.cons r2 (.cons r3 (.cons rk .nil))))),kp_binds (kin I) fun _ => rfl⟩
theorem aP (D : I3 R mg mb) {m : Nat} (O : l9 R (orc m) m) : z2 R (orc (m + 1)) (m + 1) (.glob 111) :=
 t7 D (dV := (.ref 103)) (kV := (.ref 104)) (fd := B9) (lay := E6) (body := fnB 16) rfl (D.fn _ (mm 11 rfl)) (aC D) (fun _ => rfl) (fun _ => rfl) (fun _ => rfl) (fun _ => rfl) (fun _ => ⟨rfl,rfl⟩) rfl rfl rfl (by decide +kernel) (by decide +kernel) (aW D.toGlo O)
theorem aU (D : I3 R mg mb) : z3 R P0 18 118 117 .none .none (H2.take 1) := by
 intro args kw as e
 obtain ⟨rfl,rfl,hl⟩ := o4 rfl rfl e
 obtain ⟨p0,rfl⟩ := nY hl
 refine ⟨[p0],rfl,rfl,fun X μ s vs kvs pm I rs rk => ?_⟩
 cases rk
 obtain ⟨v0,r0⟩ := rs.inv1
 exact ⟨[v0],(.cons r0 .nil),kp_binds (M8 _) fun _ => rfl⟩
theorem cU (D : I3 R mg mb) {m : Nat} (O : l9 R (orc m) m) : z2 R (orc (m + 1)) (m + 1) (.glob 118) :=
 t7 D (dV := .none) (kV := .none) (fd := P0) (lay := H2) (body := fnB 18) rfl (D.fn _ (mm 12 rfl)) (aU D) (fun _ => rfl) (fun _ => rfl) (fun _ => rfl) (fun _ => rfl) (fun _ => ⟨rfl,rfl⟩) rfl rfl rfl (by decide +kernel) (by decide +kernel) (cy D.toGlo O)
theorem bJ (D : I3 R mg mb) : z3 R L4 19 123 122 .none .none (J5.take 0) := by
 intro args kw as e
 obtain ⟨rfl,rfl,hl⟩ := o4 rfl rfl e
 cases as with
 | cons => simp [L4] at hl
 | nil =>
 refine ⟨[],rfl,rfl,fun X μ s vs kvs pm I rs rk => ?_⟩
 cases rk
 cases rs
 exact ⟨[],.nil,kp_binds (M8 _) fun _ => rfl⟩
theorem dq (D : I3 R mg mb) {m : Nat} (O : l9 R (orc m) m) : z2 R (orc (m + 1)) (m + 1) (.glob 123) :=
 t7 D (dV := .none) (kV := .none) (fd := L4) (lay := J5) (body := fnB 19) rfl (D.fn _ (mm 13 rfl)) (bJ D) (fun _ => rfl) (fun _ => rfl) (fun _ => rfl) (fun _ => rfl) (fun _ => ⟨rfl,rfl⟩) rfl rfl rfl (by decide +kernel) (by decide +kernel) (dl D.toGlo O)
theorem bp (D : I3 R mg mb) : z3 R E9 20 128 127 .none .none (H0.take 2) := by
 intro args kw as e
 obtain ⟨rfl,rfl,hl⟩ := o4 rfl rfl e
 obtain ⟨p0,p1,rfl⟩ := mS hl
 refine ⟨[p0,p1],rfl,rfl,fun X μ s vs kvs pm I rs rk => ?_⟩
 cases rk
 obtain ⟨v0,v1,r0,r1⟩ := rs.inv2
 exact ⟨[v0,v1],(.cons r0 (.cons r1 .nil)),kp_binds (M8 _) fun _ => rfl⟩
theorem bU (D : I3 R mg mb) {m : Nat} (O : l9 R (orc m) m) : z2 R (orc (m + 1)) (m + 1) (.glob 128) :=
 t7 D (dV := .none) (kV := .none) (fd := E9) (lay := H0) (body := fnB 20) rfl (D.fn _ (mm 14 rfl)) (bp D) (fun _ => rfl) (fun _ => rfl) (fun _ => rfl) (fun _ => rfl) (fun _ => ⟨rfl,rfl⟩) rfl rfl rfl (by decide +kernel) (by decide +kernel) (bQ D.toGlo O)
theorem bj (D : I3 R mg mb) : z3 R N7 21 135 134 .none .none (G7.take 1) := by
 intro args kw as e
 obtain ⟨rfl,rfl,hl⟩ := o4 rfl rfl e
 obtain ⟨p0,rfl⟩ := nY hl
 refine ⟨[p0],rfl,rfl,fun X μ s vs kvs pm I rs rk => ?_⟩
 cases rk
 obtain ⟨v0,r0⟩ := rs.inv1
 exact ⟨[v0],(.cons r0 .nil),kp_binds (M8 _) fun _ => rfl⟩
theorem cn (D : I3 R mg mb) {m : Nat} (O : l9 R (orc m) m) : z2 R (orc (m + 1)) (m + 1) (.glob 135) :=
 t7 D (dV := .none) (kV := .none) (fd := N7) (lay := G7) (body := fnB 21) rfl (D.fn _ (mm 15 rfl)) (bj D) (fun _ => rfl) (fun _ => rfl) (fun _ => rfl) (fun _ => rfl) (fun _ => ⟨rfl,rfl⟩) rfl rfl rfl (by decide +kernel) (by decide +kernel) (cA D.toGlo O)
theorem bg (D : I3 R mg mb) : z3 R P4 22 142 141 .none .none (G8.take 2) := by
 intro args kw as e
 obtain ⟨rfl,rfl,hl⟩ := o4 rfl rfl e
 obtain ⟨p0,p1,rfl⟩ := mS hl
 refine ⟨[p0,p1],rfl,rfl,fun X μ s vs kvs pm I rs rk => ?_⟩
 cases rk
 obtain ⟨v0,v1,r0,r1⟩ := rs.inv2
 exact ⟨[v0,v1],(.cons r0 (.cons r1 .nil)),kp_binds (M8 _) fun _ => rfl⟩
theorem bW (D : I3 R mg mb) {m : Nat} (O : l9 R (orc m) m) : z2 R (orc (m + 1)) (m + 1) (.glob 142) :=
 t7 D (dV := .none) (kV := .none) (fd := P4) (lay := G8) (body := fnB 22) rfl (D.fn _ (mm 16 rfl)) (bg D) (fun _ => rfl) (fun _ => rfl) (fun _ => rfl) (fun _ => rfl) (fun _ => ⟨rfl,rfl⟩) rfl rfl rfl (by decide +kernel) (by decide +kernel) (bK D.toGlo O)
theorem aT (D : I3 R mg mb) : z3 R E0 23 149 148 .none .none (M0.take 2) := by
 intro args kw as e
 obtain ⟨rfl,rfl,hl⟩ := o4 rfl rfl e
 obtain ⟨p0,p1,rfl⟩ := mS hl
 refine ⟨[p0,p1],rfl,rfl,fun X μ s vs kvs pm I rs rk => ?_⟩
 cases rk
 obtain ⟨v0,v1,r0,r1⟩ := rs.inv2
 exact ⟨[v0,v1],(.cons r0 (.cons r1 .nil)),kp_binds (M8 _) fun _ => rfl⟩
theorem bA (D : I3 R mg mb) {m : Nat} (O : l9 R (orc m) m) : z2 R (orc (m + 1)) (m + 1) (.glob 149) :=
 t7 D (dV := .none) (kV := .none) (fd := E0) (lay := M0) (body := fnB 23) rfl (D.fn _ (mm 17 rfl)) (aT D) (fun _ => rfl) (fun _ => rfl) (fun _ => rfl) (fun _ => rfl) (fun _ => ⟨rfl,rfl⟩) rfl rfl rfl (by decide +kernel) (by decide +kernel) (cG D.toGlo O D.thk)
theorem ko (D : I3 R mg mb) : z3 R fR 24 154 153 .none .none (t6.take 1) := by
 intro args kw as e
 obtain ⟨rfl,rfl,hl⟩ := o4 rfl rfl e
 obtain ⟨p0,rfl⟩ := nY hl
 refine ⟨[p0],rfl,rfl,fun X μ s vs kvs pm I rs rk => ?_⟩
 cases rk
 obtain ⟨v0,r0⟩ := rs.inv1
 exact ⟨[v0],(.cons r0 .nil),kp_binds (M8 _) fun _ => rfl⟩
theorem nA (D : I3 R mg mb) {m : Nat} (O : l9 R (orc m) m) : z2 R (orc (m + 1)) (m + 1) (.glob 154) :=
 t7 D (dV := .none) (kV := .none) (fd := fR) (lay := t6) (body := fnB 24) rfl (D.fn _ (mm 18 rfl)) (ko D) (fun _ => rfl) (fun _ => rfl) (fun _ => rfl) (fun _ => rfl) (fun _ => ⟨rfl,rfl⟩) rfl rfl rfl (by decide +kernel) (by decide +kernel) (mX D.toGlo O)
end
section
variable {R : Run} {mg mb : Str → Option Value} {X : Addr → Prop} {μ : List Addr}
structure tA (t : Tm) (lay : Lay) (ρ0 : List PV → PV → Rho) : Prop where
 fz : ∀ x i,(x,Kd.frz,i) ∈ lay → (x,NameKind.free) ∈ t.scope.names ∧ ((∃ j,t.caps[j]? = some x ∧ ∀ cap self,(ρ0 cap self)[i]? = some (cap.getD j .unb)) ∨ (t.self = some x ∧ ∀ cap self,(ρ0 cap self)[i]? = some self))
theorem pd {h : Heap} {t : Tm} {lay : Lay} {ρ0 : List PV → PV → Rho} (Z : tA t lay ρ0) {clos : List (Str × Addr)} {cs : List Addr} {vs : List Value} {cap : List PV} {k : Nat} {a : Addr} (e1 : t.caps.map (fun x => clos.lookup x) = cs.map some)
  (e2 : cs.map h.get? = vs.map (fun v => some (U3 (some v)))) (e3 : ∀ d ∈ cs,¬ X d ∧ d ∉ μ) (e4 : ∀ x,t.self = some x → ∃ d,clos.lookup x = some d ∧ h.get? d = some (U3 (some (.ref a))) ∧ ¬ X d ∧ d ∉ μ) (rs : g9 R.Θ X μ h cap vs) (ra : n4 R.Θ X μ h (.clo k cap) (.ref a)) :
  ∀ x i,(x,Kd.frz,i) ∈ lay → (x,NameKind.free) ∈ t.scope.names ∧ ∃ c w,clos.lookup x = some c ∧ h.get? c = some (U3 w) ∧ c ∉ μ ∧ ¬ X c ∧ ∀ v,(ρ0 cap (.clo k cap))[i]? = some v → v.isUnb = false → ∃ v',w = some v' ∧ n4 R.Θ X μ h v v' := by
 intro x i hm
 obtain ⟨h1,h2⟩ := Z.fz x i hm
 refine ⟨h1,?_⟩
 rcases h2 with ⟨j,hj,hr⟩ | ⟨hs,hr⟩
 ·have g1 : (t.caps.map (fun x => clos.lookup x))[j]? = some (clos.lookup x) := by rw [List.getElem?_map,hj]; rfl
  rw [e1,List.getElem?_map] at g1
  obtain ⟨c,hc,g2⟩ := mq g1
  have g3 : (cs.map h.get?)[j]? = some (h.get? c) := by rw [List.getElem?_map,hc]; rfl
  rw [e2,List.getElem?_map] at g3
  obtain ⟨v,hv,g4⟩ := mq g3
  have hcm := List.mem_of_getElem? hc
  have hjc : j < cap.length := by
   rw [rs.length]
   exact (List.getElem?_eq_some_iff.mp hv).1
  obtain ⟨v',hv',r⟩ := rs.get j _ (List.getElem?_eq_getElem hjc)
  rw [hv] at hv'; cases hv'
  refine ⟨c,some v,g2.symm,g4.symm,(e3 c hcm).2,(e3 c hcm).1,fun p hp hu => ⟨v,rfl,?_⟩⟩
  rw [hr] at hp
  cases hp
  rw [List.getD_eq_getElem?_getD,List.getElem?_eq_getElem hjc]
  exact r
 ·obtain ⟨d,g1,g2,g3,g4⟩ := e4 x hs
  refine ⟨d,_,g1,g2,g4,g3,fun p hp hu => ⟨_,rfl,?_⟩⟩
  rw [hr] at hp
  cases hp
  exact ra
noncomputable def uW (lay pl : Lay) (names : List (Str × NameKind)) : Bool := qL lay && pl.all (fun e => inL lay e && e.2.1.isW) && lay.all fun e => match e.2.1 with
 | .loc => inN names e.1 .local
 | .glo => inN names e.1 .globalImplicit
 | .frz => true
 | _ => false
theorem iT (D : I3 R mg mb) {m k : Nat} {t : Tm} {fd : FD} {lay pl : Lay} {body : List Stmt} {ρ0 : List PV → PV → Rho} (ht : tms k = some t) (hc : ctab k = some fd) (hkey : fd.key = false) (hdfl : fd.dfl = [])
  (hst : ∀ args cap self,args.length = fd.np → pl.length = args.length ∧ fd.start args .none cap self = X0 pl args (ρ0 cap self))
  (hbind : ∀ s clos pm doc cdv ct vs,vs.length = pl.length → BindsTo s (qQ t clos pm doc cdv ct) ⟨vs,[]⟩ ((pl.map (·.1)).zip vs)) (hbody : t.body = .stmts body)
  (hk : t.scope.kind = .function) (hco : t.scope.isCoroutine = false) (hgen : t.scope.isGenerator = false) (nd : (t.scope.names.map Prod.fst).Nodup) (hent : uW lay pl t.scope.names = true) (Z : tA t lay ρ0)
  (hloc : ∀ x i,(x,Kd.loc,i) ∈ lay → ∀ cap self v,(ρ0 cap self)[i]? = some v → v.isUnb = true)
  (hB : l3 R (orc m) m lay body fd.body) (cap : List PV) : z2 R (orc (m + 1)) (m + 1) (.clo k cap) := by
 intro A X μ s σ args kw v σ' fv vs kvs I st hr ev rf ra rk
 obtain ⟨q,e0,ev⟩ := bd ev
 have e0 : (ctab k).map (fun d => (d,cap)) = some q := e0
 rw [hc] at e0
 cases e0
 obtain ⟨as,e1,e2⟩ := bd ev
 obtain ⟨⟨fl,S'⟩,e3,e4⟩ := mq e2
 cases e4
 obtain ⟨rfl,rfl,hl⟩ := o4 hkey hdfl e1
 obtain ⟨hlen,hs⟩ := hst as cap (.clo k cap) hl
 simp only [Option.getD_none] at e3
 rw [hs] at e3
 cases rk
 have rf' := rf
 cases rf with
 | @clo _ _ a c t' clos pm ct doc cs ws hth ho hxa hma hcd hxc hmc q1 q2 q3 q4 rs =>
 have htt : t' = t := by rw [D.th,ht] at hth; cases hth; rfl
 subst htt
 obtain ⟨h12,h3⟩ := Bool.and_eq_true_iff.mp hent
 obtain ⟨h1,h2⟩ := Bool.and_eq_true_iff.mp h12
 have k3 := fun e he => z4.mp h3 e he
 refine rj (lay := lay) (pl := pl) (ps := as) (bvals := vs) (ρ₀ := ρ0 cap (.clo k cap)) D.B.low D.hlim I st hr ho rfl hcd hbody (hbind s clos pm doc _ ct vs (by rw [hlen,ra.length])) ra (hlen.trans ra.length) ?_ (U0 h1) hk hco hgen rfl rfl nd ?_ ?_ ?_ ?_ ?_ hB e3
 ·intro e he
  have := z4.mp h2 e he
  simp only [z5] at this
  exact ⟨G5.mp this.1,Kd.w this.2⟩
 ·intro x i hm
  exact ⟨B0.mp (k3 _ hm),fun v => hloc x i hm cap _ v⟩
 ·intro x i hm
  exact B0.mp (k3 _ hm)
 ·intro x i hm
  have := k3 _ hm
  cases this
 ·intro x i hm
  have := k3 _ hm
  cases this
 ·exact pd (R := R) Z q1 q2 q3 q4 rs rf'
theorem oC (D : I3 R mg mb) {m k : Nat} {t : Tm} {fd : FD} {lay pl : Lay} {body : Expr} {mb' : ME} {ρ0 : List PV → PV → Rho} (ht : tms k = some t) (hc : ctab k = some fd) (hkey : fd.key = false) (hdfl : fd.dfl = [])
  (hst : ∀ args cap self,args.length = fd.np → pl.length = args.length ∧ fd.start args .none cap self = X0 pl args (ρ0 cap self))
  (hbind : ∀ s clos pm doc cdv ct vs,vs.length = pl.length → BindsTo s (qQ t clos pm doc cdv ct) ⟨vs,[]⟩ ((pl.map (·.1)).zip vs)) (hbody : t.body = .expr body) (hfd : fd.body = [.ret mb'])
  (hk : t.scope.kind = .function) (hco : t.scope.isCoroutine = false) (hgen : t.scope.isGenerator = false) (nd : (t.scope.names.map Prod.fst).Nodup) (hent : uW lay pl t.scope.names = true) (Z : tA t lay ρ0)
  (hloc : ∀ x i,(x,Kd.loc,i) ∈ lay → ∀ cap self v,(ρ0 cap self)[i]? = some v → v.isUnb = true)
  (hB : ES R (orc m) m lay body mb') (cap : List PV) : z2 R (orc (m + 1)) (m + 1) (.clo k cap) := by
 intro A X μ s σ args kw v σ' fv vs kvs I st hr ev rf ra rk
 obtain ⟨q,e0,ev⟩ := bd ev
 have e0 : (ctab k).map (fun d => (d,cap)) = some q := e0
 rw [hc] at e0
 cases e0
 obtain ⟨as,e1,e2⟩ := bd ev
 obtain ⟨⟨fl,S'⟩,e3,e4⟩ := mq e2
 cases e4
 obtain ⟨rfl,rfl,hl⟩ := o4 hkey hdfl e1
 obtain ⟨hlen,hs⟩ := hst as cap (.clo k cap) hl
 simp only [Option.getD_none] at e3
 rw [hs,hfd] at e3
 obtain ⟨⟨f1,s1⟩,e5,e6⟩ := bd e3
 obtain ⟨v,e7,e8⟩ := bd e5
 split at e8
 ·cases e8
 cases e8
 cases e6
 cases rk
 have rf' := rf
 cases rf with
 | @clo _ _ a c t' clos pm ct doc cs ws hth ho hxa hma hcd hxc hmc q1 q2 q3 q4 rs =>
 have htt : t' = t := by rw [D.th,ht] at hth; cases hth; rfl
 subst htt
 obtain ⟨h12,h3⟩ := Bool.and_eq_true_iff.mp hent
 obtain ⟨h1,h2⟩ := Bool.and_eq_true_iff.mp h12
 have k3 := fun e he => z4.mp h3 e he
 refine sO (lay := lay) (pl := pl) (ps := as) (bvals := vs) (ρ₀ := ρ0 cap (.clo k cap)) D.B.low D.hlim I st hr ho rfl hcd hbody (hbind s clos pm doc _ ct vs (by rw [hlen,ra.length])) ra (hlen.trans ra.length) ?_ (U0 h1) hk hco hgen rfl rfl nd ?_ ?_ ?_ ?_ ?_ hB e7
 ·intro e he
  have := z4.mp h2 e he
  simp only [z5] at this
  exact ⟨G5.mp this.1,Kd.w this.2⟩
 ·intro x i hm
  exact ⟨B0.mp (k3 _ hm),fun v => hloc x i hm cap _ v⟩
 ·intro x i hm
  exact B0.mp (k3 _ hm)
 ·intro x i hm
  have := k3 _ hm
  cases this
 ·intro x i hm
  have := k3 _ hm
  cases this
 ·exact pd (R := R) Z q1 q2 q3 q4 rs rf'
theorem gF {t : Tm} {lay : Lay} {ρ0 : List PV → PV → Rho} (g : List (Nat × Option Nat)) (h : (lay.all fun e => match e.2.1 with
   | .frz => inN t.scope.names e.1 .free && (g.any fun p => p.1 == e.2.2 && match p.2 with
    | some j => t.caps[j]? == some e.1
    | none => t.self == some e.1)
   | _ => true) = true) (hg : ∀ p ∈ g,∀ cap self,(ρ0 cap self)[p.1]? = some (match p.2 with | some j => cap.getD j .unb | none => self)) : tA t lay ρ0 := ⟨fun x i hm => by
 have := z4.mp h _ hm
 simp only [z5,List.any_eq_true,beq_iff_eq] at this
 obtain ⟨h1,⟨i',q⟩,h2,h3,h4⟩ := this
 simp only at h3
 subst h3
 refine ⟨B0.mp h1,?_⟩
 cases q with
 | some j => exact .inl ⟨j,by simpa using h4,fun cap self => hg _ h2 cap self⟩
 | none => exact .inr ⟨by simpa using h4,fun cap self => hg _ h2 cap self⟩⟩
theorem lR {lay : Lay} {ρ0 : List PV → PV → Rho} (g : List Nat) (h : (lay.all fun e => match e.2.1 with
   | .loc => g.contains e.2.2
   | _ => true) = true) (hg : ∀ i ∈ g,∀ cap self,(ρ0 cap self)[i]? = some .unb) : ∀ x i,(x,Kd.loc,i) ∈ lay → ∀ cap self v,(ρ0 cap self)[i]? = some v → v.isUnb = true := fun x i hm cap self v e => by
 have := z4.mp h _ hm
 simp only [List.contains_eq_mem,decide_eq_true_eq] at this
 rw [hg i this] at e
 cases e; rfl
noncomputable def ρ_0 (cap : List PV) (self : PV) : Rho := [.unb,.unb,.unb,cap.getD 0 .unb,.unb,.unb,cap.getD 1 .unb,.unb,.unb,self]
noncomputable def ρ_1 (cap : List PV) (self : PV) : Rho := [.unb,.unb,cap.getD 0 .unb,.unb,.unb,cap.getD 1 .unb,self]
noncomputable def ρ_2 (cap : List PV) (self : PV) : Rho := [.unb,cap.getD 0 .unb,cap.getD 1 .unb]
theorem rN (D : I3 R mg mb) {m : Nat} (O : l9 R (orc m) m) (cap : List PV) : z2 R (orc (m + 1)) (m + 1) (.clo 0 cap) :=
 iT D (t := mT) (fd := t8) (lay := y2) (pl := y2.take 3) (body := inB 9 1) (ρ0 := ρ_0) rfl rfl rfl rfl
  (fun args cap self h => by obtain ⟨p0,p1,p2,rfl⟩ := tl h; exact ⟨rfl,rfl⟩)
  (fun s clos pm doc cdv ct vs h => by obtain ⟨p0,p1,p2,rfl⟩ := tl h; exact kp_binds (M8 _) fun _ => rfl) rfl rfl rfl rfl (by decide +kernel) (by decide +kernel)
  (gF [(3,some 0),(6,some 1),(9,none)] (by decide +kernel) (by intro p hp cap self; simp only [List.mem_cons,B8,or_false] at hp; rcases hp with rfl | rfl | rfl <;> rfl))
  (lR [0,1,2,4,5,7,8] (by decide +kernel) (by intro p hp cap self; simp only [List.mem_cons,B8,or_false] at hp; rcases hp with rfl | rfl | rfl | rfl | rfl | rfl | rfl <;> rfl))
  (Q0 D.toGlo O) cap
theorem su (D : I3 R mg mb) {m : Nat} (O : l9 R (orc m) m) (cap : List PV) : z2 R (orc (m + 1)) (m + 1) (.clo 1 cap) :=
 iT D (t := mQ) (fd := t9) (lay := y1) (pl := y1.take 2) (body := inB 10 0) (ρ0 := ρ_1) rfl rfl rfl rfl
  (fun args cap self h => by obtain ⟨p0,p1,rfl⟩ := mS h; exact ⟨rfl,rfl⟩)
  (fun s clos pm doc cdv ct vs h => by obtain ⟨p0,p1,rfl⟩ := mS h; exact kp_binds (M8 _) fun _ => rfl) rfl rfl rfl rfl (by decide +kernel) (by decide +kernel)
  (gF [(2,some 0),(5,some 1),(6,none)] (by decide +kernel) (by intro p hp cap self; simp only [List.mem_cons,B8,or_false] at hp; rcases hp with rfl | rfl | rfl <;> rfl))
  (lR [0,1,3,4] (by decide +kernel) (by intro p hp cap self; simp only [List.mem_cons,B8,or_false] at hp; rcases hp with rfl | rfl | rfl | rfl <;> rfl))
  (Q1 D.toGlo O) cap
theorem si (D : I3 R mg mb) {m : Nat} (O : l9 R (orc m) m) (cap : List PV) : z2 R (orc (m + 1)) (m + 1) (.clo 2 cap) :=
 oC D (t := mU) (fd := z0) (lay := y4) (pl := y4.take 1) (body := uE) (ρ0 := ρ_2) rfl rfl rfl rfl
  (fun args cap self h => by obtain ⟨p0,rfl⟩ := nY h; exact ⟨rfl,rfl⟩)
  (fun s clos pm doc cdv ct vs h => by obtain ⟨p0,rfl⟩ := nY h; exact kp_binds (M8 _) fun _ => rfl) rfl rfl rfl rfl rfl (by decide +kernel) (by decide +kernel)
  (gF [(1,some 0),(2,some 1)] (by decide +kernel) (by intro p hp cap self; simp only [List.mem_cons,B8,or_false] at hp; rcases hp with rfl | rfl <;> rfl))
  (lR [0] (by decide +kernel) (by intro p hp cap self; simp only [List.mem_cons,B8,or_false] at hp; rcases hp with rfl; rfl))
  (Q2 D.toGlo O) cap
theorem ay {α : Type} {a : Nat} {x : α} : ∀ {l : List (Nat × α)},l.lookup a = some x → (a,x) ∈ l
 | (b,y) :: r,h => by
  simp only [List.lookup] at h
  split at h
  ·rename_i e; cases h; rw [beq_iff_eq.mp e]; exact List.mem_cons_self
  ·exact G6 _ (ay h)
theorem pO (D : I3 R mg mb) {m : Nat} (O : l9 R (orc m) m) : ∀ p ∈ jf,z2 R (orc (m + 1)) (m + 1) (.glob p.1) := by
 unfold jf
 simp only [List.forall_mem_cons,B8,false_implies,implies_true,and_true]
 exact ⟨J1 D O,N4 D O,L0 D O,fe D O,eG D O,ba D O,be D O,bh D O,cD D O,
  ar D O,aB D O,aP D O,cU D O,dq D O,bU D O,cn D O,bW D O,bA D O,nA D O⟩
theorem nP {a : Nat} {fd : FD} (h : pG a = some fd) : ∃ q ∈ defsL,q.2.1 = a := by
 have key : ∀ p ∈ jf,∃ q ∈ defsL,q.2.1 = p.1 := by
  have : (jf.map Prod.fst) = defsL.map (·.2.1) := rfl
  intro p hp
  have h1 : p.1 ∈ jf.map Prod.fst := List.mem_map_of_mem hp
  rw [this] at h1
  obtain ⟨q,hq,e⟩ := List.mem_map.mp h1
  exact ⟨q,hq,e⟩
 exact key _ (ay h)
inductive mZ : PV → Prop
 | glob (a : Nat) (d : FD) (h : pG a = some d) : mZ (.glob a)
 | clo (k : Nat) (cap : List PV) (d : FD) (h : ctab k = some d) : mZ (.clo k cap)
theorem iv {m : Nat} {f : PV} {args : List PV} {kw : Option PV} {σ : Sto} {r : PV × Sto} (ev : orc (m + 1) f args kw σ = some r) : mZ f := by
 obtain ⟨q,e1,_⟩ := bd ev
 cases f with
 | glob a =>
  obtain ⟨d,hd,_⟩ := mq e1
  exact .glob a d hd
 | clo k cap =>
  obtain ⟨d,hd,_⟩ := mq e1
  exact .clo k cap d hd
 | _ => exact nos e1
theorem pJ (D : I3 R mg mb) {m : Nat} (O : l9 R (orc m) m) {k : Nat} {d : FD} (h : ctab k = some d) (cap : List PV) : z2 R (orc (m + 1)) (m + 1) (.clo k cap) := by
 cases k with
 | zero => exact rN D O cap
 | succ k => cases k with
  | zero => exact su D O cap
  | succ k => cases k with
   | zero => exact si D O cap
   | succ k => exact nos h
theorem rJ (D : I3 R mg mb) {f : PV} (H : mZ f) {X : Addr → Prop} {μ : List Addr} {s : Shared} {fv : Value} (I : Inv R X μ s) (rf : n4 R.Θ X μ s.heap f fv) : tT s.heap fv := by
 cases H with
 | glob a d hd =>
  obtain ⟨q,hq,rfl⟩ := nP hd
  have F := D.fn q hq
  obtain ⟨pm,ho⟩ := F.obj
  rw [rf.glob_inv]
  exact ⟨_,_,_,I.keep _ _ ho F.tab,rfl,F.tab⟩
 | clo k cap d hd =>
  cases rf with
  | @clo _ _ a c t' clos pm ct doc cs ws hth ho hxa hma hcd hxc hmc q1 q2 q3 q4 rs =>
  exact ⟨_,_,_,ho,rfl,fun h => hxa (I.xt _ h)⟩
theorem rV (D : I3 R mg mb) (m : Nat) : l9 R (orc m) m := by
 induction m with
 | zero => exact ⟨fun _ _ _ _ _ _ _ _ _ _ _ _ _ _ _ _ ev => nos ev,fun _ _ _ _ _ _ _ _ _ _ ev => nos ev⟩
 | succ m O =>
  refine ⟨fun A X μ s σ f args kw v σ' fv vs kvs I st hr ev rf ra rk => ?_,fun X μ s σ f args kw r fv I ev rf => rJ D (iv ev) I rf⟩
  cases iv ev with
  | glob a d hd => exact pO D O _ (ay hd) A X μ s σ args kw v σ' fv vs kvs I st hr ev rf ra rk
  | clo k cap d hd => exact pJ D O hd cap A X μ s σ args kw v σ' fv vs kvs I st hr ev rf ra rk
end
structure KOk (K : Frag) : Prop where
 fn : ∀ q ∈ defsL,(∃ pm,K.lookup q.2.1 = some { cls := .type "function",data := .func (fdN q.1 (q.2.1 - 1) q.2.2.1 q.2.2.2 pm) }) ∧ ∃ o vs t,K.lookup (q.2.1 - 1) = some o ∧ o.data = .fields vs ∧ vs[1]? = some (.str (dfn q.1).name t)
 gen : (∃ pm,K.lookup 21 = some { cls := .type "function",data := .func (fdN 1 20 .none .none pm) }) ∧ ∃ o vs t,K.lookup 20 = some o ∧ o.data = .fields vs ∧ vs[1]? = some (.str (dfn 1).name t)
 dfl : ∀ T ∈ [85,94,103],∃ o tk n,K.lookup T = some o ∧ o = { cls := .type "tuple",data := .seq #[.int 0 tk,.none] n }
 f : ∀ p ∈ gfun,nsIn K mainGlobals p.1 = some (some (.ref p.2))
 law : nsIn K mainGlobals (Str.ofString "law") = some (some (.ref 154))
 bi : ∀ p ∈ gbi,nsIn K mainGlobals p.1 = some none
 ty : ∀ p ∈ gty,nsIn K mainGlobals p.1 = some none
 lim : ∃ tk,nsIn K mainGlobals (Str.ofString "_DIV_LIMIT") = some (some (.int 4000 tk))
 bt : nsIn K mainGlobals (Str.ofString "__builtins__") = some (some (.ref 4))
 hd : ∀ t ∈ [mT,mQ,mU],codeHdIn K t.c t.P = true
theorem bZ {k : Nat} {t : Tm} (h : tms k = some t) : t ∈ [mT,mQ,mU] := by
 match k,h with
 | 0,h => cases h; simp
 | 1,h => cases h; simp
 | 2,h => cases h; simp
theorem sZ : mT.P = 58 ∧ mQ.P = 65 ∧ mU.P = 144 ∧ mT.c = 62 ∧ mQ.c = 69 ∧ mU.c = 148 := ⟨rfl,rfl,rfl,rfl,rfl,rfl⟩
theorem nW : ∀ p ∈ gbi,bootBuiltins p.1 = some (.builtin p.2) := by decide +kernel
theorem iM : ∀ p ∈ gty,bootBuiltins p.1 = some (.type p.2) := by decide +kernel
theorem eH : (∀ p ∈ gbi,p.1 ≠ Str.ofString "__name__") ∧ ∀ p ∈ gty,p.1 ≠ Str.ofString "__name__" := by decide +kernel
section
variable {p : Program} {loose : List Str} {mean : ExcName → Option Value} {mg mb : Str → Option Value} {s₁ : Shared} {K : Frag} {prog : Program} {w : World}
noncomputable abbrev iS (prog : Program) (w : World) (s₁ : Shared) : Run := ⟨prog,w,tms,s₁.heap,s₁.os⟩
theorem lT {h h' : Heap} {c : Addr} {q : Str} (x : ∃ o vs t,h.get? c = some o ∧ o.data = .fields vs ∧ vs[1]? = some (.str q t)) (hc : c ∉ Tabs) (k : L9 h h') : h'.CodeRec (.ref c) q :=
 let ⟨o,vs,t,g1,g2,g3⟩ := x
 ⟨c,o,vs,t,rfl,k _ _ g1 hc,g2,g3⟩
theorem qI (T : Top p loose mean mg mb s₁.heap) (X : K.In s₁.heap) (hT8 : ∀ P ∈ Tabs,s₁.heap.get? P = some (tabObj #[])) (O : KOk K) : I3 (iS prog w s₁) mg mb where
 B := ⟨fun t ht => ⟨_,hT8 t ht⟩,T.g,T.b⟩
 K := by
  refine ⟨T.g,?_,?_,?_⟩
  ·obtain ⟨bm,ob,h1,h2,h3,h4,h5,h6⟩ := T.bmain
   have h1' : mg "__builtins__" = some (.ref 4) := mg_of X T.g O.bt
   rw [h1] at h1'
   cases h1'
   exact ⟨4,ob,h1,by decide,by decide,by decide,h3,h4,h5,h6⟩
  ·intro i j ti tj hi hj e
   have h := sZ
   have m1 := bZ hi
   have m2 := bZ hj
   simp only [List.mem_cons,B8,or_false] at m1 m2
   rcases m1 with rfl | rfl | rfl <;> rcases m2 with rfl | rfl | rfl <;> first | rfl | (exfalso; simp only [h.1,h.2.1,h.2.2.1] at e; exact absurd e (by decide))
  ·intro k t ht
   refine ⟨codeHd_of_K X (O.hd t (bZ ht)),?_⟩
   have m := bZ ht
   have h := sZ
   simp only [List.mem_cons,B8,or_false] at m
   rcases m with rfl | rfl | rfl <;> simp only [h] <;> decide
 hlim := T.nolimit
 f := fun q hq => mg_of X T.g (O.f q hq)
 b := fun q hq => ⟨mg_none_of X T.g (O.bi q hq),(T.builtins _ (eH.1 q hq)).trans (nW q hq)⟩
 t := fun q hq => ⟨mg_none_of X T.g (O.ty q hq),(T.builtins _ (eH.2 q hq)).trans (iM q hq)⟩
 lim := let ⟨tk,e⟩ := O.lim; ⟨tk,mg_of X T.g e⟩
 gen := by
  obtain ⟨⟨pm,ho⟩,hc⟩ := O.gen
  obtain ⟨o,vs,t,g1,g2,g3⟩ := hc
  have h21 : gty[1]? = some (Str.ofString "enumerate","enumerate") := rfl
  refine ⟨_,_,⟨X _ _ ho,by decide,rfl,fun h k => lT ⟨o,vs,t,X _ _ g1,g2,g3⟩ (by decide) k,rfl,rfl,rfl,rfl,rfl,rfl,?_,?_,?_,?_,?_,?_,fun s v => kp_binds (M8 _) fun _ => rfl,by decide +kernel,by decide +kernel,by decide +kernel,by decide +kernel,by decide +kernel,by decide +kernel,by decide +kernel,by decide +kernel,by decide +kernel,by decide +kernel,
   mg_none_of X T.g (O.ty _ (mm 1 h21)),(T.builtins _ (eH.2 _ (mm 1 h21))).trans (iM _ (mm 1 h21))⟩⟩
  ·show ∀ x ∈ (dfn 1).scope.names,x.2 ≠ .cell
   decide +kernel
  ·show (dfn 1).scope.names.lookup (Str.ofString "addr") = some .local
   decide +kernel
  ·show (dfn 1).scope.names.lookup (Str.ofString "pos") = some .local
   decide +kernel
  ·show (dfn 1).scope.names.lookup (Str.ofString "escape") = some .local
   decide +kernel
  ·show (dfn 1).scope.names.lookup (Str.ofString "ch") = some .local
   decide +kernel
  ·show (dfn 1).scope.names.lookup (Str.ofString "enumerate") = some .globalImplicit
   decide +kernel
 th := rfl
 fn := fun q hq => by
  obtain ⟨⟨pm,ho⟩,o,vs,t,g1,g2,g3⟩ := O.fn q hq
  have ht : ∀ q ∈ defsL,q.2.1 ∉ Tabs ∧ q.2.1 - 1 ∉ Tabs := by decide +kernel
  exact ⟨(ht q hq).1,⟨pm,X _ _ ho⟩,(ht q hq).2,⟨o,vs,t,X _ _ g1,g2,g3⟩⟩
 dfl := fun q hq => by
  obtain ⟨o,tk,n,h1,h2⟩ := O.dfl q hq
  have ht : ∀ q ∈ [85,94,103],q ∉ Tabs := by decide
  exact ⟨ht q hq,o,tk,n,X _ _ h1,h2⟩
theorem gT.at {X : Addr → Prop} {μ : List Addr} {h : Heap} {t : Tm} (x : gT X μ h t) : ∃ ps,h.get? t.P = some (tabObj ps) := by
 obtain ⟨_,ps,h1,_⟩ := x; exact ⟨ps,h1⟩
theorem rt (X : K.In s₁.heap) (hT8 : ∀ P ∈ Tabs,s₁.heap.get? P = some (tabObj #[])) (hg : s₁.gens = #[]) : Inv (iS prog w s₁) (· ∈ Tabs) [] s₁ where
 keep := .refl _
 tabs := fun k t ht => by
  have m := bZ ht
  have h := sZ
  have hP : t.P ∈ Tabs := by
   simp only [List.mem_cons,B8,or_false] at m
   rcases m with rfl | rfl | rfl <;> simp only [h] <;> decide
  exact ⟨hP,#[],hT8 _ hP,trivial,fun cv e => by cases e⟩
 os := rfl
 bare := .of_eq hg
 xt := fun b h => h
 xlo := fun b h => .inl h
 xex := fun b h => ⟨_,hT8 b h⟩
 mulo := fun b h => by cases h
 muex := fun b h => by cases h
theorem ja {Θ : Tms} {Y : Addr → Prop} {μ : List Addr} {h : Heap} : ∀ {vs : List Value} {l : List Int},IntsAre vs l → g9 Θ Y μ h (l.map .int) vs
 | _,_,.nil => .nil
 | _,_,.cons _ _ r => .cons (.int _ _) (ja r)
theorem join (T : Top p loose mean mg mb s₁.heap) (X : K.In s₁.heap) (hT8 : ∀ P ∈ Tabs,s₁.heap.get? P = some (tabObj #[])) (O : KOk K) {fa a : Addr} (hmg : mg (Str.ofString "law") = some (.ref fa)) (hg : s₁.gens = #[])
  {l : List Int} {vs : List Value} (hL : s₁.heap.IsList a vs.toArray) (hI : IntsAre vs l) (hlaw : ∃ σ',orc 40 (.glob 154) [.list (l.map .int)] none [] = some (.bool true,σ')) :
  wpAny (model prog w) callerA (call (.ref fa) [.ref a]) (fun v s' => v = .bool true ∧ OldK s₁.heap s'.heap ∧ s'.os = s₁.os ∧ AllBare s'.gens) noE s₁ := by
 obtain ⟨σ',ev⟩ := hlaw
 have hfa : fa = 154 := by
  have := mg_of X T.g O.law
  rw [hmg] at this; cases this; rfl
 subst hfa
 have D : I3 (iS prog w s₁) mg mb := qI T X hT8 O
 have I : Inv (iS prog w s₁) (· ∈ Tabs) [] s₁ := rt X hT8 hg
 have ha : a ∉ Tabs := fun h => by
  obtain ⟨o,e,e2,_⟩ := hL
  rw [hT8 a h] at e
  cases e
  cases e2
 refine wt ((rV D 40).call callerA _ _ _ [] (.glob 154) [.list (l.map .int)] none _ _ _ _ _ I fb (by unfold du; decide) ev (.glob 154) (.cons (.list hL ha (by simp) (ja hI)) .nil) .none) fun v s' h => ?_
 obtain ⟨μ',r⟩ := h
 refine ⟨?_,?_,r.inv.os,r.inv.bare⟩
 ·cases r.rel; rfl
 ·have key : ∀ b o,s₁.heap.get? b = some o → b ∈ Tabs → ∃ t,t ∈ [mT,mQ,mU] ∧ t.P = b ∧ ∃ ps,s'.heap.get? b = some (tabObj ps) := by
   intro b o e hb
   have h := sZ
   have g0 := (r.inv.tabs 0 mT rfl).at
   have g1 := (r.inv.tabs 1 mQ rfl).at
   have g2 := (r.inv.tabs 2 mU rfl).at
   rw [h.1] at g0
   rw [h.2.1] at g1
   rw [h.2.2.1] at g2
   simp only [Tabs,List.mem_cons,B8,or_false] at hb
   rcases hb with rfl | rfl | rfl
   ·exact ⟨mT,by simp,h.1,g0⟩
   ·exact ⟨mQ,by simp,h.2.1,g1⟩
   ·exact ⟨mU,by simp,h.2.2.1,g2⟩
  refine ⟨fun b o e => ?_,fun b o e => ?_⟩
  ·by_cases hb : b ∈ Tabs
   ·obtain ⟨t,ht,rfl,ps,hps⟩ := key b o e hb
    rw [hT8 _ hb] at e; cases e
    obtain ⟨oc,ws,file,tf,fl,tg,b9,tx,tt,c1,c2,c3,c4,_⟩ := codeHd_of_K X (O.hd t ht)
    refine .inr (.inl ⟨⟨t.c,oc,ws,c1,c2,c3,c4⟩,rfl,#[],ps,rfl,?_⟩)
    rw [hps]
    simp [tabObj]
   ·exact .inl (r.inv.keep b o e hb)
  ·by_cases hb : b ∈ Tabs
   ·obtain ⟨t,ht,rfl,ps,hps⟩ := key b o e hb
    exact ⟨_,hps⟩
   ·exact ⟨o,r.inv.keep b o e hb⟩
end
open PySem
theorem z8 {m a : Nat} {fd : FD} {args as : List PV} {σ : Sto} (h : pG a = some fd) (hk : fd.takes args none = some as) :
  orc (m + 1) (.glob a) args none σ = (exB (orc m) fd.body ⟨fd.start as .none [] (.glob a),σ⟩).map fun r => (r.1.val,r.2.σ) := by
 show (((pG a).map fun d => (d,[])).bind _) = _
 rw [h]
 show ((if (none : Option PV).isSome != fd.key then none else fd.fill args).bind _) = _
 rw [show (if (none : Option PV).isSome != fd.key then none else fd.fill args) = some as from hk]
 rfl
theorem lk {m a : Nat} {fd : FD} {args as : List PV} {kv : PV} {σ : Sto} (h : pG a = some fd) (hk : fd.takes args (some kv) = some as) :
  orc (m + 1) (.glob a) args (some kv) σ = (exB (orc m) fd.body ⟨fd.start as kv [] (.glob a),σ⟩).map fun r => (r.1.val,r.2.σ) := by
 show (((pG a).map fun d => (d,[])).bind _) = _
 rw [h]
 show ((if (some kv).isSome != fd.key then none else fd.fill args).bind _) = _
 rw [show (if (some kv).isSome != fd.key then none else fd.fill args) = some as from hk]
 rfl
theorem cO {m k : Nat} {cap : List PV} {fd : FD} {args as : List PV} {σ : Sto} (h : ctab k = some fd) (hk : fd.takes args none = some as) :
  orc (m + 1) (.clo k cap) args none σ = (exB (orc m) fd.body ⟨fd.start as .none cap (.clo k cap),σ⟩).map fun r => (r.1.val,r.2.σ) := by
 show (((ctab k).map fun d => (d,cap)).bind _) = _
 rw [h]
 show ((if (none : Option PV).isSome != fd.key then none else fd.fill args).bind _) = _
 rw [show (if (none : Option PV).isSome != fd.key then none else fd.fill args) = some as from hk]
 rfl
theorem u7 {C : Orc} {f v : PV} {args : List PV} {kw : Option PV} {σ σ' : Sto} (hf : H6 f = true) (hk : bv kw = true) (ha : args.all H6 = true) (hv : H6 v = true) (h : C f args kw [] = some (v,σ')) : B3 C f args kw σ = some v := by
 obtain ⟨f1,f2⟩ := lp (σ := σ) ha
 unfold B3
 rw [hf,hk,f1,f2]
 simp [h,frz hv]
theorem hF {k : Nat} : (2 : Int) ^ k = ((2 ^ k : Nat) : Int) := (Int.natCast_pow 2 k).symm
theorem bF {x : Int} {k : Nat} (h : 0 ≤ x) : intBits x ≤ k ↔ x < 2 ^ k := by
 unfold intBits
 obtain ⟨n,rfl⟩ := Int.eq_ofNat_of_zero_le h
 by_cases hn : n = 0
 ·subst hn
  simp
  exact Int.pow_pos (by decide)
 ·have h1 : ((n : Int) == 0) = false := by simpa using hn
  rw [h1]
  simp only [u4,if_false,Int.natAbs_natCast]
  have := Nat.log2_lt (k := k) hn
  have e : ((n : Int) < 2 ^ k) ↔ n < 2 ^ k := by
   rw [hF]
   exact Int.ofNat_lt
  rw [e,← this]
  exact Iff.rfl
theorem hG {x : Int} {k : Nat} (h : 0 ≤ x) : k < intBits x ↔ 2 ^ k ≤ x := by
 rw [← Nat.not_le,bF h,Int.not_lt]
theorem qr {x : Int} {n : Nat} (h0 : 0 < n) (h1 : 2 ^ (n - 1) ≤ x) (h2 : x < 2 ^ n) : intBits x = n := by
 have hx : 0 ≤ x := Int.le_trans (Int.le_of_lt (Int.pow_pos (by decide))) h1
 have a := (bF (k := n) hx).mpr h2
 exact Nat.le_antisymm a (Nat.le_of_pred_lt ((hG (k := n - 1) hx).mpr h1))
theorem X4 {x : Int} (h : 0 < x) : 2 ^ (intBits x - 1) ≤ x ∧ x < 2 ^ intBits x ∧ 0 < intBits x := by
 have h0 : 0 ≤ x := by lia
 have hb : 0 < intBits x := (hG h0).mpr (by simp; lia)
 exact ⟨(hG h0).mp (by lia),(bF h0).mp (Nat.le_refl _),hb⟩
theorem I2 {x : Int} {k : Nat} (h : x.natAbs < 2 ^ k) (hk : k ≤ 1000000) : C8 x = true := by
 unfold C8
 have : intBits x = intBits (x.natAbs : Int) := by unfold intBits; simp
 rw [this]
 have := (bF (x := (x.natAbs : Int)) (k := k) (Int.natCast_nonneg _)).mpr (by
  rw [hF]
  exact Int.ofNat_lt.mpr h)
 exact decide_eq_true (Nat.le_trans this hk)
section
variable {C : Orc} {ρ : Rho} {σ : Sto} {i : Nat} {v : PV} {r : List PV}
theorem f6 {x : PV} : n7 (x :: r) (i + 1) = n7 r i := rfl
theorem j8 {a : Int} : n7 (.int a :: r) 0 = some (.int a) := rfl
theorem y3 {a : List Nat} : n7 (.str a :: r) 0 = some (.str a) := rfl
theorem jX : n7 (.none :: r) 0 = some .none := rfl
theorem E3 {b : List PV} : n7 (.list b :: r) 0 = some (.list b) := rfl
theorem H1 {b : Nat} : n7 (.box b :: r) 0 = some (.box b) := rfl
theorem T9 {b : Nat} {c : List PV} : n7 (.clo b c :: r) 0 = some (.clo b c) := rfl
theorem Y8 {a : Int} : (PV.int a).isUnb = false := rfl
theorem Z3 {a : List Nat} : (PV.str a).isUnb = false := rfl
theorem ez : PV.none.isUnb = false := rfl
theorem M7 {a : Bool} : (PV.bool a).isUnb = false := rfl
theorem G0 {a : List PV} : (PV.tup a).isUnb = false := rfl
theorem W9 {a : Nat} : (PV.box a).isUnb = false := rfl
theorem f5 (h : i < ρ.length) : I7 (.one i) v ρ = some (ρ.set i v) := if_pos h
theorem o0 {j : Nat} {a b : PV} (h : i < ρ.length) (h' : j < ρ.length) : I7 (.two i j) (.tup [a,b]) ρ = some ((ρ.set i a).set j b) := if_pos ⟨h,h'⟩
theorem T7 {a : Int} (h : i < ρ.length) : eY i (.int a) ⟨ρ,σ⟩ = some ⟨ρ.set i (.int a),σ⟩ := if_pos ⟨h,rfl⟩
theorem T8 {a : Nat} (h : i < ρ.length) : eY i (.box a) ⟨ρ,σ⟩ = some ⟨ρ.set i (.box a),σ⟩ := if_pos ⟨h,rfl⟩
theorem bu {a : Nat} {c : List PV} (h : i < ρ.length) : eY i (.clo a c) ⟨ρ,σ⟩ = some ⟨ρ.set i (.clo a c),σ⟩ := if_pos ⟨h,rfl⟩
theorem i7 {b : Bool} : I5 σ (.bool b) = some b := rfl
theorem L2 {s : St} {n : Nat} {xs : List PV} (h : n7 s.ρ i = some (.box n)) (h' : s.σ[n]? = some xs) : M5 s i = some (n,xs) := by
 unfold M5; rw [h]; simp [h']
theorem dk {a b : Int} : evP .add [.int a,.int b] σ = some (.int (a + b)) := rfl
theorem U7 {a b : Int} : evP .sub [.int a,.int b] σ = some (.int (a - b)) := rfl
theorem ju {a b : Int} : evP .lt [.int a,.int b] σ = some (.bool (decide (a < b))) := rfl
theorem tD {a b : Int} : evP .le [.int a,.int b] σ = some (.bool (decide (a ≤ b))) := rfl
theorem tZ {a b : Int} : evP .gt [.int a,.int b] σ = some (.bool (decide (a > b))) := rfl
theorem pi {a b : Int} : evP .eq [.int a,.int b] σ = some (.bool (a == b)) := rfl
theorem uI {a b : Int} : evP .ne [.int a,.int b] σ = some (.bool (!(a == b))) := rfl
theorem qe {a b : Int} (h : 0 < b) : evP .mod [.int a,.int b] σ = some (.int (a % b)) := if_pos h
theorem sT {a b : PV} {r : List PV} : evP .idx [.tup (a :: b :: r),.int 1] σ = some b := rfl
theorem se : evP (.isc .none) [.none] σ = some (.bool true) := rfl
theorem rZ {a : Int} : evP (.isc .none) [.int a] σ = some (.bool false) := rfl
theorem sA {k : Nat} {c : List PV} : evP (.isc .none) [.clo k c] σ = some (.bool false) := rfl
theorem oJ {b c : Bool} : evP (.isc (.bool c)) [.bool b] σ = some (.bool (b == c)) := rfl
theorem uu {b : Bool} : evP .not [.bool b] σ = some (.bool (!b)) := rfl
theorem qK {a : Int} : evP .neg [.int a] σ = some (.int (-a)) := rfl
theorem tI {a : Int} : evP .inv [.int a] σ = some (.int (-a - 1)) := rfl
theorem vq {a b : Int} (h : 0 ≤ b) (h1 : b ≤ 1000000) (h2 : C8 a = true) : evP .shl [.int a,.int b] σ = some (.int (a * 2 ^ b.toNat)) := if_pos ⟨h,h1,h2⟩
theorem vf {a b : Int} (h : 0 ≤ b) : evP .shr [.int a,.int b] σ = some (.int (a / 2 ^ b.toNat)) := if_pos h
theorem mL {a b : Int} (h : C8 a = true) (h1 : C8 b = true) : evP .mul [.int a,.int b] σ = some (.int (a * b)) := by
 show (if (C8 a && C8 b) = true then _ else _) = _
 rw [h,h1]; rfl
theorem mI {a K : Nat} (hK : K ≤ 1000000) (h : a < 2 ^ K) : C8 (a : Int) = true := I2 (k := K) (by simpa using h) hK
theorem oW {a b K : Nat} (hK : K ≤ 1000000) (h1 : b ≤ 1000000) (h2 : a < 2 ^ K) : evP .shl [.int a,.int b] σ = some (.int ((a * 2 ^ b : Nat) : Int)) := by
 rw [vq (by lia) (by lia) (mI hK h2)]; simp
theorem rW {a b : Nat} : evP .shr [.int a,.int b] σ = some (.int ((a / 2 ^ b : Nat) : Int)) := by
 rw [vf (by lia)]; simp
theorem sQ {a b : Nat} : evP .band [.int a,.int b] σ = some (.int ((a &&& b : Nat) : Int)) := rfl
theorem bn (x : Int) : -(-x - 1) - 1 = x := by rw [Int.neg_sub,Int.sub_neg,Int.add_comm,Int.add_sub_cancel]
theorem ng0 (a : Nat) : decide (0 ≤ -(a : Int) - 1) = false :=
 decide_eq_false fun h => absurd (Int.le_trans (Int.le_of_sub_nonneg h) (Int.neg_nonpos_of_nonneg (Int.natCast_nonneg a))) (by decide)
theorem tG {a b : Nat} : evP .bor [.int a,.int b] σ = some (.int ((a ||| b : Nat) : Int)) := by
 show some (PV.int (Builtin.bitOr a b)) = _
 congr 2
 unfold Builtin.bitOr Builtin.bitAnd Builtin.bitNot
 rw [ng0,ng0]
 show -(-(((-(-(a : Int) - 1) - 1).toNat ||| (-(-(b : Int) - 1) - 1).toNat : Nat) : Int) - 1) - 1 = _
 rw [bn,bn,bn]
 rfl
theorem tQ {a b : Nat} : evP .bxor [.int a,.int b] σ = some (.int (((a ||| b : Nat) : Int) - ((a &&& b : Nat) : Int))) := by
 have h : Builtin.bitOr a b = ((a ||| b : Nat) : Int) := PV.int.inj (Option.some.inj (tG (a := a) (b := b) (σ := σ)))
 show some (PV.int (Builtin.bitXor a b)) = _
 unfold Builtin.bitXor
 rw [h]
 rfl
theorem oO {a b : Nat} : evP .add [.int a,.int b] σ = some (.int ((a + b : Nat) : Int)) := rfl
theorem tz {a b : Nat} (h : b ≤ a) : evP .sub [.int a,.int b] σ = some (.int ((a - b : Nat) : Int)) := by
 exact congrArg (fun z => some (PV.int z)) (Int.ofNat_sub h).symm
theorem tY {a b K : Nat} (hK : K ≤ 1000000) (h1 : a < 2 ^ K) (h2 : b < 2 ^ K) : evP .mul [.int a,.int b] σ = some (.int ((a * b : Nat) : Int)) := by
 rw [mL (mI hK h1) (mI hK h2)]; simp
theorem nEq {a b : Nat} : evP .eq [.int a,.int b] σ = some (.bool (a == b)) := by
 rw [pi]
 congr 2
 by_cases h : a = b
 ·subst h; simp
 ·have : (a : Int) ≠ b := fun e => h (Int.ofNat.inj e)
  rw [beq_eq_false_iff_ne.mpr h,beq_eq_false_iff_ne.mpr this]
theorem qq {a : Nat} (h : 1 ≤ a) : evP .sub [.int a,.int 1] σ = some (.int ((a - 1 : Nat) : Int)) := tz (b := 1) h
theorem eX {a : Nat} : evP .add [.int a,.int 1] σ = some (.int ((a + 1 : Nat) : Int)) := oO (b := 1)
theorem sJ {a K : Nat} (hK : K ≤ 1000000) (h2 : a < 2 ^ K) : evP .shl [.int a,.int 1] σ = some (.int ((a * 2 : Nat) : Int)) := oW (b := 1) hK (by decide) h2
theorem nT {a : Nat} : evP .shr [.int a,.int 1] σ = some (.int ((a / 2 : Nat) : Int)) := rW (b := 1)
theorem oV {a : Nat} : evP .band [.int a,.int 1] σ = some (.int ((a % 2 : Nat) : Int)) := by
 rw [← Nat.and_one_is_mod]; exact sQ (b := 1)
theorem rz {b : Nat} (h1 : b ≤ 1000000) : evP .shl [.int 1,.int b] σ = some (.int ((2 ^ b : Nat) : Int)) := by
 have := oW (σ := σ) (a := 1) (b := b) (K := 1) (by decide) h1 (by decide)
 rw [Nat.one_mul] at this; exact this
theorem dz {a : Nat} : I5 σ (.int a) = some (!(a == 0)) := by
 show some ((a : Int) != 0) = _
 congr 1
 by_cases h : a = 0
 ·subst h; rfl
 ·have : (a : Int) ≠ 0 := by lia
  unfold bne
  rw [beq_eq_false_iff_ne.mpr h,beq_eq_false_iff_ne.mpr this]
theorem kx {a b : Int} (h : 0 < b) (h1 : Builtin.divisionGoesByPylong a b = false) : evP .divmod [.int a,.int b] σ = some (.tup [.int (a / b),.int (a % b)]) := if_pos ⟨h,h1⟩
theorem gK {a : Int} : evP .bitlen [.int a] σ = some (.int (intBits a)) := rfl
end
theorem cY {A q r b : Int} (hb : 0 < b) (h : A = q * b + r) (h0 : 0 ≤ r) (h1 : r < b) : A / b = q ∧ A % b = r := by
 subst h
 constructor
 ·rw [Int.add_comm,Int.add_mul_ediv_right _ _ (by lia),Int.ediv_eq_zero_of_lt h0 h1]; lia
 ·rw [Int.add_comm,Int.add_mul_emod_self_right,Int.emod_eq_of_lt h0 h1]
theorem al {c : St → Option Bool} {b : St → Option (Fl × St)} {n : Nat} {s : St} (h : c s = some false) : mR c b (n + 1) s = some (.next,s) := by
 simp only [zpa,zpb,h,i9]; rfl
theorem E4 {c : St → Option Bool} {b : St → Option (Fl × St)} {n : Nat} {s s' : St} (h : c s = some true) (h' : b s = some (.next,s')) : mR c b (n + 1) s = mR c b n s' := by
 simp only [zpa,zpb,h,h',i9,if_true]
theorem st1 {A q r b : Int} (h : A = q * b + r) : A = (q - 1) * b + (r + b) := by
 rw [h,Int.sub_mul,Int.one_mul,Int.add_comm r b,← Int.add_assoc,Int.sub_add_cancel]
theorem ngl {r b : Int} (h : ¬ 0 ≤ r) : r + b < b := by
 have := Int.add_lt_add_right (Int.not_le.mp h) b
 rwa [Int.zero_add] at this
theorem cst {x y z w : Nat} (h : x + y = z + w) : (x : Int) = (z : Int) + ((w : Int) - (y : Int)) := by
 have e : (x : Int) + (y : Int) = (z : Int) + (w : Int) := congrArg Int.ofNat h
 rw [← Int.add_sub_assoc,← e,Int.add_sub_cancel]
theorem sbl {w y b : Nat} (h : w < b + y) : (w : Int) - (y : Int) < (b : Int) := Int.sub_right_lt_of_lt_add (Int.ofNat_lt.mpr h)
theorem sbg {w y b : Nat} (h : y ≤ 2 * b) : -(2 * (b : Int)) ≤ (w : Int) - (y : Int) := by
 rw [Int.sub_eq_add_neg]
 exact Int.le_trans (Int.neg_le_neg (Int.ofNat_le.mpr h)) (Int.le_add_of_nonneg_left (Int.natCast_nonneg w))
theorem lm {C : Orc} {x0 x1 x3 x4 x5 : PV} {σ : Sto} {b q r A : Int} (hb : 0 < b) (h1 : r < b) (h2 : -(2 * b) ≤ r) (hA : A = q * b + r) :
  exS C (.wh (.prim .lt (.cons (.var 7) (.cons (.lit (.int 0)) .nil))) [.aug 6 .sub (.lit (.int 1)),.aug 7 .add (.var 2)]) ⟨[x0,x1,.int b,x3,x4,x5,.int q,.int r],σ⟩ =
   some (.next,⟨[x0,x1,.int b,x3,x4,x5,.int (A / b),.int (A % b)],σ⟩) := by
 have turn : ∀ q r : Int,(exB C [.aug 6 .sub (.lit (.int 1)),.aug 7 .add (.var 2)] ⟨[x0,x1,.int b,x3,x4,x5,.int q,.int r],σ⟩) = some (.next,⟨[x0,x1,.int b,x3,x4,x5,.int (q - 1),.int (r + b)],σ⟩) := by
  intro q r
  simp only [zea,zeb,zba,zbb,ztd,i9,n6,f6,j8,A0,A5,D3,B5,Nat.reduceAdd,Nat.reduceLT,T7,dk,U7]
 have test : ∀ q r : Int,((evE C (.prim .lt (.cons (.var 7) (.cons (.lit (.int 0)) .nil))) [x0,x1,.int b,x3,x4,x5,.int q,.int r] σ).bind (I5 σ)) = some (decide (r < 0)) := by
  intro q r
  simp only [zea,zeb,zef,zsa,zsb,i9,n6,f6,j8,i7,ju]
 simp only [ztl]
 by_cases c1 : 0 ≤ r
 ·rw [al (by rw [test,decide_eq_false (Int.not_lt.mpr c1)])]
  obtain ⟨e1,e2⟩ := cY hb hA c1 h1
  rw [e1,e2]
 ·rw [E4 (by rw [test,decide_eq_true (Int.not_le.mp c1)]) (turn q r)]
  by_cases c2 : 0 ≤ r + b
  ·rw [al (by rw [test,decide_eq_false (Int.not_lt.mpr c2)])]
   obtain ⟨e1,e2⟩ := cY (A := A) (q := q - 1) (r := r + b) hb (st1 hA) c2 (ngl c1)
   rw [e1,e2]
  ·have c3 : 0 ≤ r + b + b := by lia
   rw [E4 (by rw [test,decide_eq_true (Int.not_le.mp c2)]) (turn (q - 1) (r + b)),al (by rw [test,decide_eq_false (Int.not_lt.mpr c3)])]
   obtain ⟨e1,e2⟩ := cY (A := A) (q := q - 1 - 1) (r := r + b + b) hb (st1 (st1 hA)) c3 (ngl c2)
   rw [e1,e2]
theorem lP {x n y : Nat} (h : y < 2 ^ n) : (x * 2 ^ n) ||| y = x * 2 ^ n + y := by
 rw [Nat.mul_comm,Nat.two_pow_add_eq_or_of_lt h]
theorem um {M n a12 a3 b b1 b2 : Nat} (hn : 0 < n) (hn' : n ≤ 400000) (hb : b = b1 * 2 ^ n + b2) (h2 : b2 < 2 ^ n) (h3 : a3 < 2 ^ n) (hb1 : 2 ^ (n - 1) ≤ b1) (hb1' : b1 < 2 ^ n) (hA : a12 * 2 ^ n + a3 < b * 2 ^ n)
  (hd : ∀ a,a < b1 * 2 ^ n → orc M (.glob 49) [.int (a : Nat),.int (b1 : Nat),.int (n : Nat)] none [] = some (.tup [.int ((a / b1 : Nat) : Int),.int ((a % b1 : Nat) : Int)],[])) (σ : Sto) :
  orc (M + 1) (.glob 56) [.int (a12 : Nat),.int (a3 : Nat),.int (b : Nat),.int (b1 : Nat),.int (b2 : Nat),.int (n : Nat)] none σ = some (.tup [.int (((a12 * 2 ^ n + a3) / b : Nat) : Int),.int (((a12 * 2 ^ n + a3) % b : Nat) : Int)],σ) := by
 obtain ⟨m,hm⟩ : ∃ m,n = m + 1 := ⟨_,(Nat.succ_pred_eq_of_pos hn).symm⟩
 rw [hm,Nat.add_sub_cancel] at hb1
 have e2 : 2 ^ n = 2 * 2 ^ m := by rw [hm]; exact Nat.pow_succ'
 have p0 : 0 < 2 ^ m := Nat.pow_pos (by decide)
 have pN : 0 < 2 ^ n := Nat.pow_pos (by decide)
 generalize hN : 2 ^ n = N at *
 generalize hH : 2 ^ m = H at *
 have pb1 : 0 < b1 := Nat.lt_of_lt_of_le p0 hb1
 have hbp : 0 < b := by
  rw [hb]
  exact Nat.lt_of_lt_of_le (Nat.mul_pos pb1 pN) (Nat.le_add_right _ _)
 have ha12 : a12 < b := Nat.lt_of_mul_lt_mul_right (a := N) (Nat.lt_of_le_of_lt (Nat.le_add_right _ _) hA)
 have nM : n ≤ 1000000 := by lia
 have main : ∃ q r : Nat,a12 = q * b1 + r ∧ q < N ∧ (r < b1 ∨ q + 1 = N) ∧
   exS (orc M) (.ite (.prim .eq (.cons (.prim .shr (.cons (.var 0) (.cons (.var 5) .nil))) (.cons (.var 3) .nil))) [.assign (.two 6 7) (.tup (.cons (.prim .sub (.cons (.prim .shl (.cons (.lit (.int 1)) (.cons (.var 5) .nil))) (.cons (.lit (.int 1)) .nil))) (.cons (.prim .add (.cons (.prim .sub (.cons (.var 0) (.cons (.prim .shl (.cons (.var 3) (.cons (.var 5) .nil))) .nil))) (.cons (.var 3) .nil))) .nil)))] [.assign (.two 6 7) (.call (.glob 49) (.cons (.var 0) (.cons (.var 3) (.cons (.var 5) .nil))) none)])
    ⟨[.int a12,.int a3,.int b,.int b1,.int b2,.int n,.unb,.unb],σ⟩ = some (.next,⟨[.int a12,.int a3,.int b,.int b1,.int b2,.int n,.int q,.int r],σ⟩) := by
  by_cases hc : a12 / N = b1
  ·have hx : b1 * N ≤ a12 := by rw [← hc]; exact Nat.div_mul_le_self _ _
   obtain ⟨s,hs⟩ := Nat.exists_eq_add_of_le hx
   obtain ⟨k,hk⟩ : ∃ k,N = k + 1 := ⟨_,(Nat.succ_pred_eq_of_pos pN).symm⟩
   refine ⟨k,s + b1,?_,by rw [hk]; exact Nat.lt_succ_self k,.inr hk.symm,?_⟩
   ·rw [hs,hk,Nat.mul_succ,Nat.mul_comm b1,Nat.add_assoc,Nat.add_comm b1]
   ·have hs1 : evP .shl [.int 1,.int (n : Nat)] σ = some (.int ((N : Nat) : Int)) := by
     rw [rz nM,hN]
    have hs2 : evP .shl [.int (b1 : Nat),.int (n : Nat)] σ = some (.int ((b1 * N : Nat) : Int)) := by
     rw [oW (K := n) nM nM (by rw [hN]; exact hb1'),hN]
    have hs3 : evP .shr [.int (a12 : Nat),.int (n : Nat)] σ = some (.int ((a12 / N : Nat) : Int)) := by rw [rW,hN]
    have hs4 : evP .sub [.int (N : Nat),.int 1] σ = some (.int (k : Nat)) := by rw [hk]; exact qq (Nat.le_add_left _ _)
    have hs5 : evP .sub [.int (a12 : Nat),.int ((b1 * N : Nat) : Int)] σ = some (.int (s : Nat)) := by
     rw [tz hx]; congr 3; rw [hs]; exact Nat.add_sub_cancel_left _ _
    simp only [zea,zeb,zec,zed,zef,zek,zsa,zsb,zba,zbb,zta,ztk,i9,n6,f6,j8,o0,A0,A5,D3,B5,Nat.reduceAdd,Nat.reduceLT,i7,if_true,hs1,hs2,hs3,hs4,hs5,oO,nEq,hc,beq_self_eq_true]
  ·have hlt : a12 < b1 * N := by
    have h4 : a12 / N < b1 + 1 := (Nat.div_lt_iff_lt_mul pN).mpr (by
     rw [Nat.succ_mul]; rw [hb] at ha12; exact Nat.lt_trans ha12 (Nat.add_lt_add_left h2 _))
    exact (Nat.div_lt_iff_lt_mul pN).mp (Nat.lt_of_le_of_ne (Nat.le_of_lt_succ h4) hc)
   refine ⟨a12 / b1,a12 % b1,by rw [Nat.mul_comm]; exact (Nat.div_add_mod _ _).symm,?_,.inl (Nat.mod_lt _ pb1),?_⟩
   ·exact (Nat.div_lt_iff_lt_mul pb1).mpr (by rw [Nat.mul_comm]; exact hlt)
   ·have hs3 : evP .shr [.int (a12 : Nat),.int (n : Nat)] σ = some (.int ((a12 / N : Nat) : Int)) := by rw [rW,hN]
    have hcall : B3 (orc M) (.glob 49) [.int (a12 : Nat),.int (b1 : Nat),.int (n : Nat)] none σ = some (.tup [.int ((a12 / b1 : Nat) : Int),.int ((a12 % b1 : Nat) : Int)]) :=
     u7 rfl rfl rfl rfl (hd a12 hlt)
    have hf : evP .eq [.int ((a12 / N : Nat) : Int),.int (b1 : Nat)] σ = some (.bool false) := by
     rw [nEq,beq_eq_false_iff_ne.mpr hc]
    simp only [zea,zeb,zec,zed,zef,zek,zsa,zsb,zba,zbb,zta,ztk,i9,n6,f6,j8,o0,A0,A5,D3,B5,Nat.reduceAdd,Nat.reduceLT,i7,u4,if_false,hs3,hf,hcall]
 obtain ⟨q,r,g1,g2,g3,g4⟩ := main
 rw [z8 (fd := K1) (as := [.int a12,.int a3,.int b,.int b1,.int b2,.int n]) rfl rfl]
 have hst : FD.start K1 [.int (a12 : Nat),.int (a3 : Nat),.int (b : Nat),.int (b1 : Nat),.int (b2 : Nat),.int (n : Nat)] .none [] (.glob 56) = [.int a12,.int a3,.int b,.int b1,.int b2,.int n,.unb,.unb] := rfl
 rw [hst]
 show (exB (orc M) N6 _).map _ = _
 unfold N6
 rw [zbb,g4]
 simp only [i9]
 have hbN : b < N * N := by
  rw [hb]
  exact Nat.lt_of_lt_of_le (Nat.add_lt_add_left h2 _) (by rw [← Nat.succ_mul]; exact Nat.mul_le_mul_right _ hb1')
 have hrb : r < 2 ^ (n + n) := by
  rw [Nat.pow_add,hN]
  exact Nat.lt_of_le_of_lt (by rw [g1]; exact Nat.le_add_left _ _) (Nat.lt_trans ha12 hbN)
 have hs1 : evP .shl [.int (r : Nat),.int (n : Nat)] σ = some (.int ((r * N : Nat) : Int)) := by
  rw [oW (K := n + n) (Nat.le_trans (Nat.add_le_add hn' hn') (by decide)) nM hrb,hN]
 have hs2 : evP .bor [.int ((r * N : Nat) : Int),.int (a3 : Nat)] σ = some (.int ((r * N + a3 : Nat) : Int)) := by
  rw [tG,← hN,lP (by rw [hN]; exact h3)]
 have hs3 : evP .mul [.int (q : Nat),.int (b2 : Nat)] σ = some (.int ((q * b2 : Nat) : Int)) := tY (K := n) nM (by rw [hN]; exact g2) (by rw [hN]; exact h2)
 have step : exS (orc M) (.assign (.one 7) (.prim .sub (.cons (.prim .bor (.cons (.prim .shl (.cons (.var 7) (.cons (.var 5) .nil))) (.cons (.var 1) .nil))) (.cons (.prim .mul (.cons (.var 6) (.cons (.var 4) .nil))) .nil))))
   ⟨[.int a12,.int a3,.int b,.int b1,.int b2,.int n,.int q,.int r],σ⟩ = some (.next,⟨[.int a12,.int a3,.int b,.int b1,.int b2,.int n,.int q,.int (((r * N + a3 : Nat) : Int) - ((q * b2 : Nat) : Int))],σ⟩) := by
  simp only [zeb,zef,zsa,zsb,zta,i9,n6,f6,j8,f5,A0,A5,D3,B5,Nat.reduceAdd,Nat.reduceLT,hs1,hs2,hs3,U7]
 rw [zbb,step]
 simp only [i9]
 have q1 : q * b2 ≤ 2 * b := by
  refine Nat.le_trans (Nat.mul_le_mul (Nat.le_of_lt g2) (Nat.le_of_lt h2)) (Nat.le_trans (Nat.mul_le_mul_right N (show N ≤ 2 * b1 by rw [e2]; exact Nat.mul_le_mul_left 2 hb1)) ?_)
  rw [Nat.mul_assoc]
  exact Nat.mul_le_mul_left 2 (by rw [hb]; exact Nat.le_add_right _ _)
 have hq : a12 * N + a3 + q * b2 = q * b + (r * N + a3) := by
  rw [hb,g1,Nat.mul_add,Nat.add_mul,Nat.mul_assoc,Nat.add_assoc (q * (b1 * N)),Nat.add_right_comm]
 have hAq : ((a12 * N + a3 : Nat) : Int) = (q : Int) * (b : Int) + (((r * N + a3 : Nat) : Int) - ((q * b2 : Nat) : Int)) := cst hq
 have q2 : (((r * N + a3 : Nat) : Int) - ((q * b2 : Nat) : Int)) < b := by
  refine sbl ?_
  rcases g3 with h | h
  ·refine Nat.lt_of_lt_of_le (Nat.lt_of_lt_of_le (Nat.add_lt_add_left h3 _) (by rw [← Nat.succ_mul]; exact Nat.mul_le_mul_right _ h)) ?_
   rw [hb,Nat.add_assoc]; exact Nat.le_add_right _ _
  ·refine Nat.lt_of_add_lt_add_left (n := q * b) ?_
   have hx : q * b + b = b * N := by rw [← Nat.succ_mul,Nat.succ_eq_add_one,h,Nat.mul_comm]
   rw [← hq,← Nat.add_assoc,hx]
   exact Nat.add_lt_add_right hA _
 rw [zbb,lm (A := ((a12 * N + a3 : Nat) : Int)) (Int.ofNat_lt.mpr hbp) q2 (sbg q1) hAq]
 simp only [zeb,zed,zsa,zsb,zba,zbb,ztn,i9,n6,f6,j8,G0,u4,if_false,zwb]
 simp
theorem nz0 {b : Nat} (h : 0 < b) : ((b : Int) == 0) = false := beq_eq_false_iff_ne.mpr fun e => Nat.ne_of_gt h (Int.ofNat_eq_zero.mp e)
theorem H3 {a k : Nat} : intBits (a : Int) ≤ k ↔ a < 2 ^ k := by
 rw [bF (Int.natCast_nonneg a),hF]
 exact Int.ofNat_lt
theorem W0 {C : Orc} : ∀ (l r : List MS) (s s' : St),exB C l s = some (.next,s') → exB C (l ++ r) s = exB C r s' := by
 intro l
 induction l with
 | nil => intro r s s' e; cases e; rfl
 | cons m l ih =>
  intro r s s' e
  simp only [List.cons_append,zbb] at e ⊢
  obtain ⟨q,e1,e2⟩ := Option.bind_eq_some_iff.mp e
  rw [e1]
  simp only [i9]
  obtain ⟨f,s1⟩ := q
  cases f with
  | next => exact ih r _ _ e2
  | ret v => cases e2
theorem gj {a b n : Nat} (h0 : 0 < b) (hn : 0 < n) (h1 : 2 ^ (n - 1) ≤ b) (h2 : (intBits (a : Int) : Int) - n ≤ 4000) : Builtin.divisionGoesByPylong (a : Int) (b : Int) = false := by
 unfold Builtin.divisionGoesByPylong
 simp only [Bool.and_eq_false_iff,decide_eq_false_iff_not]
 right
 have b0 := Nat.ne_of_gt h0
 rw [nz0 h0]
 simp only [u4,if_false,Int.natAbs_natCast]
 have e1 : n ≤ b.log2 + 1 := Nat.sub_le_iff_le_add.mp ((Nat.le_log2 b0).mpr h1)
 refine Nat.not_lt.mpr ?_
 split
 ·exact Nat.zero_le _
 ·rename_i ha
  have ha' : ((a : Int) == 0) = false := by simpa using ha
  unfold intBits at h2
  rw [ha'] at h2
  simp only [u4,if_false,Int.natAbs_natCast] at h2
  have h3 : a.log2 + 1 ≤ 4000 + n := Int.ofNat_le.mp (Int.le_add_of_sub_right_le h2)
  rw [Nat.add_right_comm]
  exact Nat.succ_le_succ (Nat.le_trans (Nat.div_le_div_right (show a.log2 ≤ b.log2 + 150 * 30 by lia)) (Nat.le_of_eq (Nat.add_mul_div_right b.log2 150 (by decide))))
noncomputable def nj : List MS := o6.drop 3
theorem iK {M h a b p : Nat} (hh : 0 < h) (hh' : h ≤ 100000) (hb1 : 2 ^ (2 * h - 1) ≤ b) (hb2 : b < 2 ^ (2 * h)) (ha : a < b * 2 ^ (2 * h)) (hp : p = 0 ∨ p = 1)
  (hd : ∀ a b1,2 ^ (h - 1) ≤ b1 → b1 < 2 ^ h → a < b1 * 2 ^ h → orc M (.glob 49) [.int (a : Nat),.int (b1 : Nat),.int (h : Nat)] none [] = some (.tup [.int ((a / b1 : Nat) : Int),.int ((a % b1 : Nat) : Int)],[])) (σ : Sto) :
  (exB (orc (M + 1)) nj ⟨[.int (a : Nat),.int (b : Nat),.int ((2 * h : Nat) : Int),.int (p : Nat),.unb,.unb,.unb,.unb,.unb,.unb,.unb],σ⟩).map (fun r => (r.1.val,r.2.σ)) =
   some (.tup [.int ((a / b : Nat) : Int),.int ((if p = 0 then a % b else a % b / 2 : Nat) : Int)],σ) := by
 obtain ⟨m,hm1⟩ : ∃ m,h = m + 1 := ⟨_,(Nat.succ_pred_eq_of_pos hh).symm⟩
 have e3 : 2 ^ (2 * h) = 2 ^ h * 2 ^ h := by rw [Nat.two_mul,Nat.pow_add]
 have e4 : 2 ^ (2 * h - 1) = 2 ^ h * 2 ^ (h - 1) := by
  rw [hm1,Nat.add_sub_cancel,← Nat.pow_add,Nat.add_right_comm,← Nat.two_mul]; rfl
 have p1 : 0 < 2 ^ h := Nat.pow_pos (by decide)
 have b0 : 0 < b := Nat.lt_of_lt_of_le (Nat.pow_pos (by decide)) hb1
 have hb : b = b / 2 ^ h * 2 ^ h + b % 2 ^ h := by rw [Nat.mul_comm]; exact (Nat.div_add_mod _ _).symm
 have hm : ∀ x : Nat,x % 2 ^ h < 2 ^ h := fun x => Nat.mod_lt _ p1
 have hb1l : 2 ^ (h - 1) ≤ b / 2 ^ h := (Nat.le_div_iff_mul_le p1).mpr (by rw [Nat.mul_comm,← e4]; exact hb1)
 have hb1u : b / 2 ^ h < 2 ^ h := (Nat.div_lt_iff_lt_mul p1).mpr (by rw [← e3]; exact hb2)
 have A1 : a / 2 ^ (2 * h) * 2 ^ h + a / 2 ^ h % 2 ^ h = a / 2 ^ h := by
  rw [e3,← Nat.div_div_eq_div_mul,Nat.mul_comm]
  exact Nat.div_add_mod _ _
 have A1' : a / 2 ^ h < b * 2 ^ h := (Nat.div_lt_iff_lt_mul p1).mpr (by rw [Nat.mul_assoc,← e3]; exact ha)
 have r1 : a / 2 ^ h % b < b := Nat.mod_lt _ b0
 have A2' : a / 2 ^ h % b * 2 ^ h + a % 2 ^ h < b * 2 ^ h :=
  Nat.lt_of_lt_of_le (Nat.add_lt_add_left (hm a) _) (by rw [← Nat.succ_mul]; exact Nat.mul_le_mul_right _ r1)
 have hhx : h ≤ 400000 := by lia
 have c1 : orc (M + 1) (.glob 56) [.int ((a / 2 ^ (2 * h) : Nat) : Int),.int ((a / 2 ^ h % 2 ^ h : Nat) : Int),.int (b : Nat),.int ((b / 2 ^ h : Nat) : Int),.int ((b % 2 ^ h : Nat) : Int),.int (h : Nat)] none [] =
   some (.tup [.int ((a / 2 ^ h / b : Nat) : Int),.int ((a / 2 ^ h % b : Nat) : Int)],[]) := by
  rw [um hh hhx hb (hm b) (hm _) hb1l hb1u (by rw [A1]; exact A1') (fun x hx => hd x _ hb1l hb1u hx),A1]
 have c2 : orc (M + 1) (.glob 56) [.int ((a / 2 ^ h % b : Nat) : Int),.int ((a % 2 ^ h : Nat) : Int),.int (b : Nat),.int ((b / 2 ^ h : Nat) : Int),.int ((b % 2 ^ h : Nat) : Int),.int (h : Nat)] none [] =
   some (.tup [.int (((a / 2 ^ h % b * 2 ^ h + a % 2 ^ h) / b : Nat) : Int),.int (((a / 2 ^ h % b * 2 ^ h + a % 2 ^ h) % b : Nat) : Int)],[]) := by
  rw [um hh hhx hb (hm b) (hm _) hb1l hb1u A2' (fun x hx => hd x _ hb1l hb1u hx)]
 have d1 := u7 (σ := σ) (kw := none) rfl rfl rfl rfl c1
 have d2 := u7 (σ := σ) (kw := none) rfl rfl rfl rfl c2
 generalize hA2 : a / 2 ^ h % b * 2 ^ h + a % 2 ^ h = A2 at *
 have q2 : A2 / b < 2 ^ h := (Nat.div_lt_iff_lt_mul b0).mpr (by rw [Nat.mul_comm]; exact A2')
 have hfin : a = (a / 2 ^ h / b * 2 ^ h + A2 / b) * b + A2 % b := by
  have h1 : a = a / 2 ^ h * 2 ^ h + a % 2 ^ h := by rw [Nat.mul_comm]; exact (Nat.div_add_mod _ _).symm
  have h2 : a / 2 ^ h = a / 2 ^ h / b * b + a / 2 ^ h % b := by
   rw [Nat.mul_comm]; exact (Nat.div_add_mod _ _).symm
  have h3 : A2 = A2 / b * b + A2 % b := by
   rw [Nat.mul_comm]; exact (Nat.div_add_mod _ _).symm
  have h4 : a / 2 ^ h * 2 ^ h = a / 2 ^ h / b * 2 ^ h * b + a / 2 ^ h % b * 2 ^ h := by
   conv => lhs; rw [h2]
   rw [Nat.add_mul,Nat.mul_assoc,Nat.mul_comm b,← Nat.mul_assoc]
  calc a = a / 2 ^ h * 2 ^ h + a % 2 ^ h := h1
   _ = a / 2 ^ h / b * 2 ^ h * b + a / 2 ^ h % b * 2 ^ h + a % 2 ^ h := by rw [h4]
   _ = a / 2 ^ h / b * 2 ^ h * b + A2 := by rw [Nat.add_assoc,hA2]
   _ = a / 2 ^ h / b * 2 ^ h * b + (A2 / b * b + A2 % b) := by rw [← h3]
   _ = _ := by rw [Nat.add_mul,Nat.add_assoc]
 have f1 : a / b = a / 2 ^ h / b * 2 ^ h + A2 / b := by
  conv => lhs; rw [hfin]
  rw [Nat.mul_comm,Nat.mul_add_div b0,Nat.div_eq_of_lt (Nat.mod_lt _ b0),Nat.add_zero]
 have f2 : a % b = A2 % b := by
  conv => lhs; rw [hfin]
  rw [Nat.mul_comm,Nat.mul_add_mod,Nat.mod_mod]
 have s1 : evP .shr [.int ((2 * h : Nat) : Int),.int 1] σ = some (.int (h : Nat)) := by
  rw [nT,Nat.mul_div_cancel_left _ (by decide)]
 have s2 : evP .shl [.int 1,.int (h : Nat)] σ = some (.int ((2 ^ h : Nat) : Int)) := rz (Nat.le_trans hhx (by decide))
 have s3 : evP .sub [.int ((2 ^ h : Nat) : Int),.int 1] σ = some (.int ((2 ^ h - 1 : Nat) : Int)) := qq p1
 have s4 : ∀ x : Nat,evP .band [.int x,.int ((2 ^ h - 1 : Nat) : Int)] σ = some (.int ((x % 2 ^ h : Nat) : Int)) := fun x => by
  rw [sQ,Nat.and_two_pow_sub_one_eq_mod]
 have s5 : ∀ x y : Nat,evP .shr [.int x,.int y] σ = some (.int ((x / 2 ^ y : Nat) : Int)) := fun x y => rW
 have s6 : evP .shl [.int ((a / 2 ^ h / b : Nat) : Int),.int (h : Nat)] σ = some (.int ((a / 2 ^ h / b * 2 ^ h : Nat) : Int)) := by
  refine oW (K := 5 * h) (by lia) (Nat.le_trans hhx (by decide)) (Nat.lt_of_le_of_lt (Nat.le_trans (Nat.div_le_self _ _) (Nat.div_le_self _ _)) (Nat.lt_trans ha (Nat.lt_of_lt_of_le (Nat.mul_lt_mul_of_pos_right hb2 (Nat.pow_pos (by decide))) ?_)))
  rw [← Nat.pow_add]
  exact Nat.pow_le_pow_right (by decide) (by lia)
 have s7 : evP .bor [.int ((a / 2 ^ h / b * 2 ^ h : Nat) : Int),.int ((A2 / b : Nat) : Int)] σ = some (.int ((a / b : Nat) : Int)) := by
  rw [tG,lP q2,f1]
 rcases hp with rfl | rfl
 ·simp only [nj,o6,List.drop_succ_cons,List.drop_zero,zea,zeb,zec,zed,zef,zek,zsa,zsb,zba,zbb,zta,ztd,ztk,ztn,i9,n6,f6,j8,f5,o0,A0,A5,D3,B5,Nat.reduceAdd,Nat.reduceLT,G0,u4,if_true,if_false,zwb,s1,s2,s3,s4,s5,d1,d2,s6,s7,dz,Nat.reduceBEq,Bool.not_true,f2]
 ·have s8 : evP .shr [.int ((A2 % b : Nat) : Int),.int 1] σ = some (.int ((A2 % b / 2 : Nat) : Int)) := nT
  simp only [nj,o6,List.drop_succ_cons,List.drop_zero,zea,zeb,zec,zed,zef,zek,zsa,zsb,zba,zbb,zta,ztd,ztk,ztn,i9,n6,f6,j8,f5,o0,A0,A5,D3,B5,Nat.reduceAdd,Nat.reduceLT,T7,G0,u4,if_true,if_false,zwb,s1,s2,s3,s4,s5,d1,d2,s6,s7,dz,Nat.reduceBEq,Bool.not_false,f2,s8]
  simp
theorem vg : ∀ (k : Nat) {n a b : Nat},0 < n → n ≤ 4000 * 2 ^ k → n < 200000 → 2 ^ (n - 1) ≤ b → b < 2 ^ n → a < b * 2 ^ n → ∀ (M : Nat) (σ : Sto),
  orc (M + 2 * k + 1) (.glob 49) [.int (a : Nat),.int (b : Nat),.int (n : Nat)] none σ = some (.tup [.int ((a / b : Nat) : Int),.int ((a % b : Nat) : Int)],σ) := by
 intro k
 induction k with
 | zero =>
  intro n a b hn hk hn' hb1 hb2 ha M σ
  have hbits : (intBits (a : Int) : Int) - n ≤ 4000 := by
   have : intBits (a : Int) ≤ n + n := H3.mpr (by
    rw [Nat.pow_add]
    exact Nat.lt_trans ha (Nat.mul_lt_mul_of_pos_right hb2 (Nat.pow_pos (by decide))))
   simp at hk
   lia
  have b0 : 0 < b := Nat.lt_of_lt_of_le (Nat.pow_pos (by decide)) hb1
  rw [z8 (fd := D5) (as := [.int a,.int b,.int n]) rfl rfl]
  have hst : FD.start D5 [.int (a : Nat),.int (b : Nat),.int (n : Nat)] .none [] (.glob 49) = [.int a,.int b,.int n,.unb,.unb,.unb,.unb,.unb,.unb,.unb,.unb] := rfl
  rw [hst]
  show (exB (orc _) o6 _).map _ = _
  simp only [o6,zea,zeb,zec,zed,zef,zek,zsa,zsb,zba,zbb,zta,ztd,ztk,ztn,i9,n6,f6,j8,G0,i7,u4,if_true,if_false,tD,zwb,gK,U7,hbits,decide_true,kx (a := (a : Int)) (b := (b : Int)) (show (0 : Int) < (b : Int) by lia) (gj b0 hn hb1 hbits)]
  simp
 | succ k ih =>
  intro n a b hn hk hn' hb1 hb2 ha M σ
  have b0 : 0 < b := Nat.lt_of_lt_of_le (Nat.pow_pos (by decide)) hb1
  rw [z8 (fd := D5) (as := [.int a,.int b,.int n]) rfl rfl]
  have hst : FD.start D5 [.int (a : Nat),.int (b : Nat),.int (n : Nat)] .none [] (.glob 49) = [.int a,.int b,.int n,.unb,.unb,.unb,.unb,.unb,.unb,.unb,.unb] := rfl
  rw [hst]
  show (exB (orc _) o6 _).map _ = _
  by_cases hbits : (intBits (a : Int) : Int) - n ≤ 4000
  ·simp only [o6,zea,zeb,zec,zed,zef,zek,zsa,zsb,zba,zbb,zta,ztd,ztk,ztn,i9,n6,f6,j8,G0,i7,u4,if_true,if_false,tD,zwb,gK,U7,hbits,decide_true,kx (a := (a : Int)) (b := (b : Int)) (show (0 : Int) < (b : Int) by lia) (gj b0 hn hb1 hbits)]
   simp
  ·have hms : o6 = o6.take 3 ++ nj := (List.take_append_drop 3 _).symm
   have h4 : 4000 * 2 ^ (k + 1) = 2 * (4000 * 2 ^ k) := by rw [Nat.pow_succ']; exact Nat.mul_left_comm _ _ _
   rw [h4] at hk
   have hx : M + 2 * (k + 1) = (M + 2 * k + 1) + 1 := rfl
   rw [hms]
   by_cases hpar : n % 2 = 0
   ·have step : exB (orc (M + 2 * (k + 1))) (o6.take 3) ⟨[.int a,.int b,.int n,.unb,.unb,.unb,.unb,.unb,.unb,.unb,.unb],σ⟩ = some (.next,⟨[.int a,.int b,.int n,.int ((0 : Nat) : Int),.unb,.unb,.unb,.unb,.unb,.unb,.unb],σ⟩) := by
     simp only [o6,List.take_succ_cons,List.take_zero,zea,zeb,zef,zsa,zsb,zba,zbb,zta,ztd,ztk,ztn,i9,n6,f6,j8,f5,A0,A5,D3,B5,Nat.reduceAdd,Nat.reduceLT,i7,u4,if_false,tD,gK,U7,hbits,decide_false,oV,hpar,dz,Nat.reduceBEq,Bool.not_true]
    rw [W0 _ _ _ _ step]
    obtain ⟨h,rfl⟩ := Nat.dvd_of_mod_eq_zero hpar
    rw [hx,iK (M := M + 2 * k + 1) (h := h) (a := a) (b := b) (p := 0) (by lia) (by lia) hb1 hb2 ha (.inl rfl)
     (fun a b1 g1 g2 g3 => ih (by lia) (Nat.le_of_mul_le_mul_left hk (by decide)) (by lia) g1 g2 g3 M []) σ]
    rfl
   ·have hpar : n % 2 = 1 := (Nat.mod_two_eq_zero_or_one n).resolve_left hpar
    have hn6 : 2 * n ≤ 1000000 := by lia
    have hasm : a < 2 ^ (2 * n) := by
     rw [Nat.two_mul,Nat.pow_add]
     exact Nat.lt_trans ha (Nat.mul_lt_mul_of_pos_right hb2 (Nat.pow_pos (by decide)))
    have step : exB (orc (M + 2 * (k + 1))) (o6.take 3) ⟨[.int a,.int b,.int n,.unb,.unb,.unb,.unb,.unb,.unb,.unb,.unb],σ⟩ = some (.next,⟨[.int ((a * 2 : Nat) : Int),.int ((b * 2 : Nat) : Int),.int ((n + 1 : Nat) : Int),.int ((1 : Nat) : Int),.unb,.unb,.unb,.unb,.unb,.unb,.unb],σ⟩) := by
     simp only [o6,List.take_succ_cons,List.take_zero,zea,zeb,zef,zsa,zsb,zba,zbb,zta,ztd,ztk,ztn,i9,n6,f6,j8,f5,A0,A5,D3,B5,Nat.reduceAdd,Nat.reduceLT,T7,i7,u4,if_true,if_false,tD,gK,U7,hbits,decide_false,oV,hpar,dz,Nat.reduceBEq,Bool.not_false,sJ hn6 hasm,sJ (Nat.le_trans (Nat.le_mul_of_pos_left n (by decide)) hn6) hb2,eX]
    rw [W0 _ _ _ _ step]
    obtain ⟨j,rfl⟩ : ∃ j,n = 2 * j + 1 := ⟨n / 2,(by have := Nat.div_add_mod n 2; rw [hpar] at this; exact this.symm)⟩
    have hy : 2 * j + 1 + 1 = 2 * (j + 1) := rfl
    rw [hx,hy,iK (M := M + 2 * k + 1) (h := j + 1) (a := a * 2) (b := b * 2) (p := 1) (Nat.succ_pos j) (by lia)
     (by show 2 ^ (2 * j + 1) ≤ b * 2; rw [Nat.pow_succ]; exact Nat.mul_le_mul_right 2 hb1)
     (by show b * 2 < 2 ^ (2 * j + 1 + 1); rw [Nat.pow_succ]; exact Nat.mul_lt_mul_of_pos_right hb2 (by decide))
     (Nat.lt_of_lt_of_le (Nat.mul_lt_mul_of_pos_right ha (by decide)) (by rw [Nat.mul_right_comm]; exact Nat.mul_le_mul_left _ (Nat.pow_le_pow_right (by decide) (Nat.le_succ _)))) (.inr rfl)
     (fun a b1 g1 g2 g3 => ih (Nat.succ_pos j) (by lia) (by lia) g1 g2 g3 M []) σ]
    have g1 : a * 2 / (b * 2) = a / b := Nat.mul_div_mul_right _ _ (by decide)
    have g2 : a * 2 % (b * 2) = a % b * 2 := Nat.mul_mod_mul_right _ _ _
    rw [g1,g2]
    simp
noncomputable def eC (n : Nat) : Nat → Nat → List Nat
 | _,0 => []
 | x,k + 1 => x % 2 ^ n :: eC n (x / 2 ^ n) k
theorem mG {n x} : eC n x 0 = [] := rfl
theorem lH {n x k} : eC n x (k + 1) = x % 2 ^ n :: eC n (x / 2 ^ n) k := rfl
noncomputable def B6 (n x k : Nat) : List PV := (eC n x k).map fun d => .int (d : Nat)
theorem bw {n : Nat} : ∀ (k x : Nat),(eC n x k).length = k
 | 0,_ => rfl
 | k + 1,x => by simp [mG,lH,bw k]
theorem gD {n : Nat} : ∀ (k x : Nat),∀ d ∈ eC n x k,d < 2 ^ n
 | 0,_,d,h => by cases h
 | k + 1,x,d,h => by
  rcases List.mem_cons.mp h with rfl | h
  ·exact Nat.mod_lt _ (Nat.pow_pos (by decide))
  ·exact gD k _ d h
theorem iN {n : Nat} : ∀ (j k x : Nat),eC n x (j + k) = eC n (x % 2 ^ (j * n)) j ++ eC n (x / 2 ^ (j * n)) k
 | 0,k,x => by simp [mG,lH]
 | j + 1,k,x => by
  have e : j + 1 + k = (j + k) + 1 := by lia
  rw [e]
  simp only [mG,lH,List.cons_append]
  have e1 : 2 ^ ((j + 1) * n) = 2 ^ n * 2 ^ (j * n) := by rw [← Nat.pow_add]; congr 1; rw [Nat.add_mul]; lia
  have e2 : x % 2 ^ ((j + 1) * n) % 2 ^ n = x % 2 ^ n := by rw [e1]; exact Nat.mod_mul_right_mod _ _ _
  have e3 : x % 2 ^ ((j + 1) * n) / 2 ^ n = x / 2 ^ n % 2 ^ (j * n) := by rw [e1]; exact Nat.mod_mul_right_div_self _ _ _
  have e4 : x / 2 ^ ((j + 1) * n) = x / 2 ^ n / 2 ^ (j * n) := by rw [e1,Nat.div_div_eq_div_mul]
  rw [e2,e3,e4,iN j k]
noncomputable def G3 (n : Nat) : List Nat → Nat
 | [] => 0
 | d :: r => d + 2 ^ n * G3 n r
theorem dS {n} : G3 n [] = 0 := rfl
theorem bB {n d r} : G3 n (d :: r) = d + 2 ^ n * G3 n r := rfl
theorem gu {n : Nat} : ∀ (a b : List Nat),G3 n (a ++ b) = G3 n a + 2 ^ (a.length * n) * G3 n b
 | [],b => by simp [dS,bB]
 | d :: r,b => by
  simp only [List.cons_append,dS,bB,gu r b,A0]
  have : 2 ^ ((r.length + 1) * n) = 2 ^ n * 2 ^ (r.length * n) := by rw [← Nat.pow_add]; congr 1; rw [Nat.add_mul]; lia
  rw [this,Nat.mul_add,Nat.mul_assoc]; lia
theorem ik {n : Nat} : ∀ (a : List Nat),(∀ d ∈ a,d < 2 ^ n) → G3 n a < 2 ^ (a.length * n)
 | [],_ => by simp [dS,bB]
 | d :: r,h => by
  have h1 := ik r fun d hd => h d (G6 _ hd)
  have h2 := h d List.mem_cons_self
  simp only [dS,bB,A0]
  have e : 2 ^ ((r.length + 1) * n) = 2 ^ n * 2 ^ (r.length * n) := by rw [← Nat.pow_add]; congr 1; rw [Nat.add_mul]; lia
  rw [e]
  calc d + 2 ^ n * G3 n r < 2 ^ n + 2 ^ n * G3 n r := by lia
   _ = 2 ^ n * (G3 n r + 1) := by rw [Nat.mul_add]; lia
   _ ≤ _ := Nat.mul_le_mul_left _ h1
theorem dM {n : Nat} : ∀ (k x : Nat),x < 2 ^ (k * n) → G3 n (eC n x k) = x
 | 0,x,h => by simp at h; subst h; rfl
 | k + 1,x,h => by
  have e : 2 ^ ((k + 1) * n) = 2 ^ n * 2 ^ (k * n) := by rw [← Nat.pow_add]; congr 1; rw [Nat.add_mul]; lia
  simp only [mG,lH,dS,bB]
  rw [dM k (x / 2 ^ n) ((Nat.div_lt_iff_lt_mul (Nat.pow_pos (by decide))).mpr (by rw [Nat.mul_comm,← e]; exact h))]
  exact Nat.mod_add_div _ _
theorem nR {x s : Nat} {σ : Sto} : evP .bxor [.int (x : Nat),.int ((x / 2 ^ s * 2 ^ s : Nat) : Int)] σ = some (.int ((x % 2 ^ s : Nat) : Int)) := by
 have hl : x % 2 ^ s < 2 ^ s := Nat.mod_lt _ (Nat.pow_pos (by decide))
 have hx : x = (x / 2 ^ s * 2 ^ s) ||| (x % 2 ^ s) := by
  rw [lP hl,Nat.mul_comm]; exact (Nat.div_add_mod _ _).symm
 have ho : x ||| (x / 2 ^ s * 2 ^ s) = x := by
  conv => lhs; lhs; rw [hx]
  conv => rhs; rw [hx]
  rw [Nat.or_comm,← Nat.or_assoc,Nat.or_self]
 have ha : x &&& (x / 2 ^ s * 2 ^ s) = x / 2 ^ s * 2 ^ s := by
  conv => lhs; lhs; rw [hx]
  refine Nat.eq_of_testBit_eq fun i => ?_
  rw [Nat.testBit_and,Nat.testBit_or]
  cases Nat.testBit (x / 2 ^ s * 2 ^ s) i <;> simp
 rw [tQ,ho,ha]
 have h1 : 2 ^ s * (x / 2 ^ s) + x % 2 ^ s = x := Nat.div_add_mod _ _
 rw [Nat.mul_comm] at h1
 conv => lhs; arg 1; arg 1; lhs; rw [← h1]
 rw [Int.natCast_add,Int.add_comm,Int.add_sub_cancel]
theorem eP {α : Type} {xs : List α} {L : Nat} {v : α} (h : L < xs.length) : xs.set L v = xs.take L ++ v :: xs.drop (L + 1) := by
 exact List.set_eq_take_append_cons_drop ▸ by simp [h]
theorem dQ {n bx L x : Nat} {xs : List PV} {σ : Sto} (k : Nat) (h2 : L + 1 ≤ xs.length) (h2' : xs.length ≤ 1000) (h4 : x < 2 ^ (1 * n)) (h5 : σ[bx]? = some xs) :
  orc (k + 1) (.clo 0 [.box bx,.int (n : Nat)]) [.int (x : Nat),.int (L : Nat),.int ((L + 1 : Nat) : Int)] none σ = some (.none,σ.set bx (xs.take L ++ B6 n x 1 ++ xs.drop (L + 1))) := by
 rw [cO (fd := t8) (as := [.int x,.int L,.int ((L + 1 : Nat) : Int)]) rfl rfl]
 have hst : FD.start t8 [.int (x : Nat),.int (L : Nat),.int ((L + 1 : Nat) : Int)] .none [.box bx,.int (n : Nat)] (.clo 0 [.box bx,.int (n : Nat)]) = [.int x,.int L,.int ((L + 1 : Nat) : Int),.box bx,.unb,.unb,.int n,.unb,.unb,.clo 0 [.box bx,.int n]] := rfl
 rw [hst]
 show (exB (orc _) u3 _).map _ = _
 have hsa : exS (orc k) (.setat 3 (.var 1) (.var 0)) ⟨[.int x,.int L,.int ((L + 1 : Nat) : Int),.box bx,.unb,.unb,.int n,.unb,.unb,.clo 0 [.box bx,.int n]],σ⟩ =
   some (.next,⟨[.int x,.int L,.int ((L + 1 : Nat) : Int),.box bx,.unb,.unb,.int n,.unb,.unb,.clo 0 [.box bx,.int n]],σ.set bx (xs.set L (.int x))⟩) := by
  have hb : M5 ⟨[.int (x : Nat),.int (L : Nat),.int ((L + 1 : Nat) : Int),.box bx,.unb,.unb,.int (n : Nat),.unb,.unb,.clo 0 [.box bx,.int (n : Nat)]],σ⟩ 3 = some (bx,xs) := L2 rfl h5
  have hc : (PV.int (x : Nat)).noBox = true ∧ 0 ≤ (L : Int) ∧ (L : Int) < xs.length ∧ (L : Int) ≤ 1000000 := ⟨rfl,Int.natCast_nonneg _,Int.ofNat_lt.mpr h2,by lia⟩
  simp only [zeb,zth,i9,f6,j8,if_true,hb,hc,and_self,Int.toNat_natCast]
 have hd1 : B6 n x 1 = [.int (x : Nat)] := by
  simp only [B6,mG,lH,List.map_cons,List.map_nil]
  rw [Nat.one_mul] at h4
  rw [Nat.mod_eq_of_lt h4]
 have heq : evP .eq [.int ((L + 1 : Nat) : Int),.int ((L + 1 : Nat) : Int)] σ = some (.bool true) := by rw [nEq]; simp
 simp only [u3,zea,zeb,zef,zsa,zsb,zba,zbb,zta,zth,ztj,ztk,ztn,zka,i9,n6,f6,j8,ez,i7,u4,if_true,if_false,eX,heq] at hsa ⊢
 rw [hsa]
 simp only [i9,n6,zwb,hd1,eP (show L < xs.length from h2),List.append_assoc,List.singleton_append]
inductive Hlv (u : Nat) : Prop
 | mk (p v : Nat) (e : u = p + v) (hp : 0 < p) (h1 : p ≤ v) (h2 : v ≤ p + 1) : Hlv u
theorem hlv {u : Nat} (h : 0 < u) (h1 : u ≠ 1) : Hlv u := by
 have e := Nat.div_add_mod u 2
 have m := Nat.mod_lt u (by decide : 0 < 2)
 generalize u / 2 = p at *
 generalize u % 2 = r at *
 exact ⟨p,p + r,by lia,by lia,Nat.le_add_right _ _,by lia⟩
theorem fq {n x k : Nat} : (B6 n x k).length = k := by rw [B6,List.length_map,bw]
theorem pP {n bx : Nat} (hn0 : 0 < n) (hn : n < 65536) : ∀ (d : Nat) {L R u x : Nat} {xs : List PV} {σ : Sto} (M : Nat),R = L + u → 0 < u → R ≤ xs.length → xs.length ≤ 1000 → u ≤ 2 ^ d → x < 2 ^ (u * n) → u * n ≤ 1000000 → σ[bx]? = some xs →
  orc (M + d + 1) (.clo 0 [.box bx,.int (n : Nat)]) [.int (x : Nat),.int (L : Nat),.int (R : Nat)] none σ = some (.none,σ.set bx (xs.take L ++ B6 n x u ++ xs.drop R)) := by
 intro d
 induction d with
 | zero =>
  intro L R u x xs σ M h0 h1 h2 h2' h3 h4 h4' h5
  obtain rfl : u = 1 := Nat.le_antisymm h3 h1
  subst h0
  exact dQ M h2 h2' h4 h5
 | succ d ih =>
  intro L R u x xs σ M h0 h1 h2 h2' h3 h4 h4' h5
  by_cases hu : u = 1
  ·subst hu h0
   exact dQ (M + (d + 1)) h2 h2' h4 h5
  ·rw [cO (fd := t8) (as := [.int x,.int L,.int R]) rfl rfl]
   have hst : FD.start t8 [.int (x : Nat),.int (L : Nat),.int (R : Nat)] .none [.box bx,.int (n : Nat)] (.clo 0 [.box bx,.int (n : Nat)]) = [.int x,.int L,.int R,.box bx,.unb,.unb,.int n,.unb,.unb,.clo 0 [.box bx,.int n]] := rfl
   rw [hst]
   show (exB (orc _) u3 _).map _ = _
   obtain ⟨p,v,rfl,hp,hpv,hvp⟩ := hlv h1 hu
   have heq : evP .eq [.int ((L + 1 : Nat) : Int),.int (R : Nat)] σ = some (.bool false) := by rw [nEq,beq_eq_false_iff_ne.mpr (by lia)]
   obtain ⟨mid,hmid⟩ : ∃ m,m = L + p := ⟨_,rfl⟩
   have hmR : R = mid + v := by rw [h0,hmid,Nat.add_assoc]
   have hm : (L + R) / 2 = mid := by lia
   have hpd : 2 ^ (d + 1) = 2 * 2 ^ d := Nat.pow_succ'
   have hv2 : v ≤ 2 ^ d := by lia
   have hp2 : p ≤ 2 ^ d := Nat.le_trans hpv hv2
   have hmx : mid ≤ xs.length := Nat.le_trans (by rw [hmR]; exact Nat.le_add_right _ _) h2
   have s1 : evP .shr [.int ((L + R : Nat) : Int),.int 1] σ = some (.int (mid : Nat)) := by rw [nT,hm]
   have s2 : evP .sub [.int (mid : Nat),.int (L : Nat)] σ = some (.int (p : Nat)) := by
    rw [tz (by rw [hmid]; exact Nat.le_add_right _ _),hmid,Nat.add_sub_cancel_left]
   have s3 : evP .mul [.int (p : Nat),.int (n : Nat)] σ = some (.int ((p * n : Nat) : Int)) := tY (K := 16) (by decide) (by lia) (by lia)
   generalize hsft : p * n = sft at *
   have hle : sft ≤ (p + v) * n := by rw [← hsft]; exact Nat.mul_le_mul_right _ (Nat.le_add_right _ _)
   have s4 : evP .shr [.int (x : Nat),.int (sft : Nat)] σ = some (.int ((x / 2 ^ sft : Nat) : Int)) := rW
   have s5 : evP .shl [.int ((x / 2 ^ sft : Nat) : Int),.int (sft : Nat)] σ = some (.int ((x / 2 ^ sft * 2 ^ sft : Nat) : Int)) :=
    oW (K := (p + v) * n) h4' (Nat.le_trans hle h4') (Nat.lt_of_le_of_lt (Nat.div_le_self _ _) h4)
   have hmul : v * n + sft = (p + v) * n := by
    rw [← hsft,← Nat.add_mul,Nat.add_comm v p]
   have hlow : x % 2 ^ sft < 2 ^ (p * n) := by rw [hsft]; exact Nat.mod_lt _ (Nat.pow_pos (by decide))
   have hup : x / 2 ^ sft < 2 ^ (v * n) := (Nat.div_lt_iff_lt_mul (Nat.pow_pos (by decide))).mpr (by rw [← Nat.pow_add,hmul]; exact h4)
   generalize hys : xs.take L ++ B6 n (x % 2 ^ sft) p ++ xs.drop mid = ys
   have l1 : (xs.take L ++ B6 n (x % 2 ^ sft) p).length = mid := by
    rw [List.length_append,fq,List.length_take_of_le (Nat.le_trans (by rw [hmid]; exact Nat.le_add_right _ _) hmx),hmid]
   have hysl : ys.length = xs.length := by
    rw [← hys,List.length_append,l1,List.length_drop,Nat.add_sub_cancel' hmx]
   have hbl : bx < σ.length := (List.getElem?_eq_some_iff.mp h5).1
   have c1 := ih (σ := σ) (L := L) (R := mid) (u := p) (x := x % 2 ^ sft) (xs := xs) M hmid hp hmx h2' hp2 hlow (by rw [hsft]; exact Nat.le_trans hle h4') h5
   rw [hys] at c1
   have c2 := ih (σ := σ.set bx ys) (L := mid) (R := R) (u := v) (x := x / 2 ^ sft) (xs := ys) M hmR (Nat.lt_of_lt_of_le hp hpv) (by rw [hysl]; exact h2) (by rw [hysl]; exact h2') hv2 hup (Nat.le_trans (by rw [← hmul]; exact Nat.le_add_right _ _) h4') (by simp [hbl])
   have hfuel : M + d + 1 = M + (d + 1) := rfl
   rw [hfuel] at c1 c2
   simp only [u3,zea,zeb,zef,zsa,zsb,zba,zbb,zta,zth,ztj,ztk,ztn,zka,i9,n6,f6,j8,T9,f5,A0,A5,D3,B5,Nat.reduceAdd,Nat.reduceLT,ez,i7,u4,if_false,zwa,eX,oO,heq,s1,s2,s3,s4,s5,nR,c1,c2]
   congr 2
   rw [List.set_set]
   congr 1
   have hdj : B6 n x (p + v) = B6 n (x % 2 ^ sft) p ++ B6 n (x / 2 ^ sft) v := by
    simp only [B6]
    rw [iN,hsft,List.map_append]
   rw [hdj,← hys]
   have l2 : List.drop R (xs.take L ++ B6 n (x % 2 ^ sft) p ++ xs.drop mid) = xs.drop R := by
    rw [List.drop_append,List.drop_of_length_le (by rw [l1,hmR]; exact Nat.le_add_right _ _),l1,List.nil_append,List.drop_drop,hmR,Nat.add_sub_cancel_left]
   rw [List.take_append_of_le_length (Nat.le_of_eq l1.symm),List.take_of_length_le (Nat.le_of_eq l1),l2]
   simp only [List.append_assoc]
theorem j0 {α : Type} {f : α → PV} (h : ∀ a,(f a).noBox = true) : ∀ l : List α,i8 (l.map f) = true
 | [] => rfl
 | a :: r => by simp [zna,znb,h,j0 h r]
theorem fH {n x k : Nat} : i8 (B6 n x k) = true := j0 (fun _ => rfl) _
theorem cK {v : PV} (h : v.noBox = true) : ∀ k,i8 (List.replicate k v) = true
 | 0 => rfl
 | k + 1 => by simp [List.replicate_succ,zna,znb,h,cK h k]
theorem Z6 {C : Orc} {f : PV} {args xs : List PV} {σ : Sto} (hf : H6 f = true) (ha : args.all H6 = true) (hx : i8 xs = true) (h : C f args none [] = some (.box 0,[xs])) : B3 C f args none σ = some (.list xs) := by
 obtain ⟨f1,f2⟩ := lp (σ := σ) ha
 unfold B3
 rw [hf,f1,f2]
 simp [bv,h,freeze,hx]
theorem pB {σ : Sto} {n : Nat} {xs : List PV} (h : σ[n]? = some xs) (hl : xs.length ≤ a8) : evP .len [.box n] σ = some (.int ((xs.length : Nat) : Int)) := by
 show ((asL σ (.box n)).bind fun l => if l.length ≤ a8 then some (PV.int l.length) else none) = _
 simp only [zla,zlb,h,i9,if_pos hl]
theorem iy {σ : Sto} {xs : List PV} (hl : xs.length ≤ a8) : evP .len [.list xs] σ = some (.int ((xs.length : Nat) : Int)) := by
 show ((asL σ (.list xs)).bind fun l => if l.length ≤ a8 then some (PV.int l.length) else none) = _
 simp only [zla,zlb,i9,if_pos hl]
theorem fit {n a k D : Nat} (hn0 : 0 < n) (hk : intBits (a : Int) + n = k + 1) (hD : k / n = D) : a < 2 ^ (D * n) := by
 refine H3.mp (Nat.le_of_add_le_add_right (b := n) ?_)
 rw [hk,Nat.mul_comm,← hD]
 exact Nat.lt_of_le_of_lt (Nat.le_of_eq (Nat.div_add_mod k n).symm) (Nat.add_lt_add_left (Nat.mod_lt k hn0) _)
theorem eF {n a D d : Nat} (hn0 : 0 < n) (hn : n < 65536) (hD : (intBits (a : Int) + n - 1) / n = D) (hDd : D ≤ 2 ^ d) (hD2 : D ≤ 1000) (hDn : D * n ≤ 1000000) (M : Nat) :
  orc (M + d + 2) (.glob 63) [.int (a : Nat),.int (n : Nat)] none [] = some (.box 0,[B6 n a D]) := by
 obtain ⟨k,hk⟩ : ∃ k,intBits (a : Int) + n = k + 1 := ⟨_,(Nat.succ_pred_eq_of_pos (Nat.add_pos_right _ hn0)).symm⟩
 rw [hk,Nat.add_sub_cancel] at hD
 have hfit := fit hn0 hk hD
 rw [z8 (fd := C0) (as := [.int a,.int n]) rfl rfl]
 have hst : FD.start C0 [.int (a : Nat),.int (n : Nat)] .none [] (.glob 63) = [.int a,.int n,.unb,.unb] := rfl
 rw [hst]
 show (exB (orc _) C2 _).map _ = _
 have s1 : evP .sub [.int ((intBits (a : Int) + n : Nat) : Int),.int 1] [] = some (.int (k : Nat)) := by
  rw [hk]; exact qq (Nat.le_add_left _ _)
 have s2 : evP .fdiv [.int (k : Nat),.int (n : Nat)] [] = some (.int (D : Nat)) := by
  show (if (0 : Int) < (n : Int) ∧ (n : Int) < 65536 then some (PV.int _) else none) = _
  rw [if_pos ⟨Int.ofNat_lt.mpr hn0,Int.ofNat_lt.mpr hn⟩,← hD]
  rfl
 have s3 : ((D : Nat) : Int) ≤ (a8 : Int) ∧ -(a8 : Int) ≤ ((D : Nat) : Int) := ⟨Int.ofNat_le.mpr (Nat.le_trans hD2 (by decide)),Int.le_trans (by decide) (Int.natCast_nonneg D)⟩
 have s4 : i8 (List.replicate D (PV.int 0)) = true := cK rfl D
 have s5 : evP .len [.box 0] [List.replicate D (PV.int 0)] = some (.int (D : Nat)) := by
  rw [pB (xs := List.replicate D (PV.int 0)) rfl (by rw [List.length_replicate]; exact Nat.le_trans hD2 (by decide)),List.length_replicate]
 by_cases ha : a = 0
 ·subst ha
  have hD0 : D = 0 := by
   rw [← hD]
   refine Nat.div_eq_of_lt ?_
   have : 0 + n = k + 1 := hk
   rw [Nat.zero_add] at this
   rw [this]; exact Nat.lt_succ_self k
  subst hD0
  have tr : I5 [List.replicate 0 (PV.int 0)] (.int ((0 : Nat) : Int)) = some false := by rw [dz]; rfl
  simp only [C2,zea,zeb,zef,zem,zsa,zsb,zba,zbb,ztb,ztj,ztk,ztn,zto,zka,i9,n6,f6,j8,H1,T9,zva,zvb,A0,A5,D3,B5,Nat.reduceAdd,Nat.reduceLT,T8,bu,W9,u4,if_true,if_false,zwb,gK,oO,s1,s2,s3,and_self,Int.toNat_natCast,s4,List.nil_append,tr]
  rfl
 ·have c := pP (n := n) (bx := 0) hn0 hn d (L := 0) (R := D) (x := a) (xs := List.replicate D (PV.int 0)) (σ := [List.replicate D (PV.int 0)]) M (Nat.zero_add D).symm (by
   rcases Nat.eq_zero_or_pos D with h | h
   ·subst h; rw [Nat.zero_mul] at hfit; exact absurd (Nat.lt_one_iff.mp hfit) ha
   ·exact h) (Nat.le_of_eq List.length_replicate.symm) (by rw [List.length_replicate]; exact hD2) hDd hfit hDn rfl
  have tr : I5 [List.replicate D (PV.int 0)] (.int (a : Nat)) = some true := by rw [dz,beq_eq_false_iff_ne.mpr ha]; rfl
  have hb : List.drop D (List.replicate D (PV.int 0)) = [] := List.drop_of_length_le (Nat.le_of_eq List.length_replicate)
  rw [show ((0 : Nat) : Int) = 0 from rfl] at c
  simp only [List.take_zero,List.nil_append,hb,List.append_nil,B5] at c
  simp only [C2,zea,zeb,zef,zem,zsa,zsb,zba,zbb,ztb,ztj,ztk,ztn,zto,zka,i9,n6,f6,j8,H1,T9,zva,zvb,A0,A5,D3,B5,Nat.reduceAdd,Nat.reduceLT,T8,bu,W9,u4,if_true,if_false,zwb,gK,oO,s1,s2,s3,and_self,Int.toNat_natCast,s4,List.nil_append,tr,s5,c]
theorem ixr {i : Nat} (h : i ≤ 1000000) : (-1000000 : Int) ≤ (i : Int) ∧ (i : Int) ≤ 1000000 := ⟨Int.le_trans (by decide) (Int.natCast_nonneg i),Int.ofNat_le.mpr h⟩
theorem u5 {σ : Sto} {xs : List PV} {i : Nat} {v : PV} (hi : i ≤ 1000000) (h : xs[i]? = some v) : evP .idx [.list xs,.int (i : Nat)] σ = some v := by
 show (if (-1000000 : Int) ≤ (i : Int) ∧ (i : Int) ≤ 1000000 then ((asL σ (.list xs)).bind fun l => M9 l (i : Int)) else none) = _
 rw [if_pos (ixr hi)]
 simp [zla,zlb,M9,h]
theorem dY {n : Nat} {ds : List Nat} (hl : ds.length ≤ 1000) (k : Nat) {L : Nat} {σ : Sto} (h2 : L < ds.length) :
  orc (k + 1) (.clo 1 [.list (ds.map fun d => .int (d : Nat)),.int (n : Nat)]) [.int (L : Nat),.int ((L + 1 : Nat) : Int)] none σ = some (.int ((G3 n ((ds.drop L).take 1) : Nat) : Int),σ) := by
 rw [cO (fd := t9) (as := [.int L,.int ((L + 1 : Nat) : Int)]) rfl rfl]
 have hst : FD.start t9 [.int (L : Nat),.int ((L + 1 : Nat) : Int)] .none [.list (ds.map fun d => .int (d : Nat)),.int (n : Nat)] (.clo 1 [.list (ds.map fun d => .int (d : Nat)),.int (n : Nat)]) = [.int L,.int ((L + 1 : Nat) : Int),.list (ds.map fun d => .int (d : Nat)),.unb,.unb,.int n,.clo 1 [.list (ds.map fun d => .int (d : Nat)),.int n]] := rfl
 rw [hst]
 show (exB (orc _) u0 _).map _ = _
 have heq : evP .eq [.int ((L + 1 : Nat) : Int),.int ((L + 1 : Nat) : Int)] σ = some (.bool true) := by rw [nEq,beq_self_eq_true]
 have hx : evP .idx [.list (ds.map fun d => .int (d : Nat)),.int (L : Nat)] σ = some (.int ((ds[L] : Nat) : Int)) := u5 (Nat.le_trans (Nat.le_of_lt h2) (Nat.le_trans hl (by decide))) (by rw [List.getElem?_map,List.getElem?_eq_getElem h2]; rfl)
 have hv : G3 n ((ds.drop L).take 1) = ds[L] := by
  rw [List.drop_eq_getElem_cons h2]
  simp only [List.take_succ_cons,List.take_zero,dS,bB,Nat.mul_zero,Nat.add_zero]
 simp only [u0,zea,zeb,zef,zek,zsa,zsb,zba,zbb,zta,ztk,ztn,i9,n6,f6,j8,E3,Y8,i7,u4,if_true,if_false,zwb,eX,heq,hx,hv]
theorem kK {n : Nat} {ds : List Nat} (hn0 : 0 < n) (hn : n < 65536) (hds : ∀ d ∈ ds,d < 2 ^ n) (hl : ds.length ≤ 1000) (hln : ds.length * n ≤ 1000000) : ∀ (d : Nat) {L R u : Nat} {σ : Sto} (M : Nat),R = L + u → 0 < u → R ≤ ds.length → u ≤ 2 ^ d →
  orc (M + d + 1) (.clo 1 [.list (ds.map fun d => .int (d : Nat)),.int (n : Nat)]) [.int (L : Nat),.int (R : Nat)] none σ = some (.int ((G3 n ((ds.drop L).take u) : Nat) : Int),σ) := by
 intro d
 induction d with
 | zero =>
  intro L R u σ M h0 h1 h2 h3
  obtain rfl : u = 1 := Nat.le_antisymm h3 h1
  subst h0
  exact dY hl M h2
 | succ d ih =>
  intro L R u σ M h0 h1 h2 h3
  by_cases hu : u = 1
  ·subst hu h0
   exact dY hl (M + (d + 1)) h2
  ·rw [cO (fd := t9) (as := [.int L,.int R]) rfl rfl]
   have hst : FD.start t9 [.int (L : Nat),.int (R : Nat)] .none [.list (ds.map fun d => .int (d : Nat)),.int (n : Nat)] (.clo 1 [.list (ds.map fun d => .int (d : Nat)),.int (n : Nat)]) = [.int L,.int R,.list (ds.map fun d => .int (d : Nat)),.unb,.unb,.int n,.clo 1 [.list (ds.map fun d => .int (d : Nat)),.int n]] := rfl
   rw [hst]
   show (exB (orc _) u0 _).map _ = _
   obtain ⟨p,v,rfl,hp,hpv,hvp⟩ := hlv h1 hu
   have heq : evP .eq [.int ((L + 1 : Nat) : Int),.int (R : Nat)] σ = some (.bool false) := by rw [nEq,beq_eq_false_iff_ne.mpr (by lia)]
   obtain ⟨mid,hmid⟩ : ∃ m,m = L + p := ⟨_,rfl⟩
   have hmR : R = mid + v := by rw [h0,hmid,Nat.add_assoc]
   have hm : (L + R) / 2 = mid := by lia
   have hpd : 2 ^ (d + 1) = 2 * 2 ^ d := Nat.pow_succ'
   have hv2 : v ≤ 2 ^ d := by lia
   have hp2 : p ≤ 2 ^ d := Nat.le_trans hpv hv2
   have hmx : mid ≤ ds.length := Nat.le_trans (by rw [hmR]; exact Nat.le_add_right _ _) h2
   have hpl : p ≤ ds.length := Nat.le_trans (by rw [hmid]; exact Nat.le_add_left _ _) hmx
   have hvl : v ≤ ds.length := Nat.le_trans (by rw [hmR]; exact Nat.le_add_left _ _) h2
   have s1 : evP .shr [.int ((L + R : Nat) : Int),.int 1] σ = some (.int (mid : Nat)) := by rw [nT,hm]
   have s2 : evP .sub [.int (mid : Nat),.int (L : Nat)] σ = some (.int (p : Nat)) := by
    rw [tz (by rw [hmid]; exact Nat.le_add_right _ _),hmid,Nat.add_sub_cancel_left]
   have s3 : evP .mul [.int (p : Nat),.int (n : Nat)] σ = some (.int ((p * n : Nat) : Int)) := tY (K := 16) (by decide) (Nat.lt_of_le_of_lt (Nat.le_trans hpl hl) (by decide)) hn
   have c1 := u7 (σ := σ) (kw := none) (f := (.clo 1 [.list (ds.map fun d => .int (d : Nat)),.int (n : Nat)])) (args := [.int (mid : Nat),.int (R : Nat)]) (by
    simp only [H6,znc,znd,zne,znf,zng,zna,znb,PV.isUnb,j0 (fun (d : Nat) => (rfl : (PV.int (d : Int)).noBox = true)),Bool.and_self,Bool.not_false]) rfl rfl rfl (ih (L := mid) (R := R) (σ := []) M hmR (Nat.lt_of_lt_of_le hp hpv) h2 hv2)
   have c2 := u7 (σ := σ) (kw := none) (f := (.clo 1 [.list (ds.map fun d => .int (d : Nat)),.int (n : Nat)])) (args := [.int (L : Nat),.int (mid : Nat)]) (by
    simp only [H6,znc,znd,zne,znf,zng,zna,znb,PV.isUnb,j0 (fun (d : Nat) => (rfl : (PV.int (d : Int)).noBox = true)),Bool.and_self,Bool.not_false]) rfl rfl rfl (ih (L := L) (R := mid) (σ := []) M hmid hp hmx hp2)
   have hfuel : M + d + 1 = M + (d + 1) := rfl
   rw [hfuel] at c1 c2
   have hmul : p * n ≤ ds.length * n := Nat.mul_le_mul_right _ hpl
   have s4 : evP .shl [.int ((G3 n ((ds.drop mid).take v) : Nat) : Int),.int ((p * n : Nat) : Int)] σ = some (.int ((G3 n ((ds.drop mid).take v) * 2 ^ (p * n) : Nat) : Int)) := by
    refine oW (K := ds.length * n) hln (Nat.le_trans hmul hln) ?_
    refine Nat.lt_of_lt_of_le (ik _ fun y hy => hds y (List.mem_of_mem_drop (List.mem_of_mem_take hy))) (Nat.pow_le_pow_right (by decide) (Nat.mul_le_mul_right _ ?_))
    exact Nat.le_trans (List.length_take_le _ _) hvl
   have hv : G3 n ((ds.drop mid).take v) * 2 ^ (p * n) + G3 n ((ds.drop L).take p) = G3 n ((ds.drop L).take (p + v)) := by
    have l1 : ((ds.drop L).take p).length = p := by
     rw [List.length_take_of_le]
     rw [List.length_drop]
     exact Nat.le_sub_of_add_le (by rw [Nat.add_comm,← hmid]; exact hmx)
    rw [List.take_add,List.drop_drop,← hmid,gu,l1,Nat.mul_comm,Nat.add_comm]
   have s5 : evP .add [.int ((G3 n ((ds.drop mid).take v) * 2 ^ (p * n) : Nat) : Int),.int ((G3 n ((ds.drop L).take p) : Nat) : Int)] σ = some (.int ((G3 n ((ds.drop L).take (p + v)) : Nat) : Int)) := by
    rw [oO,hv]
   simp only [u0,zea,zeb,zef,zek,zsa,zsb,zba,zbb,zta,ztk,ztn,i9,n6,f6,j8,E3,T9,f5,A0,A5,D3,B5,Nat.reduceAdd,Nat.reduceLT,Y8,i7,u4,if_false,zwb,eX,oO,heq,s1,s2,s3,c1,c2,s4,s5]
theorem eM {n : Nat} {ds : List Nat} (hn0 : 0 < n) (hn : n < 65536) (hds : ∀ d ∈ ds,d < 2 ^ n) (hl : ds.length ≤ 1000) (hln : ds.length * n ≤ 1000000) {d : Nat} (hd : ds.length ≤ 2 ^ d) (M : Nat) (σ : Sto) :
  orc (M + d + 2) (.glob 70) [.list (ds.map fun d => .int (d : Nat)),.int (n : Nat)] none σ = some (.int ((G3 n ds : Nat) : Int),σ) := by
 rw [z8 (fd := C1) (as := [.list (ds.map fun d => .int (d : Nat)),.int (n : Nat)]) rfl rfl]
 have hst : FD.start C1 [.list (ds.map fun d => .int (d : Nat)),.int (n : Nat)] .none [] (.glob 70) = [.list (ds.map fun d => .int (d : Nat)),.int (n : Nat),.unb] := rfl
 rw [hst]
 show (exB (orc _) C3 _).map _ = _
 have s1 : evP .len [.list (ds.map fun d => PV.int (d : Nat))] σ = some (.int (ds.length : Nat)) := by
  rw [iy (by rw [List.length_map]; exact Nat.le_trans hl (by decide)),List.length_map]
 have tr : I5 σ (.list (ds.map fun d => PV.int (d : Nat))) = some (!ds.isEmpty) := by
  show (if _ then some _ else none) = _
  rw [if_pos (by simp [a8]; lia)]; simp
 cases hds' : ds with
 | nil =>
  subst hds'
  rw [List.isEmpty_nil] at tr
  simp only [C3,zea,zeb,zef,zeh,zek,zsa,zsb,zba,zbb,ztn,zto,i9,n6,f6,j8,E3,T9,zva,zvb,A0,A5,D3,B5,Nat.reduceAdd,Nat.reduceLT,bu,Y8,u4,if_false,zwb,tr,Bool.not_true]
  rfl
 | cons x r =>
  rw [← hds']
  have he : ds.isEmpty = false := by rw [hds']; rfl
  rw [he] at tr
  have c := u7 (σ := σ) (kw := none) (f := .clo 1 [.list (ds.map fun d => .int (d : Nat)),.int (n : Nat)]) (args := [.int ((0 : Nat) : Int),.int (ds.length : Nat)]) (by
    simp only [H6,znc,znd,zne,znf,zng,zna,znb,PV.isUnb,j0 (fun (d : Nat) => (rfl : (PV.int (d : Int)).noBox = true)),Bool.and_self,Bool.not_false]) rfl rfl rfl (kK hn0 hn hds hl hln d (L := 0) (R := ds.length) (σ := []) M (Nat.zero_add _).symm (by rw [hds']; exact Nat.succ_pos _) (Nat.le_refl _) hd)
  rw [show ((0 : Nat) : Int) = 0 from rfl] at c
  simp only [List.drop_zero,List.take_length] at c
  have hfuel : M + d + 2 = M + d + 1 + 1 := rfl
  simp only [C3,zea,zeb,zef,zeh,zek,zsa,zsb,zba,zbb,ztn,zto,i9,n6,f6,j8,E3,T9,zva,zvb,A0,A5,D3,B5,Nat.reduceAdd,Nat.reduceLT,bu,Y8,u4,if_true,if_false,zwb,tr,Bool.not_false,s1,c]
noncomputable def gl (b n : Nat) : List Nat → Nat → List Nat × Nat
 | [],r => ([],r)
 | x :: xs,r => ((r * 2 ^ n + x) / b :: (gl b n xs ((r * 2 ^ n + x) % b)).1,(gl b n xs ((r * 2 ^ n + x) % b)).2)
noncomputable def bo (n : Nat) : Nat → List Nat → Nat
 | acc,[] => acc
 | acc,d :: r => bo n (acc * 2 ^ n + d) r
theorem ou {b n r} : gl b n [] r = ([],r) := rfl
theorem nF {b n x xs r} : gl b n (x :: xs) r = ((r * 2 ^ n + x) / b :: (gl b n xs ((r * 2 ^ n + x) % b)).1,(gl b n xs ((r * 2 ^ n + x) % b)).2) := rfl
theorem oZ {n a} : bo n a [] = a := rfl
theorem oT {n a d r} : bo n a (d :: r) = bo n (a * 2 ^ n + d) r := rfl
theorem dU {n : Nat} : ∀ (l : List Nat) (acc d : Nat),bo n acc (l ++ [d]) = bo n acc l * 2 ^ n + d
 | [],_,_ => rfl
 | x :: r,acc,d => by simp only [List.cons_append,oZ,oT]; exact dU r _ d
theorem bV {n : Nat} : ∀ (l : List Nat),bo n 0 l.reverse = G3 n l
 | [] => rfl
 | d :: r => by rw [List.reverse_cons,dU,bV r,bB,Nat.mul_comm]; lia
theorem iq {b n : Nat} : ∀ (xs : List Nat) (r Q : Nat),bo n (Q * b + r) xs = bo n Q (gl b n xs r).1 * b + (gl b n xs r).2
 | [],_,_ => rfl
 | x :: xs,r,Q => by
  simp only [oZ,oT,ou,nF]
  rw [← iq xs]
  congr 1
  have := Nat.div_add_mod (r * 2 ^ n + x) b
  rw [Nat.mul_comm] at this
  rw [Nat.add_mul,Nat.add_mul,Nat.mul_right_comm,Nat.add_assoc,Nat.add_assoc,this]
theorem lu {b n : Nat} (hb : 0 < b) : ∀ (xs : List Nat) (r : Nat),r < b → (∀ d ∈ xs,d < 2 ^ n) → (gl b n xs r).2 < b ∧ ∀ d ∈ (gl b n xs r).1,d < 2 ^ n
 | [],_,h,_ => ⟨h,fun d hd => by cases hd⟩
 | x :: xs,r,h,hx => by
  have ih := lu hb xs ((r * 2 ^ n + x) % b) (Nat.mod_lt _ hb) fun d hd => hx d (G6 _ hd)
  refine ⟨ih.1,fun d hd => ?_⟩
  rcases List.mem_cons.mp hd with rfl | hd
  ·refine (Nat.div_lt_iff_lt_mul hb).mpr ?_
   exact Nat.lt_of_lt_of_le (Nat.add_lt_add_left (hx x List.mem_cons_self) _) (by rw [← Nat.succ_mul,Nat.mul_comm (2 ^ n)]; exact Nat.mul_le_mul_right _ h)
  ·exact ih.2 d hd
theorem iA {b n : Nat} : ∀ (xs : List Nat) (r : Nat),(gl b n xs r).1.length = xs.length
 | [],_ => rfl
 | x :: xs,r => by simp [ou,nF,iA xs]
abbrev nIs (l : List Nat) : List PV := l.map fun d => .int (d : Nat)
theorem lE {C : Orc} {f v w : PV} {xs : List PV} {k : Nat} {σ σ' : Sto} (hf : H6 f = true) (hx : σ[k]? = some xs) (hn : i8 xs = true) (hw : H6 w = true) (hv : v.scalar = true) (h : C f [.list xs,w] none [] = some (v,σ')) : B3 C f [.box k,w] none σ = some v := by
 unfold B3
 rw [hf]
 have h1 : z1 σ [.box k,w] = some [.list xs,w] := by
  have : freeze σ (.box k) = some (.list xs) := by show (σ[k]?).bind _ = _; rw [hx]; exact if_pos hn
  rw [zfb,zfb,zfa,this,frz hw]; rfl
 have h2 : freeze σ' v = some v := frz (jJ hv)
 rw [h1]
 simp [bv,h,h2,hv]
noncomputable def jE : List MS := [.assign (.two 7 4) (.call (.glob 49) (.cons (.prim .add (.cons (.prim .shl (.cons (.var 4) (.cons (.var 2) .nil))) (.cons (.var 6) .nil))) (.cons (.var 1) (.cons (.var 2) .nil))) none),.append 5 (.var 7)]
theorem o7 {t : MT} {b : St → Option (Fl × St)} {x : PV} {r : List PV} {s s' : St} {ρ' : Rho} (h : I7 t x s.ρ = some ρ') (h' : b ⟨ρ',s.σ⟩ = some (.next,s')) : G1 t b (x :: r) s = G1 t b r s' := by
 simp only [zoa,zob,h,h',i9]
theorem j5 {C : Orc} {m : MS} {r : List MS} {s s' : St} (h : exS C m s = some (.next,s')) : exB C (m :: r) s = exB C r s' := by
 rw [zbb,h]; rfl
theorem tV {C : Orc} {a b n : Nat} {L : PV} (hb : 0 < b) (hn : n ≤ 100000) (hb2 : b < 2 ^ n)
  (hd : ∀ t,t < b * 2 ^ n → B3 C (.glob 49) [.int (t : Nat),.int (b : Nat),.int (n : Nat)] none = fun _ => some (.tup [.int ((t / b : Nat) : Int),.int ((t % b : Nat) : Int)])) :
  ∀ (xs : List Nat) (r : Nat) (qs : List Nat) (x6 x7 : PV),r < b → (∀ d ∈ xs,d < 2 ^ n) → qs.length + xs.length ≤ 1000 → ∃ y6 y7,
   G1 (.one 6) (fun s => exB C jE s) (nIs xs)
    ⟨[.int a,.int b,.int n,L,.int r,.box 0,x6,x7,.unb],[nIs qs]⟩ = some (.next,⟨[.int a,.int b,.int n,L,.int ((gl b n xs r).2 : Nat),.box 0,y6,y7,.unb],[nIs (qs ++ (gl b n xs r).1)]⟩) := by
 intro xs
 induction xs with
 | nil => intro r qs x6 x7 h1 h2 h3; exact ⟨x6,x7,by simp [zoa,zob,ou,nF]⟩
 | cons x xs ih =>
  intro r qs x6 x7 h1 h2 h3
  have hx := h2 x List.mem_cons_self
  have ht : r * 2 ^ n + x < b * 2 ^ n :=
   Nat.lt_of_lt_of_le (Nat.add_lt_add_left hx _) (by rw [← Nat.succ_mul]; exact Nat.mul_le_mul_right _ h1)
  have nM : n ≤ 1000000 := Nat.le_trans hn (by decide)
  have s1 : ∀ σ,evP .shl [.int (r : Nat),.int (n : Nat)] σ = some (.int ((r * 2 ^ n : Nat) : Int)) := fun σ => oW (K := n) nM nM (Nat.lt_trans h1 hb2)
  obtain ⟨y6,y7,e⟩ := ih ((r * 2 ^ n + x) % b) (qs ++ [(r * 2 ^ n + x) / b]) (.int (x : Nat)) (.int (((r * 2 ^ n + x) / b : Nat) : Int)) (Nat.mod_lt _ hb) (fun d hd => h2 d (G6 _ hd)) (by rw [List.length_append,Nat.add_assoc,Nat.add_comm [_].length]; exact h3)
  refine ⟨y6,y7,?_⟩
  have hbx : M5 ⟨[.int (a : Nat),.int (b : Nat),.int (n : Nat),L,.int (((r * 2 ^ n + x) % b : Nat) : Int),.box 0,.int (x : Nat),.int (((r * 2 ^ n + x) / b : Nat) : Int),.unb],[nIs qs]⟩ 5 = some (0,nIs qs) := L2 rfl rfl
  have hl : (PV.int (((r * 2 ^ n + x) / b : Nat) : Int)).noBox = true ∧ (nIs qs).length ≤ a8 := ⟨rfl,Nat.le_trans (Nat.le_of_eq (List.length_map _)) (Nat.le_trans (Nat.le_trans (Nat.le_add_right _ _) h3) (by decide))⟩
  have turn : exB C jE ⟨[.int (a : Nat),.int (b : Nat),.int (n : Nat),L,.int (r : Nat),.box 0,.int (x : Nat),x7,.unb],[nIs qs]⟩ = some (.next,⟨[.int (a : Nat),.int (b : Nat),.int (n : Nat),L,.int (((r * 2 ^ n + x) % b : Nat) : Int),.box 0,.int (x : Nat),.int (((r * 2 ^ n + x) / b : Nat) : Int),.unb],[nIs (qs ++ [(r * 2 ^ n + x) / b])]⟩) := by
   simp only [jE,zeb,zec,zef,zek,zsa,zsb,zba,zbb,zta,zte,i9,n6,f6,j8,o0,A0,A5,D3,B5,Nat.reduceAdd,Nat.reduceLT,s1,oO,hd _ ht,hbx,if_pos hl]
   simp only [nIs,List.map_append,List.map_cons,List.map_nil]
  show G1 _ _ (PV.int (x : Nat) :: nIs xs) _ = _
  rw [o7 (s' := ⟨[.int (a : Nat),.int (b : Nat),.int (n : Nat),L,.int (((r * 2 ^ n + x) % b : Nat) : Int),.box 0,.int (x : Nat),.int (((r * 2 ^ n + x) / b : Nat) : Int),.unb],[nIs (qs ++ [(r * 2 ^ n + x) / b])]⟩) (f5 (by simp)) turn,e]
  simp only [ou,nF,List.append_assoc,List.singleton_append]
theorem eZ {a b n : Nat} (hn0 : 0 < n) (hn : n ≤ 16000) (hb1 : 2 ^ (n - 1) ≤ b) (hb2 : b < 2 ^ n) (ha : a < 2 ^ (60 * n)) (M : Nat) (σ : Sto) :
  orc (M + 9) (.glob 77) [.int (a : Nat),.int (b : Nat)] none [] = some (.tup [.int ((a / b : Nat) : Int),.int ((a % b : Nat) : Int)],[((gl b n (eC n a ((intBits (a : Int) + n - 1) / n)).reverse 0).1.map fun d => PV.int (d : Nat)).reverse]) := by
 have b0 : 0 < b := Nat.lt_of_lt_of_le (Nat.pow_pos (by decide)) hb1
 have hbits : intBits (b : Int) = n := by
  refine qr hn0 ?_ ?_
  ·rw [hF]; exact Int.ofNat_le.mpr hb1
  ·rw [hF]; exact Int.ofNat_lt.mpr hb2
 rw [z8 (fd := C4) (as := [.int a,.int b]) rfl rfl]
 have hst : FD.start C4 [.int (a : Nat),.int (b : Nat)] .none [] (.glob 77) = [.int a,.int b,.unb,.unb,.unb,.unb,.unb,.unb,.unb] := rfl
 rw [hst]
 show (exB (orc _) o5 _).map _ = _
 generalize hD : (intBits (a : Int) + n - 1) / n = D
 have hab : intBits (a : Int) ≤ 60 * n := H3.mpr ha
 obtain ⟨k,hk⟩ : ∃ k,intBits (a : Int) + n = k + 1 := ⟨_,(Nat.succ_pred_eq_of_pos (Nat.add_pos_right _ hn0)).symm⟩
 have hkD : k / n = D := by rw [← hD,hk,Nat.add_sub_cancel]
 have hD60 : D ≤ 60 := by
  rw [← hkD]
  exact Nat.le_of_lt_succ ((Nat.div_lt_iff_lt_mul hn0).mpr (by
   show k + 1 ≤ 61 * n
   rw [← hk]; exact Nat.le_trans (Nat.add_le_add_right hab n) (Nat.le_of_eq (Nat.succ_mul 60 n).symm)))
 have hD1 : D ≤ 1000 := Nat.le_trans hD60 (by decide)
 have hD6 : D ≤ 2 ^ 6 := Nat.le_trans hD60 (by decide)
 have hDl : D ≤ a8 := Nat.le_trans hD60 (by decide)
 have hn6 : n < 65536 := Nat.lt_of_le_of_lt hn (by decide)
 have hDn : D * n ≤ 1000000 := Nat.le_trans (Nat.mul_le_mul hD60 hn) (by decide)
 have hfit := fit hn0 hk hkD
 have c1 : ∀ σ,B3 (orc (M + 8)) (.glob 63) [.int (a : Nat),.int (n : Nat)] none σ = some (.list (B6 n a D)) := fun σ =>
  Z6 rfl rfl fH (eF (d := 6) hn0 hn6 hD hD6 hD1 hDn M)
 have hd : ∀ t,t < b * 2 ^ n → B3 (orc (M + 8)) (.glob 49) [.int (t : Nat),.int (b : Nat),.int (n : Nat)] none = fun _ => some (.tup [.int ((t / b : Nat) : Int),.int ((t % b : Nat) : Int)]) := fun t ht => by
  funext σ
  exact u7 rfl rfl rfl rfl (vg 2 hn0 (Nat.le_trans hn (by decide)) (Nat.lt_of_le_of_lt hn (by decide)) hb1 hb2 ht (M + 3) [])
 obtain ⟨y6,y7,e⟩ := tV (C := orc (M + 8)) (a := a) (L := .list (B6 n a D)) b0 (Nat.le_trans hn (by decide)) hb2 hd (eC n a D).reverse 0 [] .unb .unb b0 (fun d h => gD D a d (List.mem_reverse.mp h)) (by rw [List.length_reverse,bw,A5,Nat.zero_add]; exact hD1)
 have hlen : (B6 n a D).length ≤ a8 := by rw [fq]; exact hDl
 have hnb : i8 ((B6 n a D).reverse) = true := by
  simp only [B6,← List.map_reverse]; exact j0 (fun _ => rfl) _
 have hxs : (B6 n a D).reverse = nIs (eC n a D).reverse := by simp [B6,nIs]
 have hl2 := lu (n := n) b0 (eC n a D).reverse 0 b0 fun d h => gD D a d (List.mem_reverse.mp h)
 have hl3 : (gl b n (eC n a D).reverse 0).1.length = D := by rw [iA,List.length_reverse,bw]
 generalize hq : (gl b n (eC n a D).reverse 0).1 = qd at *
 generalize hr : (gl b n (eC n a D).reverse 0).2 = r at *
 have c2 : B3 (orc (M + 8)) (.glob 70) [.box 0,.int (n : Nat)] none [(nIs qd).reverse] = some (.int ((G3 n qd.reverse : Nat) : Int)) := by
  refine lE (σ' := []) rfl rfl (by simp only [nIs,← List.map_reverse]; exact j0 (fun _ => rfl) _) rfl rfl ?_
  exact (by simp only [nIs,← List.map_reverse] : (nIs qd).reverse = nIs qd.reverse) ▸ eM (n := n) (ds := qd.reverse) (d := 6) hn0 hn6 (fun d h => hl2.2 d (List.mem_reverse.mp h)) (by rw [List.length_reverse,hl3]; exact hD1) (by rw [List.length_reverse,hl3]; exact hDn) (by rw [List.length_reverse,hl3]; exact hD6) M []
 have val : a = bo n 0 qd * b + r := by
  have h1 := iq (b := b) (n := n) (eC n a D).reverse 0 0
  rw [hq,hr,Nat.zero_mul,Nat.zero_add,bV,dM D a hfit] at h1
  exact h1
 have hv : G3 n qd.reverse = bo n 0 qd := by
  have := bV (n := n) qd.reverse
  rw [List.reverse_reverse] at this; exact this.symm
 have hdiv : a / b = bo n 0 qd ∧ a % b = r := by
  conv => lhs; lhs; rw [val]
  conv => rhs; lhs; rw [val]
  constructor
  ·rw [Nat.mul_comm,Nat.mul_add_div b0,Nat.div_eq_of_lt hl2.1,Nat.add_zero]
  ·rw [Nat.mul_comm,Nat.mul_add_mod,Nat.mod_eq_of_lt hl2.1]
 rw [hdiv.1,hdiv.2,← hv]
 have hrl : ((nIs qd)).length ≤ a8 := by rw [List.length_map,hl3]; exact hDl
 have hbx : M5 ⟨[.int (a : Nat),.int (b : Nat),.int (n : Nat),.list (B6 n a D),.int (r : Nat),.box 0,y6,y7,.unb],[nIs qd]⟩ 5 = some (0,nIs qd) := L2 rfl rfl
 have hc : i8 (B6 n a D).reverse = true ∧ (MI.rev (.var 3)).isBoxl = false := ⟨hnb,rfl⟩
 have e' : G1 (.one 6) (fun s => exB (orc (M + 8)) jE s) (B6 n a D).reverse
    ⟨[.int a,.int b,.int n,.list (B6 n a D),.int 0,.box 0,.unb,.unb,.unb],[[]]⟩ = some (.next,⟨[.int a,.int b,.int n,.list (B6 n a D),.int (r : Nat),.box 0,y6,y7,.unb],[nIs qd]⟩) := by
  rw [hxs]; exact e
 have hpart : exB (orc (M + 8)) o5 ⟨[.int a,.int b,.unb,.unb,.unb,.unb,.unb,.unb,.unb],[]⟩ = exB (orc (M + 8)) (o5.drop 5) ⟨[.int a,.int b,.int n,.list (B6 n a D),.int (r : Nat),.box 0,y6,y7,.unb],[nIs qd]⟩ := by
  have hms : o5 = o5.take 4 ++ (.for (.one 6) (.rev (.var 3)) jE :: o5.drop 5) := rfl
  have st1 : exB (orc (M + 8)) (o5.take 4) ⟨[.int a,.int b,.unb,.unb,.unb,.unb,.unb,.unb,.unb],[]⟩ = some (.next,⟨[.int a,.int b,.int n,.list (B6 n a D),.int 0,.box 0,.unb,.unb,.unb],[[]]⟩) := by
   simp only [o5,List.take_succ_cons,List.take_zero,zea,zeb,zec,zee,zef,zek,zsa,zsb,zba,zbb,zta,ztb,i9,n6,f6,j8,f5,A0,A5,D3,B5,Nat.reduceAdd,Nat.reduceLT,T8,if_true,gK,hbits,c1,zna,znb,List.nil_append]
  have st2 : exS (orc (M + 8)) (.for (.one 6) (.rev (.var 3)) jE) ⟨[.int a,.int b,.int n,.list (B6 n a D),.int 0,.box 0,.unb,.unb,.unb],[[]]⟩ = some (.next,⟨[.int a,.int b,.int n,.list (B6 n a D),.int (r : Nat),.box 0,y6,y7,.unb],[nIs qd]⟩) := by
   rw [ztm]
   have hi : evI (orc (M + 8)) (.rev (.var 3)) [.int (a : Nat),.int (b : Nat),.int (n : Nat),.list (B6 n a D),.int 0,.box 0,.unb,.unb,.unb] [[]] = some (B6 n a D).reverse := by
    simp only [zeb,zif,i9,f6,E3,if_pos hlen]
   rw [hi]
   simp only [i9]
   rw [if_pos hc]
   exact e'
  exact (congrArg (fun l => exB (orc (M + 8)) l _) hms).trans ((W0 _ _ _ _ st1).trans (j5 st2))
 rw [hpart]
 simp only [o5,List.drop_succ_cons,List.drop_zero,zeb,zec,zed,zek,zsa,zsb,zba,zbb,zta,ztg,ztn,i9,n6,f6,j8,H1,f5,A0,A5,D3,B5,Nat.reduceAdd,Nat.reduceLT,G0,u4,if_false,zwb,hbx,if_pos hrl,c2]
theorem iQ {a b n : Nat} (hn0 : 0 < n) (hn : n ≤ 16000) (hb1 : 2 ^ (n - 1) ≤ b) (hb2 : b < 2 ^ n) (ha : a < 2 ^ (60 * n)) (M : Nat) (σ : Sto) :
  orc (M + 10) (.glob 84) [.int (a : Nat),.int (b : Nat)] none σ = some (.tup [.int ((a / b : Nat) : Int),.int ((a % b : Nat) : Int)],σ) := by
 have b0 : 0 < b := Nat.lt_of_lt_of_le (Nat.pow_pos (by decide)) hb1
 rw [z8 (fd := w6) (as := [.int a,.int b]) rfl rfl]
 have hst : FD.start w6 [.int (a : Nat),.int (b : Nat)] .none [] (.glob 84) = [.int a,.int b,.unb,.unb] := rfl
 rw [hst]
 show (exB (orc _) y0 _).map _ = _
 have c : B3 (orc (M + 9)) (.glob 77) [.int (a : Nat),.int (b : Nat)] none σ = some (.tup [.int ((a / b : Nat) : Int),.int ((a % b : Nat) : Int)]) := u7 rfl rfl rfl rfl (eZ hn0 hn hb1 hb2 ha M σ)
 have t1 := nz0 b0
 have t2 : decide ((b : Int) < 0) = false := decide_eq_false (Int.not_lt.mpr (Int.natCast_nonneg b))
 have t3 : decide ((a : Int) < 0) = false := decide_eq_false (Int.not_lt.mpr (Int.natCast_nonneg a))
 simp only [y0,zea,zeb,zec,zed,zef,zek,zsa,zsb,zba,zbb,zta,ztk,ztn,i9,n6,f6,j8,G0,i7,u4,if_false,ju,zwb,qK,tI,pi,t1,t2,t3,c]
theorem gq {a m r : Int} {b n : Nat} (h : a = b * m + r) (h0 : 0 ≤ r) (h1 : r < b) (hn0 : 0 < n) (hn : n ≤ 16000) (hb1 : 2 ^ (n - 1) ≤ b) (hb2 : b < 2 ^ n) (ha : a.natAbs < 2 ^ (60 * n)) (M : Nat) (σ : Sto) :
  orc (M + 11) (.glob 84) [.int a,.int (b : Nat)] none σ = some (.tup [.int m,.int r],σ) := by
 have b0 : 0 < b := Nat.lt_of_lt_of_le (Nat.pow_pos (by decide)) hb1
 by_cases hneg : 0 ≤ a
 ·obtain ⟨x,rfl⟩ := Int.eq_ofNat_of_zero_le hneg
  rw [iQ hn0 hn hb1 hb2 (show x < _ from ha) (M + 1) σ]
  obtain ⟨e1,e2⟩ := cY (A := (x : Int)) (q := m) (r := r) (b := (b : Int)) (Int.ofNat_lt.mpr b0) (by rw [h,Int.mul_comm]) h0 h1
  rw [← e1,← e2]
  rfl
 ·obtain ⟨x,hx⟩ := Int.eq_negSucc_of_lt_zero (Int.not_le.mp hneg)
  have hxe : -a - 1 = (x : Int) := by rw [hx]; exact Int.add_sub_cancel (x : Int) 1
  have c0 := iQ (a := x) (b := b) hn0 hn hb1 hb2 (by rw [hx] at ha; exact Nat.lt_of_succ_lt ha) M []
  obtain ⟨e1,e2⟩ := cY (A := (x : Int)) (q := -m - 1) (r := b - 1 - r) (b := (b : Int)) (Int.ofNat_lt.mpr b0) (by rw [← hxe,h,Int.mul_comm,Int.sub_mul,Int.neg_mul]; lia) (by lia) (by lia)
  rw [show ((x / b : Nat) : Int) = -m - 1 from e1,show ((x % b : Nat) : Int) = b - 1 - r from e2,← hxe] at c0
  have c : B3 (orc (M + 10)) (.glob 84) [.int (-a - 1),.int (b : Nat)] none σ = some (.tup [.int (-m - 1),.int (b - 1 - r)]) := u7 rfl rfl rfl rfl c0
  rw [z8 (fd := w6) (as := [.int a,.int b]) rfl rfl]
  have hst : FD.start w6 [.int a,.int (b : Nat)] .none [] (.glob 84) = [.int a,.int b,.unb,.unb] := rfl
  rw [hst]
  show (exB (orc _) y0 _).map _ = _
  have t1 := nz0 b0
  have t2 : decide ((b : Int) < 0) = false := decide_eq_false (Int.not_lt.mpr (Int.natCast_nonneg b))
  have t3 : decide (a < 0) = true := decide_eq_true (Int.not_le.mp hneg)
  simp only [y0,zea,zeb,zec,zed,zef,zek,zsa,zsb,zba,zbb,zta,ztk,ztn,i9,n6,f6,j8,o0,A0,A5,D3,B5,Nat.reduceAdd,Nat.reduceLT,G0,i7,u4,if_true,if_false,ju,zwb,qK,tI,pi,t1,t2,t3,c,dk]
  congr 4
  ·congr 1; lia
  ·congr 2; lia
theorem uq {a b m r : Int} {n : Nat} (h : a = b * m + r) (h0 : (0 ≤ r ∧ r < b) ∨ (r ≤ 0 ∧ b < r)) (hn0 : 0 < n) (hn : n ≤ 16000) (hb1 : 2 ^ (n - 1) ≤ b.natAbs) (hb2 : b.natAbs < 2 ^ n) (ha : a.natAbs < 2 ^ (60 * n)) (M : Nat) (σ : Sto) :
  orc (M + 12) (.glob 84) [.int a,.int b] none σ = some (.tup [.int m,.int r],σ) := by
 rcases h0 with ⟨h0,h1⟩ | ⟨h0,h1⟩
 ·obtain ⟨y,rfl⟩ := Int.eq_ofNat_of_zero_le (show 0 ≤ b by lia)
  exact gq h h0 h1 hn0 hn hb1 hb2 ha (M + 1) σ
 ·obtain ⟨y,hy⟩ := Int.eq_ofNat_of_zero_le (show 0 ≤ -b by lia)
  have hyb : b.natAbs = y := by rw [← Int.natAbs_neg,hy]; rfl
  have c0 := gq (a := -a) (b := y) (m := m) (r := -r) (by rw [← hy,h,Int.neg_mul]; lia) (by lia) (by lia) hn0 hn (by rw [← hyb]; exact hb1) (by rw [← hyb]; exact hb2) (by rw [Int.natAbs_neg]; exact ha) M []
  rw [← hy] at c0
  have c : B3 (orc (M + 11)) (.glob 84) [.int (-a),.int (-b)] none σ = some (.tup [.int m,.int (-r)]) := u7 rfl rfl rfl rfl c0
  rw [z8 (fd := w6) (as := [.int a,.int b]) rfl rfl]
  have hst : FD.start w6 [.int a,.int b] .none [] (.glob 84) = [.int a,.int b,.unb,.unb] := rfl
  rw [hst]
  show (exB (orc _) y0 _).map _ = _
  have t1 : (b == 0) = false := by simp; lia
  have t2 : decide (b < 0) = true := by simp; lia
  simp only [y0,zea,zeb,zec,zed,zef,zek,zsa,zsb,zba,zbb,zta,ztk,ztn,i9,n6,f6,j8,o0,A0,A5,D3,B5,Nat.reduceAdd,Nat.reduceLT,G0,i7,u4,if_true,if_false,ju,zwb,qK,tI,pi,t1,t2,c,Int.neg_neg]
section
variable {C : Orc} {ρ : Rho} {σ : Sto} {ts : MT}
theorem dF {α : Type} {test : Rho → Option Bool} {el : Rho → Option (List PV)} {g f : α → PV} : ∀ (l : List α),(∀ a ∈ l,∃ ρ',I7 ts (g a) ρ = some ρ' ∧ test ρ' = some true ∧ el ρ' = some [f a]) → D8 test el ts ρ (l.map g) = some (l.map f)
 | [],_ => rfl
 | a :: r,h => by
  obtain ⟨ρ',h1,h2,h3⟩ := h a List.mem_cons_self
  have ih := dF (test := test) (el := el) (g := g) (f := f) r fun b hb => h b (G6 _ hb)
  simp only [List.map_cons,zca,zcb,h1,h2,h3,i9,if_true,ih,n6,List.singleton_append]
theorem W6 {α : Type} {test : Rho → Option Bool} {el : Rho → Option (List PV)} {g f : α → PV} {b : α → Bool} : ∀ (l : List α),(∀ a ∈ l,∃ ρ',I7 ts (g a) ρ = some ρ' ∧ test ρ' = some (b a) ∧ (b a = true → el ρ' = some [f a])) → D8 test el ts ρ (l.map g) = some ((l.filter b).map f)
 | [],_ => rfl
 | a :: r,h => by
  obtain ⟨ρ',h1,h2,h3⟩ := h a List.mem_cons_self
  have ih := W6 (test := test) (el := el) (g := g) (f := f) (b := b) r fun b hb => h b (G6 _ hb)
  cases hb : b a
  ·rw [hb] at h2
   simp only [List.map_cons,zca,zcb,h1,h2,i9,u4,if_false,ih,List.filter_cons,hb]
  ·rw [hb] at h2
   simp only [List.map_cons,zca,zcb,h1,h2,h3 hb,i9,if_true,ih,n6,List.singleton_append,List.filter_cons,hb]
theorem O0 {α : Type} {f : α → PV} : ∀ {l : List α},(∀ a ∈ l,(f a).noBox = true) → i8 (l.map f) = true
 | [],_ => rfl
 | a :: r,h => by simp [zna,znb,h a List.mem_cons_self,O0 (l := r) fun b hb => h b (G6 _ hb)]
theorem K8 {α : Type} {elt : ME} {it : MI} {l : List α} {g f : α → PV} (hi : evI C it ρ σ = some (l.map g)) (hu : df ts ρ = true) (h : ∀ a ∈ l,∃ ρ',I7 ts (g a) ρ = some ρ' ∧ evE C elt ρ' σ = some (f a)) (hn : ∀ a ∈ l,(f a).noBox = true) (hl : l.length ≤ a8) :
  evE C (.comp elt ts it none) ρ σ = some (.list (l.map f)) := by
 simp only [zei,hi,i9,hu,Bool.true_eq_false,if_false]
 rw [dF (f := f) l fun a ha => by
  obtain ⟨ρ',h1,h2⟩ := h a ha
  exact ⟨ρ',h1,rfl,by rw [h2]; rfl⟩]
 simp only [i9]
 rw [if_pos ⟨O0 hn,by simpa using hl⟩]
theorem kP {α : Type} {elt c : ME} {it : MI} {l : List α} {g f : α → PV} {b : α → Bool} (hi : evI C it ρ σ = some (l.map g)) (hu : df ts ρ = true) (h : ∀ a ∈ l,∃ ρ',I7 ts (g a) ρ = some ρ' ∧ evE C c ρ' σ = some (.bool (b a)) ∧ (b a = true → evE C elt ρ' σ = some (f a))) (hn : ∀ a ∈ l,(f a).noBox = true) (hl : l.length ≤ a8) :
  evE C (.comp elt ts it (some c)) ρ σ = some (.list ((l.filter b).map f)) := by
 simp only [zei,hi,i9,hu,Bool.true_eq_false,if_false]
 rw [W6 (f := f) (b := b) l fun a ha => by
  obtain ⟨ρ',h1,h2,h3⟩ := h a ha
  exact ⟨ρ',h1,by simp only [h2,i9]; rfl,fun hb => by rw [h3 hb]; rfl⟩]
 simp only [i9]
 rw [if_pos ⟨O0 fun a ha => hn a ((List.mem_filter.mp ha).1),by
  rw [List.length_map]
  exact Nat.le_trans (List.length_filter_le _ _) hl⟩]
theorem mh {e : ME} {l : List PV} (h : evE C e ρ σ = some (.list l)) (hl : l.length ≤ a8) : evI C (.val e) ρ σ = some l := by
 rw [zia,h]
 exact if_pos hl
end
theorem jZ {t : MT} {b : St → Option (Fl × St)} {x v : PV} {r : List PV} {s s' : St} {ρ' : Rho} (h : I7 t x s.ρ = some ρ') (h' : b ⟨ρ',s.σ⟩ = some (.ret v,s')) : G1 t b (x :: r) s = some (.ret v,s') := by
 simp only [zoa,zob,h,h',i9]
abbrev Blk := Nat × List Nat
noncomputable def H9 : List (List Nat) := [[],[92,40],[92,41],[34,40,34],[34,41,34],[92,92],[92,34]]
noncomputable def okB (b : Blk) : Prop := (b.1 = 40 ∨ b.1 = 41) ∧ b.2 ∈ H9
noncomputable def l4 (bs : List Blk) : List Nat := bs.flatMap fun b => b.1 :: b.2
noncomputable def R5 (P : List Nat) : Bool := P.head? == some 34
noncomputable def unq (b : Blk) : Blk := (b.1,if R5 b.2 then [] else b.2)
noncomputable def bY (bs : List Blk) : List Nat := l4 (bs.map unq)
noncomputable def dm : List MS := [.ite (.prim .eq (.cons (.var 5) (.cons (.lit (.str [34])) .nil))) [.ite (.prim (.isc .none) (.cons (.var 2) .nil)) [.assign (.one 2) (.var 4)] [.ite (.prim .ne (.cons (.var 1) (.cons (.var 2) .nil))) [.append 3 (.prim (.slice true true false) (.cons (.var 0) (.cons (.var 1) (.cons (.var 2) .nil))))] [],.assign (.one 1) (.prim .add (.cons (.var 4) (.cons (.lit (.int 1)) .nil))),.assign (.one 2) (.lit .none)]] []]
section
variable {C : Orc} {addr : List Nat} {v0 v1 v2 v3 v4 v5 : PV} {σ : Sto}
theorem om {ch : List Nat} {p : Int} (h : evP .eq [.str ch,.str [34]] σ = some (.bool false)) :
  exB C dm ⟨[v0,v1,v2,v3,.int p,.str ch],σ⟩ = some (.next,⟨[v0,v1,v2,v3,.int p,.str ch],σ⟩) := by
 simp only [dm,zea,zeb,zef,zsa,zsb,zba,zbb,zta,zte,ztk,i9,n6,f6,j8,y3,f5,A0,A5,D3,B5,Nat.reduceAdd,Nat.reduceLT,i7,u4,if_false,h]
theorem eqQ : evP .eq [.str [34],.str [34]] σ = some (.bool true) := rfl
theorem pQ {p : Int} : exB C dm ⟨[v0,v1,.none,v3,.int p,.str [34]],σ⟩ = some (.next,⟨[v0,v1,.int p,v3,.int p,.str [34]],σ⟩) := by
 simp only [dm,zea,zeb,zef,zsa,zsb,zba,zbb,zta,zte,ztk,i9,n6,f6,j8,y3,jX,f5,A0,A5,D3,B5,Nat.reduceAdd,Nat.reduceLT,i7,if_true,se,eqQ]
theorem lQ {x y : Nat} {l : List Nat} (h1 : x ≤ y) (h2 : y ≤ l.length) (h3 : l.length ≤ a8) : evP (.slice true true false) [.str l,.int x,.int y] σ = some (.str ((l.drop x).take (y - x))) := by
 show (if (none : Option Int).isNone = true ∧ (some (x : Int)).getD 0 ≤ l.length ∧ (some (y : Int)).getD 0 ≤ l.length ∧ l.length ≤ a8 then (M6 l (some (x : Int)) (some (y : Int)) none).map PV.str else none) = _
 rw [if_pos ⟨rfl,by simp; lia,by simp; lia,h3⟩]
 simp only [zqa,zqb,zqc,zqd]
 rw [if_pos ⟨by lia,by lia,by lia⟩]
 simp only [n6]
 congr 3
 exact Int.toNat_sub y x
theorem ji {x : Nat} {l : List Nat} (h1 : x ≤ l.length) (h3 : l.length ≤ a8) : evP (.slice true false false) [.str l,.int x] σ = some (.str (l.drop x)) := by
 show (if (none : Option Int).isNone = true ∧ (some (x : Int)).getD 0 ≤ l.length ∧ (none : Option Int).getD 0 ≤ l.length ∧ l.length ≤ a8 then (M6 l (some (x : Int)) none none).map PV.str else none) = _
 rw [if_pos ⟨rfl,by simp; lia,by simp,h3⟩]
 simp only [zqa,zqb,zqc,zqd]
 rw [if_pos (by lia)]
 simp
theorem nk {s o p : Nat} {acc : List PV} (h0 : s < o) (h1 : o ≤ addr.length) (h2 : addr.length ≤ a8) (h3 : acc.length ≤ a8) :
  exB C dm ⟨[.str addr,.int (s : Nat),.int (o : Nat),.box 0,.int (p : Nat),.str [34]],[acc]⟩ = some (.next,⟨[.str addr,.int ((p + 1 : Nat) : Int),.none,.box 0,.int (p : Nat),.str [34]],[acc ++ [.str ((addr.drop s).take (o - s))]]⟩) := by
 have hne : evP .ne [.int (s : Nat),.int (o : Nat)] [acc] = some (.bool true) := by
  rw [uI]
  have : ((s : Int) == (o : Int)) = false := by simp; lia
  rw [this]; rfl
 have hb : M5 ⟨[.str addr,.int (s : Nat),.int (o : Nat),.box 0,.int (p : Nat),.str [34]],[acc]⟩ 3 = some (0,acc) := L2 rfl rfl
 have hc : ∀ x,(PV.str x).noBox = true ∧ acc.length ≤ a8 := fun x => ⟨rfl,h3⟩
 simp only [dm,zea,zeb,zef,zsa,zsb,zba,zbb,zta,zte,ztk,i9,n6,f6,j8,y3,f5,A0,A5,D3,B5,Nat.reduceAdd,Nat.reduceLT,i7,u4,if_true,if_false,rZ,eqQ,hne,hb,lQ (show s ≤ o by lia) h1 h2,if_pos (hc _),eX]
end
theorem fN {c : Nat} {P r : List Nat} {p last : Nat} (h : okB (c,P)) : ∃ ts : List (Nat × List Nat),
  l7 false p last (c :: P ++ r) = (ts.map fun t => PV.tup [.int (t.1 : Nat),.str t.2]) ++ l7 false (p + 1 + P.length) (p + P.length) r ∧
  ((R5 P = true ∧ ∃ x,x ≠ 34 ∧ (x = 40 ∨ x = 41) ∧ P = [34,x,34] ∧ ts = [(p,[c]),(p + 1,[34]),(p + 2,[x]),(p + 3,[34])]) ∨
   (R5 P = false ∧ ((P = [] ∧ ts = [(p,[c])]) ∨ ∃ y,(y = 40 ∨ y = 41 ∨ y = 92 ∨ y = 34) ∧ P = [92,y] ∧ ts = [(p,[c]),(p + 2,[92,y])]))) := by
 obtain ⟨hc,hP⟩ := h
 simp only at hc hP
 have hc92 : c ≠ 92 := by lia
 simp only [H9,List.mem_cons,B8,or_false] at hP
 rcases hP with rfl | rfl | rfl | rfl | rfl | rfl | rfl
 ·exact ⟨[(p,[c])],by simp [zxa,zxb,hc92] <;> lia,.inr ⟨rfl,.inl ⟨rfl,rfl⟩⟩⟩
 ·exact ⟨[(p,[c]),(p + 2,[92,40])],by simp [zxa,zxb,hc92] <;> lia,.inr ⟨rfl,.inr ⟨40,by lia,rfl,rfl⟩⟩⟩
 ·exact ⟨[(p,[c]),(p + 2,[92,41])],by simp [zxa,zxb,hc92] <;> lia,.inr ⟨rfl,.inr ⟨41,by lia,rfl,rfl⟩⟩⟩
 ·exact ⟨[(p,[c]),(p + 1,[34]),(p + 2,[40]),(p + 3,[34])],by simp [zxa,zxb,hc92] <;> lia,.inl ⟨rfl,40,by lia,by lia,rfl,rfl⟩⟩
 ·exact ⟨[(p,[c]),(p + 1,[34]),(p + 2,[41]),(p + 3,[34])],by simp [zxa,zxb,hc92] <;> lia,.inl ⟨rfl,41,by lia,by lia,rfl,rfl⟩⟩
 ·exact ⟨[(p,[c]),(p + 2,[92,92])],by simp [zxa,zxb,hc92] <;> lia,.inr ⟨rfl,.inr ⟨92,by lia,rfl,rfl⟩⟩⟩
 ·exact ⟨[(p,[c]),(p + 2,[92,34])],by simp [zxa,zxb,hc92] <;> lia,.inr ⟨rfl,.inr ⟨34,by lia,rfl,rfl⟩⟩⟩
theorem oi {σ : Sto} {c : Nat} (h : c = 40 ∨ c = 41) : evP .eq [.str [c],.str [34]] σ = some (.bool false) := by
 rcases h with rfl | rfl <;> rfl
theorem pC {σ : Sto} {y : Nat} (h : y = 40 ∨ y = 41 ∨ y = 92 ∨ y = 34) (z : Nat) (hz : z = 34 ∨ z = 40 ∨ z = 41) : evP .eq [.str [92,y],.str [z]] σ = some (.bool false) := by
 rcases h with rfl | rfl | rfl | rfl <;> rcases hz with rfl | rfl | rfl <;> rfl
theorem N2 (c : Nat) (P : List Nat) (bs : List Blk) : l4 ((c,P) :: bs) = c :: P ++ l4 bs := by simp [l4]
noncomputable def d6 (l : List (List Nat)) : List PV := l.map .str
noncomputable def stS (addr : List Nat) (s : Nat) (m : PV) (acc : List (List Nat)) (x y : PV) : St := ⟨[.str addr,.int (s : Nat),m,.box 0,x,y],[d6 acc]⟩
noncomputable def goS (C : Orc) (l : List PV) (S : St) : Option (Fl × St) := G1 (.two 4 5) (fun s => exB C dm s) l S
section
variable {C : Orc} {addr : List Nat} {s p : Nat} {m x y : PV} {acc : List (List Nat)} {r : List PV} {ch : List Nat}
theorem Z4 (h : evP .eq [.str ch,.str [34]] [d6 acc] = some (.bool false)) : goS C (.tup [.int (p : Nat),.str ch] :: r) (stS addr s m acc x y) = goS C r (stS addr s m acc (.int (p : Nat)) (.str ch)) :=
 o7 (s' := stS addr s m acc (.int (p : Nat)) (.str ch)) (o0 (by show 4 < 6; decide) (by show 5 < 6; decide)) (om h)
theorem qv : goS C (.tup [.int (p : Nat),.str [34]] :: r) (stS addr s .none acc x y) = goS C r (stS addr s (.int (p : Nat)) acc (.int (p : Nat)) (.str [34])) :=
 o7 (s' := stS addr s (.int (p : Nat)) acc (.int (p : Nat)) (.str [34])) (o0 (by show 4 < 6; decide) (by show 5 < 6; decide)) pQ
theorem oa {o : Nat} (h0 : s < o) (h1 : o ≤ addr.length) (h2 : addr.length ≤ a8) (h3 : acc.length ≤ a8) : goS C (.tup [.int (p : Nat),.str [34]] :: r) (stS addr s (.int (o : Nat)) acc x y) = goS C r (stS addr (p + 1) .none (acc ++ [(addr.drop s).take (o - s)]) (.int (p : Nat)) (.str [34])) := by
 have h := nk (C := C) (s := s) (p := p) (acc := d6 acc) h0 h1 h2 (by simpa only [d6,List.length_map] using h3)
 have e : d6 acc ++ [.str ((addr.drop s).take (o - s))] = d6 (acc ++ [(addr.drop s).take (o - s)]) := by simp only [d6,List.map_append,List.map_cons,List.map_nil]
 rw [e] at h
 exact o7 (s' := stS addr (p + 1) .none (acc ++ [(addr.drop s).take (o - s)]) (.int (p : Nat)) (.str [34])) (o0 (by show 4 < 6; decide) (by show 5 < 6; decide)) h
end
theorem oK {pre t : List Nat} {c s : Nat} (hs : s ≤ pre.length) : (((pre ++ c :: t).drop s).take (pre.length + 1 - s)) = pre.drop s ++ [c] := by
 have e1 : pre.length + 1 - s = (pre.drop s).length + 1 := by rw [List.length_drop,Nat.sub_add_comm hs]
 rw [List.drop_append_of_le_length hs,e1,List.take_length_add_append]
 rfl
theorem lq {c : Nat} {P : List Nat} {bs : List Blk} (h : R5 P = false) : bY ((c,P) :: bs) = c :: P ++ bY bs := by simp [bY,l4,unq,h]
theorem ov {c z : Nat} {bs : List Blk} : bY ((c,[34,z,34]) :: bs) = c :: bY bs := by simp [bY,l4,unq,R5]
inductive fT (C : Orc) (addr : List Nat) (l : List PV) (S : St) (out : List Nat) : Prop
 | mk (acc' : List (List Nat)) (s' : Nat) (x' y' : PV) (e : goS C l S = some (.next,stS addr s' .none acc' x' y')) (h1 : s' ≤ addr.length) (h2 : acc'.length ≤ addr.length) (h3 : acc'.flatten ++ addr.drop s' = out) : fT C addr l S out
theorem fT.of {C : Orc} {addr : List Nat} {l l' : List PV} {S S' : St} {out out' : List Nat} (h : fT C addr l' S' out') (e : goS C l S = goS C l' S') (eo : out' = out) : fT C addr l S out := by
 obtain ⟨acc',s',x',y',g,h1,h2,h3⟩ := h
 exact ⟨acc',s',x',y',e.trans g,h1,h2,h3.trans eo⟩
theorem gZ {C : Orc} {addr : List Nat} (hl : addr.length ≤ 900000) : ∀ (bs : List Blk) (acc : List (List Nat)) (s : Nat) (pre : List Nat) (last : Nat) (x y : PV),(∀ b ∈ bs,okB b) → addr = pre ++ l4 bs → s ≤ pre.length → acc.length ≤ pre.length →
  fT C addr (l7 false pre.length last (l4 bs)) (stS addr s .none acc x y) (acc.flatten ++ pre.drop s ++ bY bs) := by
 intro bs
 induction bs with
 | nil =>
  intro acc s pre last x y hok ha hs hac
  have ha : addr = pre := ha.trans (List.append_nil _)
  subst ha
  exact ⟨acc,s,x,y,rfl,hs,hac,(List.append_nil _).symm⟩
 | cons b bs ih =>
  obtain ⟨c,P⟩ := b
  intro acc s pre last x y hok ha hs hac
  have hb := hok _ List.mem_cons_self
  have hrest := fun b hb => hok b (G6 _ hb)
  obtain ⟨ts,e1,e2⟩ := fN (r := l4 bs) (p := pre.length) (last := last) hb
  rw [N2,e1]
  have ha' : addr = (pre ++ c :: P) ++ l4 bs := by rw [ha,N2]; simp
  rcases e2 with ⟨hq,z,hz,hz2,rfl,rfl⟩ | ⟨hq,h3⟩
  ·have hal : pre.length + 4 ≤ addr.length := by rw [ha']; simp
   have et : (addr.drop s).take (pre.length + 1 - s) = pre.drop s ++ [c] := by
    rw [ha',List.append_assoc]; exact oK hs
   have el : pre.length + 1 + [34,z,34].length = (pre ++ [c,34,z,34]).length := by simp
   have g := oa (C := C) (addr := addr) (s := s) (o := pre.length + 1) (p := pre.length + 3) (acc := acc) (x := .int ((pre.length + 2 : Nat) : Int)) (y := .str [z]) (r := l7 false (pre.length + 1 + [34,z,34].length) (pre.length + [34,z,34].length) (l4 bs)) (by lia) (by lia) (by unfold a8; lia) (by unfold a8; lia)
   rw [et] at g
   refine (ih (acc ++ [pre.drop s ++ [c]]) (pre.length + 4) (pre ++ [c,34,z,34]) (pre.length + 3) (.int ((pre.length + 3 : Nat) : Int)) (.str [34]) hrest ha' (by simp) (by simp; lia)).of
    ((Z4 (oi hb.1)).trans (qv.trans ((Z4 (oi hz2)).trans (g.trans (by rw [el]; rfl))))) ?_
   have : (pre ++ [c,34,z,34]).drop (pre.length + 4) = [] := by simp
   rw [this,ov]
   simp
  ·rcases h3 with ⟨rfl,rfl⟩ | ⟨z,hz,rfl,rfl⟩
   ·have el : pre.length + 1 + ([] : List Nat).length = (pre ++ [c]).length := by simp
    refine (ih acc s (pre ++ [c]) pre.length (.int (pre.length : Nat)) (.str [c]) hrest ha' (by simp; lia) (by simp; lia)).of ((Z4 (oi hb.1)).trans (by rw [el]; rfl)) ?_
    rw [lq hq,List.drop_append_of_le_length hs]; simp
   ·have el : pre.length + 1 + [92,z].length = (pre ++ [c,92,z]).length := by simp
    refine (ih acc s (pre ++ [c,92,z]) (pre.length + 2) (.int ((pre.length + 2 : Nat) : Int)) (.str [92,z]) hrest ha' (by simp; lia) (by simp; lia)).of ((Z4 (oi hb.1)).trans ((Z4 (pC hz 34 (by lia))).trans (by rw [el]; rfl))) ?_
    rw [lq hq,List.drop_append_of_le_length hs]; simp
theorem jj {C : Orc} {addr : List Nat} (hl : addr.length ≤ 900000) (bs : List Blk) (acc : List (List Nat)) (s : Nat) (pre : List Nat) (last : Nat) (x y : PV) (hok : ∀ b ∈ bs,okB b) (ha : addr = pre ++ l4 bs) (hs : s ≤ pre.length) (hac : acc.length ≤ pre.length) :
  ∃ acc' s' x' y',G1 (.two 4 5) (fun s => exB C dm s) (l7 false pre.length last (l4 bs)) ⟨[.str addr,.int (s : Nat),.none,.box 0,x,y],[d6 acc]⟩ = some (.next,⟨[.str addr,.int (s' : Nat),.none,.box 0,x',y'],[d6 acc']⟩) ∧
   s' ≤ addr.length ∧ acc'.length ≤ addr.length ∧ acc'.flatten ++ addr.drop s' = acc.flatten ++ pre.drop s ++ bY bs := by
 obtain ⟨acc',s',x',y',g,h1,h2,h3⟩ := gZ (C := C) hl bs acc s pre last x y hok ha hs hac
 exact ⟨acc',s',x',y',g,h1,h2,h3⟩
theorem K7 : ∀ (l : List Nat) (e : Bool) (p q : Nat),i8 (l7 e p q l) = true
 | [],e,p,q => by cases e <;> rfl
 | c :: r,e,p,q => by
  simp only [zxa,zxb]
  split
  ·simp [zna,znb,znc,znd,zne,znf,zng,K7 r]
  ·split
   ·exact K7 r _ _ _
   ·simp [zna,znb,znc,znd,zne,znf,zng,K7 r]
theorem eN : ∀ l : List (List Nat),U5 (d6 l) = some l
 | [] => rfl
 | x :: r => by
  show (U5 (d6 r)).map (x :: ·) = _
  rw [eN r]; rfl
theorem rA {σ : Sto} {n : Nat} {l : List (List Nat)} (h : σ[n]? = some (d6 l)) (hl : l.flatten.length + l.length ≤ a8) : evP .join [.str [],.box n] σ = some (.str l.flatten) := by
 show ((asL σ (.box n)).bind fun l => (U5 l).bind fun l => if (l.map List.length).sum + l.length ≤ a8 then some (PV.str l.flatten) else none) = _
 simp only [zla,zlb,h,i9,eN]
 rw [if_pos (by rw [← List.length_flatten]; exact hl)]
theorem oR {σ : Sto} {l : List (List Nat)} (hl : l.flatten.length + l.length ≤ a8) : evP .join [.str [],.list (d6 l)] σ = some (.str l.flatten) := by
 show ((asL σ (.list (d6 l))).bind fun l => (U5 l).bind fun l => if (l.map List.length).sum + l.length ≤ a8 then some (PV.str l.flatten) else none) = _
 simp only [zla,zlb,i9,eN]
 rw [if_pos (by rw [← List.length_flatten]; exact hl)]
theorem gO : ∀ bs : List Blk,(bY bs).length ≤ (l4 bs).length
 | [] => Nat.le_refl _
 | b :: bs => by
  have := gO bs
  simp only [bY,l4,List.map_cons,List.flatMap_cons,List.length_append,unq,A0] at this ⊢
  cases R5 b.2 <;> simp only [u4,if_false,if_true,A5] <;> lia
theorem gn : ∀ bs : List Blk,(∀ b ∈ bs,okB b) → 34 ∉ l4 bs → bY bs = l4 bs
 | [],_,_ => rfl
 | (c,P) :: bs,hok,h => by
  rw [N2] at h ⊢
  have ih := gn bs (fun b hb => hok b (G6 _ hb)) fun q => h (List.mem_append_right _ q)
  have hq : R5 P = false := by
   cases P with
   | nil => rfl
   | cons x r =>
    simp only [R5,List.head?_cons,beq_eq_false_iff_ne,ne_eq,Option.some.injEq]
    rintro rfl
    exact h (by simp)
  rw [← ih]
  simp [bY,l4,unq,hq]
theorem oY {σ : Sto} {c : Nat} {y : List Nat} : evP .notin [.str [c],.str y] σ = some (.bool (!y.contains c)) := rfl
theorem nU {bs : List Blk} (hok : ∀ b ∈ bs,okB b) (hl : (l4 bs).length ≤ 400000) (M : Nat) : ∃ σ',orc (M + 1) (.glob 28) [.str (l4 bs)] none [] = some (.str (bY bs),σ') := by
 rw [z8 (fd := o3) (as := [.str (l4 bs)]) rfl rfl]
 have hst : FD.start o3 [.str (l4 bs)] .none [] (.glob 28) = [.str (l4 bs),.unb,.unb,.unb,.unb,.unb] := rfl
 rw [hst]
 show ∃ σ',(exB (orc _) g8 _).map _ = _
 by_cases hin : 34 ∈ l4 bs
 ·have hnot : evP .notin [.str [34],.str (l4 bs)] [] = some (.bool false) := by rw [oY]; simp [hin]
  obtain ⟨acc',s',x',y',g1,g2,g3,g4⟩ := jj (C := orc M) (addr := l4 bs) (by lia) bs [] 0 [] 0 .unb .unb hok rfl (by simp) (by simp)
  have hms : g8 = g8.take 4 ++ (.for (.two 4 5) (.gen (.var 0)) dm :: g8.drop 5) := rfl
  have st1 : exB (orc M) (g8.take 4) ⟨[.str (l4 bs),.unb,.unb,.unb,.unb,.unb],[]⟩ = some (.next,⟨[.str (l4 bs),.int 0,.none,.box 0,.unb,.unb],[[]]⟩) := by
   simp only [g8,List.take_succ_cons,List.take_zero,zea,zeb,zee,zef,zsa,zsb,zba,zbb,zta,ztb,ztk,ztn,i9,n6,y3,f5,A0,A5,D3,B5,Nat.reduceAdd,Nat.reduceLT,T8,Z3,i7,u4,if_true,if_false,hnot,zna,znb,List.nil_append]
  have st2 : exS (orc M) (.for (.two 4 5) (.gen (.var 0)) dm) ⟨[.str (l4 bs),.int 0,.none,.box 0,.unb,.unb],[[]]⟩ = some (.next,⟨[.str (l4 bs),.int (s' : Nat),.none,.box 0,x',y'],[d6 acc']⟩) := by
   rw [ztm]
   have hi : evI (orc M) (.gen (.var 0)) [.str (l4 bs),.int 0,.none,.box 0,.unb,.unb] [[]] = some (l7 false 0 0 (l4 bs)) := by
    simp only [zeb,zig,i9,y3,if_pos (show (l4 bs).length ≤ a8 by unfold a8; lia)]
   rw [hi]
   simp only [i9]
   rw [if_pos ⟨K7 _ _ _ _,rfl⟩]
   exact g1
  have hpart := (congrArg (fun l => exB (orc M) l ⟨[.str (l4 bs),.unb,.unb,.unb,.unb,.unb],[]⟩) hms).trans ((W0 _ _ _ _ st1).trans (j5 st2))
  rw [hpart]
  simp only [List.flatten_nil,List.drop_nil,List.nil_append] at g4
  have hlen : evP .len [.str (l4 bs)] [d6 acc'] = some (.int ((l4 bs).length : Nat)) := by
   show (if _ then some _ else none) = _
   rw [if_pos (show (l4 bs).length ≤ a8 by unfold a8; lia)]
  have hol := gO bs
  have hfl : (acc'.flatten ++ (l4 bs).drop s').length = (bY bs).length := by rw [g4]
  rw [List.length_append] at hfl
  by_cases hlt : s' < (l4 bs).length
  ·have t1 : decide (((s' : Nat) : Int) < ((l4 bs).length : Nat)) = true := by simp; lia
   have hb : M5 ⟨[.str (l4 bs),.int (s' : Nat),.none,.box 0,x',y'],[d6 acc']⟩ 3 = some (0,d6 acc') := L2 rfl rfl
   have hc : ∀ x,(PV.str x).noBox = true ∧ (d6 acc').length ≤ a8 := fun x => ⟨rfl,by simp [d6,a8]; lia⟩
   have hs : evP (.slice true false false) [.str (l4 bs),.int (s' : Nat)] [d6 acc'] = some (.str ((l4 bs).drop s')) := ji g2 (by unfold a8; lia)
   have hj : evP .join [.str [],.box 0] [d6 acc' ++ [.str ((l4 bs).drop s')]] = some (.str (bY bs)) := by
    have he : d6 acc' ++ [PV.str ((l4 bs).drop s')] = d6 (acc' ++ [(l4 bs).drop s']) := by simp [d6]
    rw [he,rA (l := acc' ++ [(l4 bs).drop s']) rfl (by simp only [List.flatten_append,List.length_append,List.flatten_cons,List.flatten_nil,List.append_nil,A0,A5,a8]; lia)]
    simp only [List.flatten_append,List.flatten_cons,List.flatten_nil,List.append_nil,g4]
   refine ⟨[d6 acc' ++ [.str ((l4 bs).drop s')]],?_⟩
   simp only [g8,List.drop_succ_cons,List.drop_zero,zea,zeb,zef,zsa,zsb,zba,zbb,zte,ztk,ztn,i9,n6,f6,j8,y3,H1,B5,Z3,i7,u4,if_true,if_false,ju,zwb,hlen,t1,hb,hs,if_pos (hc _),hj]
  ·have t1 : decide (((s' : Nat) : Int) < ((l4 bs).length : Nat)) = false := by simp; lia
   have hd : (l4 bs).drop s' = [] := List.drop_of_length_le (by lia)
   rw [hd,List.append_nil] at g4
   have hj : evP .join [.str [],.box 0] [d6 acc'] = some (.str (bY bs)) := by
    rw [rA (l := acc') rfl (by simp only [a8]; lia),g4]
   refine ⟨[d6 acc'],?_⟩
   simp only [g8,List.drop_succ_cons,List.drop_zero,zea,zeb,zef,zsa,zsb,zba,zbb,zte,ztk,ztn,i9,n6,f6,j8,y3,H1,Z3,i7,u4,if_false,ju,zwb,hlen,t1,hj]
 ·have hnot : evP .notin [.str [34],.str (l4 bs)] [] = some (.bool true) := by rw [oY]; simp [hin]
  refine ⟨[],?_⟩
  rw [gn bs hok hin]
  simp only [g8,zea,zeb,zee,zef,zsa,zsb,zig,zba,zbb,zta,ztb,zte,ztk,ztm,ztn,i9,n6,y3,Z3,i7,u4,if_true,if_false,zwb,hnot]
noncomputable def bal : Int → List Nat → Option Int
 | n,[] => some n
 | n,c :: r => if c = 40 then bal (n + 1) r else if n - 1 < 0 then none else bal (n - 1) r
noncomputable def eT (cs : List Nat) : Bool := match bal 0 cs with
 | none => false
 | some m => m == 0
noncomputable def aQ : List MS := [.ite (.prim .eq (.cons (.var 3) (.cons (.lit (.str [40])) .nil))) [.aug 1 .add (.lit (.int 1))] [.ite (.prim .eq (.cons (.var 3) (.cons (.lit (.str [41])) .nil))) [.aug 1 .sub (.lit (.int 1)),.ite (.prim .lt (.cons (.var 1) (.cons (.lit (.int 0)) .nil))) [.ret (.lit (.bool false))] []] []]]
section
variable {C : Orc} {v0 v2 : PV} {σ : Sto}
theorem pL {n : Int} : exB C aQ ⟨[v0,.int n,v2,.str [40]],σ⟩ = some (.next,⟨[v0,.int (n + 1),v2,.str [40]],σ⟩) := by
 have e : evP .eq [.str [40],.str [40]] σ = some (.bool true) := rfl
 simp only [aQ,zea,zeb,zef,zsa,zsb,zba,zbb,ztd,ztk,ztn,i9,n6,f6,j8,y3,A0,A5,D3,B5,Nat.reduceAdd,Nat.reduceLT,T7,M7,i7,u4,if_true,if_false,ju,dk,U7,e]
theorem oq {n : Int} (h : 0 ≤ n - 1) : exB C aQ ⟨[v0,.int n,v2,.str [41]],σ⟩ = some (.next,⟨[v0,.int (n - 1),v2,.str [41]],σ⟩) := by
 have e : evP .eq [.str [41],.str [40]] σ = some (.bool false) := rfl
 have e' : evP .eq [.str [41],.str [41]] σ = some (.bool true) := rfl
 have t : decide (n - 1 < 0) = false := by simp; lia
 simp only [aQ,zea,zeb,zef,zsa,zsb,zba,zbb,ztd,ztk,ztn,i9,n6,f6,j8,y3,A0,A5,D3,B5,Nat.reduceAdd,Nat.reduceLT,T7,M7,i7,u4,if_true,if_false,ju,dk,U7,e,e',t]
theorem pW {n : Int} (h : n - 1 < 0) : exB C aQ ⟨[v0,.int n,v2,.str [41]],σ⟩ = some (.ret (.bool false),⟨[v0,.int (n - 1),v2,.str [41]],σ⟩) := by
 have e : evP .eq [.str [41],.str [40]] σ = some (.bool false) := rfl
 have e' : evP .eq [.str [41],.str [41]] σ = some (.bool true) := rfl
 have t : decide (n - 1 < 0) = true := by simp; lia
 simp only [aQ,zea,zeb,zef,zsa,zsb,zba,zbb,ztd,ztk,ztn,i9,n6,f6,j8,y3,A0,A5,D3,B5,Nat.reduceAdd,Nat.reduceLT,T7,M7,i7,u4,if_true,if_false,ju,dk,U7,e,e',t]
theorem nC {ch : List Nat} {v1 : PV} (h : evP .eq [.str ch,.str [40]] σ = some (.bool false)) (h' : evP .eq [.str ch,.str [41]] σ = some (.bool false)) : exB C aQ ⟨[v0,v1,v2,.str ch],σ⟩ = some (.next,⟨[v0,v1,v2,.str ch],σ⟩) := by
 simp only [aQ,zea,zeb,zef,zsa,zsb,zba,zbb,ztd,ztk,ztn,i9,n6,f6,y3,M7,i7,u4,if_false,h,h']
end
theorem jx {C : Orc} {v0 : PV} {σ : Sto} : ∀ (bs : List Blk) (n : Int) (p last : Nat) (x y : PV),(∀ b ∈ bs,okB b ∧ R5 b.2 = false) → ∃ s',G1 (.two 2 3) (fun s => exB C aQ s) (l7 false p last (l4 bs)) ⟨[v0,.int n,x,y],σ⟩ = some (match bal n (bs.map Prod.fst) with
   | none => .ret (.bool false)
   | some m => .next,s') ∧ s'.σ = σ ∧ ∀ m,bal n (bs.map Prod.fst) = some m → ∃ x' y',s' = ⟨[v0,.int m,x',y'],σ⟩ := by
 intro bs
 induction bs with
 | nil => intro n p last x y _; exact ⟨⟨[v0,.int n,x,y],σ⟩,rfl,rfl,fun m h => by cases h; exact ⟨x,y,rfl⟩⟩
 | cons b bs ih =>
  obtain ⟨c,P⟩ := b
  intro n p last x y hok
  obtain ⟨hb,hbq⟩ := hok _ List.mem_cons_self
  have hrest := fun b hb => hok b (G6 _ hb)
  obtain ⟨ts,e1,e2⟩ := fN (r := l4 bs) (p := p) (last := last) hb
  rw [N2,e1]
  rcases e2 with ⟨hq,_⟩ | ⟨hq,h3⟩
  ·simp only at hbq
   rw [hq] at hbq; cases hbq
  have tail : ∀ (k : Int) (x y : PV) (ts' : List (Nat × List Nat)),(ts' = [] ∧ P = [] ∨ ∃ z,(z = 40 ∨ z = 41 ∨ z = 92 ∨ z = 34) ∧ P = [92,z] ∧ ts' = [(p + 2,[92,z])]) →
    ∃ s',G1 (.two 2 3) (fun s => exB C aQ s) ((ts'.map fun t => PV.tup [.int (t.1 : Nat),.str t.2]) ++ l7 false (p + 1 + P.length) (p + P.length) (l4 bs)) ⟨[v0,.int k,x,y],σ⟩ = some (match bal k (bs.map Prod.fst) with
     | none => .ret (.bool false)
     | some m => .next,s') ∧ s'.σ = σ ∧ ∀ m,bal k (bs.map Prod.fst) = some m → ∃ x' y',s' = ⟨[v0,.int m,x',y'],σ⟩ := by
   intro k x y ts' h
   rcases h with ⟨rfl,rfl⟩ | ⟨z,hz,rfl,rfl⟩
   ·exact ih k _ _ x y hrest
   ·simp only [List.map_cons,List.map_nil,List.cons_append,List.nil_append]
    rw [o7 (s' := ⟨[v0,.int k,.int ((p + 2 : Nat) : Int),.str [92,z]],σ⟩) (o0 (by simp) (by simp)) (nC (pC hz 40 (by lia)) (pC hz 41 (by lia)))]
    exact ih k _ _ _ _ hrest
  have hts : ∃ ts',ts = (p,[c]) :: ts' ∧ (ts' = [] ∧ P = [] ∨ ∃ z,(z = 40 ∨ z = 41 ∨ z = 92 ∨ z = 34) ∧ P = [92,z] ∧ ts' = [(p + 2,[92,z])]) := by
   rcases h3 with ⟨rfl,rfl⟩ | ⟨z,hz,rfl,rfl⟩
   ·exact ⟨[],rfl,.inl ⟨rfl,rfl⟩⟩
   ·exact ⟨[(p + 2,[92,z])],rfl,.inr ⟨z,hz,rfl,rfl⟩⟩
  obtain ⟨ts',rfl,ht⟩ := hts
  simp only [List.map_cons,List.cons_append,bal]
  have hc := hb.1
  simp only at hc
  rcases hc with rfl | rfl
  ·rw [o7 (s' := ⟨[v0,.int (n + 1),.int (p : Nat),.str [40]],σ⟩) (o0 (by simp) (by simp)) pL]
   simp only [if_true]
   exact tail (n + 1) _ _ ts' ht
  ·simp only [show ¬ (41 = 40) by decide,if_false]
   by_cases hn : n - 1 < 0
   ·rw [jZ (s' := ⟨[v0,.int (n - 1),.int (p : Nat),.str [41]],σ⟩) (o0 (by simp) (by simp)) (pW hn)]
    rw [if_pos hn]
    exact ⟨_,rfl,rfl,fun m h => by cases h⟩
   ·rw [o7 (s' := ⟨[v0,.int (n - 1),.int (p : Nat),.str [41]],σ⟩) (o0 (by simp) (by simp)) (oq (by lia))]
    rw [if_neg hn]
    exact tail (n - 1) _ _ ts' ht
theorem sF {b : Blk} (h : okB b) : okB (unq b) ∧ R5 (unq b).2 = false := by
 obtain ⟨c,P⟩ := b
 obtain ⟨h1,h2⟩ := h
 simp only at h1 h2
 unfold unq
 cases hq : R5 P
 ·exact ⟨⟨h1,by simpa using h2⟩,by simpa using hq⟩
 ·exact ⟨⟨h1,by simp [H9]⟩,rfl⟩
theorem eW {bs : List Blk} (hok : ∀ b ∈ bs,okB b) (hl : (l4 bs).length ≤ 400000) (M : Nat) : ∃ σ',orc (M + 2) (.glob 35) [.str (l4 bs)] none [] = some (.bool (eT (bs.map Prod.fst)),σ') := by
 rw [z8 (fd := u9) (as := [.str (l4 bs)]) rfl rfl]
 have hst : FD.start u9 [.str (l4 bs)] .none [] (.glob 35) = [.str (l4 bs),.unb,.unb,.unb] := rfl
 rw [hst]
 show ∃ σ',(exB (orc _) l6 _).map _ = _
 obtain ⟨σ1,c0⟩ := nU hok hl M
 have c : B3 (orc (M + 1)) (.glob 28) [.str (l4 bs)] none [] = some (.str (bY bs)) := u7 rfl rfl rfl rfl c0
 have hms : l6 = l6.take 2 ++ (.for (.two 2 3) (.gen (.var 0)) aQ :: l6.drop 3) := rfl
 have st1 : exB (orc (M + 1)) (l6.take 2) ⟨[.str (l4 bs),.unb,.unb,.unb],[]⟩ = some (.next,⟨[.str (bY bs),.int 0,.unb,.unb],[]⟩) := by
  simp only [l6,List.take_succ_cons,List.take_zero,zea,zeb,zec,zek,zsa,zsb,zba,zbb,zta,i9,n6,y3,f5,A0,A5,D3,B5,Nat.reduceAdd,Nat.reduceLT,c]
 have hfst : (bs.map unq).map Prod.fst = bs.map Prod.fst := by rw [List.map_map]; rfl
 obtain ⟨s',e1,e2,e3⟩ := jx (C := orc (M + 1)) (v0 := .str (bY bs)) (σ := []) (bs.map unq) 0 0 0 .unb .unb (fun b hb => by
  obtain ⟨b',hb',rfl⟩ := List.mem_map.mp hb
  exact sF (hok b' hb'))
 rw [hfst] at e1 e3
 have hlo : (bY bs).length ≤ a8 := by have := gO bs; unfold a8; lia
 have st2 : exS (orc (M + 1)) (.for (.two 2 3) (.gen (.var 0)) aQ) ⟨[.str (bY bs),.int 0,.unb,.unb],[]⟩ = some (match bal 0 (bs.map Prod.fst) with
   | none => .ret (.bool false)
   | some m => .next,s') := by
  rw [ztm]
  have hi : evI (orc (M + 1)) (.gen (.var 0)) [.str (bY bs),.int 0,.unb,.unb] [] = some (l7 false 0 0 (bY bs)) := by
   simp only [zeb,zig,i9,y3,if_pos hlo]
  rw [hi]
  simp only [i9]
  rw [if_pos ⟨K7 _ _ _ _,rfl⟩]
  exact e1
 have hpart := (congrArg (fun l => exB (orc (M + 1)) l ⟨[.str (l4 bs),.unb,.unb,.unb],[]⟩) hms).trans (W0 _ _ _ _ st1)
 rw [hpart]
 unfold eT
 cases hb : bal 0 (bs.map Prod.fst) with
 | none =>
  rw [hb] at st2
  refine ⟨s'.σ,?_⟩
  rw [zbb,st2]
  rfl
 | some m =>
  rw [hb] at st2
  obtain ⟨x',y',rfl⟩ := e3 m hb
  refine ⟨[],?_⟩
  rw [j5 st2]
  simp only [l6,List.drop_succ_cons,List.drop_zero,zea,zeb,zef,zsa,zsb,zba,zbb,ztn,i9,n6,f6,j8,M7,u4,if_false,zwb,pi]
noncomputable def qP : List Nat := [40,39,39,44,32,39,39,41]
noncomputable def N0 (bs : List Blk) : List Nat := if eT (bs.map Prod.fst) then l4 bs else qP
noncomputable def jD : List MS := [.ite (.prim .not (.cons (.call (.glob 35) (.cons (.var 2) .nil) none) .nil)) [.assign (.one 2) (.lit (.str [40,39,39,44,32,39,39,41]))] [],.append 1 (.var 2)]
theorem nq {M : Nat} {v0 : PV} : ∀ (xs : List (List Blk)) (acc : List (List Nat)) (x : PV),(∀ bs ∈ xs,(∀ b ∈ bs,okB b) ∧ (l4 bs).length ≤ 400000) → acc.length + xs.length ≤ 1000 →
  ∃ x',G1 (.one 2) (fun s => exB (orc (M + 2)) jD s) (xs.map fun bs => PV.str (l4 bs)) ⟨[v0,.box 0,x],[d6 acc]⟩ = some (.next,⟨[v0,.box 0,x'],[d6 (acc ++ xs.map N0)]⟩) := by
 intro xs
 induction xs with
 | nil => intro acc x _ _; exact ⟨x,by simp [zoa,zob]⟩
 | cons bs xs ih =>
  intro acc x h hl
  obtain ⟨h1,h2⟩ := h bs List.mem_cons_self
  obtain ⟨σ1,c0⟩ := eW h1 h2 M
  have c : B3 (orc (M + 2)) (.glob 35) [.str (l4 bs)] none [d6 acc] = some (.bool (eT (bs.map Prod.fst))) := u7 rfl rfl rfl rfl c0
  obtain ⟨x',e⟩ := ih (acc ++ [N0 bs]) (.str (N0 bs)) (fun b hb => h b (G6 _ hb)) (by rw [List.length_append,Nat.add_assoc,Nat.add_comm [_].length]; exact hl)
  refine ⟨x',?_⟩
  rw [List.map_cons]
  have hc : ∀ y,(PV.str y).noBox = true ∧ (d6 acc).length ≤ a8 := fun y => ⟨rfl,Nat.le_trans (Nat.le_of_eq (List.length_map _)) (Nat.le_trans (Nat.le_trans (Nat.le_add_right _ _) hl) (by decide))⟩
  have hb : ∀ y,M5 ⟨[v0,.box 0,.str y],[d6 acc]⟩ 1 = some (0,d6 acc) := fun y => L2 rfl rfl
  have turn : exB (orc (M + 2)) jD ⟨[v0,.box 0,.str (l4 bs)],[d6 acc]⟩ = some (.next,⟨[v0,.box 0,.str (N0 bs)],[d6 (acc ++ [N0 bs])]⟩) := by
   unfold N0
   cases hbal : eT (bs.map Prod.fst)
   ·rw [hbal] at c
    simp only [jD,zea,zeb,zec,zef,zek,zsa,zsb,zba,zbb,zta,zte,ztk,i9,n6,f6,y3,f5,A0,A5,D3,B5,Nat.reduceAdd,Nat.reduceLT,i7,u4,if_true,if_false,uu,c,hb,if_pos (hc _),Bool.not_false]
    simp [d6,qP]
   ·rw [hbal] at c
    simp only [jD,zea,zeb,zec,zef,zek,zsa,zsb,zba,zbb,zta,zte,ztk,i9,n6,f6,y3,f5,A0,A5,D3,B5,Nat.reduceAdd,Nat.reduceLT,i7,u4,if_true,if_false,uu,c,hb,if_pos (hc _),Bool.not_true]
    simp [d6]
  rw [o7 (s' := ⟨[v0,.box 0,.str (N0 bs)],[d6 (acc ++ [N0 bs])]⟩) (f5 (by simp)) turn,e]
  simp
theorem rp {xs : List (List Blk)} (h : ∀ bs ∈ xs,(∀ b ∈ bs,okB b) ∧ (l4 bs).length ≤ 400000) (hl : xs.length ≤ 1000) (M : Nat) :
  orc (M + 3) (.glob 42) [.list (xs.map fun bs => PV.str (l4 bs))] none [] = some (.box 0,[d6 (xs.map N0)]) := by
 rw [z8 (fd := o8) (as := [.list (xs.map fun bs => PV.str (l4 bs))]) rfl rfl]
 have hst : FD.start o8 [.list (xs.map fun bs => PV.str (l4 bs))] .none [] (.glob 42) = [.list (xs.map fun bs => PV.str (l4 bs)),.unb,.unb] := rfl
 rw [hst]
 show (exB (orc _) j7 _).map _ = _
 obtain ⟨x',e⟩ := nq (M := M) (v0 := .list (xs.map fun bs => PV.str (l4 bs))) xs [] .unb h (by simpa using hl)
 have hms : j7 = j7.take 1 ++ (.for (.one 2) (.val (.var 0)) jD :: j7.drop 2) := rfl
 have st1 : exB (orc (M + 2)) (j7.take 1) ⟨[.list (xs.map fun bs => PV.str (l4 bs)),.unb,.unb],[]⟩ = some (.next,⟨[.list (xs.map fun bs => PV.str (l4 bs)),.box 0,.unb],[[]]⟩) := by
  simp only [j7,List.take_succ_cons,List.take_zero,zee,zsa,zba,zbb,ztb,i9,n6,A0,A5,D3,B5,Nat.reduceAdd,Nat.reduceLT,T8,if_true,zna,znb,List.nil_append]
 have st2 : exS (orc (M + 2)) (.for (.one 2) (.val (.var 0)) jD) ⟨[.list (xs.map fun bs => PV.str (l4 bs)),.box 0,.unb],[[]]⟩ = some (.next,⟨[.list (xs.map fun bs => PV.str (l4 bs)),.box 0,x'],[d6 (xs.map N0)]⟩) := by
  rw [ztm,mh (l := xs.map fun bs => PV.str (l4 bs)) rfl (Nat.le_trans (Nat.le_of_eq (List.length_map _)) (Nat.le_trans hl (by decide)))]
  simp only [i9]
  rw [if_pos ⟨j0 (fun _ => rfl) _,rfl⟩]
  rw [List.nil_append] at e
  exact e
 have hpart := (congrArg (fun l => exB (orc (M + 2)) l ⟨[.list (xs.map fun bs => PV.str (l4 bs)),.unb,.unb],[]⟩) hms).trans ((W0 _ _ _ _ st1).trans (j5 st2))
 rw [hpart]
 simp only [j7,List.drop_succ_cons,List.drop_zero,zeb,zba,zbb,ztn,i9,n6,f6,H1,W9,u4,if_false,zwb]
noncomputable def X2 (chk : Nat → Nat → Bool) (i : Nat) (m : List Nat) (j : Nat) : List Nat := if m.getD i 0 == 6 && chk i j then (m.set i j).set j i else m
noncomputable def mV (i : Nat) : List Nat := [i + 1,i + 3,i + 5].filter (· < 6)
noncomputable def iI (chk : Nat → Nat → Bool) : List Nat := (List.range 6).foldl (fun m i => (mV i).foldl (X2 chk i) m) [6,6,6,6,6,6]
noncomputable def di : List MS := [.ite (.and (.prim .eq (.cons (.prim .idx (.cons (.var 3) (.cons (.var 4) .nil))) (.cons (.lit (.int 6)) .nil))) (.prim (.isc (.bool true)) (.cons (.call (.glob 35) (.cons (.prim .join (.cons (.lit (.str [])) (.cons (.prim (.slice true true false) (.cons (.var 2) (.cons (.var 4) (.cons (.prim .add (.cons (.var 5) (.cons (.lit (.int 1)) .nil))) .nil)))) .nil))) .nil) none) .nil))) [.set2 3 (.var 4) (.var 5) (.var 5) (.var 4)] []]
theorem lW {σ : Sto} {n : Nat} {xs : List PV} {i : Nat} {v : PV} (hs : σ[n]? = some xs) (hi : i ≤ 1000000) (h : xs[i]? = some v) : evP .idx [.box n,.int (i : Nat)] σ = some v := by
 show (if (-1000000 : Int) ≤ (i : Int) ∧ (i : Int) ≤ 1000000 then ((asL σ (.box n)).bind fun l => M9 l (i : Int)) else none) = _
 rw [if_pos (ixr hi)]
 simp [zla,zlb,hs,M9,h]
theorem jk {σ : Sto} {x y : Nat} {l : List PV} (h1 : x ≤ y) (h2 : y ≤ l.length) (h3 : l.length ≤ a8) (hb : i8 l = true) : evP (.slice true true false) [.list l,.int x,.int y] σ = some (.list ((l.drop x).take (y - x))) := by
 show ((asL σ (.list l)).bind fun l => if l.length ≤ a8 ∧ i8 l = true then (M6 l (some (x : Int)) (some (y : Int)) none).map PV.list else none) = _
 simp only [zla,zlb,i9]
 rw [if_pos ⟨h3,hb⟩]
 simp only [zqa,zqb,zqc,zqd]
 rw [if_pos ⟨Int.natCast_nonneg x,Int.ofNat_le.mpr h1,Int.ofNat_le.mpr h2⟩]
 simp only [n6]
 congr 3
 exact Int.toNat_sub y x
noncomputable def Q7 (b : Blk) : List Nat := b.1 :: b.2
theorem bz (bs : List Blk) : (bs.map Q7).flatten = l4 bs := by
 rfl
theorem O9 : ∀ {bs : List Blk},(∀ b ∈ bs,okB b) → (l4 bs).length ≤ 4 * bs.length
 | [],_ => Nat.le_refl _
 | (c,P) :: bs,h => by
  have ih := O9 (bs := bs) fun b hb => h b (G6 _ hb)
  have hP := (h _ List.mem_cons_self).2
  rw [N2]
  simp only [List.length_append,A0]
  simp only [H9,List.mem_cons,B8,or_false] at hP
  rcases hP with rfl | rfl | rfl | rfl | rfl | rfl | rfl <;> simp <;> lia
noncomputable def R9 (bs : List Blk) (i j : Nat) : Bool := eT (((bs.map Prod.fst).drop i).take (j + 1 - i))
theorem je {M : Nat} {bs : List Blk} {v0 v1 v6 : PV} {m : List Nat} {i j : Nat} (h6 : bs.length = 6) (hok : ∀ b ∈ bs,okB b) (hm : m.length = 6) (hij : i < j) (hj : j < 6) :
  exB (orc (M + 2)) di ⟨[v0,v1,.list (d6 (bs.map Q7)),.box 0,.int (i : Nat),.int (j : Nat),v6],[nIs m]⟩ = some (.next,⟨[v0,v1,.list (d6 (bs.map Q7)),.box 0,.int (i : Nat),.int (j : Nat),v6],[nIs (X2 (R9 bs) i m j)]⟩) := by
 have hi := Nat.lt_trans hij hj
 have him : i < m.length := by rw [hm]; exact hi
 have h9 : i ≤ 1000000 := Nat.le_trans (Nat.le_of_lt hi) (by decide)
 have hpl : (d6 (bs.map Q7)).length = 6 := by rw [d6,List.length_map,List.length_map,h6]
 have hx : evP .idx [.box 0,.int (i : Nat)] [nIs m] = some (.int ((m.getD i 0 : Nat) : Int)) := by
  refine lW rfl h9 ?_
  simp only [nIs,List.getElem?_map]
  rw [List.getElem?_eq_getElem him,List.getD_eq_getElem?_getD,List.getElem?_eq_getElem him]
  rfl
 have heq : evP .eq [.int ((m.getD i 0 : Nat) : Int),.int 6] [nIs m] = some (.bool (m.getD i 0 == 6)) := nEq (b := 6)
 have hsl : evP (.slice true true false) [.list (d6 (bs.map Q7)),.int (i : Nat),.int ((j + 1 : Nat) : Int)] [nIs m] = some (.list (d6 (((bs.drop i).take (j + 1 - i)).map Q7))) := by
  rw [jk (σ := [nIs m]) (x := i) (y := j + 1) (l := d6 (bs.map Q7)) (Nat.le_succ_of_le (Nat.le_of_lt hij)) (by rw [hpl]; exact hj) (by rw [hpl]; decide) (j0 (fun _ => rfl) _)]
  simp only [d6,List.map_drop,List.map_take]
 have hsub : ∀ b ∈ (bs.drop i).take (j + 1 - i),okB b := fun b hb => hok b (List.mem_of_mem_drop (List.mem_of_mem_take hb))
 have hfl := O9 hsub
 have hln : ((bs.drop i).take (j + 1 - i)).length ≤ 6 := by rw [List.length_take,List.length_drop,h6]; exact Nat.le_trans (Nat.min_le_right _ _) (Nat.sub_le _ _)
 have hjn : evP .join [.str [],.list (d6 (((bs.drop i).take (j + 1 - i)).map Q7))] [nIs m] = some (.str (l4 ((bs.drop i).take (j + 1 - i)))) := by
  rw [oR (by rw [bz,List.length_map]; unfold a8; lia),bz]
 obtain ⟨σ1,c0⟩ := eW hsub (by lia) M
 have c : B3 (orc (M + 2)) (.glob 35) [.str (l4 ((bs.drop i).take (j + 1 - i)))] none [nIs m] = some (.bool (R9 bs i j)) := by
  have := u7 (σ := [nIs m]) (kw := none) rfl rfl rfl rfl c0
  rw [List.map_take,List.map_drop] at this
  exact this
 unfold X2
 cases h1 : m.getD i 0 == 6
 ·rw [h1] at heq
  simp only [di,zea,zeb,zec,zef,zeg,zek,zsa,zsb,zba,zbb,zti,ztk,i9,n6,f6,j8,E3,H1,i7,u4,if_false,hx,heq,Bool.false_and]
 ·rw [h1] at heq
  cases h2 : R9 bs i j
  ·rw [h2] at c
   simp only [di,zea,zeb,zec,zef,zeg,zek,zsa,zsb,zba,zbb,zti,ztk,i9,n6,f6,j8,E3,H1,i7,u4,if_false,oJ,hx,heq,eX,hsl,hjn,c,Bool.true_and,show (false == true) = false from rfl]
  ·rw [h2] at c
   have hb : M5 ⟨[v0,v1,.list (d6 (bs.map Q7)),.box 0,.int (i : Nat),.int (j : Nat),v6],[nIs m]⟩ 3 = some (0,nIs m) := L2 rfl rfl
   have hc : (PV.int (j : Nat)).noBox = true ∧ (PV.int (i : Nat)).noBox = true ∧ 0 ≤ (i : Int) ∧ (i : Int) < (nIs m).length ∧ (i : Int) ≤ 1000000 ∧ 0 ≤ (j : Int) ∧ (j : Int) < (nIs m).length ∧ (j : Int) ≤ 1000000 := by
    have hnl : (nIs m).length = 6 := (List.length_map _).trans hm
    rw [hnl]
    exact ⟨rfl,rfl,Int.natCast_nonneg i,Int.ofNat_lt.mpr hi,Int.ofNat_le.mpr h9,Int.natCast_nonneg j,Int.ofNat_lt.mpr hj,Int.ofNat_le.mpr (Nat.le_trans (Nat.le_of_lt hj) (by decide))⟩
   simp only [di,zea,zeb,zec,zef,zeg,zek,zsa,zsb,zba,zbb,zti,ztk,i9,n6,f6,j8,E3,H1,B5,i7,if_true,oJ,hx,heq,eX,hsl,hjn,c,Bool.true_and,show (true == true) = true from rfl,hb,if_pos hc,Int.toNat_natCast]
   simp only [nIs,List.map_set]
theorem jV {chk : Nat → Nat → Bool} {i j : Nat} {m : List Nat} : (X2 chk i m j).length = m.length := by
 unfold X2; split <;> simp
theorem lt6 : ∀ i,i < 6 → (i = 0 ∨ i = 1 ∨ i = 2 ∨ i = 3 ∨ i = 4 ∨ i = 5) := by decide
theorem lt5 : ∀ i,i < 5 → (i = 0 ∨ i = 1 ∨ i = 2 ∨ i = 3 ∨ i = 4) := by decide
theorem uC {α : Type} {l : List α} (h : l.length = 5) : ∃ a b c d e,l = [a,b,c,d,e] := by
 obtain ⟨a,r,e1,h1⟩ := oP h
 obtain ⟨b,c,d,e,e2⟩ := uv h1
 exact ⟨a,b,c,d,e,by rw [e1,e2]⟩
theorem gE {M : Nat} {bs : List Blk} {v0 v1 v6 : PV} {i : Nat} (h6 : bs.length = 6) (hok : ∀ b ∈ bs,okB b) : ∀ (js : List Nat) (m : List Nat) (x5 : PV),m.length = 6 → (∀ j ∈ js,i < j ∧ j < 6) →
  ∃ x5',G1 (.one 5) (fun s => exB (orc (M + 2)) di s) (nIs js) ⟨[v0,v1,.list (d6 (bs.map Q7)),.box 0,.int (i : Nat),x5,v6],[nIs m]⟩ = some (.next,⟨[v0,v1,.list (d6 (bs.map Q7)),.box 0,.int (i : Nat),x5',v6],[nIs (js.foldl (X2 (R9 bs) i) m)]⟩) ∧ (js.foldl (X2 (R9 bs) i) m).length = 6 := by
 intro js
 induction js with
 | nil => intro m x5 hm _; exact ⟨x5,rfl,hm⟩
 | cons j js ih =>
  intro m x5 hm hj
  obtain ⟨h1,h2⟩ := hj j List.mem_cons_self
  obtain ⟨x5',e,hl⟩ := ih (X2 (R9 bs) i m j) (.int (j : Nat)) (by rw [jV]; exact hm) fun k hk => hj k (G6 _ hk)
  refine ⟨x5',?_,hl⟩
  show G1 _ _ (PV.int (j : Nat) :: nIs js) _ = _
  rw [o7 (s' := ⟨[v0,v1,.list (d6 (bs.map Q7)),.box 0,.int (i : Nat),.int (j : Nat),v6],[nIs (X2 (R9 bs) i m j)]⟩) (f5 (by simp)) (je h6 hok hm h1 h2),e]
  rfl
theorem gB {M : Nat} {bs : List Blk} {v0 v1 v6 : PV} (h6 : bs.length = 6) (hok : ∀ b ∈ bs,okB b) : ∀ (is : List Nat) (m : List Nat) (x4 x5 : PV),m.length = 6 → (∀ i ∈ is,i < 6) →
  ∃ x4' x5',G1 (.one 4) (fun s => exB (orc (M + 2)) [.for (.one 5) (.range (.cons (.prim .add (.cons (.var 4) (.cons (.lit (.int 1)) .nil))) (.cons (.lit (.int 6)) (.cons (.lit (.int 2)) .nil)))) di] s) (nIs is) ⟨[v0,v1,.list (d6 (bs.map Q7)),.box 0,x4,x5,v6],[nIs m]⟩ =
   some (.next,⟨[v0,v1,.list (d6 (bs.map Q7)),.box 0,x4',x5',v6],[nIs (is.foldl (fun m i => (mV i).foldl (X2 (R9 bs) i) m) m)]⟩) := by
 intro is
 induction is with
 | nil => intro m x4 x5 hm _; exact ⟨x4,x5,rfl⟩
 | cons i is ih =>
  intro m x4 x5 hm hi
  have h1 := hi i List.mem_cons_self
  have hjs : ∀ j ∈ mV i,i < j ∧ j < 6 := by
   intro j hj
   simp only [mV,List.mem_filter,List.mem_cons,B8,or_false,decide_eq_true_eq] at hj
   obtain ⟨h | h | h,h2⟩ := hj <;> exact ⟨by rw [h]; exact Nat.lt_add_of_pos_right (by decide),h2⟩
  obtain ⟨y5,e1,hl⟩ := gE (M := M) (v0 := v0) (v1 := v1) (v6 := v6) (i := i) h6 hok (mV i) m x5 hm hjs
  obtain ⟨x4',x5',e2⟩ := ih ((mV i).foldl (X2 (R9 bs) i) m) (.int (i : Nat)) y5 hl fun k hk => hi k (G6 _ hk)
  refine ⟨x4',x5',?_⟩
  show G1 _ _ (PV.int (i : Nat) :: nIs is) _ = _
  have hrange : evI (orc (M + 2)) (.range (.cons (.prim .add (.cons (.var 4) (.cons (.lit (.int 1)) .nil))) (.cons (.lit (.int 6)) (.cons (.lit (.int 2)) .nil)))) [v0,v1,.list (d6 (bs.map Q7)),.box 0,.int (i : Nat),x5,v6] [nIs m] = some (nIs (mV i)) := by
   have hev : Q3 (orc (M + 2)) (.cons (.prim .add (.cons (.var 4) (.cons (.lit (.int 1)) .nil))) (.cons (.lit (.int 6)) (.cons (.lit (.int 2)) .nil))) [v0,v1,.list (d6 (bs.map Q7)),.box 0,.int (i : Nat),x5,v6] [nIs m] = some [.int ((i + 1 : Nat) : Int),.int 6,.int 2] := by
    simp only [zea,zeb,zef,zsa,zsb,i9,n6,f6,j8,eX]
   rw [zic,hev]
   rcases lt6 i h1 with rfl | rfl | rfl | rfl | rfl | rfl <;> rfl
  have turn : exB (orc (M + 2)) [.for (.one 5) (.range (.cons (.prim .add (.cons (.var 4) (.cons (.lit (.int 1)) .nil))) (.cons (.lit (.int 6)) (.cons (.lit (.int 2)) .nil)))) di] ⟨[v0,v1,.list (d6 (bs.map Q7)),.box 0,.int (i : Nat),x5,v6],[nIs m]⟩ = some (.next,⟨[v0,v1,.list (d6 (bs.map Q7)),.box 0,.int (i : Nat),y5,v6],[nIs ((mV i).foldl (X2 (R9 bs) i) m)]⟩) := by
   have : exS (orc (M + 2)) (.for (.one 5) (.range (.cons (.prim .add (.cons (.var 4) (.cons (.lit (.int 1)) .nil))) (.cons (.lit (.int 6)) (.cons (.lit (.int 2)) .nil)))) di) ⟨[v0,v1,.list (d6 (bs.map Q7)),.box 0,.int (i : Nat),x5,v6],[nIs m]⟩ = some (.next,⟨[v0,v1,.list (d6 (bs.map Q7)),.box 0,.int (i : Nat),y5,v6],[nIs ((mV i).foldl (X2 (R9 bs) i) m)]⟩) := by
    rw [ztm,hrange]
    simp only [i9]
    rw [if_pos ⟨j0 (fun _ => rfl) _,rfl⟩]
    exact e1
   rw [j5 this]; rfl
  rw [o7 (s := ⟨[v0,v1,.list (d6 (bs.map Q7)),.box 0,x4,x5,v6],[nIs m]⟩) (ρ' := [v0,v1,.list (d6 (bs.map Q7)),.box 0,.int (i : Nat),x5,v6]) (s' := ⟨[v0,v1,.list (d6 (bs.map Q7)),.box 0,.int (i : Nat),y5,v6],[nIs ((mV i).foldl (X2 (R9 bs) i) m)]⟩) rfl turn,e2]
  rfl
theorem kO {σ : Sto} {l : List Nat} {i c : Nat} (hi : i ≤ 1000000) (h : l[i]? = some c) : evP .idx [.str l,.int (i : Nat)] σ = some (.str [c]) := by
 show (if (-1000000 : Int) ≤ (i : Int) ∧ (i : Int) ≤ 1000000 then (M9 l (i : Int)).map (fun c => PV.str [c]) else none) = _
 rw [if_pos (ixr hi)]
 simp [M9,h]
theorem qB {σ : Sto} {a b : List Nat} (h : a.length + b.length ≤ a8) : evP .add [.str a,.str b] σ = some (.str (a ++ b)) := if_pos h
theorem mY {bs : List Blk} (h6 : bs.length = 6) (hok : ∀ b ∈ bs,okB b) (M : Nat) :
  orc (M + 3) (.glob 128) [.str (bs.map Prod.fst),.list (d6 (bs.map Prod.snd))] none [] = some (.box 0,[nIs (iI (R9 bs))]) := by
 rw [z8 (fd := E9) (as := [.str (bs.map Prod.fst),.list (d6 (bs.map Prod.snd))]) rfl rfl]
 have hst : FD.start E9 [.str (bs.map Prod.fst),.list (d6 (bs.map Prod.snd))] .none [] (.glob 128) = [.str (bs.map Prod.fst),.list (d6 (bs.map Prod.snd)),.unb,.unb,.unb,.unb,.unb] := rfl
 rw [hst]
 show (exB (orc _) I8 _).map _ = _
 obtain ⟨x4',x5',e⟩ := gB (M := M) (v0 := .str (bs.map Prod.fst)) (v1 := .list (d6 (bs.map Prod.snd))) (v6 := .unb) h6 hok (List.range 6) [6,6,6,6,6,6] .unb .unb rfl (fun i hi => List.mem_range.mp hi)
 have hcells : evE (orc (M + 2)) (.comp (.prim .add (.cons (.prim .idx (.cons (.var 0) (.cons (.var 6) .nil))) (.cons (.prim .idx (.cons (.var 1) (.cons (.var 6) .nil))) .nil))) (.one 6) (.range (.cons (.lit (.int 6)) .nil)) none) [.str (bs.map Prod.fst),.list (d6 (bs.map Prod.snd)),.unb,.unb,.unb,.unb,.unb] [] = some (.list (d6 (bs.map Q7))) := by
  rw [K8 (l := List.range 6) (g := fun i => .int (i : Nat)) (f := fun i => .str (Q7 (bs.getD i (0,[])))) rfl rfl (fun i hi => ?_) (fun _ _ => rfl) (by decide)]
  ·congr 2
   refine List.ext_getElem (by simp [d6,h6]) fun k hk hk2 => ?_
   have hk3 : k < bs.length := by simpa [d6] using hk2
   simp [d6,List.getD_eq_getElem?_getD,List.getElem?_eq_getElem hk3]
  ·have hi6 : i < bs.length := by rw [h6]; exact List.mem_range.mp hi
   have hi9 : i ≤ 1000000 := Nat.le_trans (Nat.le_of_lt (List.mem_range.mp hi)) (by decide)
   have hb := hok _ (List.getElem_mem hi6)
   have hP := O9 (bs := [bs[i]]) (fun b hb' => by rw [List.mem_singleton.mp hb']; exact hb)
   have e1 : evP .idx [.str (bs.map Prod.fst),.int (i : Nat)] [] = some (.str [bs[i].1]) := kO hi9 (by rw [List.getElem?_map,List.getElem?_eq_getElem hi6]; rfl)
   have e2 : evP .idx [.list (d6 (bs.map Prod.snd)),.int (i : Nat)] [] = some (.str bs[i].2) := u5 hi9 (by simp only [d6,List.getElem?_map]; rw [List.getElem?_eq_getElem hi6]; rfl)
   have e3 : evP .add [.str [bs[i].1],.str bs[i].2] [] = some (.str (Q7 bs[i])) := by
    rw [qB (by
     simp only [l4,List.flatMap_cons,List.flatMap_nil,List.append_nil,A0,A5] at hP ⊢
     unfold a8; lia)]
    rfl
   refine ⟨_,f5 (by simp),?_⟩
   simp only [zeb,zef,zsa,zsb,i9,n6,f6,j8,y3,E3,D3,B5,e1,e2,e3,List.getD_eq_getElem?_getD,List.getElem?_eq_getElem hi6,Option.getD_some]
 have hms : I8 = .own2 2 3 (.comp (.prim .add (.cons (.prim .idx (.cons (.var 0) (.cons (.var 6) .nil))) (.cons (.prim .idx (.cons (.var 1) (.cons (.var 6) .nil))) .nil))) (.one 6) (.range (.cons (.lit (.int 6)) .nil)) none) (.list (.cons (.lit (.int 6)) (.cons (.lit (.int 6)) (.cons (.lit (.int 6)) (.cons (.lit (.int 6)) (.cons (.lit (.int 6)) (.cons (.lit (.int 6)) .nil))))))) ::
   .for (.one 4) (.range (.cons (.lit (.int 6)) .nil)) [.for (.one 5) (.range (.cons (.prim .add (.cons (.var 4) (.cons (.lit (.int 1)) .nil))) (.cons (.lit (.int 6)) (.cons (.lit (.int 2)) .nil)))) di] :: [.ret (.var 3)] := rfl
 rw [hms]
 have st1 : exS (orc (M + 2)) (.own2 2 3 (.comp (.prim .add (.cons (.prim .idx (.cons (.var 0) (.cons (.var 6) .nil))) (.cons (.prim .idx (.cons (.var 1) (.cons (.var 6) .nil))) .nil))) (.one 6) (.range (.cons (.lit (.int 6)) .nil)) none) (.list (.cons (.lit (.int 6)) (.cons (.lit (.int 6)) (.cons (.lit (.int 6)) (.cons (.lit (.int 6)) (.cons (.lit (.int 6)) (.cons (.lit (.int 6)) .nil)))))))) ⟨[.str (bs.map Prod.fst),.list (d6 (bs.map Prod.snd)),.unb,.unb,.unb,.unb,.unb],[]⟩ =
   some (.next,⟨[.str (bs.map Prod.fst),.list (d6 (bs.map Prod.snd)),.list (d6 (bs.map Q7)),.box 0,.unb,.unb,.unb],[nIs [6,6,6,6,6,6]]⟩) := by
  rw [ztc,hcells]
  rfl
 rw [j5 st1]
 have st2 : exS (orc (M + 2)) (.for (.one 4) (.range (.cons (.lit (.int 6)) .nil)) [.for (.one 5) (.range (.cons (.prim .add (.cons (.var 4) (.cons (.lit (.int 1)) .nil))) (.cons (.lit (.int 6)) (.cons (.lit (.int 2)) .nil)))) di]) ⟨[.str (bs.map Prod.fst),.list (d6 (bs.map Prod.snd)),.list (d6 (bs.map Q7)),.box 0,.unb,.unb,.unb],[nIs [6,6,6,6,6,6]]⟩ =
   some (.next,⟨[.str (bs.map Prod.fst),.list (d6 (bs.map Prod.snd)),.list (d6 (bs.map Q7)),.box 0,x4',x5',.unb],[nIs (iI (R9 bs))]⟩) := by
  rw [ztm]
  have hr : evI (orc (M + 2)) (.range (.cons (.lit (.int 6)) .nil)) [.str (bs.map Prod.fst),.list (d6 (bs.map Prod.snd)),.list (d6 (bs.map Q7)),.box 0,.unb,.unb,.unb] [nIs [6,6,6,6,6,6]] = some (nIs (List.range 6)) := rfl
  rw [hr]
  simp only [i9]
  rw [if_pos ⟨j0 (fun _ => rfl) _,rfl⟩]
  exact e
 rw [j5 st2]
 simp only [zeb,zba,zbb,ztn,i9,n6,f6,H1,W9,u4,if_false,zwb]
noncomputable def u8 : List (List Nat) := [[40,40,40,41,41,41],[40,40,41,40,41,41],[40,40,41,41,40,41],[40,40,41,41,41,40],[40,41,40,40,41,41],[40,41,40,41,40,41],[40,41,40,41,41,40],[40,41,41,40,40,41],[40,41,41,40,41,40],[40,41,41,41,40,40],
 [41,40,40,40,41,41],[41,40,40,41,40,41],[41,40,40,41,41,40],[41,40,41,40,40,41],[41,40,41,40,41,40],[41,40,41,41,40,40],[41,41,40,40,40,41],[41,41,40,40,41,40],[41,41,40,41,40,40],[41,41,41,40,40,40]]
noncomputable def ixL : List Nat := [0,1,2,4,5]
noncomputable def w4 (k : Nat) : List Nat := u8.getD (ixL.getD k 0) []
noncomputable def U6 : List (List Nat) := [[40,40,40,41,41,41],[40,40,41,40,41,41],[40,40,41,41,40,41],[40,41,40,40,41,41],[40,41,40,41,40,41]]
theorem nQ : U6 = (List.range 5).map w4 := rfl
noncomputable def y9 (k : Nat) : List Nat := [[5,4,3,2,1,0],[5,2,1,4,3,0],[3,2,1,0,5,4],[1,0,5,4,3,2],[1,0,3,2,5,4]].getD k []
noncomputable def U2 (i j : Nat) : Nat := ([[3,2,1,1,2],[2,3,2,2,1],[1,2,3,1,2],[1,2,1,3,2],[2,1,2,2,3]].getD i []).getD j 0
theorem pq (M : Nat) (σ : Sto) : orc (M + 1) (.glob 123) [] none σ = some (.list (d6 u8),σ) := by kernel_rfl
theorem od (M : Nat) (k : Nat) (h : k < 5) : orc (M + 1) (.glob 135) [.str (w4 k)] none [] = some (.box 0,[nIs (y9 k)]) := by
 rcases lt5 k h with rfl | rfl | rfl | rfl | rfl <;> kernel_rfl
theorem jg {bs : List Blk} {k : Nat} (hk : k < 5) (h : bs.map Prod.fst = w4 k) : iI (R9 bs) = y9 k := by
 have e : R9 bs = fun i j => eT (((w4 k).drop i).take (j + 1 - i)) := by
  funext i j
  unfold R9
  rw [h]
 rw [e]
 have key : ∀ k,k < 5 → iI (fun i j => eT (((w4 k).drop i).take (j + 1 - i))) = y9 k := by decide +kernel
 exact key k hk
theorem qx (M : Nat) (i j : Nat) (hi : i < 5) (hj : j < 5) : orc (M + 1) (.glob 142) [.list (nIs (y9 i)),.list (nIs (y9 j))] none [] = some (.int (U2 i j : Nat),[]) := by
 rcases lt5 i hi with rfl | rfl | rfl | rfl | rfl <;> rcases lt5 j hj with rfl | rfl | rfl | rfl | rfl <;> kernel_rfl
abbrev Shf := List (Int × Nat)
noncomputable def A3 (xs : Shf) : List PV := xs.map fun p => .tup [.int p.1,.str (w4 p.2)]
noncomputable def l8 (xs : Shf) (t : Int) (k : Nat) : Shf := xs.takeWhile (fun p => decide (p.1 ≤ t)) ++ (t,k) :: xs.dropWhile (fun p => decide (p.1 ≤ t))
noncomputable def isI (a : Int) : PV → Bool
 | .int b => b == a
 | _ => false
noncomputable def isS (m : List Nat) : PV → Bool
 | .str x => x == m
 | _ => false
noncomputable def isP (p : Int × Nat) : List PV → Bool
 | [a,b] => isI p.1 a && isS (w4 p.2) b
 | _ => false
noncomputable def pg (v : PV) (p : Int × Nat) : Bool := match v with
 | .tup l => isP p l
 | _ => false
theorem rg {a : Int} {v : PV} (h : isI a v = true) : v = .int a := by
 cases v with
 | int b => exact congrArg PV.int (eq_of_beq h)
 | _ => cases h
theorem sM {a : List Nat} {v : PV} (h : isS a v = true) : v = .str a := by
 cases v with
 | str b => exact congrArg PV.str (eq_of_beq h)
 | _ => cases h
theorem sb {p : Int × Nat} {l : List PV} (h : isP p l = true) : l = [.int p.1,.str (w4 p.2)] := by
 cases l with
 | nil => cases h
 | cons a l => cases l with
  | nil => cases h
  | cons b l => cases l with
   | nil =>
    obtain ⟨h1,h2⟩ := Bool.and_eq_true_iff.mp h
    rw [rg h1,sM h2]
   | cons _ _ => cases h
theorem ky {v : PV} {p : Int × Nat} (h : pg v p = true) : v = .tup [.int p.1,.str (w4 p.2)] := by
 cases v with
 | tup l => exact congrArg PV.tup (sb h)
 | _ => cases h
noncomputable def qC : List PV → Shf → Bool
 | [],[] => true
 | v :: r,p :: s => pg v p && qC r s
 | _,_ => false
theorem jb : ∀ {l : List PV} {s : Shf},qC l s = true → l = A3 s
 | [],[],_ => rfl
 | [],_ :: _,h => by cases h
 | _ :: _,[],h => by cases h
 | v :: r,p :: s,h => by
  have h := Bool.and_eq_true_iff.mp h
  show _ = _ :: A3 s
  rw [ky h.1,jb h.2]
noncomputable def ss (s : Shf) : Option (PV × Sto) → Bool
 | some (.none,[ys]) => qC ys s
 | _ => false
theorem oE {s : Shf} {o : Option (PV × Sto)} (h : ss s o = true) : o = some (.none,[A3 s]) := by
 cases o with
 | none => cases h
 | some q =>
  obtain ⟨v,σ⟩ := q
  cases v with
  | none => cases σ with
   | nil => cases h
   | cons ys r => cases r with
    | nil => rw [jb h]
    | cons _ _ => cases h
  | _ => cases h
noncomputable def R7 (xs : Shf) (t : Int) (k : Nat) : Bool := ss (l8 xs t k) (orc 39 (.glob 93) [.box 0,.tup [.int t,.str (w4 k)]] (some (.glob 118)) [A3 xs])
theorem oe {xs : Shf} {t : Int} {k : Nat} (h : R7 xs t k = true) : orc 39 (.glob 93) [.box 0,.tup [.int t,.str (w4 k)]] (some (.glob 118)) [A3 xs] = some (.none,[A3 (l8 xs t k)]) := oE h
noncomputable def T3 : List Int := [0,1,2]
noncomputable def sh5 (t0 t1 t2 t3 t4 : Int) : Shf := l8 (l8 (l8 (l8 (l8 [] t4 4) t3 3) t2 2) t1 1) t0 0
noncomputable def ps5 (t0 t1 t2 t3 t4 : Int) : List (Int × Int) := [(t0,0),(t1,-1),(t2,-2),(t3,-3),(t4,-4)]
noncomputable def at5 (t0 t1 t2 t3 t4 : Int) (i : Nat) : Int := [t0,t1,t2,t3,t4].getD i 0
abbrev Z9 := List Int
noncomputable def ev (q : Int) : Z9 → Int
 | [] => 0
 | a :: r => a + q * ev q r
noncomputable def iZ : Z9 → Z9 → Z9
 | [],b => b
 | a,[] => a
 | x :: a,y :: b => (x + y) :: iZ a b
theorem V8 {q} : ev q [] = 0 := rfl
theorem V0 {q a r} : ev q (a :: r) = a + q * ev q r := rfl
theorem qF {b} : iZ [] b = b := rfl
theorem po {x a} : iZ (x :: a) [] = x :: a := rfl
theorem pF {x a y b} : iZ (x :: a) (y :: b) = (x + y) :: iZ a b := rfl
noncomputable def qJ (c : Int) (p : Z9) : Z9 := p.map (c * ·)
noncomputable def V5 : Z9 → Z9 → Z9
 | [],_ => []
 | x :: a,b => iZ (qJ x b) (0 :: V5 a b)
theorem sS {b} : V5 [] b = [] := rfl
theorem sa {x a b} : V5 (x :: a) b = iZ (qJ x b) (0 :: V5 a b) := rfl
noncomputable def jO (a b : Z9) : Z9 := iZ a (qJ (-1) b)
noncomputable def isZ (p : Z9) : Bool := p.all (· == 0)
theorem cM (q : Int) : ∀ a b : Z9,ev q (iZ a b) = ev q a + ev q b
 | [],b => by simp [qF,po,pF,V8,V0]
 | x :: a,[] => by simp [qF,po,pF,V8,V0]
 | x :: a,y :: b => by simp only [qF,po,pF,V8,V0,cM q a b,Int.mul_add]; lia
theorem iw (q c : Int) : ∀ a : Z9,ev q (qJ c a) = c * ev q a
 | [] => by simp [qJ,V8,V0]
 | x :: a => by
  have ih := iw q c a
  simp only [qJ,List.map_cons,V8,V0] at ih ⊢
  rw [ih,Int.mul_add,Int.mul_left_comm]
theorem aF (q : Int) : ∀ a b : Z9,ev q (V5 a b) = ev q a * ev q b
 | [],b => by simp [sS,sa,V8,V0]
 | x :: a,b => by
  simp only [sS,sa,cM,iw,V8,V0,aF q a b,Int.add_mul,Int.mul_assoc]
  lia
theorem dB (q : Int) (a b : Z9) : ev q (jO a b) = ev q a - ev q b := by
 unfold jO
 rw [cM,iw]; lia
theorem am (q : Int) : ∀ {a : Z9},isZ a = true → ev q a = 0
 | [],_ => rfl
 | x :: a,h => by
  simp only [isZ,List.all_cons,z5,beq_iff_eq] at h
  have ih := am q (a := a) h.2
  simp only [V8,V0,ih,h.1]; lia
noncomputable def ve : List (List (List (List Int))) := [[[[0,0,0,1],[0,0,1],[0,1],[0,1],[0,0,1]],[[0,0,1],[0,0,0,1],[0,0,1],[0,0,1],[0,1]],[[0,1],[0,0,1],[0,0,0,1],[0,1],[0,0,1]],[[0,1],[0,0,1],[0,1],[0,0,0,1],[0,0,1]],[[0,0,1],[0,1],[0,0,1],[0,0,1],[0,0,0,1]]],[[[],[],[],[],[]],[[],[0,0,0,0,-1,0,1],[0,0,0,-1,0,1],[0,0,0,-1,0,1],[]],[[],[0,0,0,-1,0,1],[0,0,-1,0,0,0,1],[0,0,-1,0,1],[0,0,0,-1,0,1]],[[],[0,0,0,-1,0,1],[0,0,-1,0,1],[0,0,-1,0,0,0,1],[0,0,0,-1,0,1]],[[],[],[0,0,0,-1,0,1],[0,0,0,-1,0,1],[0,0,0,0,-1,0,1]]],[[[0,0,0,0,-1,0,1],[],[],[],[0,0,0,-1,0,1]],[[],[],[],[],[]],[[],[],[0,0,0,0,-1,0,1],[],[0,0,0,-1,0,1]],[[],[],[],[0,0,0,0,-1,0,1],[0,0,0,-1,0,1]],[[0,0,0,-1,0,1],[],[0,0,0,-1,0,1],[0,0,0,-1,0,1],[0,0,-1,0,0,0,1]]],[[[],[],[],[],[]],[[],[],[],[],[]],[[],[],[0,0,0,0,0,1,0,-2,0,1],[],[0,0,0,0,1,0,-2,0,1]],[[],[],[],[0,0,0,0,0,1,0,-2,0,1],[0,0,0,0,1,0,-2,0,1]],[[],[],[0,0,0,0,1,0,-2,0,1],[0,0,0,0,1,0,-2,0,1],[0,0,0,0,0,1,0,-2,0,1]]],[[[0,0,-1,0,0,0,1],[0,0,0,-1,0,1],[],[0,0,-1,0,1],[0,0,0,-1,0,1]],[[0,0,0,-1,0,1],[0,0,0,0,-1,0,1],[],[0,0,0,-1,0,1],[]],[[],[],[],[],[]],[[0,0,-1,0,1],[0,0,0,-1,0,1],[],[0,0,-1,0,0,0,1],[0,0,0,-1,0,1]],[[0,0,0,-1,0,1],[],[],[0,0,0,-1,0,1],[0,0,0,0,-1,0,1]]],[[[],[],[],[],[]],[[],[0,0,0,0,0,1,0,-2,0,1],[],[0,0,0,0,1,0,-2,0,1],[0,0,0,-1,0,2,0,-1]],[[],[],[],[],[]],[[],[0,0,0,0,1,0,-2,0,1],[],[0,0,0,2,0,-3,0,0,0,1],[0,0,0,0,1,0,-2,0,1]],[[],[0,0,0,-1,0,2,0,-1],[],[0,0,0,0,1,0,-2,0,1],[0,0,0,0,0,1,0,-2,0,1]]],[[[0,0,0,0,0,1,0,-2,0,1],[],[],[],[0,0,0,0,1,0,-2,0,1]],[[],[],[],[],[]],[[],[],[],[],[]],[[],[],[],[0,0,0,0,0,1,0,-2,0,1],[0,0,0,0,1,0,-2,0,1]],[[0,0,0,0,1,0,-2,0,1],[],[],[0,0,0,0,1,0,-2,0,1],[0,0,0,0,0,1,0,-2,0,1]]],[[[],[],[],[],[]],[[],[],[],[],[]],[[],[],[],[],[]],[[],[],[],[0,0,0,0,0,0,-1,0,3,0,-3,0,1],[0,0,0,0,0,-1,0,3,0,-3,0,1]],[[],[],[],[0,0,0,0,0,-1,0,3,0,-3,0,1],[0,0,0,0,1,0,-4,0,6,0,-4,0,1]]],[[[0,0,-1,0,0,0,1],[0,0,0,-1,0,1],[0,0,-1,0,1],[],[0,0,0,-1,0,1]],[[0,0,0,-1,0,1],[0,0,0,0,-1,0,1],[0,0,0,-1,0,1],[],[]],[[0,0,-1,0,1],[0,0,0,-1,0,1],[0,0,-1,0,0,0,1],[],[0,0,0,-1,0,1]],[[],[],[],[],[]],[[0,0,0,-1,0,1],[],[0,0,0,-1,0,1],[],[0,0,0,0,-1,0,1]]],[[[],[],[],[],[]],[[],[0,0,0,0,0,1,0,-2,0,1],[0,0,0,0,1,0,-2,0,1],[],[0,0,0,-1,0,2,0,-1]],[[],[0,0,0,0,1,0,-2,0,1],[0,0,0,2,0,-3,0,0,0,1],[],[0,0,0,0,1,0,-2,0,1]],[[],[],[],[],[]],[[],[0,0,0,-1,0,2,0,-1],[0,0,0,0,1,0,-2,0,1],[],[0,0,0,0,0,1,0,-2,0,1]]],[[[0,0,0,0,0,1,0,-2,0,1],[],[],[],[0,0,0,0,1,0,-2,0,1]],[[],[],[],[],[]],[[],[],[0,0,0,0,0,1,0,-2,0,1],[],[0,0,0,0,1,0,-2,0,1]],[[],[],[],[],[]],[[0,0,0,0,1,0,-2,0,1],[],[0,0,0,0,1,0,-2,0,1],[],[0,0,0,0,0,1,0,-2,0,1]]],[[[],[],[],[],[]],[[],[],[],[],[]],[[],[],[0,0,0,0,0,0,-1,0,3,0,-3,0,1],[],[0,0,0,0,0,-1,0,3,0,-3,0,1]],[[],[],[],[],[]],[[],[],[0,0,0,0,0,-1,0,3,0,-3,0,1],[],[0,0,0,0,1,0,-4,0,6,0,-4,0,1]]],[[[0,0,0,2,0,-3,0,0,0,1],[0,0,0,0,1,0,-2,0,1],[],[],[0,0,0,0,1,0,-2,0,1]],[[0,0,0,0,1,0,-2,0,1],[0,0,0,0,0,1,0,-2,0,1],[],[],[0,0,0,-1,0,2,0,-1]],[[],[],[],[],[]],[[],[],[],[],[]],[[0,0,0,0,1,0,-2,0,1],[0,0,0,-1,0,2,0,-1],[],[],[0,0,0,0,0,1,0,-2,0,1]]],[[[],[],[],[],[]],[[],[0,0,0,0,0,0,-1,0,3,0,-3,0,1],[],[],[0,0,0,0,2,0,-6,0,6,0,-2]],[[],[],[],[],[]],[[],[],[],[],[]],[[],[0,0,0,0,2,0,-6,0,6,0,-2],[],[],[0,0,0,0,0,0,-1,0,3,0,-3,0,1]]],[[[0,0,0,0,0,0,-1,0,3,0,-3,0,1],[],[],[],[0,0,0,0,0,-1,0,3,0,-3,0,1]],[[],[],[],[],[]],[[],[],[],[],[]],[[],[],[],[],[]],[[0,0,0,0,0,-1,0,3,0,-3,0,1],[],[],[],[0,0,0,0,1,0,-4,0,6,0,-4,0,1]]],[[[],[],[],[],[]],[[],[],[],[],[]],[[],[],[],[],[]],[[],[],[],[],[]],[[],[],[],[],[0,0,0,0,0,-2,0,9,0,-16,0,14,0,-6,0,1]]],[[[0,0,0,0,-1,0,1],[0,0,0,-1,0,1],[],[],[]],[[0,0,0,-1,0,1],[0,0,-1,0,0,0,1],[0,0,0,-1,0,1],[0,0,0,-1,0,1],[]],[[],[0,0,0,-1,0,1],[0,0,0,0,-1,0,1],[],[]],[[],[0,0,0,-1,0,1],[],[0,0,0,0,-1,0,1],[]],[[],[],[],[],[]]],[[[],[],[],[],[]],[[],[0,0,0,0,0,1,0,-2,0,1],[0,0,0,0,1,0,-2,0,1],[0,0,0,0,1,0,-2,0,1],[]],[[],[0,0,0,0,1,0,-2,0,1],[0,0,0,0,0,1,0,-2,0,1],[],[]],[[],[0,0,0,0,1,0,-2,0,1],[],[0,0,0,0,0,1,0,-2,0,1],[]],[[],[],[],[],[]]],[[[0,0,0,0,0,1,0,-2,0,1],[],[0,0,0,-1,0,2,0,-1],[0,0,0,-1,0,2,0,-1],[]],[[],[],[],[],[]],[[0,0,0,-1,0,2,0,-1],[],[0,0,0,0,0,1,0,-2,0,1],[0,0,0,-1,0,2,0,-1],[]],[[0,0,0,-1,0,2,0,-1],[],[0,0,0,-1,0,2,0,-1],[0,0,0,0,0,1,0,-2,0,1],[]],[[],[],[],[],[]]],[[[],[],[],[],[]],[[],[],[],[],[]],[[],[],[0,0,0,0,1,0,-4,0,6,0,-4,0,1],[0,0,0,0,1,0,-3,0,3,0,-1],[]],[[],[],[0,0,0,0,1,0,-3,0,3,0,-1],[0,0,0,0,1,0,-4,0,6,0,-4,0,1],[]],[[],[],[],[],[]]],[[[0,0,0,0,0,1,0,-2,0,1],[0,0,0,0,1,0,-2,0,1],[],[],[]],[[0,0,0,0,1,0,-2,0,1],[0,0,0,0,0,1,0,-2,0,1],[],[0,0,0,0,1,0,-2,0,1],[]],[[],[],[],[],[]],[[],[0,0,0,0,1,0,-2,0,1],[],[0,0,0,0,0,1,0,-2,0,1],[]],[[],[],[],[],[]]],[[[],[],[],[],[]],[[],[0,0,0,0,1,0,-4,0,6,0,-4,0,1],[],[0,0,0,0,0,-1,0,3,0,-3,0,1],[]],[[],[],[],[],[]],[[],[0,0,0,0,0,-1,0,3,0,-3,0,1],[],[0,0,0,0,0,0,-1,0,3,0,-3,0,1],[]],[[],[],[],[],[]]],[[[0,0,0,0,1,0,-4,0,6,0,-4,0,1],[],[],[0,0,0,0,1,0,-3,0,3,0,-1],[]],[[],[],[],[],[]],[[],[],[],[],[]],[[0,0,0,0,1,0,-3,0,3,0,-1],[],[],[0,0,0,0,1,0,-4,0,6,0,-4,0,1],[]],[[],[],[],[],[]]],[[[],[],[],[],[]],[[],[],[],[],[]],[[],[],[],[],[]],[[],[],[],[0,0,0,0,0,-2,0,9,0,-16,0,14,0,-6,0,1],[]],[[],[],[],[],[]]],[[[0,0,0,0,0,1,0,-2,0,1],[0,0,0,0,1,0,-2,0,1],[],[],[]],[[0,0,0,0,1,0,-2,0,1],[0,0,0,0,0,1,0,-2,0,1],[0,0,0,0,1,0,-2,0,1],[],[]],[[],[0,0,0,0,1,0,-2,0,1],[0,0,0,0,0,1,0,-2,0,1],[],[]],[[],[],[],[],[]],[[],[],[],[],[]]],[[[],[],[],[],[]],[[],[0,0,0,0,1,0,-4,0,6,0,-4,0,1],[0,0,0,0,0,-1,0,3,0,-3,0,1],[],[]],[[],[0,0,0,0,0,-1,0,3,0,-3,0,1],[0,0,0,0,0,0,-1,0,3,0,-3,0,1],[],[]],[[],[],[],[],[]],[[],[],[],[],[]]],[[[0,0,0,0,1,0,-4,0,6,0,-4,0,1],[],[0,0,0,0,1,0,-3,0,3,0,-1],[],[]],[[],[],[],[],[]],[[0,0,0,0,1,0,-3,0,3,0,-1],[],[0,0,0,0,1,0,-4,0,6,0,-4,0,1],[],[]],[[],[],[],[],[]],[[],[],[],[],[]]],[[[],[],[],[],[]],[[],[],[],[],[]],[[],[],[0,0,0,0,0,-2,0,9,0,-16,0,14,0,-6,0,1],[],[]],[[],[],[],[],[]],[[],[],[],[],[]]],[[[0,0,0,0,0,0,-1,0,3,0,-3,0,1],[0,0,0,0,0,-1,0,3,0,-3,0,1],[],[],[]],[[0,0,0,0,0,-1,0,3,0,-3,0,1],[0,0,0,0,1,0,-4,0,6,0,-4,0,1],[],[],[]],[[],[],[],[],[]],[[],[],[],[],[]],[[],[],[],[],[]]],[[[],[],[],[],[]],[[],[0,0,0,0,0,-2,0,9,0,-16,0,14,0,-6,0,1],[],[],[]],[[],[],[],[],[]],[[],[],[],[],[]],[[],[],[],[],[]]],[[[0,0,0,0,0,-2,0,9,0,-16,0,14,0,-6,0,1],[],[],[],[]],[[],[],[],[],[]],[[],[],[],[],[]],[[],[],[],[],[]],[[],[],[],[],[]]],[[[],[],[],[],[]],[[],[],[],[],[]],[[],[],[],[],[]],[[],[],[],[],[]],[[],[],[],[],[]]]]
noncomputable def uS : List (List Int) := [[1],[0,0,0,1],[0,0,0,1],[0,0,0,0,-1,0,1],[0,0,0,1],[0,0,-1,0,0,0,1],[0,0,0,0,-1,0,1],[0,0,0,0,0,1,0,-2,0,1],[0,0,0,1],[0,0,-1,0,0,0,1],[0,0,0,0,-1,0,1],[0,0,0,0,0,1,0,-2,0,1],[0,0,-1,0,0,0,1],[0,0,0,2,0,-3,0,0,0,1],[0,0,0,0,0,1,0,-2,0,1],[0,0,0,0,0,0,-1,0,3,0,-3,0,1],[0,0,0,1],[0,0,0,0,-1,0,1],[0,0,-1,0,0,0,1],[0,0,0,0,0,1,0,-2,0,1],[0,0,0,0,-1,0,1],[0,0,0,0,0,1,0,-2,0,1],[0,0,0,0,0,1,0,-2,0,1],[0,0,0,0,1,0,-4,0,6,0,-4,0,1],[0,0,0,0,-1,0,1],[0,0,0,0,0,1,0,-2,0,1],[0,0,0,0,0,1,0,-2,0,1],[0,0,0,0,1,0,-4,0,6,0,-4,0,1],[0,0,0,0,0,1,0,-2,0,1],[0,0,0,0,0,0,-1,0,3,0,-3,0,1],[0,0,0,0,1,0,-4,0,6,0,-4,0,1],[0,0,0,0,0,-2,0,9,0,-16,0,14,0,-6,0,1]]
noncomputable def P (m i j : Nat) : Z9 := ((ve.getD m []).getD i []).getD j []
noncomputable def Dm (m : Nat) : Z9 := uS.getD m []
noncomputable def okT (m p i j : Nat) : Bool := !m.testBit p && !m.testBit i && !m.testBit j && i != p && j != p && decide (p < 5) && decide (i < 5) && decide (j < 5) && decide (m < 32)
noncomputable def vv (m p i j : Nat) : Bool := isZ (jO (jO (V5 (P m i j) (P m p p)) (V5 (P m i p) (P m p j))) (V5 (Dm m) (P (m + 2 ^ p) i j)))
noncomputable def rQ : Bool := (List.range 32).all fun m => (List.range 5).all fun p => (List.range 5).all fun i => (List.range 5).all fun j => !okT m p i j || vv m p i j
theorem nX : rQ = true := by decide +kernel
theorem tR {m p i j : Nat} (h : okT m p i j = true) (q : Int) : ev q (P m i j) * ev q (P m p p) - ev q (P m i p) * ev q (P m p j) = ev q (Dm m) * ev q (P (m + 2 ^ p) i j) := by
 have h' := h
 simp only [okT,z5,decide_eq_true_eq] at h'
 have k := nX
 unfold rQ at k
 have k1 := z4.mp k m (List.mem_range.mpr h'.2)
 have k2 := z4.mp k1 p (List.mem_range.mpr h'.1.1.1.2)
 have k3 := z4.mp k2 i (List.mem_range.mpr h'.1.1.2)
 have k4 := z4.mp k3 j (List.mem_range.mpr h'.1.2)
 rw [h] at k4
 have := am q (a := jO (jO (V5 (P m i j) (P m p p)) (V5 (P m i p) (P m p j))) (V5 (Dm m) (P (m + 2 ^ p) i j))) k4
 simp only [dB,aF] at this
 lia
noncomputable def pV : Bool := (List.range 32).all fun m => (List.range 5).all fun p => m.testBit p || P m p p == Dm (m + 2 ^ p)
theorem lC {m p : Nat} (hm : m < 32) (hp : p < 5) (h : m.testBit p = false) : P m p p = Dm (m + 2 ^ p) := by
 have k : pV = true := by decide +kernel
 have k1 := z4.mp k m (List.mem_range.mpr hm)
 have k2 := z4.mp k1 p (List.mem_range.mpr hp)
 rw [h] at k2
 simpa using k2
noncomputable def l1 (p : Z9) : Nat := (p.map Int.natAbs).sum
noncomputable def rH : Bool := (List.range 32).all fun m => decide ((Dm m).length ≤ 16) && decide (l1 (Dm m) ≤ 81) && (List.range 5).all fun i => (List.range 5).all fun j => decide ((P m i j).length ≤ 16) && decide (l1 (P m i j) ≤ 81)
theorem sH (q : Int) (hq : 1 ≤ q.natAbs) : ∀ p : Z9,(ev q p).natAbs ≤ l1 p * q.natAbs ^ p.length
 | [] => by simp [V8,V0,l1]
 | x :: r => by
  have ih := sH q hq r
  have hp : 1 ≤ q.natAbs ^ (r.length + 1) := Nat.pow_pos (by lia)
  simp only [V8,V0,A0]
  have e : l1 (x :: r) = x.natAbs + l1 r := by simp [l1]
  rw [e,Nat.add_mul]
  refine Nat.le_trans (Int.natAbs_add_le _ _) ?_
  rw [Int.natAbs_mul]
  have h1 : x.natAbs ≤ x.natAbs * q.natAbs ^ (r.length + 1) := Nat.le_mul_of_pos_right _ hp
  have h2 : q.natAbs * (ev q r).natAbs ≤ l1 r * q.natAbs ^ (r.length + 1) := by
   rw [Nat.pow_succ,← Nat.mul_assoc,Nat.mul_comm q.natAbs]
   exact Nat.mul_le_mul_right _ ih
  lia
theorem lZ {q : Int} (hq : 3 ≤ q.natAbs) {p : Z9} (h1 : p.length ≤ 16) (h2 : l1 p ≤ 81) : (ev q p).natAbs ≤ q.natAbs ^ 20 := by
 refine Nat.le_trans (sH q (by lia) p) ?_
 have e1 : 81 ≤ q.natAbs ^ 4 := Nat.le_trans (by decide : 81 ≤ 3 ^ 4) (Nat.pow_le_pow_left hq 4)
 have e2 : q.natAbs ^ p.length ≤ q.natAbs ^ 16 := Nat.pow_le_pow_right (by lia) h1
 calc l1 p * q.natAbs ^ p.length ≤ q.natAbs ^ 4 * q.natAbs ^ 16 := Nat.mul_le_mul (by lia) e2
  _ = q.natAbs ^ 20 := by rw [← Nat.pow_add]
theorem uf {q : Int} (hq : 3 ≤ q.natAbs) {m i j : Nat} (hm : m < 32) (hi : i < 5) (hj : j < 5) : (ev q (P m i j)).natAbs ≤ q.natAbs ^ 20 := by
 have k : rH = true := by decide +kernel
 have k1 := z4.mp k m (List.mem_range.mpr hm)
 simp only [z5,decide_eq_true_eq] at k1
 have k2 := z4.mp (z4.mp k1.2 i (List.mem_range.mpr hi)) j (List.mem_range.mpr hj)
 simp only [z5,decide_eq_true_eq] at k2
 exact lZ hq k2.1 k2.2
theorem uN {q : Int} (hq : 3 ≤ q.natAbs) {m : Nat} (hm : m < 32) : (ev q (Dm m)).natAbs ≤ q.natAbs ^ 20 := by
 have k : rH = true := by decide +kernel
 have k1 := z4.mp k m (List.mem_range.mpr hm)
 simp only [z5,decide_eq_true_eq] at k1
 exact lZ hq k1.1.1 k1.1.2
noncomputable def shP : Z9 → Z9
 | [] => []
 | a :: r => iZ [a] (iZ (qJ 3 (shP r)) (0 :: shP r))
theorem qY (t : Int) : ∀ p : Z9,ev t (shP p) = ev (3 + t) p
 | [] => rfl
 | a :: r => by
  simp only [shP,cM,iw,V8,V0,qY t r,Int.add_mul]
  lia
theorem fD {t : Int} (ht : 0 ≤ t) : ∀ {p : Z9},(p.all fun a => decide (0 ≤ a)) = true → 0 ≤ ev t p
 | [],_ => Int.le_refl _
 | a :: r,h => by
  simp only [List.all_cons,z5,decide_eq_true_eq] at h
  have := Int.mul_nonneg ht (fD ht (p := r) h.2)
  simp only [V8,V0]; lia
noncomputable def jH : Bool → Z9 → Bool
 | _,[] => true
 | b,a :: r => (b || a == 0) && jH (!b) r
theorem sB {b a r} : jH b (a :: r) = ((b || a == 0) && jH (!b) r) := rfl
theorem mH (q : Int) : ∀ (p : Z9) (b : Bool),jH b p = true → ev (-q) p = (if b then ev q p else -ev q p)
 | [],b,_ => by cases b <;> simp [V8,V0]
 | a :: r,b,h => by
  simp only [sB,z5,Bool.or_eq_true,beq_iff_eq] at h
  have ih := mH q r (!b) h.2
  cases b with
  | true =>
   simp only [Bool.not_true,u4,if_false] at ih
   simp only [V8,V0,if_true,ih,Int.neg_mul_neg]
  | false =>
   simp only [Bool.not_false,if_true] at ih
   have ha : a = 0 := by simpa using h.1
   simp only [V8,V0,u4,if_false,ih,ha,Int.neg_mul]
   lia
noncomputable def sW : Bool := (List.range 31).all fun m => (jH true (Dm (m + 1)) || jH false (Dm (m + 1))) && (shP (jO (Dm (m + 1)) [0,1])).all fun a => decide (0 ≤ a)
theorem sX {q e : Int} (h0 : 3 ≤ q) (h : q ≤ e) : q.natAbs ≤ e.natAbs := by
 have h0 : 0 ≤ q := Int.le_trans (by decide) h0
 obtain ⟨x,rfl⟩ := Int.eq_ofNat_of_zero_le h0
 obtain ⟨y,rfl⟩ := Int.eq_ofNat_of_zero_le (Int.le_trans h0 h)
 exact Int.ofNat_le.mp h
theorem uY {q : Int} (hq : 3 ≤ q.natAbs) {m : Nat} (h0 : 0 < m) (hm : m < 32) : q.natAbs ≤ (ev q (Dm m)).natAbs := by
 have k : sW = true := by decide +kernel
 obtain ⟨m,rfl⟩ : ∃ j,m = j + 1 := ⟨_,(Nat.succ_pred_eq_of_pos h0).symm⟩
 have k1 := z4.mp k m (List.mem_range.mpr (Nat.lt_of_succ_lt_succ hm))
 simp only [z5,Bool.or_eq_true] at k1
 have pos : ∀ x : Int,3 ≤ x → x ≤ ev x (Dm (m + 1)) := by
  intro x hx
  have := fD (t := x - 3) (Int.sub_nonneg_of_le hx) (p := shP (jO (Dm (m + 1)) [0,1])) (by simpa using k1.2)
  rw [qY,dB,Int.add_comm 3,Int.sub_add_cancel] at this
  simp only [V8,V0,Int.mul_zero,Int.add_zero,Int.zero_add,Int.mul_one] at this
  exact Int.le_of_sub_nonneg this
 rcases Int.natAbs_eq q with h | h
 ·have h3 : 3 ≤ q := by rw [h]; exact Int.ofNat_le.mpr hq
  exact sX h3 (pos q h3)
 ·have h3 : 3 ≤ -q := by rw [h,Int.neg_neg]; exact Int.ofNat_le.mpr hq
  have := sX h3 (pos (-q) h3)
  rcases k1.1 with k2 | k2
  ·have n := mH q (Dm (m + 1)) true k2
   rw [if_pos rfl] at n
   rwa [Int.natAbs_neg,n] at this
  ·have n := mH q (Dm (m + 1)) false k2
   rw [if_neg (by decide)] at n
   rwa [Int.natAbs_neg,n,Int.natAbs_neg] at this
theorem tO (q : Int) : ∀ i,i < 5 → ∀ j,j < 5 → ev q (P 0 i j) = q ^ U2 i j := by
 have k : ((List.range 5).all fun i => (List.range 5).all fun j => P 0 i j == List.replicate (U2 i j) 0 ++ [1]) = true := by decide +kernel
 intro i hi j hj
 have k1 := z4.mp (z4.mp k i (List.mem_range.mpr hi)) j (List.mem_range.mpr hj)
 rw [beq_iff_eq.mp k1]
 generalize U2 i j = n
 induction n with
 | zero => simp [V8,V0]
 | succ n ih =>
  rw [List.replicate_succ,List.cons_append]
  simp only [V8,V0,ih,Int.pow_succ]
  rw [Int.mul_comm]; lia
noncomputable def pw : Z9 := V5 (V5 [0,0,0,0,0,1] (V5 (V5 [-1,0,1] [-1,0,1]) (V5 [-1,0,1] [-1,0,1]))) [-2,0,1]
theorem D31 (q : Int) : ev q (Dm 31) = q ^ 5 * (q * q - 1) ^ 4 * (q * q - 2) := by
 have k : isZ (jO (Dm 31) pw) = true := by decide +kernel
 have h := am q k
 rw [dB] at h
 have h' : ev q (Dm 31) = ev q pw := by lia
 rw [h']
 unfold pw
 simp only [aF]
 have e1 : ev q [0,0,0,0,0,1] = q ^ 5 := by
  simp only [V8,V0,Int.pow_succ,Int.pow_zero,Int.mul_zero,Int.add_zero,Int.zero_add,Int.mul_one,Int.one_mul,Int.mul_assoc]
 have e2 : ev q [-1,0,1] = q * q - 1 := by
  simp only [V8,V0,Int.mul_zero,Int.add_zero,Int.zero_add,Int.mul_one]; lia
 have e3 : ev q [-2,0,1] = q * q - 2 := by
  simp only [V8,V0,Int.mul_zero,Int.add_zero,Int.zero_add,Int.mul_one]; lia
 rw [e1,e2,e3]
 have e4 : (q * q - 1) * (q * q - 1) * ((q * q - 1) * (q * q - 1)) = (q * q - 1) ^ 4 := by
  simp only [Int.pow_succ,Int.pow_zero,Int.one_mul,Int.mul_assoc]
 rw [e4]
theorem D0 (q : Int) : ev q (Dm 0) = 1 := by simp [Dm,uS,V8,V0]
structure x8 (ρ : Rho) : Prop where
 len : ρ.length = 55
 free : ∀ i,24 ≤ i → i < 55 → ρ[i]? = some .unb
section
variable {ρ : Rho} {i j : Nat} {v : PV}
theorem x8.set (F : x8 ρ) (h : i < 24) : x8 (ρ.set i v) := ⟨by rw [List.length_set]; exact F.len,fun k h1 h2 => by rw [List.getElem?_set_ne (by lia)]; exact F.free k h1 h2⟩
theorem gN (h : i ≠ j) : n7 (ρ.set i v) j = n7 ρ j := by
 unfold n7
 rw [List.getElem?_set_ne h]
theorem gS (h : i < ρ.length) (hv : v.isUnb = false) : n7 (ρ.set i v) i = some v := by
 unfold n7
 rw [List.getElem?_set_self h]
 cases v <;> first | rfl | cases hv
theorem A9 {a : Int} (h : i < ρ.length) : n7 (ρ.set i (.int a)) i = some (.int a) := gS h rfl
theorem dK {a : List Nat} (h : i < ρ.length) : n7 (ρ.set i (.str a)) i = some (.str a) := gS h rfl
theorem aA {a : List PV} (h : i < ρ.length) : n7 (ρ.set i (.list a)) i = some (.list a) := gS h rfl
theorem jQ {a : Bool} (h : i < ρ.length) : n7 (ρ.set i (.bool a)) i = some (.bool a) := gS h rfl
theorem lN {a : Nat} (h : i < ρ.length) : n7 (ρ.set i (.box a)) i = some (.box a) := gS h rfl
theorem un1 (h : ρ[i]? = some .unb) : df (.one i) ρ = true := by simp [df,h,PV.isUnb]
theorem un2 (h : ρ[i]? = some .unb) (h' : ρ[j]? = some .unb) : df (.two i j) ρ = true := by simp [df,h,h',PV.isUnb]
theorem x8.u1 (F : x8 ρ) (h1 : 24 ≤ i) (h2 : i < 55) : df (.one i) ρ = true := un1 (F.free i h1 h2)
theorem x8.u2 (F : x8 ρ) (h1 : 24 ≤ i) (h2 : i < 55) (h3 : 24 ≤ j) (h4 : j < 55) : df (.two i j) ρ = true := un2 (F.free i h1 h2) (F.free j h3 h4)
theorem x8.lt (F : x8 ρ) (h : i < 55) : i < ρ.length := by rw [F.len]; exact h
end
noncomputable def iL (n : Nat) (f : Nat → Int) : List PV := (List.range n).map fun k => .int (f k)
noncomputable def W4 (n : Nat) (A : Nat → Nat → Int) : List PV := (List.range n).map fun i => .list (iL n (A i))
noncomputable def X7 (σ : Sto) (tv : PV) (rows : List PV) : Prop := tv = .list rows ∨ ∃ k,tv = .box k ∧ σ[k]? = some rows
theorem fu {n : Nat} {f : Nat → Int} : (iL n f).length = n := by simp [iL]
theorem oU {n : Nat} {f : Nat → Int} {k : Nat} (h : k < n) : (iL n f)[k]? = some (.int (f k)) := by
 simp [iL,List.getElem?_map,List.getElem?_range h]
theorem jY {n : Nat} {f : Nat → Int} : i8 (iL n f) = true := j0 (fun _ => rfl) _
theorem qt {n : Nat} {A : Nat → Nat → Int} : i8 (W4 n A) = true := j0 (fun i => by show i8 _ = true; exact jY) _
theorem gY {σ : Sto} {tv : PV} {rows : List PV} {i : Nat} {v : PV} (h : X7 σ tv rows) (hi : i ≤ 1000000) (hv : rows[i]? = some v) : evP .idx [tv,.int (i : Nat)] σ = some v := by
 rcases h with rfl | ⟨k,rfl,hk⟩
 ·exact u5 hi hv
 ·exact lW hk hi hv
theorem jt {σ : Sto} {tv : PV} {rows : List PV} (h : X7 σ tv rows) (hl : rows.length ≤ a8) (hn : i8 rows = true) : evP (.slice true false false) [tv,.int 1] σ = some (.list (rows.drop 1)) := by
 have e : N5 tv (some 1) none none σ = ((asL σ tv).bind fun l => if l.length ≤ a8 ∧ i8 l = true then (M6 l (some 1) none none).map PV.list else none) := by
  rcases h with rfl | ⟨k,rfl,hk⟩ <;> rfl
 show N5 tv (some 1) none none σ = _
 rw [e]
 have ha : asL σ tv = some rows := by
  rcases h with rfl | ⟨k,rfl,hk⟩
  ·rfl
  ·exact hk
 rw [ha]
 simp only [i9]
 rw [if_pos ⟨hl,hn⟩]
 rfl
theorem kl {n : Nat} {a : Int} : toD (n + 1) (.int a) = some (.int a) := rfl
theorem ff {n : Nat} : ∀ (l : List Int),(l.map PV.int).mapM (toD (n + 1)) = some (l.map PyData.int)
 | [] => rfl
 | a :: r => by
  rw [List.map_cons,List.mapM_cons,kl,ff r]; rfl
theorem il : ∀ (l : List Int),PyData.eqvAll (l.map PyData.int) (l.map PyData.int) = true
 | [] => rfl
 | a :: r => by
  simp only [List.map_cons,PyData.eqvAll,PyData.eqv,il r,beq_self_eq_true,Bool.and_self]
theorem qE {σ : Sto} (l : List Int) : evP .ne [.list (l.map PV.int),.list (l.map PV.int)] σ = some (.bool false) := by
 have : toD 8 (PV.list (l.map PV.int)) = some (.list (l.map PyData.int)) := by
  show ((l.map PV.int).mapM (toD (6 + 1))).map PyData.list = _
  rw [ff]; rfl
 show ((toD 8 (L1 σ (PV.list (l.map PV.int)))).bind fun da => (toD 8 (L1 σ (PV.list (l.map PV.int)))).map fun db => PV.bool (!PyData.eqv da db)) = _
 rw [show L1 σ (PV.list (l.map PV.int)) = PV.list (l.map PV.int) from rfl,this]
 simp only [i9,n6,PyData.eqv,il]
 rfl
theorem ue {σ : Sto} {n : Nat} {f : Nat → Int} : evP .ne [.list (iL n f),.list (iL n f)] σ = some (.bool false) := by
 have : iL n f = ((List.range n).map f).map PV.int := by simp [iL]
 rw [this]; exact qE _
theorem dG {σ : Sto} {past : Int} : evP .fdiv [.int past,.int 2] σ = some (.int (past / 2)) := by
 show (if (0 : Int) < 2 ∧ (2 : Int) < 65536 then some (PV.int (past / 2)) else none) = _
 rw [if_pos ⟨by decide,by decide⟩]
theorem eP2 {C : Orc} {ρ : Rho} {σ : Sto} {p : Y0} {a b : ME} {x y z : PV} (h1 : evE C a ρ σ = some x) (h2 : evE C b ρ σ = some y) (h3 : evP p [x,y] σ = some z) : evE C (.prim p (.cons a (.cons b .nil))) ρ σ = some z := by
 simp only [zef,zsa,zsb,h1,h2,i9,n6]
 exact h3
theorem eP1 {C : Orc} {ρ : Rho} {σ : Sto} {p : Y0} {a : ME} {x z : PV} (h1 : evE C a ρ σ = some x) (h3 : evP p [x] σ = some z) : evE C (.prim p (.cons a .nil)) ρ σ = some z := by
 simp only [zef,zsa,zsb,h1,i9,n6]
 exact h3
theorem eP3 {C : Orc} {ρ : Rho} {σ : Sto} {p : Y0} {a b c : ME} {x y w z : PV} (h1 : evE C a ρ σ = some x) (h2 : evE C b ρ σ = some y) (h4 : evE C c ρ σ = some w) (h3 : evP p [x,y,w] σ = some z) : evE C (.prim p (.cons a (.cons b (.cons c .nil)))) ρ σ = some z := by
 simp only [zef,zsa,zsb,h1,h2,h4,i9,n6]
 exact h3
theorem eL {C : Orc} {ρ : Rho} {σ : Sto} {v : PV} : evE C (.lit v) ρ σ = some v := by simp only [zea]
theorem eV {C : Orc} {ρ : Rho} {σ : Sto} {i : Nat} {v : PV} (h : n7 ρ i = some v) : evE C (.var i) ρ σ = some v := by simp only [zeb,h]
theorem uO {α β γ δ : Type} (z : β → γ → δ) (f : α → β) (g : α → γ) : ∀ l : List α,List.zipWith z (l.map f) (l.map g) = l.map fun a => z (f a) (g a)
 | [] => rfl
 | a :: r => by simp [uO z f g r]
theorem pj {C : Orc} {ρ : Rho} {σ : Sto} {n : Nat} {e : ME} (h : n = 2 ∨ n = 3 ∨ n = 4 ∨ n = 5) (he : evE C e ρ σ = some (.int (n : Nat))) :
  evI C (.range (.cons (.lit (.int 1)) (.cons e .nil))) ρ σ = some ((List.range (n - 1)).map fun k => .int ((k + 1 : Nat) : Int)) := by
 rw [zic,zsb,zsb,zsa,zea,he]
 rcases h with rfl | rfl | rfl | rfl <;> rfl
noncomputable def nu : ME := .comp (.prim .sub (.cons (.prim .mul (.cons (.prim .idx (.cons (.var 19) (.cons (.var 46) .nil))) (.cons (.prim .idx (.cons (.prim .idx (.cons (.var 15) (.cons (.lit (.int 0)) .nil))) (.cons (.lit (.int 0)) .nil))) .nil))) (.cons (.prim .mul (.cons (.prim .idx (.cons (.var 19) (.cons (.lit (.int 0)) .nil))) (.cons (.prim .idx (.cons (.prim .idx (.cons (.var 15) (.cons (.lit (.int 0)) .nil))) (.cons (.var 46) .nil))) .nil))) .nil))) (.one 46) (.range (.cons (.lit (.int 1)) (.cons (.prim .len (.cons (.var 19) .nil)) .nil))) none
noncomputable def nI : ME := .comp (.ite (.prim .lt (.cons (.var 47) (.cons (.lit (.int 3)) .nil))) (.prim .fdiv (.cons (.var 16) (.cons (.lit (.int 2)) .nil))) (.lit (.int 0))) (.one 47) (.range (.cons (.lit (.int 1)) (.cons (.prim .len (.cons (.var 19) .nil)) .nil))) none
noncomputable def im : ME := .comp (.ite (.prim .gt (.cons (.var 17) (.cons (.lit (.int 0)) .nil))) (.call (.glob 84) (.cons (.prim .add (.cons (.var 48) (.cons (.var 49) .nil))) (.cons (.var 16) .nil)) none) (.tup (.cons (.var 48) (.cons (.lit (.int 0)) .nil)))) (.two 48 49) (.zip (.var 20) (.var 21)) none
noncomputable def kZ : ME := .comp (.var 51) (.two 50 51) (.val (.var 22)) none
noncomputable def nL : ME := .comp (.var 52) (.two 52 53) (.val (.var 22)) none
noncomputable def mN : List MS := [.assign (.one 20) nu,.assign (.one 21) nI,.assign (.one 22) im,.ite (.prim .ne (.cons kZ (.cons (.var 21) .nil))) [.ret (.lit (.bool false))] [],.append 18 nL]
noncomputable def nD : List MS := [.own 18 (.list .nil),.for (.one 19) (.val (.prim (.slice true false false) (.cons (.var 15) (.cons (.lit (.int 1)) .nil)))) mN,.assign (.two 16 15) (.tup (.cons (.prim .idx (.cons (.prim .idx (.cons (.var 15) (.cons (.lit (.int 0)) .nil))) (.cons (.lit (.int 0)) .nil))) (.cons (.var 18) .nil)))]
structure Rnd (C : Orc) (n : Nat) (past step : Int) (A : Nat → Nat → Int) (Z : Nat → Nat → Int) : Prop where
 hn : n = 2 ∨ n = 3 ∨ n = 4 ∨ n = 5
 small : ∀ i j,i < n → j < n → C8 (A i j) = true
 div : ∀ i k,i < n - 1 → k < n - 1 → ∀ σ,(if 0 < step then B3 C (.glob 84) [.int (A (i + 1) (k + 1) * A 0 0 - A (i + 1) 0 * A 0 (k + 1) + (if k + 1 < 3 then past / 2 else 0)),.int past] none σ else some (.tup [.int (A (i + 1) (k + 1) * A 0 0 - A (i + 1) 0 * A 0 (k + 1)),.int 0])) = some (.tup [.int (Z i k),.int (if k + 1 < 3 then past / 2 else 0)])
theorem lr {C : Orc} {n : Nat} {past step : Int} {A Z : Nat → Nat → Int} (H : Rnd C n past step A Z) {ρ : Rho} {σ : Sto} {tv : PV} {b i : Nat} {acc : List PV} (F : x8 ρ) (h15 : n7 ρ 15 = some tv) (hT : X7 σ tv (W4 n A)) (h16 : n7 ρ 16 = some (.int past)) (h17 : n7 ρ 17 = some (.int step))
  (h18 : n7 ρ 18 = some (.box b)) (hb : σ[b]? = some acc) (hac : acc.length ≤ 1000) (h19 : n7 ρ 19 = some (.list (iL n (A (i + 1))))) (hi : i < n - 1) :
  exB C mN ⟨ρ,σ⟩ = some (.next,⟨((ρ.set 20 (.list (iL (n - 1) fun k => A (i + 1) (k + 1) * A 0 0 - A (i + 1) 0 * A 0 (k + 1)))).set 21 (.list (iL (n - 1) fun k => if k + 1 < 3 then past / 2 else 0))).set 22 (.list ((List.range (n - 1)).map fun k => .tup [.int (Z i k),.int (if k + 1 < 3 then past / 2 else 0)])),σ.set b (acc ++ [.list (iL (n - 1) (Z i))])⟩) := by
 have hn5 : n ≤ 5 := by rcases H.hn with h | h | h | h <;> rw [h] <;> decide
 have hL : n - 1 ≤ a8 := Nat.le_trans (Nat.sub_le _ _) (Nat.le_trans hn5 (by decide))
 have hLn : (List.range (n - 1)).length ≤ a8 := by rw [List.length_range]; exact hL
 have hi1 := Nat.add_lt_of_lt_sub hi
 have n0 : 0 < n := Nat.lt_of_le_of_lt (Nat.zero_le _) hi1
 have hlen : ∀ ρ' : Rho,n7 ρ' 19 = some (.list (iL n (A (i + 1)))) → evE C (.prim .len (.cons (.var 19) .nil)) ρ' σ = some (.int (n : Nat)) := by
  intro ρ' h
  simp only [zeb,zef,zsa,zsb,h,i9,n6]
  rw [iy (by rw [fu]; exact Nat.le_trans hn5 (by decide)),fu]
 have hrow0 : evP .idx [tv,.int 0] σ = some (.list (iL n (A 0))) := gY (i := 0) hT (by decide) (by simp only [W4,List.getElem?_map]; rw [List.getElem?_range n0]; rfl)
 have ix : ∀ (r k : Nat),k < n → evP .idx [.list (iL n (A r)),.int (k : Nat)] σ = some (.int (A r k)) := fun r k hk => u5 (Nat.le_trans (Nat.le_of_lt hk) (Nat.le_trans hn5 (by decide))) (oU hk)
 have ix0 : ∀ (r : Nat),evP .idx [.list (iL n (A r)),.int 0] σ = some (.int (A r 0)) := fun r => ix r 0 n0
 have e1 : evE C nu ρ σ = some (.list (iL (n - 1) fun k => A (i + 1) (k + 1) * A 0 0 - A (i + 1) 0 * A 0 (k + 1))) := by
  unfold nu
  refine K8 (l := List.range (n - 1)) (f := fun k => .int (A (i + 1) (k + 1) * A 0 0 - A (i + 1) 0 * A 0 (k + 1))) (pj H.hn (hlen ρ h19)) (F.u1 (by decide) (by decide)) (fun k hk => ?_) (fun _ _ => rfl) hLn
  have hk' := Nat.add_lt_of_lt_sub (List.mem_range.mp hk)
  refine ⟨_,f5 (F.lt (by decide)),?_⟩
  have v46 : evE C (.var 46) (ρ.set 46 (.int ((k + 1 : Nat) : Int))) σ = some (.int ((k + 1 : Nat) : Int)) := eV (A9 (F.lt (by decide)))
  have v19 : evE C (.var 19) (ρ.set 46 (.int ((k + 1 : Nat) : Int))) σ = some (.list (iL n (A (i + 1)))) := eV ((gN (by decide)).trans h19)
  have v15 : evE C (.var 15) (ρ.set 46 (.int ((k + 1 : Nat) : Int))) σ = some tv := eV ((gN (by decide)).trans h15)
  exact eP2 (eP2 (eP2 v19 v46 (ix _ _ hk')) (eP2 (eP2 v15 eL hrow0) eL (ix0 _)) (mL (H.small (i + 1) (k + 1) hi1 hk') (H.small 0 0 n0 n0)))
   (eP2 (eP2 v19 eL (ix0 _)) (eP2 (eP2 v15 eL hrow0) v46 (ix _ _ hk')) (mL (H.small (i + 1) 0 hi1 n0) (H.small 0 (k + 1) n0 hk'))) U7
 generalize hρ1 : ρ.set 20 (.list (iL (n - 1) fun k => A (i + 1) (k + 1) * A 0 0 - A (i + 1) 0 * A 0 (k + 1))) = ρ1 at *
 have F1 : x8 ρ1 := hρ1 ▸ F.set (by decide)
 have g1 : ∀ j,20 ≠ j → n7 ρ1 j = n7 ρ j := fun j h => hρ1 ▸ gN h
 have g20 : n7 ρ1 20 = some (.list (iL (n - 1) fun k => A (i + 1) (k + 1) * A 0 0 - A (i + 1) 0 * A 0 (k + 1))) := hρ1 ▸ aA (F.lt (by decide))
 have e2 : evE C nI ρ1 σ = some (.list (iL (n - 1) fun k => if k + 1 < 3 then past / 2 else 0)) := by
  unfold nI
  refine K8 (l := List.range (n - 1)) (f := fun k => .int (if k + 1 < 3 then past / 2 else 0)) (pj H.hn (hlen ρ1 ((g1 19 (by decide)).trans h19))) (F1.u1 (by decide) (by decide)) (fun k hk => ?_) (fun _ _ => rfl) hLn
  refine ⟨_,f5 (F1.lt (by decide)),?_⟩
  have hf : evP .fdiv [.int past,.int 2] σ = some (.int (past / 2)) := dG
  by_cases hk3 : k + 1 < 3
  ·have t : decide (((k + 1 : Nat) : Int) < 3) = true := decide_eq_true (Int.ofNat_lt.mpr hk3)
   simp only [zea,zeb,zef,zeh,zsa,zsb,i9,n6,gN,ne_eq,not_false_eq_true,Nat.reduceEqDiff,i7,if_true,ju,A9 (F1.lt (show 47 < 55 by decide)),g1 16 (by decide),h16,hf,t,if_pos hk3]
  ·have t : decide (((k + 1 : Nat) : Int) < 3) = false := decide_eq_false fun h => hk3 (Int.ofNat_lt.mp h)
   simp only [zea,zeb,zef,zeh,zsa,zsb,i9,n6,gN,ne_eq,not_false_eq_true,Nat.reduceEqDiff,i7,u4,if_false,ju,A9 (F1.lt (show 47 < 55 by decide)),g1 16 (by decide),h16,hf,t,if_neg hk3]
 generalize hρ2 : ρ1.set 21 (.list (iL (n - 1) fun k => if k + 1 < 3 then past / 2 else 0)) = ρ2 at *
 have F2 : x8 ρ2 := hρ2 ▸ F1.set (by decide)
 have g2 : ∀ j,21 ≠ j → n7 ρ2 j = n7 ρ1 j := fun j h => hρ2 ▸ gN h
 have g21 : n7 ρ2 21 = some (.list (iL (n - 1) fun k => if k + 1 < 3 then past / 2 else 0)) := hρ2 ▸ aA (F1.lt (by decide))
 have e3 : evE C im ρ2 σ = some (.list ((List.range (n - 1)).map fun k => .tup [.int (Z i k),.int (if k + 1 < 3 then past / 2 else 0)])) := by
  unfold im
  have hz : evI C (.zip (.var 20) (.var 21)) ρ2 σ = some ((List.range (n - 1)).map fun k => .tup [.int (A (i + 1) (k + 1) * A 0 0 - A (i + 1) 0 * A 0 (k + 1)),.int (if k + 1 < 3 then past / 2 else 0)]) := by
   rw [zie,zeb,zeb,g2 20 (by decide),g20,g21]
   refine (if_pos ⟨by rw [fu,fu],by rw [fu]; exact hL⟩).trans ?_
   unfold iL
   rw [uO]
  refine K8 (l := List.range (n - 1)) (f := fun k => .tup [.int (Z i k),.int (if k + 1 < 3 then past / 2 else 0)]) hz (F2.u2 (by decide) (by decide) (by decide) (by decide)) (fun k hk => ?_) (fun _ _ => rfl) hLn
  have hk' := List.mem_range.mp hk
  have hd := H.div i k hi hk' σ
  refine ⟨_,o0 (F2.lt (by decide)) (F2.lt (by decide)),?_⟩
  have l49 : 49 < (ρ2.set 48 (PV.int (A (i + 1) (k + 1) * A 0 0 - A (i + 1) 0 * A 0 (k + 1)))).length := by rw [List.length_set]; exact F2.lt (by decide)
  by_cases hs : 0 < step
  ·rw [if_pos hs] at hd
   have t : decide (step > 0) = true := decide_eq_true hs
   simp only [zea,zeb,zec,zed,zef,zeh,zek,zsa,zsb,i9,n6,gN,ne_eq,not_false_eq_true,Nat.reduceEqDiff,i7,if_true,tZ,dk,A9 l49,A9 (F2.lt (show 48 < 55 by decide)),g2 17 (by decide),g1 17 (by decide),h17,g2 16 (by decide),g1 16 (by decide),h16,t,hd]
  ·rw [if_neg hs] at hd
   have t : decide (step > 0) = false := decide_eq_false hs
   simp only [zea,zeb,zec,zed,zef,zeh,zek,zsa,zsb,i9,n6,gN,ne_eq,not_false_eq_true,Nat.reduceEqDiff,i7,u4,if_false,tZ,dk,A9 l49,A9 (F2.lt (show 48 < 55 by decide)),g2 17 (by decide),g1 17 (by decide),h17,t]
   exact hd
 generalize hρ3 : ρ2.set 22 (.list ((List.range (n - 1)).map fun k => .tup [.int (Z i k),.int (if k + 1 < 3 then past / 2 else 0)])) = ρ3 at *
 have F3 : x8 ρ3 := hρ3 ▸ F2.set (by decide)
 have g3 : ∀ j,22 ≠ j → n7 ρ3 j = n7 ρ2 j := fun j h => hρ3 ▸ gN h
 have g22 : n7 ρ3 22 = some (.list ((List.range (n - 1)).map fun k => .tup [.int (Z i k),.int (if k + 1 < 3 then past / 2 else 0)])) := hρ3 ▸ aA (F2.lt (by decide))
 have hv22 : evI C (.val (.var 22)) ρ3 σ = some ((List.range (n - 1)).map fun k => .tup [.int (Z i k),.int (if k + 1 < 3 then past / 2 else 0)]) := mh g22 (Nat.le_trans (Nat.le_of_eq (List.length_map _)) hLn)
 have e4 : evE C kZ ρ3 σ = some (.list (iL (n - 1) fun k => if k + 1 < 3 then past / 2 else 0)) := by
  unfold kZ
  refine K8 (l := List.range (n - 1)) (f := fun k => .int (if k + 1 < 3 then past / 2 else 0)) hv22 (F3.u2 (by decide) (by decide) (by decide) (by decide)) (fun k hk => ?_) (fun _ _ => rfl) hLn
  refine ⟨_,o0 (F3.lt (by decide)) (F3.lt (by decide)),?_⟩
  have l : 51 < (ρ3.set 50 (PV.int (Z i k))).length := by rw [List.length_set]; exact F3.lt (by decide)
  simp only [zeb,A9 l]
 have e5 : evE C nL ρ3 σ = some (.list (iL (n - 1) (Z i))) := by
  unfold nL
  refine K8 (l := List.range (n - 1)) (f := fun k => .int (Z i k)) hv22 (F3.u2 (by decide) (by decide) (by decide) (by decide)) (fun k hk => ?_) (fun _ _ => rfl) hLn
  refine ⟨_,o0 (F3.lt (by decide)) (F3.lt (by decide)),?_⟩
  rw [zeb,gN (by decide),A9 (F3.lt (by decide))]
 have s1 : exS C (.assign (.one 20) nu) ⟨ρ,σ⟩ = some (.next,⟨ρ1,σ⟩) := by
  simp only [zta,e1,i9,f5 (F.lt (show 20 < 55 by decide)),n6,hρ1]
 have s2 : exS C (.assign (.one 21) nI) ⟨ρ1,σ⟩ = some (.next,⟨ρ2,σ⟩) := by
  simp only [zta,e2,i9,f5 (F1.lt (show 21 < 55 by decide)),n6,hρ2]
 have s3 : exS C (.assign (.one 22) im) ⟨ρ2,σ⟩ = some (.next,⟨ρ3,σ⟩) := by
  simp only [zta,e3,i9,f5 (F2.lt (show 22 < 55 by decide)),n6,hρ3]
 have s4 : exS C (.ite (.prim .ne (.cons kZ (.cons (.var 21) .nil))) [.ret (.lit (.bool false))] []) ⟨ρ3,σ⟩ = some (.next,⟨ρ3,σ⟩) := by
  have h21 : n7 ρ3 21 = some (.list (iL (n - 1) fun k => if k + 1 < 3 then past / 2 else 0)) := (g3 21 (by decide)).trans g21
  have hc : evE C (.prim .ne (.cons kZ (.cons (.var 21) .nil))) ρ3 σ = some (.bool false) := by
   rw [zef,zsb,e4]
   simp only [zsa,zsb,zeb,h21,i9,n6]
   exact ue
  simp only [ztk,ztn,hc,i9,i7,u4,if_false,zba,zbb]
 have s5 : exS C (.append 18 nL) ⟨ρ3,σ⟩ = some (.next,⟨ρ3,σ.set b (acc ++ [.list (iL (n - 1) (Z i))])⟩) := by
  have hbx : M5 ⟨ρ3,σ⟩ 18 = some (b,acc) := L2 ((g3 18 (by decide)).trans ((g2 18 (by decide)).trans ((g1 18 (by decide)).trans h18))) hb
  have hc : (PV.list (iL (n - 1) (Z i))).noBox = true ∧ acc.length ≤ a8 := ⟨by show i8 _ = true; exact jY,Nat.le_trans hac (by decide)⟩
  simp only [zte,hbx,e5,i9,if_pos hc]
 unfold mN
 rw [j5 s1,j5 s2,j5 s3,j5 s4,j5 s5]
 rfl
noncomputable def iV (n : Nat) (A : Nat → Nat → Int) (is : List Nat) : List PV := is.map fun i => .list (iL n (A (i + 1)))
theorem X7.app {σ : Sto} {tv : PV} {T x : List PV} (hT : X7 σ tv T) : X7 (σ ++ [x]) tv T := by
 rcases hT with h | ⟨k,h,hk⟩
 ·exact .inl h
 ·exact .inr ⟨k,h,by rw [List.getElem?_append_left (List.getElem?_eq_some_iff.mp hk).1]; exact hk⟩
theorem ku {C : Orc} {n : Nat} {past step : Int} {A Z : Nat → Nat → Int} (H : Rnd C n past step A Z) {tv : PV} {b : Nat} (hbt : ∀ k,tv = .box k → k ≠ b) : ∀ (is : List Nat) (ρ : Rho) (σ : Sto) (acc : List PV),x8 ρ → n7 ρ 15 = some tv → X7 σ tv (W4 n A) → n7 ρ 16 = some (.int past) → n7 ρ 17 = some (.int step) →
  n7 ρ 18 = some (.box b) → σ[b]? = some acc → acc.length + is.length ≤ 1000 → (∀ i ∈ is,i < n - 1) →
  ∃ ρ',G1 (.one 19) (fun s => exB C mN s) (iV n A is) ⟨ρ,σ⟩ = some (.next,⟨ρ',σ.set b (acc ++ is.map fun i => .list (iL (n - 1) (Z i)))⟩) ∧ x8 ρ' ∧ (∀ j,j ≠ 19 ∧ j ≠ 20 ∧ j ≠ 21 ∧ j ≠ 22 → n7 ρ' j = n7 ρ j) := by
 intro is
 induction is with
 | nil =>
  intro ρ σ acc F h15 hT h16 h17 h18 hb hl hi
  refine ⟨ρ,?_,F,fun _ _ => rfl⟩
  rw [List.map_nil,List.append_nil]
  have : σ.set b acc = σ := by
   refine List.ext_getElem? fun k => ?_
   by_cases hk : b = k
   ·subst hk
    have hbl := (List.getElem?_eq_some_iff.mp hb).1
    rw [List.getElem?_set_self hbl,hb]
   ·rw [List.getElem?_set_ne hk]
  rw [this]; rfl
 | cons i is ih =>
  intro ρ σ acc F h15 hT h16 h17 h18 hb hl hi
  have hbl := (List.getElem?_eq_some_iff.mp hb).1
  have F0 : x8 (ρ.set 19 (.list (iL n (A (i + 1))))) := F.set (by decide)
  have turn := lr (C := C) H (σ := σ) (b := b) (acc := acc) F0 ((gN (by decide)).trans h15) hT ((gN (by decide)).trans h16) ((gN (by decide)).trans h17) ((gN (by decide)).trans h18) hb (Nat.le_trans (Nat.le_add_right _ _) hl) (aA (F.lt (by decide))) (hi i List.mem_cons_self)
  generalize hρ1 : (((ρ.set 19 (.list (iL n (A (i + 1))))).set 20 (.list (iL (n - 1) fun k => A (i + 1) (k + 1) * A 0 0 - A (i + 1) 0 * A 0 (k + 1)))).set 21 (.list (iL (n - 1) fun k => if k + 1 < 3 then past / 2 else 0))).set 22 (.list ((List.range (n - 1)).map fun k => .tup [.int (Z i k),.int (if k + 1 < 3 then past / 2 else 0)])) = ρ1 at *
  have F1 : x8 ρ1 := by rw [← hρ1]; exact ((F0.set (by decide)).set (by decide)).set (by decide)
  have g : ∀ j,j ≠ 19 ∧ j ≠ 20 ∧ j ≠ 21 ∧ j ≠ 22 → n7 ρ1 j = n7 ρ j := fun j ⟨a1,a2,a3,a4⟩ => by
   rw [← hρ1,gN (Ne.symm a4),gN (Ne.symm a3),gN (Ne.symm a2),gN (Ne.symm a1)]
  have hT' : X7 (σ.set b (acc ++ [.list (iL (n - 1) (Z i))])) tv (W4 n A) := by
   rcases hT with h | ⟨k,h,hk⟩
   ·exact .inl h
   ·exact .inr ⟨k,h,by rw [List.getElem?_set_ne (Ne.symm (hbt k h))]; exact hk⟩
  obtain ⟨ρ',e,F',g'⟩ := ih ρ1 (σ.set b (acc ++ [.list (iL (n - 1) (Z i))])) (acc ++ [.list (iL (n - 1) (Z i))]) F1 ((g 15 (by decide)).trans h15) hT' ((g 16 (by decide)).trans h16) ((g 17 (by decide)).trans h17)
   ((g 18 (by decide)).trans h18) (by rw [List.getElem?_set_self hbl]) (by rw [List.length_append,Nat.add_assoc,Nat.add_comm [_].length]; exact hl) (fun k hk => hi k (G6 _ hk))
  refine ⟨ρ',?_,F',fun j a => (g' j a).trans (g j a)⟩
  show G1 _ _ (PV.list (iL n (A (i + 1))) :: iV n A is) _ = _
  rw [o7 (s := ⟨ρ,σ⟩) (ρ' := ρ.set 19 (.list (iL n (A (i + 1))))) (s' := ⟨ρ1,σ.set b (acc ++ [.list (iL (n - 1) (Z i))])⟩) (f5 (F.lt (by decide))) turn,e,List.set_set]
  simp only [List.map_cons,List.append_assoc,List.singleton_append]
theorem nV {n : Nat} {A : Nat → Nat → Int} (h : n = 2 ∨ n = 3 ∨ n = 4 ∨ n = 5) : (W4 n A).drop 1 = iV n A (List.range (n - 1)) := by
 rcases h with rfl | rfl | rfl | rfl <;> rfl
theorem mE {C : Orc} {n : Nat} {past step : Int} {A Z : Nat → Nat → Int} (H : Rnd C n past step A Z) {ρ : Rho} {σ : Sto} {tv : PV} (F : x8 ρ) (h15 : n7 ρ 15 = some tv) (hT : X7 σ tv (W4 n A)) (h16 : n7 ρ 16 = some (.int past)) (h17 : n7 ρ 17 = some (.int step)) :
  ∃ ρ',exB C nD ⟨ρ,σ⟩ = some (.next,⟨ρ',σ ++ [W4 (n - 1) Z]⟩) ∧ x8 ρ' ∧ n7 ρ' 14 = n7 ρ 14 ∧ n7 ρ' 15 = some (.box σ.length) ∧ n7 ρ' 16 = some (.int (A 0 0)) := by
 have hn5 : n ≤ 5 ∧ 0 < n := by rcases H.hn with h | h | h | h <;> rw [h] <;> decide
 have hL : n ≤ a8 := Nat.le_trans hn5.1 (by decide)
 have F1 : x8 (ρ.set 18 (.box σ.length)) := F.set (by decide)
 have g1 : ∀ j,18 ≠ j → n7 (ρ.set 18 (.box σ.length)) j = n7 ρ j := fun j h => gN h
 have s1 : exS C (.own 18 (.list .nil)) ⟨ρ,σ⟩ = some (.next,⟨ρ.set 18 (.box σ.length),σ ++ [[]]⟩) := by
  have e : evE C (.list .nil) ρ σ = some (.list []) := rfl
  simp only [ztb,e,i9]
  rw [if_pos (show i8 [] = true from rfl),T8 (F.lt (by decide))]
  rfl
 have hT1 : X7 (σ ++ [[]]) tv (W4 n A) := hT.app
 have hbt : ∀ k,tv = .box k → k ≠ σ.length := by
  rintro k rfl
  rcases hT with h | ⟨k',h,hk⟩
  ·cases h
  ·cases h
   exact Nat.ne_of_lt (List.getElem?_eq_some_iff.mp hk).1
 obtain ⟨ρ2,e2,F2,g2⟩ := ku H hbt (List.range (n - 1)) (ρ.set 18 (.box σ.length)) (σ ++ [[]]) [] F1 ((g1 15 (by decide)).trans h15) hT1 ((g1 16 (by decide)).trans h16) ((g1 17 (by decide)).trans h17) (lN (F.lt (by decide))) (by simp) (by rw [List.length_range,A5,Nat.zero_add]; exact Nat.le_trans (Nat.sub_le _ _) (Nat.le_trans hn5.1 (by decide))) (fun i hi => List.mem_range.mp hi)
 have hσ : (σ ++ [[]]).set σ.length ([] ++ (List.range (n - 1)).map fun i => PV.list (iL (n - 1) (Z i))) = σ ++ [W4 (n - 1) Z] := by
  rw [List.set_append_right _ _ (Nat.le_refl _),Nat.sub_self]
  rfl
 rw [hσ] at e2
 have s2 : exS C (.for (.one 19) (.val (.prim (.slice true false false) (.cons (.var 15) (.cons (.lit (.int 1)) .nil)))) mN) ⟨ρ.set 18 (.box σ.length),σ ++ [[]]⟩ = some (.next,⟨ρ2,σ ++ [W4 (n - 1) Z]⟩) := by
  have hi : evI C (.val (.prim (.slice true false false) (.cons (.var 15) (.cons (.lit (.int 1)) .nil)))) (ρ.set 18 (.box σ.length)) (σ ++ [[]]) = some (iV n A (List.range (n - 1))) := by
   rw [← nV H.hn]
   exact mh (eP2 (eV ((g1 15 (by decide)).trans h15)) eL (jt hT1 (by rw [W4,List.length_map,List.length_range]; exact hL) qt)) (by rw [List.length_drop,W4,List.length_map,List.length_range]; exact Nat.le_trans (Nat.sub_le _ _) hL)
  rw [ztm,hi]
  simp only [i9]
  rw [if_pos ⟨j0 (fun i => by show i8 _ = true; exact jY) _,rfl⟩]
  exact e2
 have hT2 : X7 (σ ++ [W4 (n - 1) Z]) tv (W4 n A) := hT.app
 have h15' : n7 ρ2 15 = some tv := (g2 15 (by decide)).trans ((g1 15 (by decide)).trans h15)
 have h18' : n7 ρ2 18 = some (.box σ.length) := (g2 18 (by decide)).trans (lN (F.lt (by decide)))
 have s3 : exS C (.assign (.two 16 15) (.tup (.cons (.prim .idx (.cons (.prim .idx (.cons (.var 15) (.cons (.lit (.int 0)) .nil))) (.cons (.lit (.int 0)) .nil))) (.cons (.var 18) .nil)))) ⟨ρ2,σ ++ [W4 (n - 1) Z]⟩ = some (.next,⟨(ρ2.set 16 (.int (A 0 0))).set 15 (.box σ.length),σ ++ [W4 (n - 1) Z]⟩) := by
  have hrow0 : evP .idx [tv,.int 0] (σ ++ [W4 (n - 1) Z]) = some (.list (iL n (A 0))) := gY (i := 0) hT2 (by decide) (by simp only [W4,List.getElem?_map]; rw [List.getElem?_range hn5.2]; rfl)
  have h00 : evP .idx [.list (iL n (A 0)),.int 0] (σ ++ [W4 (n - 1) Z]) = some (.int (A 0 0)) := u5 (i := 0) (by decide) (oU hn5.2)
  have e := eP2 (C := C) (ρ := ρ2) (eP2 (eV h15') eL hrow0) eL h00
  have e18 : evE C (.var 18) ρ2 (σ ++ [W4 (n - 1) Z]) = some (.box σ.length) := eV h18'
  have et : evE C (.tup (.cons (.prim .idx (.cons (.prim .idx (.cons (.var 15) (.cons (.lit (.int 0)) .nil))) (.cons (.lit (.int 0)) .nil))) (.cons (.var 18) .nil))) ρ2 (σ ++ [W4 (n - 1) Z]) = some (.tup [.int (A 0 0),.box σ.length]) := by
   rw [zed,zsb,e,zsb,e18,zsa]; rfl
  rw [zta,et]
  simp only [i9]
  rw [o0 (F2.lt (by decide)) (F2.lt (by decide))]
  rfl
 refine ⟨(ρ2.set 16 (.int (A 0 0))).set 15 (.box σ.length),?_,(F2.set (by decide)).set (by decide),?_,?_,?_⟩
 ·unfold nD
  rw [j5 s1,j5 s2,j5 s3]
  rfl
 ·rw [gN (by decide),gN (by decide),g2 14 (by decide),g1 14 (by decide)]
 ·exact lN (by rw [List.length_set]; exact F2.lt (by decide))
 ·rw [gN (by decide)]; exact A9 (F2.lt (by decide))
noncomputable def gm : List Nat → Nat
 | [] => 0
 | p :: r => gm r + 2 ^ p
noncomputable def kR (π : List Nat) : Bool := π.length == 5 && π.all (· < 5) && (List.range 4).all (fun s => (List.range (4 - s)).all fun i => (List.range (4 - s)).all fun j => okT (gm (π.take s).reverse) (π.getD s 0) (π.getD (s + 1 + i) 0) (π.getD (s + 1 + j) 0)) && gm π.reverse == 31 && !(gm (π.take 4).reverse).testBit (π.getD 4 0)
theorem dD {q : Int} (hq2 : q.natAbs < 2 ^ 722) {x : Int} {k : Nat} (h : x.natAbs ≤ q.natAbs ^ k) (hk : 0 < k) : x.natAbs < 2 ^ (722 * k) := by
 refine Nat.lt_of_le_of_lt h ?_
 rw [Nat.pow_mul]
 exact Nat.pow_lt_pow_left hq2 (Nat.ne_of_gt hk)
theorem mA {q D z r : Int} (hq : 3 ≤ q.natAbs) (hq2 : q.natAbs < 2 ^ 722) (hD1 : q.natAbs ≤ D.natAbs) (hD2 : D.natAbs ≤ q.natAbs ^ 20) (hz : z.natAbs ≤ q.natAbs ^ 20) (hr : r = D / 2 ∨ r = 0) (M : Nat) (σ : Sto) :
  B3 (orc (M + 12)) (.glob 84) [.int (D * z + r),.int D] none σ = some (.tup [.int z,.int r]) := by
 have h3D := Nat.le_trans hq hD1
 have hDp : (0 : Int) < (D.natAbs : Int) := Int.ofNat_lt.mpr (Nat.lt_of_lt_of_le (by decide) h3D)
 have hD0 : D ≠ 0 := fun h => by rw [h] at h3D; exact absurd h3D (by decide)
 refine u7 rfl rfl rfl rfl (uq (n := intBits (D.natAbs : Int)) rfl ?_ ?_ ?_ ?_ ?_ ?_ M [])
 ·rcases hr with rfl | rfl
  ·exact dv3 hD0 fun h => by rw [h] at h3D; exact absurd h3D (by decide)
  ·exact (Int.lt_or_gt_of_ne hD0).elim (fun h => .inr ⟨Int.le_refl _,h⟩) fun h => .inl ⟨Int.le_refl _,h⟩
 ·exact (X4 hDp).2.2
 ·exact Nat.le_trans (H3.mpr (dD hq2 hD2 (by decide))) (by decide)
 ·have h := (X4 hDp).1
  rw [hF] at h
  exact Int.ofNat_le.mp h
 ·exact H3.mp (Nat.le_refl _)
 ·have hb : D.natAbs < 2 ^ intBits (D.natAbs : Int) := H3.mp (Nat.le_refl _)
  generalize intBits (D.natAbs : Int) = n at *
  have h1 : (D * z + r).natAbs ≤ D.natAbs * z.natAbs + D.natAbs := by
   refine Nat.le_trans (Int.natAbs_add_le _ _) ?_
   rw [Int.natAbs_mul]
   refine Nat.add_le_add_left ?_ _
   rcases hr with rfl | rfl
   ·exact dv2
   ·exact Nat.zero_le _
  have h2 : z.natAbs ≤ (2 ^ n) ^ 20 := Nat.le_trans hz (Nat.pow_le_pow_left (Nat.le_of_lt (Nat.lt_of_le_of_lt hD1 hb)) 20)
  have h3 : 0 < 2 ^ n := Nat.pow_pos (by decide)
  have h4 : (2 ^ n) ^ 20 + 1 ≤ (2 ^ n) ^ 21 := by
   refine Nat.le_trans (Nat.add_le_add_left (Nat.pow_pos h3 : 0 < (2 ^ n) ^ 20) _) ?_
   rw [← Nat.mul_two]
   exact Nat.mul_le_mul_left _ (Nat.le_trans (by decide) (Nat.le_of_lt (Nat.lt_of_le_of_lt h3D hb)))
  calc (D * z + r).natAbs ≤ D.natAbs * (z.natAbs + 1) := by rw [Nat.mul_add,Nat.mul_one]; exact h1
   _ ≤ D.natAbs * (2 ^ n) ^ 21 := Nat.mul_le_mul_left _ (Nat.le_trans (Nat.add_le_add_right h2 1) h4)
   _ < 2 ^ n * (2 ^ n) ^ 21 := Nat.mul_lt_mul_of_pos_right hb (Nat.pow_pos h3)
   _ = 2 ^ (22 * n) := by rw [← Nat.pow_succ',← Nat.pow_mul,Nat.mul_comm]
   _ ≤ 2 ^ (60 * n) := Nat.pow_le_pow_right (by decide) (Nat.mul_le_mul_right n (by decide))
noncomputable def mk (π : List Nat) (s : Nat) : Nat := gm (π.take s).reverse
noncomputable def Aq (q : Int) (π : List Nat) (s i j : Nat) : Int := ev q (P (mk π s) (π.getD (s + i) 0) (π.getD (s + j) 0))
structure ed (π : List Nat) : Prop where
 ok : ∀ s,s < 4 → ∀ i,i < 4 - s → ∀ j,j < 4 - s → okT (mk π s) (π.getD s 0) (π.getD (s + 1 + i) 0) (π.getD (s + 1 + j) 0) = true
 nxt : ∀ s,s < 4 → mk π (s + 1) = mk π s + 2 ^ π.getD s 0
 lt : ∀ k,π.getD k 0 < 5
 last : mk π 4 + 2 ^ π.getD 4 0 = 31 ∧ (mk π 4).testBit (π.getD 4 0) = false
 zero : mk π 0 = 0
theorem lt4 : ∀ s,s < 4 → (s = 0 ∨ s = 1 ∨ s = 2 ∨ s = 3) := by decide
theorem pA {π : List Nat} (h : kR π = true) : ed π := by
 simp only [kR,z5,beq_iff_eq,Bool.not_eq_true'] at h
 obtain ⟨⟨⟨⟨h1,h2⟩,h3⟩,h4⟩,h5⟩ := h
 obtain ⟨a,b,c,d,e,rfl⟩ := uC h1
 ·refine ⟨fun s hs i hi j hj => ?_,fun s hs => ?_,fun k => ?_,⟨?_,h5⟩,rfl⟩
  ·exact z4.mp (z4.mp (z4.mp h3 s (List.mem_range.mpr hs)) i (List.mem_range.mpr hi)) j (List.mem_range.mpr hj)
  ·rcases lt4 s hs with rfl | rfl | rfl | rfl <;> rfl
  ·simp only [List.all_cons,List.all_nil,Bool.and_true,z5,decide_eq_true_eq] at h2
   rcases k with _ | _ | _ | _ | _ | k
   ·exact h2.1
   ·exact h2.2.1
   ·exact h2.2.2.1
   ·exact h2.2.2.2.1
   ·exact h2.2.2.2.2
   ·exact (by decide : 0 < 5)
  ·rw [← h4]; rfl
theorem qG {m p i j : Nat} (h : okT m p i j = true) : m < 32 ∧ m.testBit p = false := by
 simp only [okT,z5,decide_eq_true_eq,Bool.not_eq_true'] at h
 exact ⟨h.2,h.1.1.1.1.1.1.1.1⟩
theorem mk4 {π : List Nat} (H : ed π) : mk π 4 < 32 := Nat.lt_of_le_of_lt (Nat.le_add_right _ (2 ^ π.getD 4 0)) (by rw [H.last.1]; decide)
theorem rn {q : Int} (hq : 3 ≤ q.natAbs) (hq2 : q.natAbs < 2 ^ 722) {π : List Nat} (H : ed π) {s : Nat} (hs : s < 4) :
  Rnd (orc 39) (5 - s) (ev q (Dm (mk π s))) (s : Nat) (Aq q π s) (Aq q π (s + 1)) := by
 have h0 := Nat.sub_pos_of_lt hs
 have h00 := qG (H.ok s hs 0 h0 0 h0)
 refine ⟨by rcases lt4 s hs with rfl | rfl | rfl | rfl <;> decide,fun i j hi hj => ?_,fun i k hi hk σ => ?_⟩
 ·exact I2 (k := 722 * 20) (dD hq2 (uf hq h00.1 (H.lt _) (H.lt _)) (by decide)) (by decide)
 ·have e5 : 5 - s - 1 = 4 - s := Nat.sub_right_comm 5 s 1
  rw [e5] at hi hk
  have hok := H.ok s hs i hi k hk
  have hid := tR hok q
  have e1 : Aq q π s (i + 1) (k + 1) * Aq q π s 0 0 - Aq q π s (i + 1) 0 * Aq q π s 0 (k + 1) = ev q (Dm (mk π s)) * Aq q π (s + 1) i k := by
   unfold Aq
   rw [show s + (i + 1) = s + 1 + i from (Nat.add_right_comm s 1 i).symm,show s + (k + 1) = s + 1 + k from (Nat.add_right_comm s 1 k).symm,show s + 0 = s from rfl,H.nxt s hs]
   exact hid
  rw [e1]
  by_cases h0 : s = 0
  ·subst h0
   rw [if_neg (by simp),H.zero,D0,Int.one_mul]
   have : (if k + 1 < 3 then (1 : Int) / 2 else 0) = 0 := by split <;> rfl
   rw [this]
  ·have hs0 := Nat.pos_of_ne_zero h0
   rw [if_pos (show (0 : Int) < (s : Int) from Int.ofNat_lt.mpr hs0)]
   have hm0 : 0 < mk π s := by
    obtain ⟨s',rfl⟩ : ∃ s',s = s' + 1 := ⟨_,(Nat.succ_pred_eq_of_pos hs0).symm⟩
    rw [H.nxt s' (Nat.lt_of_succ_lt hs)]
    exact Nat.lt_of_lt_of_le (Nat.pow_pos (by decide)) (Nat.le_add_left _ _)
   refine mA (M := 27) hq hq2 (uY hq hm0 h00.1) (uN hq h00.1) ?_ ?_ σ
   ·unfold Aq
    by_cases h3 : s + 1 < 4
    ·have h4 := Nat.sub_pos_of_lt h3
     exact uf hq (qG (H.ok (s + 1) h3 0 h4 0 h4)).1 (H.lt _) (H.lt _)
    ·rw [show s + 1 = 4 from Nat.le_antisymm hs (Nat.le_of_not_lt h3)]
     exact uf hq (mk4 H) (H.lt _) (H.lt _)
   ·split
    ·exact .inl rfl
    ·exact .inr rfl
theorem sV {q : Int} (hq : 3 ≤ q.natAbs) (hq2 : q.natAbs < 2 ^ 722) {π : List Nat} (H : ed π) : ∀ (k : Nat) (s : Nat) (ρ : Rho) (σ : Sto) (tv : PV),s + k = 4 → x8 ρ → n7 ρ 15 = some tv → X7 σ tv (W4 (5 - s) (Aq q π s)) → n7 ρ 16 = some (.int (ev q (Dm (mk π s)))) →
  ∃ ρ' σ' tv',G1 (.one 17) (fun s => exB (orc 39) nD s) ((List.range' s k).map fun i => .int (i : Nat)) ⟨ρ,σ⟩ = some (.next,⟨ρ',σ'⟩) ∧ x8 ρ' ∧ n7 ρ' 14 = n7 ρ 14 ∧ n7 ρ' 15 = some tv' ∧ X7 σ' tv' (W4 1 (Aq q π 4)) := by
 intro k
 induction k with
 | zero =>
  intro s ρ σ tv hs F h15 hT h16
  obtain rfl : s = 4 := hs
  exact ⟨ρ,σ,tv,rfl,F,rfl,h15,hT⟩
 | succ k ih =>
  intro s ρ σ tv hs F h15 hT h16
  have F0 : x8 (ρ.set 17 (.int (s : Nat))) := F.set (by decide)
  have hs4 : s < 4 := Nat.lt_of_lt_of_eq (Nat.lt_add_of_pos_right (Nat.succ_pos k)) hs
  have h0 := Nat.sub_pos_of_lt hs4
  obtain ⟨ρ1,e1,F1,g14,g15,g16⟩ := mE (rn hq hq2 H hs4) F0 ((gN (by decide)).trans h15) hT ((gN (by decide)).trans h16) (A9 (F.lt (by decide)))
  have hd : Aq q π s 0 0 = ev q (Dm (mk π (s + 1))) := by
   have hk := qG (H.ok s hs4 0 h0 0 h0)
   unfold Aq
   rw [H.nxt s hs4,← lC hk.1 (H.lt s) hk.2]
   rfl
  rw [hd] at g16
  have hT1 : X7 (σ ++ [W4 (5 - s - 1) (Aq q π (s + 1))]) (.box σ.length) (W4 (5 - (s + 1)) (Aq q π (s + 1))) := .inr ⟨σ.length,rfl,by
   rw [show 5 - s - 1 = 5 - (s + 1) from rfl]; simp⟩
  obtain ⟨ρ',σ',tv',e,F',g14',g15',hT'⟩ := ih (s + 1) ρ1 (σ ++ [W4 (5 - s - 1) (Aq q π (s + 1))]) (.box σ.length) (by rw [Nat.add_right_comm]; exact hs) F1 g15 hT1 g16
  refine ⟨ρ',σ',tv',?_,F',g14'.trans (g14.trans (gN (by decide))),g15',hT'⟩
  rw [List.range'_succ,List.map_cons,o7 (s := ⟨ρ,σ⟩) (ρ' := ρ.set 17 (.int (s : Nat))) (s' := ⟨ρ1,σ ++ [W4 (5 - s - 1) (Aq q π (s + 1))]⟩) (f5 (F.lt (by decide))) e1]
  exact e
theorem jP {q : Int} {π : List Nat} (H : ed π) : Aq q π 4 0 0 = q ^ 5 * (q * q - 1) ^ 4 * (q * q - 2) := by
 rw [← D31]
 unfold Aq
 have h := H.last
 rw [← h.1]
 rw [← lC (mk4 H) (H.lt 4) h.2]
noncomputable def ft : List MS := [.assign (.one 5) (.prim .fdiv (.cons (.prim .add (.cons (.var 2) (.cons (.var 3) .nil))) (.cons (.lit (.int 2)) .nil))),.ite (.prim .lt (.cons (.call (.var 4) (.cons (.prim .idx (.cons (.var 0) (.cons (.var 5) .nil))) .nil) none) (.cons (.var 1) .nil))) [.assign (.one 2) (.prim .add (.cons (.var 5) (.cons (.lit (.int 1)) .nil)))] [.assign (.one 3) (.var 5)]]
noncomputable def l17 : List PV := [.int 1,.int 2,.int 3,.int 4,.int 5,.int 6,.int 7]
theorem P1 {C : Orc} {key v5 : PV} {σ : Sto} {lo hi mid p kv : Int} (hkey : n7 [.list l17,.int 1,.int lo,.int hi,key,.int mid] 4 = some key) (hm : evP .fdiv [.int (lo + hi),.int 2] σ = some (.int mid)) (hx : evP .idx [.list l17,.int mid] σ = some (.int p)) (hk : B3 C key [.int p] none σ = some (.int kv)) :
  exB C ft ⟨[.list l17,.int 1,.int lo,.int hi,key,v5],σ⟩ = some (.next,⟨if kv < 1 then [.list l17,.int 1,.int (mid + 1),.int hi,key,.int mid] else [.list l17,.int 1,.int lo,.int mid,key,.int mid],σ⟩) := by
 have s1 : exS C (.assign (.one 5) (.prim .fdiv (.cons (.prim .add (.cons (.var 2) (.cons (.var 3) .nil))) (.cons (.lit (.int 2)) .nil)))) ⟨[.list l17,.int 1,.int lo,.int hi,key,v5],σ⟩ = some (.next,⟨[.list l17,.int 1,.int lo,.int hi,key,.int mid],σ⟩) := by
  rw [zta,eP2 (eP2 (eV rfl) (eV rfl) dk) eL hm]
  rfl
 have hc : evE C (.call (.var 4) (.cons (.prim .idx (.cons (.var 0) (.cons (.var 5) .nil))) .nil) none) [.list l17,.int 1,.int lo,.int hi,key,.int mid] σ = some (.int kv) := by
  have e1 : evE C (.prim .idx (.cons (.var 0) (.cons (.var 5) .nil))) [.list l17,.int 1,.int lo,.int hi,key,.int mid] σ = some (.int p) := eP2 (eV rfl) (eV rfl) hx
  rw [zek,zeb,hkey,zsb,e1,zsa]
  exact hk
 have hl : evE C (.prim .lt (.cons (.call (.var 4) (.cons (.prim .idx (.cons (.var 0) (.cons (.var 5) .nil))) .nil) none) (.cons (.var 1) .nil))) [.list l17,.int 1,.int lo,.int hi,key,.int mid] σ = some (.bool (decide (kv < 1))) := eP2 hc (eV rfl) ju
 unfold ft
 rw [j5 s1]
 by_cases h : kv < 1
 ·rw [decide_eq_true h] at hl
  rw [if_pos h]
  have s2 : exS C (.ite (.prim .lt (.cons (.call (.var 4) (.cons (.prim .idx (.cons (.var 0) (.cons (.var 5) .nil))) .nil) none) (.cons (.var 1) .nil))) [.assign (.one 2) (.prim .add (.cons (.var 5) (.cons (.lit (.int 1)) .nil)))] [.assign (.one 3) (.var 5)]) ⟨[.list l17,.int 1,.int lo,.int hi,key,.int mid],σ⟩ = some (.next,⟨[.list l17,.int 1,.int (mid + 1),.int hi,key,.int mid],σ⟩) := by
   rw [ztk,hl]
   rfl
  rw [j5 s2]; rfl
 ·rw [decide_eq_false h] at hl
  rw [if_neg h]
  have s2 : exS C (.ite (.prim .lt (.cons (.call (.var 4) (.cons (.prim .idx (.cons (.var 0) (.cons (.var 5) .nil))) .nil) none) (.cons (.var 1) .nil))) [.assign (.one 2) (.prim .add (.cons (.var 5) (.cons (.lit (.int 1)) .nil)))] [.assign (.one 3) (.var 5)]) ⟨[.list l17,.int 1,.int lo,.int hi,key,.int mid],σ⟩ = some (.next,⟨[.list l17,.int 1,.int lo,.int mid,key,.int mid],σ⟩) := by
   rw [ztk,hl]
   rfl
  rw [j5 s2]; rfl
theorem qM {σ : Sto} {a b : Int} (h : 0 ≤ b ∧ (intBits a : Int) * b ≤ 1000000) : evP .pow [.int a,.int b] σ = some (.int (a ^ b.toNat)) := if_pos h
theorem fi {x : Int} {k : Nat} (h : x.natAbs < 2 ^ k) : intBits x ≤ k := by
 have : intBits x = intBits (x.natAbs : Int) := by unfold intBits; simp
 rw [this]
 exact H3.mpr h
theorem rE {b : Int} (hb : b ≠ 0) (a : Int) : ∃ m r,a = b * m + r ∧ ((0 ≤ r ∧ r < b) ∨ (r ≤ 0 ∧ b < r)) ∧ (r = 0 ↔ b ∣ a) := by
 rcases Int.lt_or_gt_of_ne hb with h | h
 ·have hp : 0 < -b := Int.neg_pos_of_neg h
  have e := Int.mul_ediv_add_emod (-a) (-b)
  have n1 := Int.emod_nonneg (-a) (Int.ne_of_gt hp)
  have n2 := Int.emod_lt_of_pos (-a) hp
  have d : -a % -b = 0 ↔ b ∣ a := ⟨fun h => Int.neg_dvd.mp (Int.dvd_neg.mp (Int.dvd_of_emod_eq_zero h)),fun h => Int.emod_eq_zero_of_dvd (Int.neg_dvd.mpr (Int.dvd_neg.mpr h))⟩
  generalize -a % -b = y at *
  generalize -a / -b = x at *
  refine ⟨x,-y,by rw [Int.neg_mul] at e; lia,.inr ⟨Int.neg_nonpos_of_nonneg n1,Int.lt_neg_of_lt_neg n2⟩,by rw [← d]; exact Int.neg_eq_zero⟩
 ·refine ⟨a / b,a % b,(Int.mul_ediv_add_emod a b).symm,.inl ⟨Int.emod_nonneg _ hb,Int.emod_lt_of_pos _ h⟩,⟨Int.dvd_of_emod_eq_zero,Int.emod_eq_zero_of_dvd⟩⟩
theorem rq {q whole base : Int} {p : Nat} (hq : 3 ≤ q.natAbs) (hq2 : q.natAbs < 2 ^ 722) (hw : whole.natAbs ≤ q.natAbs ^ 20) (hb1 : q.natAbs ≤ base.natAbs) (hb2 : base.natAbs ≤ q.natAbs ^ 2) (hp : 1 ≤ p ∧ p ≤ 7) (M : Nat) (σ : Sto) :
  B3 (orc (M + 13)) (.clo 2 [.int whole,.int base]) [.int (p : Nat)] none σ = some (.int (if base ^ p ∣ whole then 0 else 1)) := by
 have hbe : (base ^ p).natAbs = base.natAbs ^ p := Int.natAbs_pow _ _
 have hq0 : 0 < q.natAbs := Nat.lt_of_lt_of_le (by decide) hq
 have hbp : 0 < base.natAbs := Nat.lt_of_lt_of_le hq0 hb1
 have hBp : 0 < (base ^ p).natAbs := by rw [hbe]; exact Nat.pow_pos hbp
 have hb0 : base ^ p ≠ 0 := fun h => Nat.ne_of_gt hBp (by rw [h]; rfl)
 have hBi : (0 : Int) < ((base ^ p).natAbs : Int) := Int.ofNat_lt.mpr hBp
 obtain ⟨m,r,e1,e2,e3⟩ := rE hb0 whole
 have hlow : q.natAbs ≤ (base ^ p).natAbs := by
  rw [hbe]
  calc q.natAbs ≤ base.natAbs := hb1
   _ = base.natAbs ^ 1 := (Nat.pow_one _).symm
   _ ≤ base.natAbs ^ p := Nat.pow_le_pow_right hbp hp.1
 have hup : (base ^ p).natAbs ≤ q.natAbs ^ 14 := by
  rw [hbe]
  calc base.natAbs ^ p ≤ (q.natAbs ^ 2) ^ p := Nat.pow_le_pow_left hb2 p
   _ = q.natAbs ^ (2 * p) := (Nat.pow_mul _ _ _).symm
   _ ≤ _ := Nat.pow_le_pow_right hq0 (Nat.mul_le_mul_left 2 hp.2)
 have hbits : intBits ((base ^ p).natAbs : Int) ≤ 722 * 14 := H3.mpr (dD hq2 hup (by decide))
 have c0 : orc (M + 12) (.glob 84) [.int whole,.int (base ^ p)] none [] = some (.tup [.int m,.int r],[]) := by
  refine uq (n := intBits ((base ^ p).natAbs : Int)) e1 e2 (X4 hBi).2.2 (Nat.le_trans hbits (by decide)) ?_ (H3.mp (Nat.le_refl _)) ?_ M []
  ·have h := (X4 hBi).1
   rw [hF] at h
   exact Int.ofNat_le.mp h
  ·have hb : (base ^ p).natAbs < 2 ^ intBits ((base ^ p).natAbs : Int) := H3.mp (Nat.le_refl _)
   generalize intBits ((base ^ p).natAbs : Int) = n at *
   calc whole.natAbs ≤ q.natAbs ^ 20 := hw
    _ < (2 ^ n) ^ 20 := Nat.pow_lt_pow_left (Nat.lt_of_le_of_lt hlow hb) (by decide)
    _ = 2 ^ (20 * n) := by rw [← Nat.pow_mul,Nat.mul_comm]
    _ ≤ _ := Nat.pow_le_pow_right (by decide) (Nat.mul_le_mul_right n (by decide))
 have hpow : evP .pow [.int base,.int (p : Nat)] [] = some (.int (base ^ p)) := by
  have hbb : intBits base ≤ 722 * 2 := fi (dD hq2 hb2 (by decide))
  have h1 : intBits base * p ≤ 722 * 2 * 7 := Nat.mul_le_mul hbb hp.2
  have h2 : (intBits base : Int) * (p : Int) = ((intBits base * p : Nat) : Int) := rfl
  rw [qM ⟨Int.natCast_nonneg p,by rw [h2]; exact Int.ofNat_le.mpr (Nat.le_trans h1 (by decide))⟩,Int.toNat_natCast]
 refine u7 (σ' := []) rfl rfl rfl rfl ?_
 rw [cO (fd := z0) (as := [.int (p : Nat)]) rfl rfl]
 have hst : FD.start z0 [.int (p : Nat)] .none [.int whole,.int base] (.clo 2 [.int whole,.int base]) = [.int (p : Nat),.int whole,.int base] := rfl
 rw [hst]
 have hcall : evE (orc (M + 12)) (.call (.glob 84) (.cons (.var 1) (.cons (.prim .pow (.cons (.var 2) (.cons (.var 0) .nil))) .nil)) none) [.int (p : Nat),.int whole,.int base] [] = some (.tup [.int m,.int r]) := by
  have e : evE (orc (M + 12)) (.prim .pow (.cons (.var 2) (.cons (.var 0) .nil))) [.int (p : Nat),.int whole,.int base] [] = some (.int (base ^ p)) := eP2 (eV rfl) (eV rfl) hpow
  rw [zek,zec,zsb,zsb,e,zsa]
  exact u7 (σ := []) (σ' := []) rfl rfl rfl rfl c0
 have hite : evE (orc (M + 12)) (.ite (.prim .eq (.cons (.prim .idx (.cons (.call (.glob 84) (.cons (.var 1) (.cons (.prim .pow (.cons (.var 2) (.cons (.var 0) .nil))) .nil)) none) (.cons (.lit (.int 1)) .nil))) (.cons (.lit (.int 0)) .nil))) (.lit (.int 0)) (.lit (.int 1))) [.int (p : Nat),.int whole,.int base] [] = some (.int (if base ^ p ∣ whole then 0 else 1)) := by
  have hc : evE (orc (M + 12)) (.prim .eq (.cons (.prim .idx (.cons (.call (.glob 84) (.cons (.var 1) (.cons (.prim .pow (.cons (.var 2) (.cons (.var 0) .nil))) .nil)) none) (.cons (.lit (.int 1)) .nil))) (.cons (.lit (.int 0)) .nil))) [.int (p : Nat),.int whole,.int base] [] = some (.bool (r == 0)) := eP2 (eP2 hcall eL sT) eL pi
  rw [zeh,hc]
  by_cases h : base ^ p ∣ whole
  ·rw [e3.mpr h,if_pos h]; rfl
  ·have : r ≠ 0 := fun h0 => h (e3.mp h0)
   rw [if_neg h,beq_eq_false_iff_ne.mpr this]; rfl
 show (exB (orc (M + 12)) [.ret _] _).map _ = _
 rw [zbb,ztn,hite]
 rfl
theorem f7 {σ : Sto} : evP .fdiv [.int (0 + 7),.int 2] σ = some (.int 3) := dG
theorem f11 {σ : Sto} : evP .fdiv [.int (4 + 7),.int 2] σ = some (.int 5) := dG
theorem f9 {σ : Sto} : evP .fdiv [.int (4 + 5),.int 2] σ = some (.int 4) := dG
theorem f3 {σ : Sto} : evP .fdiv [.int (0 + 3),.int 2] σ = some (.int 1) := dG
theorem f1 {σ : Sto} : evP .fdiv [.int (0 + 1),.int 2] σ = some (.int 0) := dG
theorem x17 {σ : Sto} (k : Nat) (hk : k < 7) : evP .idx [.list l17,.int (k : Nat)] σ = some (.int ((k + 1 : Nat) : Int)) := by
 refine u5 (Nat.le_trans (Nat.le_of_lt hk) (by decide)) ?_
 rcases (by decide : ∀ k,k < 7 → (k = 0 ∨ k = 1 ∨ k = 2 ∨ k = 3 ∨ k = 4 ∨ k = 5 ∨ k = 6)) k hk with rfl | rfl | rfl | rfl | rfl | rfl | rfl <;> rfl
theorem qh {C : Orc} {key : PV} {σ : Sto} {e : Nat} (hkey : ∀ lo hi v,n7 [.list l17,.int 1,.int lo,.int hi,key,v] 4 = some key) (he : e = 5 ∨ e = 4 ∨ e = 1) (hk : ∀ p : Nat,1 ≤ p → p ≤ 7 → B3 C key [.int (p : Nat)] none σ = some (.int (if p ≤ e then 0 else 1))) :
  ∃ hi v,exS C (.wh (.prim .lt (.cons (.var 2) (.cons (.var 3) .nil))) ft) ⟨[.list l17,.int 1,.int 0,.int 7,key,.unb],σ⟩ = some (.next,⟨[.list l17,.int 1,.int (e : Nat),hi,key,v],σ⟩) := by
 have test : ∀ (lo hi : Int) (v : PV),((evE C (.prim .lt (.cons (.var 2) (.cons (.var 3) .nil))) [.list l17,.int 1,.int lo,.int hi,key,v] σ).bind (I5 σ)) = some (decide (lo < hi)) := fun lo hi v => by
  rw [eP2 (eV rfl) (eV rfl) ju]; rfl
 have t3 := x17 (σ := σ) 3 (by decide)
 have t5 := x17 (σ := σ) 5 (by decide)
 have t4 := x17 (σ := σ) 4 (by decide)
 have t1 := x17 (σ := σ) 1 (by decide)
 have t0 := x17 (σ := σ) 0 (by decide)
 have k4 := hk 4 (by decide) (by decide)
 have k6 := hk 6 (by decide) (by decide)
 have k5 := hk 5 (by decide) (by decide)
 have k2 := hk 2 (by decide) (by decide)
 have k1 := hk 1 (by decide) (by decide)
 rw [ztl]
 rcases he with rfl | rfl | rfl
 ·refine ⟨.int 5,.int 4,?_⟩
  rw [E4 (s' := ⟨[.list l17,.int 1,.int 4,.int 7,key,.int 3],σ⟩) (test 0 7 _) (P1 (hkey _ _ _) f7 t3 k4),E4 (s' := ⟨[.list l17,.int 1,.int 4,.int 5,key,.int 5],σ⟩) (test 4 7 _) (P1 (hkey _ _ _) f11 t5 k6),
   E4 (s' := ⟨[.list l17,.int 1,.int 5,.int 5,key,.int 4],σ⟩) (test 4 5 _) (P1 (hkey _ _ _) f9 t4 k5),al (test 5 5 _)]
  rfl
 ·refine ⟨.int 4,.int 4,?_⟩
  rw [E4 (s' := ⟨[.list l17,.int 1,.int 4,.int 7,key,.int 3],σ⟩) (test 0 7 _) (P1 (hkey _ _ _) f7 t3 k4),E4 (s' := ⟨[.list l17,.int 1,.int 4,.int 5,key,.int 5],σ⟩) (test 4 7 _) (P1 (hkey _ _ _) f11 t5 k6),
   E4 (s' := ⟨[.list l17,.int 1,.int 4,.int 4,key,.int 4],σ⟩) (test 4 5 _) (P1 (hkey _ _ _) f9 t4 k5),al (test 4 4 _)]
  rfl
 ·refine ⟨.int 1,.int 0,?_⟩
  rw [E4 (s' := ⟨[.list l17,.int 1,.int 0,.int 3,key,.int 3],σ⟩) (test 0 7 _) (P1 (hkey _ _ _) f7 t3 k4),E4 (s' := ⟨[.list l17,.int 1,.int 0,.int 1,key,.int 1],σ⟩) (test 0 3 _) (P1 (hkey _ _ _) f3 t1 k2),
   E4 (s' := ⟨[.list l17,.int 1,.int 1,.int 1,key,.int 0],σ⟩) (test 0 1 _) (P1 (hkey _ _ _) f1 t0 k1),al (test 1 1 _)]
  rfl
theorem eJ {q whole base : Int} {e : Nat} (hq : 3 ≤ q.natAbs) (hq2 : q.natAbs < 2 ^ 722) (hw : whole.natAbs ≤ q.natAbs ^ 20) (hb1 : q.natAbs ≤ base.natAbs) (hb2 : base.natAbs ≤ q.natAbs ^ 2) (he : e = 5 ∨ e = 4 ∨ e = 1)
  (hd : ∀ p : Nat,1 ≤ p → p ≤ 7 → (base ^ p ∣ whole ↔ p ≤ e)) (M : Nat) (σ : Sto) :
  B3 (orc (M + 15)) (.glob 149) [.int whole,.int base] none σ = some (.int (e : Nat)) := by
 have hk : ∀ (σ : Sto) (p : Nat),1 ≤ p → p ≤ 7 → B3 (orc (M + 13)) (.clo 2 [.int whole,.int base]) [.int (p : Nat)] none σ = some (.int (if p ≤ e then 0 else 1)) := fun σ p h1 h2 => by
  rw [rq hq hq2 hw hb1 hb2 ⟨h1,h2⟩ M σ]
  by_cases h : p ≤ e
  ·rw [if_pos h,if_pos ((hd p h1 h2).mpr h)]
  ·rw [if_neg h,if_neg fun q => h ((hd p h1 h2).mp q)]
 have hbl : orc (M + 14) (.glob 111) [.list l17,.int 1] (some (.clo 2 [.int whole,.int base])) [] = some (.int (e : Nat),[]) := by
  rw [lk (fd := B9) (as := [.list l17,.int 1,.int 0,.none]) rfl rfl]
  have hst : FD.start B9 [.list l17,.int 1,.int 0,.none] (.clo 2 [.int whole,.int base]) [] (.glob 111) = [.list l17,.int 1,.int 0,.none,.clo 2 [.int whole,.int base],.unb] := rfl
  rw [hst]
  obtain ⟨hi,v,e1⟩ := qh (C := orc (M + 13)) (key := .clo 2 [.int whole,.int base]) (σ := []) (fun _ _ _ => rfl) he (hk [])
  have s1 : exB (orc (M + 13)) (A7.take 2) ⟨[.list l17,.int 1,.int 0,.none,.clo 2 [.int whole,.int base],.unb],[]⟩ = some (.next,⟨[.list l17,.int 1,.int 0,.int 7,.clo 2 [.int whole,.int base],.unb],[]⟩) := rfl
  have s2 : exS (orc (M + 13)) (.ite (.prim (.isc .none) (.cons (.var 4) .nil)) [.wh (.prim .lt (.cons (.var 2) (.cons (.var 3) .nil))) [.assign (.one 5) (.prim .fdiv (.cons (.prim .add (.cons (.var 2) (.cons (.var 3) .nil))) (.cons (.lit (.int 2)) .nil))),.ite (.prim .lt (.cons (.prim .idx (.cons (.var 0) (.cons (.var 5) .nil))) (.cons (.var 1) .nil))) [.assign (.one 2) (.prim .add (.cons (.var 5) (.cons (.lit (.int 1)) .nil)))] [.assign (.one 3) (.var 5)]]] [.wh (.prim .lt (.cons (.var 2) (.cons (.var 3) .nil))) ft])
    ⟨[.list l17,.int 1,.int 0,.int 7,.clo 2 [.int whole,.int base],.unb],[]⟩ = some (.next,⟨[.list l17,.int 1,.int (e : Nat),hi,.clo 2 [.int whole,.int base],v],[]⟩) := by
   have hc : evE (orc (M + 13)) (.prim (.isc .none) (.cons (.var 4) .nil)) [.list l17,.int 1,.int 0,.int 7,.clo 2 [.int whole,.int base],.unb] [] = some (.bool false) := eP1 (eV rfl) sA
   rw [ztk,hc]
   simp only [i9,i7,u4,if_false]
   rw [j5 e1]; rfl
  have hms : A7 = A7.take 2 ++ (.ite (.prim (.isc .none) (.cons (.var 4) .nil)) [.wh (.prim .lt (.cons (.var 2) (.cons (.var 3) .nil))) [.assign (.one 5) (.prim .fdiv (.cons (.prim .add (.cons (.var 2) (.cons (.var 3) .nil))) (.cons (.lit (.int 2)) .nil))),.ite (.prim .lt (.cons (.prim .idx (.cons (.var 0) (.cons (.var 5) .nil))) (.cons (.var 1) .nil))) [.assign (.one 2) (.prim .add (.cons (.var 5) (.cons (.lit (.int 1)) .nil)))] [.assign (.one 3) (.var 5)]]] [.wh (.prim .lt (.cons (.var 2) (.cons (.var 3) .nil))) ft] :: [.ret (.var 2)]) := rfl
  have hpart := (congrArg (fun l => exB (orc (M + 13)) l ⟨[.list l17,.int 1,.int 0,.none,.clo 2 [.int whole,.int base],.unb],[]⟩) hms).trans ((W0 _ _ _ _ s1).trans (j5 s2))
  show (exB (orc (M + 13)) A7 _).map _ = _
  rw [hpart]
  rfl
 refine u7 (σ' := []) rfl rfl rfl rfl ?_
 rw [z8 (fd := E0) (as := [.int whole,.int base]) rfl rfl]
 have hst : FD.start E0 [.int whole,.int base] .none [] (.glob 149) = [.int whole,.int base] := rfl
 rw [hst]
 have hcall := u7 (C := orc (M + 14)) (σ := []) (kw := some (.clo 2 [.int whole,.int base])) (f := .glob 111) rfl rfl rfl rfl hbl
 have hev : evE (orc (M + 14)) (.call (.glob 111) (.cons (.list (.cons (.lit (.int 1)) (.cons (.lit (.int 2)) (.cons (.lit (.int 3)) (.cons (.lit (.int 4)) (.cons (.lit (.int 5)) (.cons (.lit (.int 6)) (.cons (.lit (.int 7)) .nil)))))))) (.cons (.lit (.int 1)) .nil)) (some (.lam 2 [0,1]))) [.int whole,.int base] [] = some (.int (e : Nat)) := hcall
 show (exB (orc (M + 14)) [.ret _] _).map _ = _
 rw [zbb,ztn,hev]
 rfl
theorem ci {q : Int} {a b : Nat} (h : a ≤ b) : q ^ a ∣ q ^ b := ⟨q ^ (b - a),by rw [← Int.pow_add,Nat.add_sub_cancel' h]⟩
theorem tU {q : Int} (hq : 3 ≤ q.natAbs) {p : Nat} (hp : 1 ≤ p ∧ p ≤ 7) : q ^ p ∣ q ^ 5 * (q * q - 1) ^ 4 * (q * q - 2) ↔ p ≤ 5 := by
 constructor
 ·intro h
  refine Nat.le_of_not_lt fun h6 => ?_
  have h1 : q ^ 6 ∣ q ^ 5 * ((q * q - 1) ^ 4 * (q * q - 2)) := by
   rw [← Int.mul_assoc]
   exact Int.dvd_trans (ci h6) h
  have hq5 : q ^ 5 ≠ 0 := by
   intro h0
   have : (q ^ 5).natAbs = 0 := by rw [h0]; rfl
   rw [Int.natAbs_pow] at this
   exact Nat.ne_of_gt (Nat.pow_pos (Nat.lt_of_lt_of_le (by decide) hq)) this
  have h2 : q ∣ (q * q - 1) ^ 4 * (q * q - 2) := by
   obtain ⟨c,hc⟩ := h1
   refine ⟨c,Int.eq_of_mul_eq_mul_left hq5 ?_⟩
   rw [hc,show q ^ 6 = q ^ 5 * q from Int.pow_succ _ _,Int.mul_assoc]
  have hz : isZ (jO (V5 (V5 (V5 [-1,0,1] [-1,0,1]) (V5 [-1,0,1] [-1,0,1])) [-2,0,1]) (iZ (V5 [0,1] [0,9,0,-16,0,14,0,-6,0,1]) [-2])) = true := by decide +kernel
  have he := am q hz
  simp only [dB,cM,aF] at he
  have e2 : ev q [-1,0,1] = q * q - 1 := by
   simp only [V8,V0,Int.mul_zero,Int.add_zero,Int.zero_add,Int.mul_one]; lia
  have e3 : ev q [-2,0,1] = q * q - 2 := by
   simp only [V8,V0,Int.mul_zero,Int.add_zero,Int.zero_add,Int.mul_one]; lia
  have e4 : ev q [0,1] = q := by simp [V8,V0]
  have e5 : ev q [-2] = -2 := by simp [V8,V0]
  have e6 : (q * q - 1) * (q * q - 1) * ((q * q - 1) * (q * q - 1)) = (q * q - 1) ^ 4 := by
   simp only [Int.pow_succ,Int.pow_zero,Int.one_mul,Int.mul_assoc]
  rw [e2,e3,e4,e5,e6] at he
  obtain ⟨c,hc⟩ := h2
  have : q * (ev q [0,9,0,-16,0,14,0,-6,0,1] - c) = 2 := by
   rw [Int.mul_sub,← hc]; lia
  have h3 : q ∣ 2 := ⟨_,this.symm⟩
  have h4 := Int.natAbs_dvd_natAbs.mpr h3
  exact absurd (Nat.le_trans hq (Nat.le_of_dvd (by decide) h4)) (by decide)
 ·intro h
  rw [Int.mul_assoc]
  exact Int.dvd_trans (ci h) (Int.dvd_mul_right _ _)
theorem sd {b : Int} (hb : b ≠ 0) (e : Nat) : b ^ e ≠ 0 := by
 intro h0
 have : (b ^ e).natAbs = 0 := by rw [h0]; rfl
 rw [Int.natAbs_pow] at this
 have h2 : 0 < b.natAbs ^ e := Nat.pow_pos (by lia)
 lia
theorem dR {b X : Int} (hb : b ≠ 0) {e : Nat} (h : b ^ (e + 1) ∣ b ^ e * X) : b ∣ X := by
 obtain ⟨c,hc⟩ := h
 refine ⟨c,Int.eq_of_mul_eq_mul_left (sd hb e) ?_⟩
 rw [hc,show b ^ (e + 1) = b ^ e * b from Int.pow_succ _ _,Int.mul_assoc]
theorem jW (q : Int) : q * q = ((q.natAbs * q.natAbs : Nat) : Int) := by simp []
inductive SqB (q : Int) : Prop
 | mk (k : Nat) (h1 : q.natAbs * q.natAbs = k + 2) (h2 : (q * q - 1).natAbs = k + 1) (h3 : (q * q - 2).natAbs = k) (h4 : q.natAbs ≤ k) : SqB q
theorem lU {q : Int} (hq : 3 ≤ q.natAbs) : SqB q := by
 have hn : 3 * q.natAbs ≤ q.natAbs * q.natAbs := Nat.mul_le_mul_right _ hq
 obtain ⟨k,hk⟩ := Nat.exists_eq_add_of_le (show 2 ≤ q.natAbs * q.natAbs by lia)
 rw [Nat.add_comm] at hk
 have e := jW q
 rw [hk] at e
 refine ⟨k,hk,by rw [e,show ((k + 2 : Nat) : Int) - 1 = ((k + 1 : Nat) : Int) from Int.add_sub_cancel ((k + 1 : Nat) : Int) 1]; rfl,by rw [e,show ((k + 2 : Nat) : Int) - 2 = (k : Int) from Int.add_sub_cancel (k : Int) 2]; rfl,by lia⟩
theorem rF (q : Int) : ev q [-1,0,1] = q * q - 1 := by
 simp only [V8,V0,Int.mul_zero,Int.add_zero,Int.zero_add,Int.mul_one]; lia
theorem rY (q : Int) : ev q [-2,0,1] = q * q - 2 := by
 simp only [V8,V0,Int.mul_zero,Int.add_zero,Int.zero_add,Int.mul_one]; lia
theorem sf (q : Int) : ev q [0,0,0,0,0,1] = q ^ 5 := by
 simp only [V8,V0,Int.pow_succ,Int.pow_zero,Int.mul_zero,Int.add_zero,Int.zero_add,Int.mul_one,Int.one_mul,Int.mul_assoc]
theorem tM (q : Int) : ev q (V5 (V5 [-1,0,1] [-1,0,1]) (V5 [-1,0,1] [-1,0,1])) = (q * q - 1) ^ 4 := by
 simp only [aF,rF,Int.pow_succ,Int.pow_zero,Int.one_mul,Int.mul_assoc]
theorem rh {q : Int} (hq : 3 ≤ q.natAbs) {p : Nat} (hp : 1 ≤ p ∧ p ≤ 7) : (q * q - 1) ^ p ∣ q ^ 5 * (q * q - 1) ^ 4 * (q * q - 2) ↔ p ≤ 4 := by
 have hn : 3 * q.natAbs ≤ q.natAbs * q.natAbs := Nat.mul_le_mul_right _ hq
 have hqq := jW q
 constructor
 ·intro h
  refine Nat.le_of_not_lt fun h6 => ?_
  have hb : q * q - 1 ≠ 0 := by lia
  have h1 : (q * q - 1) ^ (4 + 1) ∣ (q * q - 1) ^ 4 * (q ^ 5 * (q * q - 2)) := by
   have := Int.dvd_trans (ci (by lia : 4 + 1 ≤ p)) h
   rwa [Int.mul_comm (q ^ 5),Int.mul_assoc] at this
  have h2 := dR hb h1
  have hz : isZ (jO (V5 [0,0,0,0,0,1] [-2,0,1]) (iZ (V5 [-1,0,1] [0,-1,0,-1,0,1]) [0,-1])) = true := by decide +kernel
  have he := am q hz
  simp only [dB,cM,aF] at he
  rw [sf,rF,rY,show ev q [0,-1] = -q by simp [V8,V0]] at he
  obtain ⟨c,hc⟩ := h2
  have h3 : q * q - 1 ∣ q := ⟨ev q [0,-1,0,-1,0,1] - c,by rw [Int.mul_sub,← hc]; lia⟩
  have h4 := Nat.le_of_dvd (by lia) (Int.natAbs_dvd_natAbs.mpr h3)
  obtain ⟨k,k1,k2,k3,k4⟩ := lU hq
  rw [k2] at h4
  exact absurd (Nat.le_trans h4 k4) (Nat.not_succ_le_self k)
 ·intro h
  rw [Int.mul_comm (q ^ 5),Int.mul_assoc]
  exact Int.dvd_trans (ci h) (Int.dvd_mul_right _ _)
theorem rC {q : Int} (hq : 3 ≤ q.natAbs) {p : Nat} (hp : 1 ≤ p ∧ p ≤ 7) : (q * q - 2) ^ p ∣ q ^ 5 * (q * q - 1) ^ 4 * (q * q - 2) ↔ p ≤ 1 := by
 have hn : 3 * q.natAbs ≤ q.natAbs * q.natAbs := Nat.mul_le_mul_right _ hq
 have hqq := jW q
 constructor
 ·intro h
  refine Nat.le_of_not_lt fun h6 => ?_
  have hb : q * q - 2 ≠ 0 := by lia
  have h1 : (q * q - 2) ^ (1 + 1) ∣ (q * q - 2) ^ 1 * (q ^ 5 * (q * q - 1) ^ 4) := by
   have := Int.dvd_trans (ci (by lia : 1 + 1 ≤ p)) h
   rw [Int.mul_comm _ (q * q - 2)] at this
   rw [show (q * q - 2) ^ 1 = q * q - 2 from by rw [Int.pow_succ,Int.pow_zero,Int.one_mul]]
   exact this
  have h2 := dR hb h1
  have hz : isZ (jO (V5 [0,0,0,0,0,1] (V5 (V5 [-1,0,1] [-1,0,1]) (V5 [-1,0,1] [-1,0,1]))) (iZ (V5 [-2,0,1] [0,2,0,1,0,0,0,2,0,-2,0,1]) [0,4])) = true := by decide +kernel
  have he := am q hz
  rw [dB,cM,aF,aF q [-2,0,1],tM,sf,rY,show ev q [0,4] = 4 * q by simp [V8,V0]; lia] at he
  obtain ⟨c,hc⟩ := h2
  have h3 : q * q - 2 ∣ 4 * q := ⟨c - ev q [0,2,0,1,0,0,0,2,0,-2,0,1],by rw [Int.mul_sub,← hc]; lia⟩
  by_cases h5 : 5 ≤ q.natAbs
  ·have hn5 : 5 * q.natAbs ≤ q.natAbs * q.natAbs := Nat.mul_le_mul_right _ h5
   have h4 := Nat.le_of_dvd (by rw [Int.natAbs_mul]; exact Nat.mul_pos (by decide) (by lia)) (Int.natAbs_dvd_natAbs.mpr h3)
   obtain ⟨k,k1,k2,k3,k4⟩ := lU hq
   rw [k3,Int.natAbs_mul] at h4
   have h4 : k ≤ 4 * q.natAbs := h4
   clear he hc h3
   lia
  ·have : q = 3 ∨ q = -3 ∨ q = 4 ∨ q = -4 := by
    have h : q.natAbs = 3 ∨ q.natAbs = 4 := by
     clear he hc h3
     rcases Nat.lt_or_ge 3 q.natAbs with h | h
     ·exact .inr (Nat.le_antisymm (Nat.le_of_lt_succ (Nat.lt_of_not_le h5)) h)
     ·exact .inl (Nat.le_antisymm h hq)
    rcases h with h | h
    ·exact (Int.natAbs_eq q).elim (fun e => .inl (e.trans (by rw [h]; rfl))) fun e => .inr (.inl (e.trans (by rw [h]; rfl)))
    ·exact (Int.natAbs_eq q).elim (fun e => .inr (.inr (.inl (e.trans (by rw [h]; rfl))))) fun e => .inr (.inr (.inr (e.trans (by rw [h]; rfl))))
   rcases this with rfl | rfl | rfl | rfl <;> revert h3 <;> decide
 ·intro h
  have : p = 1 := by lia
  subst this
  rw [Int.pow_succ,Int.pow_zero,Int.one_mul]
  exact Int.dvd_mul_left _ _
theorem nr {q : Int} (hq : 3 ≤ q.natAbs) : (q ^ 5 * (q * q - 1) ^ 4 * (q * q - 2)).natAbs ≤ q.natAbs ^ 20 := by
 rw [← D31]; exact uN hq (by decide)
theorem sz {q : Int} (hq : 3 ≤ q.natAbs) : q.natAbs ≤ (q * q - 1).natAbs ∧ (q * q - 1).natAbs ≤ q.natAbs ^ 2 ∧ q.natAbs ≤ (q * q - 2).natAbs ∧ (q * q - 2).natAbs ≤ q.natAbs ^ 2 ∧ q.natAbs ≤ q.natAbs ^ 2 := by
 obtain ⟨k,h1,h2,h3,h4⟩ := lU hq
 rw [Nat.pow_two,h1,h2,h3]
 exact ⟨Nat.le_succ_of_le h4,Nat.le_succ _,h4,Nat.le_add_right _ _,Nat.le_trans h4 (Nat.le_add_right _ _)⟩
section
variable {C : Orc} {ρ : Rho} {σ : Sto}
theorem nZ {i : Nat} {e : ME} {v : PV} (he : evE C e ρ σ = some v) (h : i < ρ.length) : exS C (.assign (.one i) e) ⟨ρ,σ⟩ = some (.next,⟨ρ.set i v,σ⟩) := by
 rw [zta,he,i9,f5 h]; rfl
theorem kH {c : ME} {a : List MS} (hc : evE C c ρ σ = some (.bool false)) : exS C (.ite c a []) ⟨ρ,σ⟩ = some (.next,⟨ρ,σ⟩) := by
 rw [ztk,hc]; rfl
inductive AsF (C : Orc) (e : ME) (ρ : Rho) (σ : Sto) (i : Nat) (v : PV) : Prop
 | mk (ρ' : Rho) (S : exS C (.assign (.one i) e) ⟨ρ,σ⟩ = some (.next,⟨ρ',σ⟩)) (F : x8 ρ') (h : n7 ρ' i = some v) (k : ∀ j,i ≠ j → n7 ρ' j = n7 ρ j) : AsF C e ρ σ i v
theorem asF {i : Nat} {e : ME} {v : PV} (F : x8 ρ) (he : evE C e ρ σ = some v) (h : i < 24) (hv : v.isUnb = false) : AsF C e ρ σ i v :=
 ⟨_,nZ he (F.lt (by lia)),F.set h,gS (F.lt (by lia)) hv,fun j hj => gN hj⟩
theorem dZ : ∀ l : List Int,W8 (l.map PV.int) = some l
 | [] => rfl
 | a :: r => by
  show (W8 (r.map PV.int)).map (a :: ·) = _
  rw [dZ r]; rfl
theorem jh {α β : Type} (f : α → β) (l : List α) (lo k : Nat) : M2 (l.map f) lo k = (M2 l lo k).map f := by
 unfold M2
 rw [List.length_map,List.map_filterMap]
 congr 1
 funext i
 rw [List.getElem?_map]
theorem s0 {l : List Int} (hl : l.length ≤ 1000) (h0 : n7 ρ 0 = some (.list (l.map .int))) : evE C (.prim (.slice false true false) (.cons (.var 0) (.cons (.lit (.int 60)) .nil))) ρ σ = some (.list ((l.take 60).map .int)) := by
 refine eP2 (eV h0) eL ?_
 show ((asL σ (.list (l.map .int))).bind fun x => if x.length ≤ a8 ∧ i8 x = true then (M6 x none (some 60) none).map PV.list else none) = _
 simp only [zla,zlb,i9]
 rw [if_pos ⟨by rw [List.length_map]; unfold a8; lia,j0 (fun _ => rfl) _⟩]
 show some (PV.list ((l.map PV.int).take 60)) = _
 rw [List.map_take]
noncomputable def rX : List (Nat × Int) := [(0,1),(1,0),(2,3),(3,6),(4,2)]
noncomputable def gH (l : List Int) (p : Nat × Int) : Int := p.2 + (M2 l p.1 5).sum
theorem s1 {l : List Int} (F : x8 ρ) (hl : l.length ≤ 1000) (h1 : n7 ρ 1 = some (.list (l.map .int))) : evE C (.comp (.prim .add (.cons (.var 25) (.cons (.prim .sum (.cons (.prim (.slice true false true) (.cons (.var 1) (.cons (.var 24) (.cons (.lit (.int 5)) .nil)))) .nil)) .nil))) (.two 24 25) (.enum (.list (.cons (.lit (.int 1)) (.cons (.lit (.int 0)) (.cons (.lit (.int 3)) (.cons (.lit (.int 6)) (.cons (.lit (.int 2)) .nil))))))) none) ρ σ =
  some (.list ((rX.map (gH l)).map .int)) := by
 rw [List.map_map]
 refine K8 (l := rX) (g := fun p => .tup [.int (p.1 : Nat),.int p.2]) (f := fun p => .int (gH l p)) rfl (F.u2 (by decide) (by decide) (by decide) (by decide)) (fun p hp => ?_) (fun _ _ => rfl) (by decide)
 refine ⟨_,o0 (F.lt (by decide)) (F.lt (by decide)),?_⟩
 have v25 : evE C (.var 25) ((ρ.set 24 (.int (p.1 : Nat))).set 25 (.int p.2)) σ = some (.int p.2) := eV (A9 (by rw [List.length_set]; exact F.lt (by decide)))
 have v24 : evE C (.var 24) ((ρ.set 24 (.int (p.1 : Nat))).set 25 (.int p.2)) σ = some (.int (p.1 : Nat)) := eV ((gN (by decide)).trans (A9 (F.lt (by decide))))
 have v1 : evE C (.var 1) ((ρ.set 24 (.int (p.1 : Nat))).set 25 (.int p.2)) σ = some (.list (l.map .int)) := eV ((gN (by decide)).trans ((gN (by decide)).trans h1))
 have hs : evP (.slice true false true) [.list (l.map .int),.int (p.1 : Nat),.int 5] σ = some (.list ((M2 l p.1 5).map .int)) := by
  show ((asL σ (.list (l.map .int))).bind fun x => if x.length ≤ a8 ∧ i8 x = true then (M6 x (some (p.1 : Int)) none (some 5)).map PV.list else none) = _
  simp only [zla,zlb,i9]
  rw [if_pos ⟨by rw [List.length_map]; unfold a8; lia,j0 (fun _ => rfl) _⟩]
  simp only [zqa,zqb,zqc,zqd]
  rw [if_pos ⟨by lia,by decide⟩]
  simp only [n6,Int.toNat_natCast]
  rw [← jh]; rfl
 have hsum : evP .sum [.list ((M2 l p.1 5).map .int)] σ = some (.int (M2 l p.1 5).sum) := by
  show (W8 _).map _ = _
  rw [dZ]; rfl
 exact eP2 v25 (eP1 (eP3 v1 v24 eL hs) hsum) dk
theorem s2 : evE C (.list (.cons (.lit (.str [])) (.cons (.lit (.str [92,40])) (.cons (.lit (.str [92,41])) (.cons (.lit (.str [34,40,34])) (.cons (.lit (.str [34,41,34])) (.cons (.lit (.str [92,92])) (.cons (.lit (.str [92,34])) .nil)))))))) ρ σ = some (.list (d6 H9)) := rfl
theorem tS {a b : List PV} (h : a.length + b.length ≤ a8) : evP .add [.list a,.list b] σ = some (.list (a ++ b)) := if_pos h
abbrev cL (c0 c1 c2 c3 c4 : Int) : List PV := [.int c0,.int c1,.int c2,.int c3,.int c4]
noncomputable def pc (c : Int) : List Nat := H9.getD (c % 7).toNat []
theorem iz (c : Int) : pc c ∈ H9 := by
 have h1 : (c % 7).toNat < 7 := by lia
 unfold pc
 rw [List.getD_eq_getElem?_getD,List.getElem?_eq_getElem h1]
 exact List.getElem_mem _
noncomputable def pcs (c0 c1 c2 c3 : Int) : List (List Nat) := [pc c0,pc c1,pc c2,pc c3,[],[]]
theorem s3 {c0 c1 c2 c3 c4 : Int} (F : x8 ρ) (h2 : n7 ρ 2 = some (.list (cL c0 c1 c2 c3 c4))) (h3 : n7 ρ 3 = some (.list (d6 H9))) :
  evE C (.prim .add (.cons (.comp (.prim .idx (.cons (.var 3) (.cons (.prim .mod (.cons (.var 26) (.cons (.lit (.int 7)) .nil))) .nil))) (.one 26) (.val (.prim (.slice false true false) (.cons (.var 2) (.cons (.lit (.int 4)) .nil)))) none) (.cons (.list (.cons (.lit (.str [])) (.cons (.lit (.str [])) .nil))) .nil))) ρ σ = some (.list (d6 (pcs c0 c1 c2 c3))) := by
 have hi : evI C (.val (.prim (.slice false true false) (.cons (.var 2) (.cons (.lit (.int 4)) .nil)))) ρ σ = some ([c0,c1,c2,c3].map PV.int) := by
  refine mh (eP2 (eV h2) eL ?_) (show 4 ≤ a8 by decide)
  show ((asL σ (.list (cL c0 c1 c2 c3 c4))).bind fun x => if x.length ≤ a8 ∧ i8 x = true then (M6 x none (some 4) none).map PV.list else none) = _
  simp only [zla,zlb,i9]
  rw [if_pos ⟨(by decide : 5 ≤ a8),rfl⟩]
  rfl
 have e1 := K8 (C := C) (ρ := ρ) (σ := σ) (ts := .one 26) (elt := .prim .idx (.cons (.var 3) (.cons (.prim .mod (.cons (.var 26) (.cons (.lit (.int 7)) .nil))) .nil))) (l := [c0,c1,c2,c3]) (g := PV.int) (f := fun c => .str (pc c)) hi (F.u1 (by decide) (by decide)) (fun c hc => ⟨_,f5 (F.lt (by decide)),by
  have v26 : evE C (.var 26) (ρ.set 26 (.int c)) σ = some (.int c) := eV (A9 (F.lt (by decide)))
  have v3 : evE C (.var 3) (ρ.set 26 (.int c)) σ = some (.list (d6 H9)) := eV ((gN (by decide)).trans h3)
  have e : c % 7 = ((c % 7).toNat : Int) := by lia
  have h1 : (c % 7).toNat < 7 := by lia
  have hx : evP .idx [.list (d6 H9),.int (c % 7)] σ = some (.str (pc c)) := by
   rw [e]
   refine u5 (by lia) ?_
   simp only [d6,List.getElem?_map]
   rw [List.getElem?_eq_getElem h1]
   unfold pc
   rw [List.getD_eq_getElem?_getD,List.getElem?_eq_getElem h1]
   rfl
  exact eP2 v3 (eP2 v26 eL (qe (by decide))) hx⟩) (fun _ _ => rfl) (show 4 ≤ a8 by decide)
 exact eP2 e1 (y := .list (d6 [[],[]])) rfl (tS (show 4 + 2 ≤ a8 by decide))
theorem oh {x : Nat} {l : List Nat} (h1 : x ≤ l.length) (h3 : l.length ≤ a8) : evP (.slice false true false) [.str l,.int (x : Nat)] σ = some (.str (l.take x)) := by
 show (if (none : Option Int).isNone = true ∧ (none : Option Int).getD 0 ≤ l.length ∧ (some (x : Int)).getD 0 ≤ l.length ∧ l.length ≤ a8 then (M6 l none (some (x : Int)) none).map PV.str else none) = _
 rw [if_pos ⟨rfl,by simp,by simp; lia,h3⟩]
 simp only [zqa,zqb,zqc,zqd]
 rw [if_pos (by lia)]
 simp
noncomputable def hgt (r : List Nat) (k : Nat) : Int := 2 * N8 (r.take k) 40 - (k : Int)
noncomputable def pn (r : List Nat) : Bool := decide (cH (hgt r 1) [hgt r 3,hgt r 5] > 0)
theorem H4 : ∀ r ∈ u8,r.length = 6 ∧ (∀ c ∈ r,c = 40 ∨ c = 41) ∧ pn r = eT r ∧ U6.contains r = eT r := by decide +kernel
theorem ga : u8.filter pn = U6 := by decide +kernel
theorem s5 (F : x8 ρ) (h5 : n7 ρ 5 = some (.list (d6 u8))) : evE C (.comp (.var 27) (.one 27) (.val (.var 5)) (some (.prim .gt (.cons (.prim .min (.cons (.comp (.prim .sub (.cons (.prim .mul (.cons (.lit (.int 2)) (.cons (.prim .count (.cons (.prim (.slice false true false) (.cons (.var 27) (.cons (.var 28) .nil))) (.cons (.lit (.str [40])) .nil))) .nil))) (.cons (.var 28) .nil))) (.one 28) (.val (.tup (.cons (.lit (.int 1)) (.cons (.lit (.int 3)) (.cons (.lit (.int 5)) .nil))))) none) .nil)) (.cons (.lit (.int 0)) .nil))))) ρ σ = some (.list (d6 U6)) := by
 rw [← ga]
 refine kP (l := u8) (g := PV.str) (f := PV.str) (b := pn) (mh (eV h5) (by decide)) (F.u1 (by decide) (by decide)) (fun r hr => ?_) (fun _ _ => rfl) (by decide)
 obtain ⟨hl,_,_,_⟩ := H4 r hr
 refine ⟨_,f5 (F.lt (by decide)),?_,fun _ => eV (dK (F.lt (by decide)))⟩
 have l27 : 28 < (ρ.set 27 (.str r)).length := by rw [List.length_set]; exact F.lt (by decide)
 have hin : evE C (.comp (.prim .sub (.cons (.prim .mul (.cons (.lit (.int 2)) (.cons (.prim .count (.cons (.prim (.slice false true false) (.cons (.var 27) (.cons (.var 28) .nil))) (.cons (.lit (.str [40])) .nil))) .nil))) (.cons (.var 28) .nil))) (.one 28) (.val (.tup (.cons (.lit (.int 1)) (.cons (.lit (.int 3)) (.cons (.lit (.int 5)) .nil))))) none) (ρ.set 27 (.str r)) σ = some (.list ([1,3,5].map fun k => .int (hgt r k))) := by
  refine K8 (l := [1,3,5]) (g := fun k => .int (k : Nat)) (f := fun k => .int (hgt r k)) rfl (un1 (by rw [List.getElem?_set_ne (by decide)]; exact F.free 28 (by decide) (by decide))) (fun k hk => ?_) (fun _ _ => rfl) (by decide)
  have hk5 : k ≤ 5 := by simp at hk; lia
  refine ⟨_,f5 l27,?_⟩
  have v28 : evE C (.var 28) ((ρ.set 27 (.str r)).set 28 (.int (k : Nat))) σ = some (.int (k : Nat)) := eV (A9 l27)
  have v27 : evE C (.var 27) ((ρ.set 27 (.str r)).set 28 (.int (k : Nat))) σ = some (.str r) := eV ((gN (by decide)).trans (dK (F.lt (by decide))))
  have hc : (N8 (r.take k) 40).natAbs < 2 ^ 10 := by
   unfold N8
   have := List.length_filter_le (fun x => x == 40) (r.take k)
   rw [Int.natAbs_natCast]
   exact Nat.lt_of_le_of_lt (Nat.le_trans this (by rw [List.length_take]; exact Nat.min_le_left _ _)) (Nat.lt_of_le_of_lt hk5 (by decide))
  exact eP2 (eP2 eL (eP2 (eP2 v27 v28 (oh (by lia) (by rw [hl]; decide))) eL rfl) (mL (I2 (k := 10) (by decide) (by decide)) (I2 (k := 10) hc (by decide)))) v28 U7
 exact eP2 (eP1 hin (z := .int (cH (hgt r 1) [hgt r 3,hgt r 5])) rfl) eL tZ
theorem eU {r : List Nat} {P : List (List Nat)} (h : r.length = P.length) : (r.zip P).map Prod.fst = r := by
 rw [List.map_fst_zip]; lia
theorem qy {r : List Nat} {P : List (List Nat)} (h : r.length = P.length) : (r.zip P).map Prod.snd = P := by
 rw [List.map_snd_zip]; lia
theorem fJ {r : List Nat} {P : List (List Nat)} (hr : ∀ c ∈ r,c = 40 ∨ c = 41) (hP : ∀ p ∈ P,p ∈ H9) : ∀ b ∈ r.zip P,okB b := fun b hb => ⟨hr _ (List.of_mem_zip hb).1,hP _ (List.of_mem_zip hb).2⟩
theorem qj {c0 c1 c2 c3 : Int} : ∀ p ∈ pcs c0 c1 c2 c3,p ∈ H9 := by
 intro p hp
 simp only [pcs,List.mem_cons,B8,or_false] at hp
 rcases hp with rfl | rfl | rfl | rfl | rfl | rfl
 ·exact iz _
 ·exact iz _
 ·exact iz _
 ·exact iz _
 ·simp [H9]
 ·simp [H9]
noncomputable def fld (P : List (List Nat)) (r : List Nat) : List Nat := l4 (r.zip P)
theorem s6 {P : List (List Nat)} (hP6 : P.length = 6) (hPm : ∀ p ∈ P,p ∈ H9) (F : x8 ρ) (h5 : n7 ρ 5 = some (.list (d6 u8))) (h4 : n7 ρ 4 = some (.list (d6 P))) :
  evE C (.comp (.prim .join (.cons (.lit (.str [])) (.cons (.comp (.prim .add (.cons (.prim .idx (.cons (.var 29) (.cons (.var 30) .nil))) (.cons (.prim .idx (.cons (.var 4) (.cons (.var 30) .nil))) .nil))) (.one 30) (.range (.cons (.lit (.int 6)) .nil)) none) .nil))) (.one 29) (.val (.var 5)) none) ρ σ = some (.list (d6 (u8.map (fld P)))) := by
 have hm : d6 (u8.map (fld P)) = u8.map fun r => .str (fld P r) := by simp [d6]
 rw [hm]
 refine K8 (l := u8) (g := PV.str) (f := fun r => .str (fld P r)) (mh (eV h5) (by decide)) (F.u1 (by decide) (by decide)) (fun r hr => ?_) (fun _ _ => rfl) (by decide)
 obtain ⟨hl,hrc,_,_⟩ := H4 r hr
 have hok := fJ hrc hPm
 have hzl : (r.zip P).length = 6 := by rw [List.length_zip]; lia
 refine ⟨_,f5 (F.lt (by decide)),?_⟩
 have l30 : 30 < (ρ.set 29 (.str r)).length := by rw [List.length_set]; exact F.lt (by decide)
 have hin : evE C (.comp (.prim .add (.cons (.prim .idx (.cons (.var 29) (.cons (.var 30) .nil))) (.cons (.prim .idx (.cons (.var 4) (.cons (.var 30) .nil))) .nil))) (.one 30) (.range (.cons (.lit (.int 6)) .nil)) none) (ρ.set 29 (.str r)) σ = some (.list (d6 ((r.zip P).map Q7))) := by
  have hx : d6 ((r.zip P).map Q7) = (List.range 6).map fun k => .str (Q7 ((r.zip P).getD k (0,[]))) := by
   refine List.ext_getElem (by simp [d6]; lia) fun k hk hk2 => ?_
   have hk3 : k < (r.zip P).length := by simp at hk2; lia
   simp [d6,List.getD_eq_getElem?_getD,List.getElem?_eq_getElem hk3]
  rw [hx]
  refine K8 (l := List.range 6) (g := fun k => .int (k : Nat)) (f := fun k => .str (Q7 ((r.zip P).getD k (0,[])))) rfl (un1 (by rw [List.getElem?_set_ne (by decide)]; exact F.free 30 (by decide) (by decide))) (fun k hk => ?_) (fun _ _ => rfl) (by decide)
  have hk6 := List.mem_range.mp hk
  have hk3 : k < (r.zip P).length := by lia
  have hb := hok _ (List.getElem_mem hk3)
  have hP := O9 (bs := [(r.zip P)[k]]) (fun b hb' => by rw [List.mem_singleton.mp hb']; exact hb)
  refine ⟨_,f5 l30,?_⟩
  have v30 : evE C (.var 30) ((ρ.set 29 (.str r)).set 30 (.int (k : Nat))) σ = some (.int (k : Nat)) := eV (A9 l30)
  have v29 : evE C (.var 29) ((ρ.set 29 (.str r)).set 30 (.int (k : Nat))) σ = some (.str r) := eV ((gN (by decide)).trans (dK (F.lt (by decide))))
  have v4 : evE C (.var 4) ((ρ.set 29 (.str r)).set 30 (.int (k : Nat))) σ = some (.list (d6 P)) := eV ((gN (by decide)).trans ((gN (by decide)).trans h4))
  have e1 : evP .idx [.str r,.int (k : Nat)] σ = some (.str [((r.zip P)[k]).1]) := kO (by lia) (by rw [List.getElem?_eq_getElem (by lia)]; simp)
  have e2 : evP .idx [.list (d6 P),.int (k : Nat)] σ = some (.str ((r.zip P)[k]).2) := u5 (by lia) (by simp only [d6,List.getElem?_map]; rw [List.getElem?_eq_getElem (by lia)]; simp)
  have e3 : evP .add [.str [((r.zip P)[k]).1],.str ((r.zip P)[k]).2] σ = some (.str (Q7 ((r.zip P).getD k (0,[])))) := by
   rw [qB (by
    simp only [l4,List.flatMap_cons,List.flatMap_nil,List.append_nil,A0,A5] at hP ⊢
    unfold a8; lia),List.getD_eq_getElem?_getD,List.getElem?_eq_getElem hk3]
   rfl
  exact eP2 (eP2 v29 v30 e1) (eP2 v4 v30 e2) e3
 have hfl := O9 hok
 exact eP2 eL hin (by
  rw [oR (by rw [bz,List.length_map]; unfold a8; lia),bz]; rfl)
noncomputable def okS (s : List Nat) : Prop := ∀ c ∈ s,c < 0x110000
theorem cj {n : Nat} {s : List Nat} (h : okS s) : toD (n + 1) (.str s) = some (.str ⟨s.toArray⟩) := if_pos (z4.mpr fun c hc => decide_eq_true (h c hc))
theorem fj {n : Nat} : ∀ {l : List (List Nat)},(∀ s ∈ l,okS s) → (d6 l).mapM (toD (n + 1)) = some (l.map fun s => PyData.str ⟨s.toArray⟩)
 | [],_ => rfl
 | a :: r,h => by
  show ((PV.str a) :: d6 r).mapM _ = _
  rw [List.mapM_cons,cj (h a List.mem_cons_self),fj fun s hs => h s (G6 _ hs)]; rfl
theorem iY : ∀ (l : List (List Nat)),PyData.eqvAll (l.map fun s => PyData.str ⟨s.toArray⟩) (l.map fun s => PyData.str ⟨s.toArray⟩) = true
 | [] => rfl
 | a :: r => by simp only [List.map_cons,PyData.eqvAll,PyData.eqv,iY r,beq_self_eq_true,Bool.and_self]
theorem qp {l : List (List Nat)} (h : ∀ s ∈ l,okS s) : evP .ne [.list (d6 l),.list (d6 l)] σ = some (.bool false) := by
 have : toD 8 (PV.list (d6 l)) = some (.list (l.map fun s => PyData.str ⟨s.toArray⟩)) := by
  show ((d6 l).mapM (toD (6 + 1))).map PyData.list = _
  rw [fj h]; rfl
 show ((toD 8 (L1 σ (PV.list (d6 l)))).bind fun da => (toD 8 (L1 σ (PV.list (d6 l)))).map fun db => PV.bool (!PyData.eqv da db)) = _
 rw [show L1 σ (PV.list (d6 l)) = PV.list (d6 l) from rfl,this]
 simp only [i9,n6,PyData.eqv,iY]
 rfl
theorem eq_str {a b : List Nat} (ha : okS a) (hb : okS b) : evP .eq [.str a,.str b] σ = some (.bool (a == b)) := by
 show ((toD 8 (L1 σ (PV.str a))).bind fun da => (toD 8 (L1 σ (PV.str b))).map fun db => PV.bool (PyData.eqv da db)) = _
 rw [show L1 σ (PV.str a) = PV.str a from rfl,show L1 σ (PV.str b) = PV.str b from rfl,cj ha,cj hb]
 simp only [i9,n6,PyData.eqv]
 congr 2
 by_cases h : a = b
 ·subst h; simp
 ·rw [beq_eq_false_iff_ne.mpr h,beq_eq_false_iff_ne]
  intro h'
  apply h
  simpa using h'
theorem ni {bs : List Blk} (h : ∀ b ∈ bs,okB b) : okS (l4 bs) ∧ 39 ∉ l4 bs := by
 have key : ∀ c ∈ l4 bs,c = 40 ∨ c = 41 ∨ c = 92 ∨ c = 34 := by
  intro c hc
  simp only [l4,List.mem_flatMap] at hc
  obtain ⟨⟨x,P⟩,hb,hc⟩ := hc
  obtain ⟨h1,h2⟩ := h _ hb
  simp only at h1 h2
  rcases List.mem_cons.mp hc with rfl | hc
  ·lia
  ·simp only [H9,List.mem_cons,B8,or_false] at h2
   rcases h2 with rfl | rfl | rfl | rfl | rfl | rfl | rfl <;> simp at hc <;> lia
 refine ⟨fun c hc => ?_,fun hc => ?_⟩
 ·have := key c hc; lia
 ·have := key 39 hc; lia
end
theorem vd (a b : List Nat) : PyData.eqv (.str ⟨a.toArray⟩) (.str ⟨b.toArray⟩) = (a == b) := by
 simp only [PyData.eqv]
 by_cases h : a = b
 ·subst h; simp
 ·rw [beq_eq_false_iff_ne.mpr h,beq_eq_false_iff_ne]
  intro h'
  apply h
  simpa using h'
section
variable {ρ : Rho} {σ : Sto}
theorem nl {a : List Nat} {l : List (List Nat)} (ha : okS a) (h : ∀ s ∈ l,okS s) : evP .inn [.str a,.list (d6 l)] σ = some (.bool (l.contains a)) := by
 show ((toD 8 (.str a)).bind fun d => ((d6 l).mapM (toD (7 + 1))).map fun ds => PV.bool (ds.any fun y => PyData.eqv y d)) = _
 rw [cj ha,fj h]
 simp only [i9,n6]
 congr 2
 clear h
 induction l with
 | nil => rfl
 | cons s r ih =>
  have e : (s == a) = (a == s) := by
   by_cases h : s = a
   ·subst h; rfl
   ·rw [beq_eq_false_iff_ne.mpr h,beq_eq_false_iff_ne.mpr (Ne.symm h)]
  rw [List.map_cons,List.any_cons,ih,vd,List.contains_cons,e]
noncomputable def rw_ (i : Nat) : List Nat := u8.getD i []
theorem gz : u8 = (List.range 20).map rw_ := by decide +kernel
noncomputable def kp (P : List (List Nat)) (r : List Nat) : List Nat := N0 (r.zip P)
theorem sE : okS qP := by unfold okS qP; decide
theorem oQ {r : List Nat} (hr : r ∈ u8) : okS r := fun c hc => by
 have := (H4 r hr).2.1 c hc; lia
variable {P : List (List Nat)}
theorem jU (hPm : ∀ p ∈ P,p ∈ H9) {r : List Nat} (hr : r ∈ u8) : okS (fld P r) ∧ 39 ∉ fld P r := ni (fJ (H4 r hr).2.1 hPm)
theorem pK (hP6 : P.length = 6) {r : List Nat} (hr : r ∈ u8) : kp P r = if eT r then fld P r else qP := by
 unfold kp N0 fld
 rw [eU (by rw [(H4 r hr).1,hP6])]
theorem sD (hP6 : P.length = 6) (hPm : ∀ p ∈ P,p ∈ H9) {r : List Nat} (hr : r ∈ u8) : okS (kp P r) := by
 rw [pK hP6 hr]
 split
 ·exact (jU hPm hr).1
 ·exact sE
theorem sU (hP6 : P.length = 6) (hPm : ∀ p ∈ P,p ∈ H9) {r : List Nat} (hr : r ∈ u8) : (kp P r == fld P r) = eT r := by
 rw [pK hP6 hr]
 cases h : eT r
 ·simp only [u4,if_false]
  rw [beq_eq_false_iff_ne]
  intro e
  exact (jU hPm hr).2 (e ▸ by simp [qP])
 ·simp
theorem s7 (hP6 : P.length = 6) (hPm : ∀ p ∈ P,p ∈ H9) (h7 : n7 ρ 7 = some (.list (d6 (u8.map (fld P))))) : evE (orc 39) (.call (.glob 42) (.cons (.var 7) .nil) none) ρ σ = some (.list (d6 (u8.map (kp P)))) := by
 have hx : d6 (u8.map (fld P)) = (u8.map fun r => r.zip P).map fun bs => PV.str (l4 bs) := by
  rw [d6,List.map_map,List.map_map]; rfl
 have hy : d6 (u8.map (kp P)) = d6 ((u8.map fun r => r.zip P).map N0) := by
  rw [List.map_map]; rfl
 have hpre := rp (xs := u8.map fun r => r.zip P) (fun bs hbs => by
  obtain ⟨r,hr,rfl⟩ := List.mem_map.mp hbs
  have hok := fJ (H4 r hr).2.1 hPm
  refine ⟨hok,?_⟩
  have := O9 hok
  have hl : (r.zip P).length ≤ 6 := by rw [List.length_zip,hP6]; lia
  lia) (by rw [List.length_map]; decide) 36
 rw [← hx,← hy] at hpre
 have hs : H6 (.list (d6 (u8.map (fld P)))) = true := by
  simp only [H6,znc,znd,zne,znf,zng,PV.isUnb,d6,j0 (fun (s : List Nat) => (rfl : (PV.str s).noBox = true)),Bool.not_false,Bool.and_self]
 rw [zek,zec,zsb,zeb,h7,zsa]
 show B3 (orc 39) (.glob 42) [.list (d6 (u8.map (fld P)))] none σ = _
 exact Z6 rfl (by rw [List.all_cons,hs]; rfl) (j0 (fun _ => rfl) _) hpre
theorem s8 (hP6 : P.length = 6) (hPm : ∀ p ∈ P,p ∈ H9) (F : x8 ρ) (h5 : n7 ρ 5 = some (.list (d6 u8))) (h6 : n7 ρ 6 = some (.list (d6 U6))) (h7 : n7 ρ 7 = some (.list (d6 (u8.map (fld P))))) (h8 : n7 ρ 8 = some (.list (d6 (u8.map (kp P))))) {C : Orc} :
  evE C (.prim .ne (.cons (.var 8) (.cons (.comp (.ite (.prim .inn (.cons (.prim .idx (.cons (.var 5) (.cons (.var 31) .nil))) (.cons (.var 6) .nil))) (.prim .idx (.cons (.var 7) (.cons (.var 31) .nil))) (.lit (.str [40,39,39,44,32,39,39,41]))) (.one 31) (.range (.cons (.lit (.int 20)) .nil)) none) .nil))) ρ σ = some (.bool false) := by
 have hl : d6 (u8.map (kp P)) = (List.range 20).map fun i => .str (kp P (rw_ i)) := by
  rw [gz]; simp [d6]
 have hr : evE C (.comp (.ite (.prim .inn (.cons (.prim .idx (.cons (.var 5) (.cons (.var 31) .nil))) (.cons (.var 6) .nil))) (.prim .idx (.cons (.var 7) (.cons (.var 31) .nil))) (.lit (.str [40,39,39,44,32,39,39,41]))) (.one 31) (.range (.cons (.lit (.int 20)) .nil)) none) ρ σ = some (.list (d6 (u8.map (kp P)))) := by
  rw [hl]
  refine K8 (l := List.range 20) (g := fun i => .int (i : Nat)) (f := fun i => .str (kp P (rw_ i))) rfl (F.u1 (by decide) (by decide)) (fun i hi => ?_) (fun _ _ => rfl) (by decide)
  have hi20 := List.mem_range.mp hi
  have hil : i < u8.length := hi20
  have hrw : u8[i] = rw_ i := by unfold rw_; rw [List.getD_eq_getElem?_getD,List.getElem?_eq_getElem hil]; rfl
  have hmem : rw_ i ∈ u8 := hrw ▸ List.getElem_mem hil
  refine ⟨_,f5 (F.lt (by decide)),?_⟩
  have v31 : evE C (.var 31) (ρ.set 31 (.int (i : Nat))) σ = some (.int (i : Nat)) := eV (A9 (F.lt (by decide)))
  have w : ∀ {j v},31 ≠ j → n7 ρ j = some v → evE C (.var j) (ρ.set 31 (.int (i : Nat))) σ = some v := fun hj h => eV ((gN hj).trans h)
  have e5 : evP .idx [.list (d6 u8),.int (i : Nat)] σ = some (.str (rw_ i)) := u5 (by lia) (by simp only [d6,List.getElem?_map]; rw [List.getElem?_eq_getElem hil,hrw]; rfl)
  have e7 : evP .idx [.list (d6 (u8.map (fld P))),.int (i : Nat)] σ = some (.str (fld P (rw_ i))) := u5 (by lia) (by simp only [d6,List.getElem?_map]; rw [List.getElem?_eq_getElem hil,hrw]; rfl)
  have hc := eP2 (eP2 (w (by decide) h5) v31 e5) (w (by decide) h6) (nl (σ := σ) (oQ hmem) (l := U6) (by unfold okS U6; decide))
  rw [(H4 _ hmem).2.2.2] at hc
  rw [zeh,hc,pK hP6 hmem]
  cases hb : eT (rw_ i)
  ·rfl
  ·exact eP2 (w (by decide) h7) v31 e7
 exact eP2 (eV h8) hr (qp fun s hs => by
  obtain ⟨r,hr,rfl⟩ := List.mem_map.mp hs
  exact sD hP6 hPm hr)
noncomputable def km : ME := .comp (.var 32) (.one 32) (.range (.cons (.lit (.int 20)) .nil)) (some (.prim .eq (.cons (.prim .idx (.cons (.var 8) (.cons (.var 32) .nil))) (.cons (.prim .idx (.cons (.var 7) (.cons (.var 32) .nil))) .nil))))
theorem s9 (hP6 : P.length = 6) (hPm : ∀ p ∈ P,p ∈ H9) (F : x8 ρ) (h7 : n7 ρ 7 = some (.list (d6 (u8.map (fld P))))) (h8 : n7 ρ 8 = some (.list (d6 (u8.map (kp P))))) {C : Orc} : evE C km ρ σ = some (.list (nIs ixL)) := by
 have hx : nIs ixL = ((List.range 20).filter fun i => eT (rw_ i)).map fun i => .int (i : Nat) := by
  have : ixL = (List.range 20).filter fun i => eT (rw_ i) := by decide +kernel
  rw [← this]
 rw [hx]
 unfold km
 refine kP (l := List.range 20) (g := fun i => .int (i : Nat)) (f := fun i => .int (i : Nat)) (b := fun i => eT (rw_ i)) rfl (F.u1 (by decide) (by decide)) (fun i hi => ?_) (fun _ _ => rfl) (by decide)
 have hi20 := List.mem_range.mp hi
 have hil : i < u8.length := hi20
 have hrw : u8[i] = rw_ i := by unfold rw_; rw [List.getD_eq_getElem?_getD,List.getElem?_eq_getElem hil]; rfl
 have hmem : rw_ i ∈ u8 := hrw ▸ List.getElem_mem hil
 have v32 : evE C (.var 32) (ρ.set 32 (.int (i : Nat))) σ = some (.int (i : Nat)) := eV (A9 (F.lt (by decide)))
 have w : ∀ {j v},32 ≠ j → n7 ρ j = some v → evE C (.var j) (ρ.set 32 (.int (i : Nat))) σ = some v := fun hj h => eV ((gN hj).trans h)
 refine ⟨_,f5 (F.lt (by decide)),?_,fun _ => v32⟩
 have e8 : evP .idx [.list (d6 (u8.map (kp P))),.int (i : Nat)] σ = some (.str (kp P (rw_ i))) := u5 (by lia) (by simp only [d6,List.getElem?_map]; rw [List.getElem?_eq_getElem hil,hrw]; rfl)
 have e7 : evP .idx [.list (d6 (u8.map (fld P))),.int (i : Nat)] σ = some (.str (fld P (rw_ i))) := u5 (by lia) (by simp only [d6,List.getElem?_map]; rw [List.getElem?_eq_getElem hil,hrw]; rfl)
 rw [← sU hP6 hPm hmem]
 exact eP2 (eP2 (w (by decide) h8) v32 e8) (eP2 (w (by decide) h7) v32 e7) (eq_str (sD hP6 hPm hmem) (jU hPm hmem).1)
noncomputable def mF : List MS := [.scall (.glob 93) (.cons (.var 10) (.cons (.tup (.cons (.prim .mod (.cons (.prim .idx (.cons (.var 2) (.cons (.var 11) .nil))) (.cons (.lit (.int 3)) .nil))) (.cons (.prim .idx (.cons (.var 5) (.cons (.prim .idx (.cons (.var 9) (.cons (.var 11) .nil))) .nil))) .nil))) .nil)) (some (.glob 118))]
theorem eK : ∀ k,k < 5 → u8[ixL.getD k 0]? = some (w4 k) ∧ ixL[k]? = some (ixL.getD k 0) ∧ w4 k ∈ u8 ∧ eT (w4 k) = true := by decide +kernel
theorem bP {c0 c1 c2 c3 c4 c t : Int} {k : Nat} {xs : Shf} (F : x8 ρ) (hk : k < 5) (hc : (cL c0 c1 c2 c3 c4)[k]? = some (.int c)) (ht : c % 3 = t) (h2 : n7 ρ 2 = some (.list (cL c0 c1 c2 c3 c4))) (h5 : n7 ρ 5 = some (.list (d6 u8))) (h9 : n7 ρ 9 = some (.list (nIs ixL))) (h10 : n7 ρ 10 = some (.box 0)) (hi : R7 xs t k = true) :
  exB (orc 39) mF ⟨ρ.set 11 (.int (k : Nat)),[A3 xs]⟩ = some (.next,⟨ρ.set 11 (.int (k : Nat)),[A3 (l8 xs t k)]⟩) := by
 obtain ⟨g1,g2,_,_⟩ := eK k hk
 have v11 : evE (orc 39) (.var 11) (ρ.set 11 (.int (k : Nat))) [A3 xs] = some (.int (k : Nat)) := eV (A9 (F.lt (by decide)))
 have w : ∀ {j v},11 ≠ j → n7 ρ j = some v → evE (orc 39) (.var j) (ρ.set 11 (.int (k : Nat))) [A3 xs] = some v := fun hj h => eV ((gN hj).trans h)
 have e1 := eP2 (eP2 (w (by decide) h2) v11 (u5 (by lia) hc)) eL (qe (a := c) (b := 3) (by decide))
 rw [ht] at e1
 have hi9 : evP .idx [.list (nIs ixL),.int (k : Nat)] [A3 xs] = some (.int (ixL.getD k 0 : Nat)) := u5 (by lia) (by simp only [nIs,List.getElem?_map]; rw [g2]; rfl)
 have hlt : ixL.getD k 0 ≤ 1000000 := by
  have : k = 0 ∨ k = 1 ∨ k = 2 ∨ k = 3 ∨ k = 4 := by lia
  rcases this with rfl | rfl | rfl | rfl | rfl <;> decide
 have e2 := eP2 (w (by decide) h5) (eP2 (w (by decide) h9) v11 hi9) (u5 (v := .str (w4 k)) hlt (by simp only [d6,List.getElem?_map]; rw [g1]; rfl))
 have et : evE (orc 39) (.tup (.cons (.prim .mod (.cons (.prim .idx (.cons (.var 2) (.cons (.var 11) .nil))) (.cons (.lit (.int 3)) .nil))) (.cons (.prim .idx (.cons (.var 5) (.cons (.prim .idx (.cons (.var 9) (.cons (.var 11) .nil))) .nil))) .nil))) (ρ.set 11 (.int (k : Nat))) [A3 xs] = some (.tup [.int t,.str (w4 k)]) := by
  rw [zed,zsb,e1,zsb,e2,zsa]; rfl
 have s : exS (orc 39) (.scall (.glob 93) (.cons (.var 10) (.cons (.tup (.cons (.prim .mod (.cons (.prim .idx (.cons (.var 2) (.cons (.var 11) .nil))) (.cons (.lit (.int 3)) .nil))) (.cons (.prim .idx (.cons (.var 5) (.cons (.prim .idx (.cons (.var 9) (.cons (.var 11) .nil))) .nil))) .nil))) .nil)) (some (.glob 118))) ⟨ρ.set 11 (.int (k : Nat)),[A3 xs]⟩ = some (.next,⟨ρ.set 11 (.int (k : Nat)),[A3 (l8 xs t k)]⟩) := by
  have hargs : Q3 (orc 39) (.cons (.var 10) (.cons (.tup (.cons (.prim .mod (.cons (.prim .idx (.cons (.var 2) (.cons (.var 11) .nil))) (.cons (.lit (.int 3)) .nil))) (.cons (.prim .idx (.cons (.var 5) (.cons (.prim .idx (.cons (.var 9) (.cons (.var 11) .nil))) .nil))) .nil))) .nil)) (ρ.set 11 (.int (k : Nat))) [A3 xs] = some [.box 0,.tup [.int t,.str (w4 k)]] := by
   rw [zsb,w (by decide) h10,zsb,et,zsa]; rfl
  rw [ztj,zec]
  simp only [i9,hargs]
  rw [show kwE (orc 39) (some (.glob 118)) (ρ.set 11 (.int (k : Nat))) [A3 xs] = some (some (.glob 118)) from rfl]
  simp only [i9,oe hi]
 unfold mF
 rw [j5 s]; rfl
theorem s10 {c0 c1 c2 c3 c4 t0 t1 t2 t3 t4 : Int} (F : x8 ρ) (e0 : c0 % 3 = t0) (e1 : c1 % 3 = t1) (e2 : c2 % 3 = t2) (e3 : c3 % 3 = t3) (e4 : c4 % 3 = t4)
  (i4 : R7 [] t4 4 = true) (i3 : R7 (l8 [] t4 4) t3 3 = true) (i2 : R7 (l8 (l8 [] t4 4) t3 3) t2 2 = true) (i1 : R7 (l8 (l8 (l8 [] t4 4) t3 3) t2 2) t1 1 = true) (i0 : R7 (l8 (l8 (l8 (l8 [] t4 4) t3 3) t2 2) t1 1) t0 0 = true)
  (h2 : n7 ρ 2 = some (.list (cL c0 c1 c2 c3 c4))) (h5 : n7 ρ 5 = some (.list (d6 u8))) (h9 : n7 ρ 9 = some (.list (nIs ixL))) (h10 : n7 ρ 10 = some (.box 0)) :
  exS (orc 39) (.for (.one 11) (.val (.tup (.cons (.lit (.int 4)) (.cons (.lit (.int 3)) (.cons (.lit (.int 2)) (.cons (.lit (.int 1)) (.cons (.lit (.int 0)) .nil))))))) mF) ⟨ρ,[[]]⟩ = some (.next,⟨ρ.set 11 (.int 0),[A3 (sh5 t0 t1 t2 t3 t4)]⟩) := by
 have hi : evI (orc 39) (.val (.tup (.cons (.lit (.int 4)) (.cons (.lit (.int 3)) (.cons (.lit (.int 2)) (.cons (.lit (.int 1)) (.cons (.lit (.int 0)) .nil))))))) ρ [[]] = some (nIs [4,3,2,1,0]) := rfl
 rw [ztm,hi]
 simp only [i9]
 rw [if_pos ⟨j0 (fun _ => rfl) _,rfl⟩]
 have G : ∀ (v : PV),x8 (ρ.set 11 v) := fun v => F.set (by decide)
 have a2 : ∀ v,n7 (ρ.set 11 v) 2 = _ := fun v => (gN (by decide)).trans h2
 have a5 : ∀ v,n7 (ρ.set 11 v) 5 = _ := fun v => (gN (by decide)).trans h5
 have a9 : ∀ v,n7 (ρ.set 11 v) 9 = _ := fun v => (gN (by decide)).trans h9
 have a10 : ∀ v,n7 (ρ.set 11 v) 10 = _ := fun v => (gN (by decide)).trans h10
 have T4 := bP (k := 4) F (by decide) rfl e4 h2 h5 h9 h10 i4
 have T3 := bP (k := 3) (G (.int (4 : Nat))) (by decide) rfl e3 (a2 _) (a5 _) (a9 _) (a10 _) i3
 have T2 := bP (k := 2) (G (.int (3 : Nat))) (by decide) rfl e2 (a2 _) (a5 _) (a9 _) (a10 _) i2
 have T1 := bP (k := 1) (G (.int (2 : Nat))) (by decide) rfl e1 (a2 _) (a5 _) (a9 _) (a10 _) i1
 have T0 := bP (k := 0) (G (.int (1 : Nat))) (by decide) rfl e0 (a2 _) (a5 _) (a9 _) (a10 _) i0
 simp only [List.set_set] at T3 T2 T1 T0
 have b : ∀ (σ : Sto) (ρ' : Rho) (v : PV) (h : 11 < ρ'.length),I7 (.one 11) v ρ' = some (ρ'.set 11 v) := fun σ ρ' v h => f5 h
 show G1 _ _ [PV.int (4 : Nat),.int (3 : Nat),.int (2 : Nat),.int (1 : Nat),.int (0 : Nat)] _ = _
 have L : ∀ v,11 < (ρ.set 11 v).length := fun v => by rw [List.length_set]; exact F.lt (by decide)
 rw [o7 (s := ⟨ρ,[[]]⟩) (f5 (F.lt (by decide))) T4,
  o7 (s := ⟨ρ.set 11 (.int (4 : Nat)),_⟩) (ρ' := ρ.set 11 (.int (3 : Nat))) (by rw [f5 (L _),List.set_set]) T3,
  o7 (s := ⟨ρ.set 11 (.int (3 : Nat)),_⟩) (ρ' := ρ.set 11 (.int (2 : Nat))) (by rw [f5 (L _),List.set_set]) T2,
  o7 (s := ⟨ρ.set 11 (.int (2 : Nat)),_⟩) (ρ' := ρ.set 11 (.int (1 : Nat))) (by rw [f5 (L _),List.set_set]) T1,
  o7 (s := ⟨ρ.set 11 (.int (1 : Nat)),_⟩) (ρ' := ρ.set 11 (.int (0 : Nat))) (by rw [f5 (L _),List.set_set]) T0]
 rfl
end
section
variable {ρ : Rho} {σ : Sto} {C : Orc}
theorem mM {a b : PV} {d : PyData} (ha : toD 8 (L1 σ a) = some d) (hb : toD 8 (L1 σ b) = some d) (hd : PyData.eqv d d = true) : evP .ne [a,b] σ = some (.bool false) := by
 show ((toD 8 (L1 σ a)).bind fun da => (toD 8 (L1 σ b)).map fun db => PV.bool (!PyData.eqv da db)) = _
 rw [ha,hb]
 simp only [i9,n6,hd]
 rfl
theorem oN (k : Nat) : okS (w4 k) := by
 unfold w4
 rw [List.getD_eq_getElem?_getD]
 cases h : u8[ixL.getD k 0]? with
 | none => intro c hc; cases hc
 | some r => exact oQ (List.mem_of_getElem? h)
theorem kY {n : Nat} : ∀ (s : Shf),(A3 s).mapM (toD (n + 2)) = some (s.map fun p => PyData.tuple [.int p.1,.str ⟨(w4 p.2).toArray⟩])
 | [] => rfl
 | p :: r => by
  show (PV.tup [.int p.1,.str (w4 p.2)] :: A3 r).mapM _ = _
  have e : toD (n + 2) (PV.tup [.int p.1,.str (w4 p.2)]) = some (.tuple [.int p.1,.str ⟨(w4 p.2).toArray⟩]) := by
   show ([PV.int p.1,.str (w4 p.2)].mapM (toD (n + 1))).map PyData.tuple = _
   rw [List.mapM_cons,List.mapM_cons,List.mapM_nil,kl,cj (oN _)]; rfl
  rw [List.mapM_cons,e,kY r]; rfl
theorem lX : ∀ (s : Shf),PyData.eqvAll (s.map fun p => PyData.tuple [.int p.1,.str ⟨(w4 p.2).toArray⟩]) (s.map fun p => PyData.tuple [.int p.1,.str ⟨(w4 p.2).toArray⟩]) = true
 | [] => rfl
 | a :: r => by simp only [List.map_cons,PyData.eqvAll,PyData.eqv,lX r,beq_self_eq_true,Bool.and_self]
theorem rT {s : Shf} {n : Nat} (h : σ[n]? = some (A3 s)) : evP .ne [.box n,.list (A3 s)] σ = some (.bool false) := by
 have e : toD 8 (PV.list (A3 s)) = some (.list (s.map fun p => PyData.tuple [.int p.1,.str ⟨(w4 p.2).toArray⟩])) := by
  show ((A3 s).mapM (toD (5 + 2))).map PyData.list = _
  rw [kY]; rfl
 have e' : toD 8 (L1 σ (PV.list (A3 s))) = some (.list (s.map fun p => PyData.tuple [.int p.1,.str ⟨(w4 p.2).toArray⟩])) := e
 refine mM ?_ e' ?_
 ·simp only [L1,h]; exact e
 ·simp only [PyData.eqv,lX]
theorem fL {n : Nat} : ∀ (s : Shf),(s.map fun p => PV.list (nIs (y9 p.2))).mapM (toD (n + 2)) = some (s.map fun p => PyData.list ((y9 p.2).map fun d => .int (d : Nat)))
 | [] => rfl
 | p :: r => by
  have e : toD (n + 2) (PV.list (nIs (y9 p.2))) = some (.list ((y9 p.2).map fun d => .int (d : Nat))) := by
   have hm : nIs (y9 p.2) = ((y9 p.2).map fun (d : Nat) => (d : Int)).map PV.int := by simp [nIs]
   show ((nIs (y9 p.2)).mapM (toD (n + 1))).map PyData.list = _
   rw [hm,ff,List.map_map]; rfl
  rw [List.map_cons,List.mapM_cons,e,fL r]; rfl
theorem ij : ∀ (l : List Nat),PyData.eqvAll (l.map fun d => .int (d : Nat)) (l.map fun d => .int (d : Nat)) = true
 | [] => rfl
 | a :: r => by simp only [List.map_cons,PyData.eqvAll,PyData.eqv,ij r,beq_self_eq_true,Bool.and_self]
theorem fG : ∀ (s : Shf),PyData.eqvAll (s.map fun p => PyData.list ((y9 p.2).map fun d => .int (d : Nat))) (s.map fun p => PyData.list ((y9 p.2).map fun d => .int (d : Nat))) = true
 | [] => rfl
 | a :: r => by simp only [List.map_cons,PyData.eqvAll,PyData.eqv,fG r,ij,Bool.and_self]
theorem oF {s : Shf} : evP .ne [.list (s.map fun p => PV.list (nIs (y9 p.2))),.list (s.map fun p => PV.list (nIs (y9 p.2)))] σ = some (.bool false) := by
 have e : toD 8 (PV.list (s.map fun p => PV.list (nIs (y9 p.2)))) = some (.list (s.map fun p => PyData.list ((y9 p.2).map fun d => .int (d : Nat)))) := by
  show ((s.map fun p => PV.list (nIs (y9 p.2))).mapM (toD (5 + 2))).map PyData.list = _
  rw [fL]; rfl
 have e' : toD 8 (L1 σ (PV.list (s.map fun p => PV.list (nIs (y9 p.2))))) = some (.list (s.map fun p => PyData.list ((y9 p.2).map fun d => .int (d : Nat)))) := e
 exact mM e' e' (by simp only [PyData.eqv,fG])
theorem ce : ∀ (l : List (Int × Int)),L8 (l.map fun p => PV.tup [.int p.1,.int p.2]) = some l
 | [] => rfl
 | a :: r => by
  show (L8 (r.map fun p => PV.tup [.int p.1,.int p.2])).map ((a.1,a.2) :: ·) = _
  rw [ce r]; rfl
theorem qH {l : List PV} {ps : List (Int × Int)} (h : L8 l = some ps) (h5 : l.length = 5) : evP .sorted [.list l] σ = some (.list ((I6 ps).map fun i => l.getD i .none)) := by
 show ((L8 l).bind fun ps => if l.length = 5 then some (PV.list ((I6 ps).map fun i => l.getD i .none)) else none) = _
 rw [h]
 simp only [i9,if_pos h5]
noncomputable def kh : ME := .comp (.tup (.cons (.prim .mod (.cons (.prim .idx (.cons (.var 2) (.cons (.var 34) .nil))) (.cons (.lit (.int 3)) .nil))) (.cons (.prim .neg (.cons (.var 34) .nil)) .nil))) (.one 34) (.range (.cons (.lit (.int 5)) .nil)) none
theorem s11 {c0 c1 c2 c3 c4 t0 t1 t2 t3 t4 : Int} {π : List Nat} (F : x8 ρ) (e0 : c0 % 3 = t0) (e1 : c1 % 3 = t1) (e2 : c2 % 3 = t2) (e3 : c3 % 3 = t3) (e4 : c4 % 3 = t4) (hπ : I6 (ps5 t0 t1 t2 t3 t4) = π) (hlt : ∀ i ∈ π,i < 5) (hl : π.length ≤ 1000)
  (hs : sh5 t0 t1 t2 t3 t4 = π.map fun i => (at5 t0 t1 t2 t3 t4 i,i)) (h2 : n7 ρ 2 = some (.list (cL c0 c1 c2 c3 c4))) (h6 : n7 ρ 6 = some (.list (d6 U6))) (h10 : n7 ρ 10 = some (.box 0)) (hσ : σ[0]? = some (A3 (sh5 t0 t1 t2 t3 t4))) :
  evE C (.prim .ne (.cons (.var 10) (.cons (.comp (.tup (.cons (.var 35) (.cons (.prim .idx (.cons (.var 6) (.cons (.prim .neg (.cons (.var 36) .nil)) .nil))) .nil))) (.two 35 36) (.val (.prim .sorted (.cons kh .nil))) none) .nil))) ρ σ = some (.bool false) := by
 have hp : evE C kh ρ σ = some (.list ((ps5 t0 t1 t2 t3 t4).map fun p => PV.tup [.int p.1,.int p.2])) := by
  have hx : ((ps5 t0 t1 t2 t3 t4).map fun p => PV.tup [.int p.1,.int p.2]) = (List.range 5).map fun k => PV.tup [.int (at5 t0 t1 t2 t3 t4 k),.int (-(k : Nat))] := rfl
  rw [hx]
  unfold kh
  refine K8 (l := List.range 5) (g := fun k => .int (k : Nat)) (f := fun k => .tup [.int (at5 t0 t1 t2 t3 t4 k),.int (-(k : Nat))]) rfl (F.u1 (by decide) (by decide)) (fun k hk => ?_) (fun _ _ => rfl) (by decide)
  have hk5 := List.mem_range.mp hk
  refine ⟨_,f5 (F.lt (by decide)),?_⟩
  have v34 : evE C (.var 34) (ρ.set 34 (.int (k : Nat))) σ = some (.int (k : Nat)) := eV (A9 (F.lt (by decide)))
  have v2 : evE C (.var 2) (ρ.set 34 (.int (k : Nat))) σ = some (.list (cL c0 c1 c2 c3 c4)) := eV ((gN (by decide)).trans h2)
  have hc : ∃ c,(cL c0 c1 c2 c3 c4)[k]? = some (.int c) ∧ c % 3 = at5 t0 t1 t2 t3 t4 k := by
   have : k = 0 ∨ k = 1 ∨ k = 2 ∨ k = 3 ∨ k = 4 := by lia
   rcases this with rfl | rfl | rfl | rfl | rfl
   ·exact ⟨c0,rfl,e0⟩
   ·exact ⟨c1,rfl,e1⟩
   ·exact ⟨c2,rfl,e2⟩
   ·exact ⟨c3,rfl,e3⟩
   ·exact ⟨c4,rfl,e4⟩
  obtain ⟨c,g1,g2⟩ := hc
  have a1 := eP2 (eP2 v2 v34 (u5 (by lia) g1)) eL (qe (a := c) (b := 3) (by decide))
  rw [g2] at a1
  have a2 := eP1 v34 (qK (a := (k : Nat)))
  rw [zed,zsb,a1,zsb,a2,zsa]; rfl
 have hsort : evE C (.prim .sorted (.cons kh .nil)) ρ σ = some (.list (π.map fun i => PV.tup [.int (at5 t0 t1 t2 t3 t4 i),.int (-(i : Nat))])) := by
  refine eP1 hp ?_
  rw [qH (ce _) rfl,hπ]
  congr 2
  refine List.map_congr_left fun i hi => ?_
  have := hlt i hi
  have h5 : i = 0 ∨ i = 1 ∨ i = 2 ∨ i = 3 ∨ i = 4 := by lia
  rcases h5 with rfl | rfl | rfl | rfl | rfl <;> rfl
 have hr : evE C (.comp (.tup (.cons (.var 35) (.cons (.prim .idx (.cons (.var 6) (.cons (.prim .neg (.cons (.var 36) .nil)) .nil))) .nil))) (.two 35 36) (.val (.prim .sorted (.cons kh .nil))) none) ρ σ = some (.list (A3 (sh5 t0 t1 t2 t3 t4))) := by
  have hx : A3 (sh5 t0 t1 t2 t3 t4) = π.map fun i => .tup [.int (at5 t0 t1 t2 t3 t4 i),.str (w4 i)] := by
   rw [hs]; simp [A3]
  rw [hx]
  refine K8 (l := π) (g := fun i => PV.tup [.int (at5 t0 t1 t2 t3 t4 i),.int (-(i : Nat))]) (f := fun i => .tup [.int (at5 t0 t1 t2 t3 t4 i),.str (w4 i)]) (mh hsort (by rw [List.length_map]; unfold a8; lia)) (F.u2 (by decide) (by decide) (by decide) (by decide)) (fun i hi => ?_) (fun _ _ => rfl) (by unfold a8; lia)
  have hi5 := hlt i hi
  have l36 : 36 < (ρ.set 35 (.int (at5 t0 t1 t2 t3 t4 i))).length := by rw [List.length_set]; exact F.lt (by decide)
  refine ⟨_,o0 (F.lt (by decide)) (F.lt (by decide)),?_⟩
  have v35 : evE C (.var 35) ((ρ.set 35 (.int (at5 t0 t1 t2 t3 t4 i))).set 36 (.int (-(i : Nat)))) σ = some (.int (at5 t0 t1 t2 t3 t4 i)) := eV ((gN (by decide)).trans (A9 (F.lt (by decide))))
  have v36 : evE C (.var 36) ((ρ.set 35 (.int (at5 t0 t1 t2 t3 t4 i))).set 36 (.int (-(i : Nat)))) σ = some (.int (-(i : Nat))) := eV (A9 l36)
  have v6 : evE C (.var 6) ((ρ.set 35 (.int (at5 t0 t1 t2 t3 t4 i))).set 36 (.int (-(i : Nat)))) σ = some (.list (d6 U6)) := eV ((gN (by decide)).trans ((gN (by decide)).trans h6))
  have a := eP1 v36 (qK (a := -(i : Nat)))
  rw [Int.neg_neg] at a
  have hx : evP .idx [.list (d6 U6),.int (i : Nat)] σ = some (.str (w4 i)) := u5 (by lia) (by
   rw [nQ]
   simp only [d6,List.getElem?_map]
   rw [List.getElem?_range (by lia)]; rfl)
  have a2 := eP2 v6 a hx
  rw [zed,zsb,v35,zsb,a2,zsa]; rfl
 exact eP2 (eV h10) hr (rT hσ)
noncomputable def qZ : List (List Nat × Bool) := [([],true),([40],false),([41],false)]
theorem qA : ∀ k,k < 5 → ∀ p ∈ qZ,eT (p.1 ++ w4 k) = p.2 := by decide +kernel
theorem s12 {c0 c1 c2 c3 c4 : Int} {P : List (List Nat)} (hP6 : P.length = 6) (hPm : ∀ p ∈ P,p ∈ H9) (F : x8 ρ) (h2 : n7 ρ 2 = some (.list (cL c0 c1 c2 c3 c4))) (h7 : n7 ρ 7 = some (.list (d6 (u8.map (fld P))))) (h9 : n7 ρ 9 = some (.list (nIs ixL))) :
  evE (orc 39) (.comp (.call (.glob 35) (.cons (.prim .add (.cons (.var 37) (.cons (.prim .idx (.cons (.var 7) (.cons (.prim .idx (.cons (.var 9) (.cons (.prim .mod (.cons (.prim .sum (.cons (.var 2) .nil)) (.cons (.lit (.int 5)) .nil))) .nil))) .nil))) .nil))) .nil) none) (.one 37) (.val (.tup (.cons (.lit (.str [])) (.cons (.lit (.str [40])) (.cons (.lit (.str [41])) .nil))))) none) ρ σ = some (.list [.bool true,.bool false,.bool false]) := by
 have hx : [PV.bool true,.bool false,.bool false] = qZ.map fun p => .bool p.2 := rfl
 rw [hx]
 refine K8 (l := qZ) (g := fun p => .str p.1) (f := fun p => .bool p.2) rfl (F.u1 (by decide) (by decide)) (fun p hp => ?_) (fun _ _ => rfl) (by decide)
 refine ⟨_,f5 (F.lt (by decide)),?_⟩
 have w : ∀ {j v},37 ≠ j → n7 ρ j = some v → evE (orc 39) (.var j) (ρ.set 37 (.str p.1)) σ = some v := fun hj h => eV ((gN hj).trans h)
 have v37 : evE (orc 39) (.var 37) (ρ.set 37 (.str p.1)) σ = some (.str p.1) := eV (dK (F.lt (by decide)))
 have hsum : evP .sum [.list (cL c0 c1 c2 c3 c4)] σ = some (.int [c0,c1,c2,c3,c4].sum) := rfl
 generalize [c0,c1,c2,c3,c4].sum = S at hsum
 have hS : S % 5 = ((S % 5).toNat : Int) := by lia
 have hk : (S % 5).toNat < 5 := by lia
 generalize (S % 5).toNat = k at *
 have hmod : evP .mod [.int S,.int 5] σ = some (.int (k : Nat)) := by rw [qe (by decide),hS]
 obtain ⟨g1,g2,g3,_⟩ := eK k hk
 have hlt : ixL.getD k 0 ≤ 1000000 := by
  have : k = 0 ∨ k = 1 ∨ k = 2 ∨ k = 3 ∨ k = 4 := by lia
  rcases this with rfl | rfl | rfl | rfl | rfl <;> decide
 have a1 := eP2 (w (by decide) h9) (eP2 (eP1 (w (by decide) h2) hsum) eL hmod) (u5 (v := .int (ixL.getD k 0 : Nat)) (by lia) (by simp only [nIs,List.getElem?_map]; rw [g2]; rfl))
 have a2 := eP2 (w (by decide) h7) a1 (u5 (v := .str (fld P (w4 k))) hlt (by simp only [d6,List.getElem?_map]; rw [g1]; rfl))
 have hpc : ∀ c ∈ p.1,c = 40 ∨ c = 41 := by
  simp only [qZ,List.mem_cons,B8,or_false] at hp
  rcases hp with rfl | rfl | rfl <;> simp
 have hpl : p.1.length ≤ 1 := by
  simp only [qZ,List.mem_cons,B8,or_false] at hp
  rcases hp with rfl | rfl | rfl <;> simp
 have hz := fJ (H4 _ g3).2.1 hPm
 have hok : ∀ b ∈ (p.1.map fun c => (c,([] : List Nat))) ++ (w4 k).zip P,okB b := by
  intro b hb
  rcases List.mem_append.mp hb with hb | hb
  ·obtain ⟨c,hc,rfl⟩ := List.mem_map.mp hb
   exact ⟨hpc c hc,by simp [H9]⟩
  ·exact hz b hb
 have hfl : l4 ((p.1.map fun c => (c,([] : List Nat))) ++ (w4 k).zip P) = p.1 ++ fld P (w4 k) := by
  unfold fld
  simp only [l4,List.flatMap_append]
  congr 1
  induction p.1 with
  | nil => rfl
  | cons c r ih => simp [ih]
 have hlen := O9 hok
 have hl7 : ((p.1.map fun c => (c,([] : List Nat))) ++ (w4 k).zip P).length ≤ 7 := by
  rw [List.length_append,List.length_map,List.length_zip]; lia
 rw [hfl] at hlen
 have a3 := eP2 v37 a2 (qB (by rw [← List.length_append]; unfold a8; lia))
 obtain ⟨σ1,c0'⟩ := eW hok (by rw [hfl]; lia) 37
 have hfst : ((p.1.map fun c => (c,([] : List Nat))) ++ (w4 k).zip P).map Prod.fst = p.1 ++ w4 k := by
  rw [List.map_append,eU (by rw [(H4 _ g3).1,hP6]),List.map_map]
  congr 1
  exact List.map_id _
 rw [hfl,hfst,qA k hk p hp] at c0'
 rw [zek,zec,zsb,a3,zsa]
 exact u7 (C := orc 39) (σ := σ) (kw := none) rfl rfl rfl rfl c0'
theorem s13 (F : x8 ρ) (h12 : n7 ρ 12 = some (.list [.bool true,.bool false,.bool false])) :
  evE C (.ite (.prim .ne (.cons (.comp (.prim (.isc (.bool true)) (.cons (.var 38) .nil)) (.one 38) (.val (.var 12)) none) (.cons (.list (.cons (.lit (.bool true)) (.cons (.lit (.bool false)) (.cons (.lit (.bool false)) .nil)))) .nil))) (.lit (.bool true)) (.prim .ne (.cons (.comp (.prim (.isc (.bool false)) (.cons (.var 39) .nil)) (.one 39) (.val (.var 12)) none) (.cons (.list (.cons (.lit (.bool false)) (.cons (.lit (.bool true)) (.cons (.lit (.bool true)) .nil)))) .nil)))) ρ σ = some (.bool false) := by
 have e1 : evE C (.comp (.prim (.isc (.bool true)) (.cons (.var 38) .nil)) (.one 38) (.val (.var 12)) none) ρ σ = some (.list ([true,false,false].map fun b => .bool (b == true))) :=
  K8 (l := [true,false,false]) (g := PV.bool) (mh (eV h12) (by decide)) (F.u1 (by decide) (by decide)) (fun b _ => ⟨_,f5 (F.lt (by decide)),eP1 (eV (jQ (F.lt (by decide)))) oJ⟩) (fun _ _ => rfl) (by decide)
 have e2 : evE C (.comp (.prim (.isc (.bool false)) (.cons (.var 39) .nil)) (.one 39) (.val (.var 12)) none) ρ σ = some (.list ([true,false,false].map fun b => .bool (b == false))) :=
  K8 (l := [true,false,false]) (g := PV.bool) (mh (eV h12) (by decide)) (F.u1 (by decide) (by decide)) (fun b _ => ⟨_,f5 (F.lt (by decide)),eP1 (eV (jQ (F.lt (by decide)))) oJ⟩) (fun _ _ => rfl) (by decide)
 have a1 := eP2 (b := .list (.cons (.lit (.bool true)) (.cons (.lit (.bool false)) (.cons (.lit (.bool false)) .nil)))) (p := .ne) (z := .bool false) e1 (y := .list [.bool true,.bool false,.bool false]) rfl rfl
 have a2 := eP2 (b := .list (.cons (.lit (.bool false)) (.cons (.lit (.bool true)) (.cons (.lit (.bool true)) .nil)))) (p := .ne) (z := .bool false) e2 (y := .list [.bool false,.bool true,.bool true]) rfl rfl
 rw [zeh,a1]
 exact a2
theorem s14 {P : List (List Nat)} {sh : Shf} (hP6 : P.length = 6) (hPm : ∀ p ∈ P,p ∈ H9) (hk : ∀ p ∈ sh,p.2 < 5) (hl : sh.length ≤ 1000) (F : x8 ρ) (h4 : n7 ρ 4 = some (.list (d6 P))) (h10 : n7 ρ 10 = some (.box 0)) (hσ : σ[0]? = some (A3 sh)) :
  evE (orc 39) (.comp (.call (.glob 128) (.cons (.var 41) (.cons (.var 4) .nil)) none) (.two 40 41) (.boxl (.var 10)) none) ρ σ = some (.list (sh.map fun p => PV.list (nIs (y9 p.2)))) := by
 have hi : evI (orc 39) (.boxl (.var 10)) ρ σ = some (sh.map fun p => .tup [.int p.1,.str (w4 p.2)]) := by
  rw [zib,eV h10]
  simp only [i9,hσ]
  rw [if_pos (by simp only [A3,List.length_map]; unfold a8; lia)]
  rfl
 refine K8 (l := sh) (g := fun p => .tup [.int p.1,.str (w4 p.2)]) (f := fun p => .list (nIs (y9 p.2))) hi (F.u2 (by decide) (by decide) (by decide) (by decide)) (fun p hp => ?_) (fun p _ => by show i8 _ = true; exact j0 (fun _ => rfl) _) (by unfold a8; lia)
 have hk5 := hk p hp
 obtain ⟨_,_,g3,_⟩ := eK p.2 hk5
 have hrl := H4 _ g3
 have l41 : 41 < (ρ.set 40 (.int p.1)).length := by rw [List.length_set]; exact F.lt (by decide)
 refine ⟨_,o0 (F.lt (by decide)) (F.lt (by decide)),?_⟩
 have v41 : evE (orc 39) (.var 41) ((ρ.set 40 (.int p.1)).set 41 (.str (w4 p.2))) σ = some (.str (w4 p.2)) := eV (dK l41)
 have v4 : evE (orc 39) (.var 4) ((ρ.set 40 (.int p.1)).set 41 (.str (w4 p.2))) σ = some (.list (d6 P)) := eV ((gN (by decide)).trans ((gN (by decide)).trans h4))
 have hz : (w4 p.2).length = P.length := by rw [hrl.1,hP6]
 have hm := mY (bs := (w4 p.2).zip P) (by rw [List.length_zip,hrl.1,hP6]; rfl) (fJ hrl.2.1 hPm) 36
 rw [eU hz,qy hz,jg hk5 (eU hz)] at hm
 have hs : H6 (.list (d6 P)) = true := by
  simp only [H6,znc,znd,zne,znf,zng,PV.isUnb,d6,j0 (fun (s : List Nat) => (rfl : (PV.str s).noBox = true)),Bool.not_false,Bool.and_self]
 rw [zek,zec,zsb,v41,zsb,v4,zsa]
 exact Z6 (C := orc 39) (σ := σ) rfl (by rw [List.all_cons,List.all_cons,hs]; rfl) (j0 (fun _ => rfl) _) hm
theorem s15 {sh : Shf} (hk : ∀ p ∈ sh,p.2 < 5) (hl : sh.length ≤ 1000) (F : x8 ρ) (h13 : n7 ρ 13 = some (.list (sh.map fun p => PV.list (nIs (y9 p.2))))) (h10 : n7 ρ 10 = some (.box 0)) (hσ : σ[0]? = some (A3 sh)) :
  evE (orc 39) (.prim .ne (.cons (.var 13) (.cons (.comp (.call (.glob 135) (.cons (.var 43) .nil) none) (.two 42 43) (.boxl (.var 10)) none) .nil))) ρ σ = some (.bool false) := by
 have hi : evI (orc 39) (.boxl (.var 10)) ρ σ = some (sh.map fun p => .tup [.int p.1,.str (w4 p.2)]) := by
  rw [zib,eV h10]
  simp only [i9,hσ]
  rw [if_pos (by simp only [A3,List.length_map]; unfold a8; lia)]
  rfl
 have hr : evE (orc 39) (.comp (.call (.glob 135) (.cons (.var 43) .nil) none) (.two 42 43) (.boxl (.var 10)) none) ρ σ = some (.list (sh.map fun p => PV.list (nIs (y9 p.2)))) := by
  refine K8 (l := sh) (g := fun p => .tup [.int p.1,.str (w4 p.2)]) (f := fun p => .list (nIs (y9 p.2))) hi (F.u2 (by decide) (by decide) (by decide) (by decide)) (fun p hp => ?_) (fun p _ => by show i8 _ = true; exact j0 (fun _ => rfl) _) (by unfold a8; lia)
  have l43 : 43 < (ρ.set 42 (.int p.1)).length := by rw [List.length_set]; exact F.lt (by decide)
  refine ⟨_,o0 (F.lt (by decide)) (F.lt (by decide)),?_⟩
  have v43 : evE (orc 39) (.var 43) ((ρ.set 42 (.int p.1)).set 43 (.str (w4 p.2))) σ = some (.str (w4 p.2)) := eV (dK l43)
  rw [zek,zec,zsb,v43,zsa]
  exact Z6 (C := orc 39) (σ := σ) rfl rfl (j0 (fun _ => rfl) _) (od 38 p.2 (hk p hp))
 exact eP2 (eV h13) hr oF
end
section
variable {ρ : Rho} {σ : Sto} {C : Orc}
theorem rm : evP .pow [.int 10,.int 6] σ = some (.int 1000000) := by
 rw [qM ⟨by decide,by decide⟩]; rfl
noncomputable def lG : Int := 2 ^ 701
theorem sG : evP .pow [.int 2,.int 701] σ = some (.int lG) := by
 rw [qM ⟨by decide,by decide⟩]; rfl
theorem ph {a : Int} : evP .fdiv [.int a,.int 7] σ = some (.int (a / 7)) := by
 show (if (0 : Int) < 7 ∧ (7 : Int) < 65536 then some (PV.int (a / 7)) else none) = _
 rw [if_pos ⟨by decide,by decide⟩]
theorem s16 {c0 c1 c2 c3 c4 : Int} (h2 : n7 ρ 2 = some (.list (cL c0 c1 c2 c3 c4))) : evE C (.prim .add (.cons (.lit (.int 3)) (.cons (.prim .mod (.cons (.prim .sum (.cons (.var 2) .nil)) (.cons (.prim .pow (.cons (.lit (.int 10)) (.cons (.lit (.int 6)) .nil))) .nil))) .nil))) ρ σ = some (.int (3 + [c0,c1,c2,c3,c4].sum % 1000000)) := by
 have hsum : evP .sum [.list (cL c0 c1 c2 c3 c4)] σ = some (.int [c0,c1,c2,c3,c4].sum) := rfl
 exact eP2 eL (eP2 (eP1 (eV h2) hsum) (eP2 eL eL rm) (qe (by decide))) dk
theorem s17 {c0 c1 c2 c3 c4 q : Int} (hq : C8 q = true) (h2 : n7 ρ 2 = some (.list (cL c0 c1 c2 c3 c4))) (h14 : n7 ρ 14 = some (.int q)) : evE C (.ite (.prim .eq (.cons (.prim .mod (.cons (.prim .fdiv (.cons (.prim .idx (.cons (.var 2) (.cons (.lit (.int 1)) .nil))) (.cons (.lit (.int 7)) .nil))) (.cons (.lit (.int 3)) .nil))) (.cons (.lit (.int 2)) .nil))) (.prim .mul (.cons (.var 14) (.cons (.prim .pow (.cons (.lit (.int 2)) (.cons (.lit (.int 701)) .nil))) .nil))) (.var 14)) ρ σ =
  some (.int (if c1 / 7 % 3 == 2 then q * lG else q)) := by
 have hx : evP .idx [.list (cL c0 c1 c2 c3 c4),.int 1] σ = some (.int c1) := u5 (i := 1) (by decide) rfl
 have hc := eP2 (eP2 (eP2 (eP2 (C := C) (ρ := ρ) (eV h2) eL hx) eL ph) eL (qe (b := 3) (by decide))) (b := .lit (.int 2)) eL pi
 rw [zeh,hc]
 have hK : C8 lG = true := I2 (k := 702) (by
  unfold lG
  rw [Int.natAbs_pow]
  exact Nat.pow_lt_pow_right (by decide) (by decide)) (by decide)
 cases h : c1 / 7 % 3 == 2
 ·exact eV (C := C) (σ := σ) h14
 ·exact eP2 (C := C) (eV h14) (eP2 eL eL sG) (mL hq hK)
theorem s18 {c0 c1 c2 c3 c4 q : Int} (h2 : n7 ρ 2 = some (.list (cL c0 c1 c2 c3 c4))) (h14 : n7 ρ 14 = some (.int q)) : evE C (.ite (.prim .eq (.cons (.prim .mod (.cons (.prim .fdiv (.cons (.prim .idx (.cons (.var 2) (.cons (.lit (.int 0)) .nil))) (.cons (.lit (.int 7)) .nil))) (.cons (.lit (.int 2)) .nil))) (.cons (.lit (.int 1)) .nil))) (.prim .neg (.cons (.var 14) .nil)) (.var 14)) ρ σ =
  some (.int (if c0 / 7 % 2 == 1 then -q else q)) := by
 have hx : evP .idx [.list (cL c0 c1 c2 c3 c4),.int 0] σ = some (.int c0) := u5 (i := 0) (by decide) rfl
 have hc := eP2 (eP2 (eP2 (eP2 (C := C) (ρ := ρ) (eV h2) eL hx) eL ph) eL (qe (b := 2) (by decide))) (b := .lit (.int 1)) eL pi
 rw [zeh,hc]
 cases h : c0 / 7 % 2 == 1
 ·exact eV (C := C) (σ := σ) h14
 ·exact eP1 (C := C) (eV h14) qK
theorem ql : ∀ i,i < 5 → ∀ j,j < 5 → U2 i j ≤ 3 := by decide +kernel
theorem s19 {q : Int} (hq2 : q.natAbs < 2 ^ 722) {π : List Nat} (hlt : ∀ i ∈ π,i < 5) (hl : π.length ≤ 1000) (F : x8 ρ) (h14 : n7 ρ 14 = some (.int q)) (h13 : n7 ρ 13 = some (.list (π.map fun i => PV.list (nIs (y9 i))))) :
  evE (orc 39) (.comp (.comp (.prim .pow (.cons (.var 14) (.cons (.call (.glob 142) (.cons (.var 44) (.cons (.var 45) .nil)) none) .nil))) (.one 45) (.val (.var 13)) none) (.one 44) (.val (.var 13)) none) ρ σ = some (.list (π.map fun i => .list (π.map fun j => .int (q ^ U2 i j)))) := by
 refine K8 (l := π) (g := fun i => PV.list (nIs (y9 i))) (f := fun i => .list (π.map fun j => .int (q ^ U2 i j))) (mh (eV h13) (by rw [List.length_map]; unfold a8; lia)) (F.u1 (by decide) (by decide)) (fun i hi => ⟨_,f5 (F.lt (by decide)),?_⟩) (fun i _ => by show i8 _ = true; exact j0 (fun _ => rfl) _) (by unfold a8; lia)
 have l45 : 45 < (ρ.set 44 (.list (nIs (y9 i)))).length := by rw [List.length_set]; exact F.lt (by decide)
 refine K8 (l := π) (g := fun j => PV.list (nIs (y9 j))) (f := fun j => .int (q ^ U2 i j)) (mh (eV ((gN (by decide)).trans h13)) (by rw [List.length_map]; unfold a8; lia)) (un1 (by rw [List.getElem?_set_ne (by decide)]; exact F.free 45 (by decide) (by decide))) (fun j hj => ⟨_,f5 l45,?_⟩) (fun _ _ => rfl) (by unfold a8; lia)
 have v14 : evE (orc 39) (.var 14) ((ρ.set 44 (.list (nIs (y9 i)))).set 45 (.list (nIs (y9 j)))) σ = some (.int q) := eV ((gN (by decide)).trans ((gN (by decide)).trans h14))
 have v44 : evE (orc 39) (.var 44) ((ρ.set 44 (.list (nIs (y9 i)))).set 45 (.list (nIs (y9 j)))) σ = some (.list (nIs (y9 i))) := eV ((gN (by decide)).trans (aA (F.lt (by decide))))
 have v45 : evE (orc 39) (.var 45) ((ρ.set 44 (.list (nIs (y9 i)))).set 45 (.list (nIs (y9 j)))) σ = some (.list (nIs (y9 j))) := eV (aA l45)
 have hs : ∀ k,H6 (.list (nIs (y9 k))) = true := fun k => by
  simp only [H6,znc,znd,zne,znf,zng,PV.isUnb,nIs,j0 (fun (s : Nat) => (rfl : (PV.int s).noBox = true)),Bool.not_false,Bool.and_self]
 have hc : evE (orc 39) (.call (.glob 142) (.cons (.var 44) (.cons (.var 45) .nil)) none) ((ρ.set 44 (.list (nIs (y9 i)))).set 45 (.list (nIs (y9 j)))) σ = some (.int (U2 i j : Nat)) := by
  rw [zek,zec,zsb,v44,zsb,v45,zsa]
  exact u7 (C := orc 39) (σ := σ) (kw := none) rfl rfl (by rw [List.all_cons,List.all_cons,hs,hs]; rfl) rfl (qx 38 i j (hlt i hi) (hlt j hj))
 refine eP2 v14 hc ?_
 have h1 := ql i (hlt i hi) j (hlt j hj)
 have hb : intBits q ≤ 722 := fi hq2
 have h2 : intBits q * U2 i j ≤ 722 * 3 := Nat.mul_le_mul hb h1
 have h3 : (intBits q : Int) * (U2 i j : Int) = ((intBits q * U2 i j : Nat) : Int) := by simp
 rw [qM ⟨by lia,by rw [h3]; lia⟩]
 simp
theorem vj {q : Int} {π : List Nat} (h5 : π.length = 5) (hlt : ∀ i ∈ π,i < 5) : (π.map fun i => PV.list (π.map fun j => .int (q ^ U2 i j))) = W4 5 (Aq q π 0) := by
 obtain ⟨a,b,c,d,e,rfl⟩ := uC h5
 ·have A : ∀ i j,i ∈ [a,b,c,d,e] → j ∈ [a,b,c,d,e] → q ^ U2 i j = ev q (P 0 i j) := fun i j hi hj => (tO q i (hlt i hi) j (hlt j hj)).symm
  have hrow : ∀ i ∈ [a,b,c,d,e],([a,b,c,d,e].map fun j => PV.int (q ^ U2 i j)) = [a,b,c,d,e].map fun j => PV.int (ev q (P 0 i j)) := fun i hi => List.map_congr_left fun j hj => by rw [A i j hi hj]
  have : ([a,b,c,d,e].map fun i => PV.list ([a,b,c,d,e].map fun j => .int (q ^ U2 i j))) = [a,b,c,d,e].map fun i => PV.list ([a,b,c,d,e].map fun j => .int (ev q (P 0 i j))) := List.map_congr_left fun i hi => by rw [hrow i hi]
  rw [this]
  rfl
theorem s23 {q N : Int} (hq : 3 ≤ q.natAbs) (hq2 : q.natAbs < 2 ^ 722) (hN : N = q ^ 5 * (q * q - 1) ^ 4 * (q * q - 2)) (h14 : n7 ρ 14 = some (.int q)) (h23 : n7 ρ 23 = some (.int N)) :
  evE C (.prim .ne (.cons (.var 23) (.cons (.prim .mul (.cons (.prim .mul (.cons (.prim .pow (.cons (.var 14) (.cons (.lit (.int 5)) .nil))) (.cons (.prim .pow (.cons (.prim .sub (.cons (.prim .mul (.cons (.var 14) (.cons (.var 14) .nil))) (.cons (.lit (.int 1)) .nil))) (.cons (.lit (.int 4)) .nil))) .nil))) (.cons (.prim .sub (.cons (.prim .mul (.cons (.var 14) (.cons (.var 14) .nil))) (.cons (.lit (.int 2)) .nil))) .nil))) .nil))) ρ σ = some (.bool false) := by
 have hb := sz hq
 have sm : ∀ {x : Int} {k : Nat},x.natAbs ≤ q.natAbs ^ k → 0 < k → k ≤ 20 → C8 x = true := fun {x k} h h0 hk => I2 (k := 722 * k) (dD hq2 h h0) (by lia)
 have sq : C8 q = true := sm (k := 1) (by simp) (by decide) (by decide)
 have e2 : (q ^ 5).natAbs = q.natAbs ^ 5 := Int.natAbs_pow _ _
 have e3 : ((q * q - 1) ^ 4).natAbs ≤ q.natAbs ^ 8 := by
  rw [Int.natAbs_pow]
  calc (q * q - 1).natAbs ^ 4 ≤ (q.natAbs ^ 2) ^ 4 := Nat.pow_le_pow_left hb.2.1 4
   _ = q.natAbs ^ 8 := (Nat.pow_mul _ _ _).symm
 have e4 : (q ^ 5 * (q * q - 1) ^ 4).natAbs ≤ q.natAbs ^ 13 := by
  rw [Int.natAbs_mul,e2]
  calc q.natAbs ^ 5 * ((q * q - 1) ^ 4).natAbs ≤ q.natAbs ^ 5 * q.natAbs ^ 8 := Nat.mul_le_mul_left _ e3
   _ = q.natAbs ^ 13 := (Nat.pow_add _ _ _).symm
 have hqb : intBits q ≤ 722 := fi hq2
 have h1b : intBits (q * q - 1) ≤ 722 * 2 := fi (dD hq2 hb.2.1 (by decide))
 have p5 : evP .pow [.int q,.int 5] σ = some (.int (q ^ 5)) := by
  rw [qM ⟨by decide,by lia⟩]; rfl
 have p4 : evP .pow [.int (q * q - 1),.int 4] σ = some (.int ((q * q - 1) ^ 4)) := by
  rw [qM ⟨by decide,by lia⟩]; rfl
 have a := eP2 (C := C) (ρ := ρ) (eP2 (eP2 (eV h14) eL p5) (eP2 (eP2 (eP2 (eV h14) (eV h14) (mL sq sq)) eL U7) eL p4) (mL (sm (k := 5) (by rw [e2]; exact Nat.le_refl _) (by decide) (by decide)) (sm e3 (by decide) (by decide)))) (eP2 (eP2 (eV h14) (eV h14) (mL sq sq)) eL U7) (mL (sm e4 (by decide) (by decide)) (sm hb.2.2.2.1 (by decide) (by decide)))
 rw [← hN] at a
 have := eP2 (p := .ne) (eV h23) a uI
 rw [beq_self_eq_true] at this
 exact this
theorem s24 {q N : Int} (hq : 3 ≤ q.natAbs) (hq2 : q.natAbs < 2 ^ 722) (hN : N = q ^ 5 * (q * q - 1) ^ 4 * (q * q - 2)) (F : x8 ρ) (h14 : n7 ρ 14 = some (.int q)) (h23 : n7 ρ 23 = some (.int N)) :
  evE (orc 39) (.prim .eq (.cons (.comp (.call (.glob 149) (.cons (.var 23) (.cons (.var 54) .nil)) none) (.one 54) (.val (.tup (.cons (.var 14) (.cons (.prim .sub (.cons (.prim .mul (.cons (.var 14) (.cons (.var 14) .nil))) (.cons (.lit (.int 1)) .nil))) (.cons (.prim .sub (.cons (.prim .mul (.cons (.var 14) (.cons (.var 14) .nil))) (.cons (.lit (.int 2)) .nil))) .nil))))) none) (.cons (.list (.cons (.lit (.int 5)) (.cons (.lit (.int 4)) (.cons (.lit (.int 1)) .nil)))) .nil))) ρ σ = some (.bool true) := by
 have hb := sz hq
 have sq : C8 q = true := I2 (k := 722) hq2 (by decide)
 have a1 := eP2 (C := orc 39) (ρ := ρ) (σ := σ) (eP2 (eV h14) (eV h14) (mL sq sq)) (b := .lit (.int 1)) eL U7
 have a2 := eP2 (C := orc 39) (ρ := ρ) (σ := σ) (eP2 (eV h14) (eV h14) (mL sq sq)) (b := .lit (.int 2)) eL U7
 have hi : evI (orc 39) (.val (.tup (.cons (.var 14) (.cons (.prim .sub (.cons (.prim .mul (.cons (.var 14) (.cons (.var 14) .nil))) (.cons (.lit (.int 1)) .nil))) (.cons (.prim .sub (.cons (.prim .mul (.cons (.var 14) (.cons (.var 14) .nil))) (.cons (.lit (.int 2)) .nil))) .nil))))) ρ σ = some ([(q,5),(q * q - 1,4),(q * q - 2,1)].map fun (p : Int × Nat) => PV.int p.1) := by
  rw [zia,zed,zsb,eV h14,zsb,a1,zsb,a2,zsa]
  rfl
 have hw : N.natAbs ≤ q.natAbs ^ 20 := by rw [hN]; exact nr hq
 have key : ∀ p ∈ [(q,5),(q * q - 1,4),(q * q - 2,1)],B3 (orc 39) (.glob 149) [.int N,.int p.1] none σ = some (.int (p.2 : Nat)) := by
  intro p hp
  simp only [List.mem_cons,B8,or_false] at hp
  rcases hp with rfl | rfl | rfl
  ·exact eJ (M := 24) hq hq2 hw (Nat.le_refl _) hb.2.2.2.2 (.inl rfl) (fun p h1 h2 => by rw [hN]; exact tU hq ⟨h1,h2⟩) σ
  ·exact eJ (M := 24) hq hq2 hw hb.1 hb.2.1 (.inr (.inl rfl)) (fun p h1 h2 => by rw [hN]; exact rh hq ⟨h1,h2⟩) σ
  ·exact eJ (M := 24) hq hq2 hw hb.2.2.1 hb.2.2.2.1 (.inr (.inr rfl)) (fun p h1 h2 => by rw [hN]; exact rC hq ⟨h1,h2⟩) σ
 have e1 := K8 (C := orc 39) (ρ := ρ) (σ := σ) (ts := .one 54) (elt := .call (.glob 149) (.cons (.var 23) (.cons (.var 54) .nil)) none) (f := fun (p : Int × Nat) => .int (p.2 : Nat)) hi (F.u1 (by decide) (by decide)) (fun p hp => ⟨_,f5 (F.lt (by decide)),by
  have v54 : evE (orc 39) (.var 54) (ρ.set 54 (.int p.1)) σ = some (.int p.1) := eV (A9 (F.lt (by decide)))
  have v23 : evE (orc 39) (.var 23) (ρ.set 54 (.int p.1)) σ = some (.int N) := eV ((gN (by decide)).trans h23)
  rw [zek,zec,zsb,v23,zsb,v54,zsa]
  exact key p hp⟩) (fun _ _ => rfl) (show 3 ≤ a8 by decide)
 exact eP2 e1 (y := .list [.int 5,.int 4,.int 1]) rfl rfl
end
theorem q3 (S : Int) : (3 + S % 1000000).natAbs < 2 ^ 21 ∧ 3 ≤ (3 + S % 1000000).natAbs := by
 have h1 : S % 1000000 < 1000000 := Int.emod_lt_of_pos _ (by decide)
 obtain ⟨w,hw⟩ := Int.eq_ofNat_of_zero_le (Int.emod_nonneg S (by decide : (1000000 : Int) ≠ 0))
 rw [hw] at h1 ⊢
 have h2 : w < 1000000 := Int.ofNat_lt.mp h1
 exact ⟨Nat.lt_of_lt_of_le (Nat.add_lt_add_left h2 3) (by decide),Nat.le_add_right 3 w⟩
theorem qW {S c0 c1 : Int} : ∀ q,q = (if c0 / 7 % 2 == 1 then -(if c1 / 7 % 3 == 2 then (3 + S % 1000000) * lG else 3 + S % 1000000) else (if c1 / 7 % 3 == 2 then (3 + S % 1000000) * lG else 3 + S % 1000000)) → 3 ≤ q.natAbs ∧ q.natAbs < 2 ^ 722 := by
 intro q hq
 have h3 := q3 S
 have hK : lG.natAbs = 2 ^ 701 := by unfold lG; rw [Int.natAbs_pow]; rfl
 have key : ∀ x,x = (if c1 / 7 % 3 == 2 then (3 + S % 1000000) * lG else 3 + S % 1000000) → 3 ≤ x.natAbs ∧ x.natAbs < 2 ^ 722 := by
  intro x hx
  have p0 : 0 < 2 ^ 701 := Nat.pow_pos (by decide)
  have p1 : 2 ^ 722 = 2 ^ 21 * 2 ^ 701 := by rw [← Nat.pow_add]
  cases h : c1 / 7 % 3 == 2
  ·rw [h] at hx
   simp only [u4,if_false] at hx
   rw [hx,p1]
   exact ⟨h3.2,Nat.lt_of_lt_of_le h3.1 (Nat.le_mul_of_pos_right _ p0)⟩
  ·rw [h] at hx
   simp only [if_true] at hx
   rw [hx,Int.natAbs_mul,hK,p1]
   refine ⟨Nat.le_trans h3.2 (Nat.le_mul_of_pos_right _ p0),Nat.mul_lt_mul_of_pos_right h3.1 p0⟩
 have k := key _ rfl
 cases h : c0 / 7 % 2 == 1
 ·rw [h] at hq
  simp only [u4,if_false] at hq
  rw [hq]; exact k
 ·rw [h] at hq
  simp only [if_true] at hq
  rw [hq,Int.natAbs_neg]; exact k
noncomputable def vn (t0 t1 t2 t3 t4 : Int) (π : List Nat) : Bool := sh5 t0 t1 t2 t3 t4 == π.map (fun i => (at5 t0 t1 t2 t3 t4 i,i)) && kR π
noncomputable def tB (t4 : Int) : Bool := R7 [] t4 4 && T3.all fun t3 => R7 (l8 [] t4 4) t3 3 && T3.all fun t2 => R7 (l8 (l8 [] t4 4) t3 3) t2 2 && T3.all fun t1 => R7 (l8 (l8 (l8 [] t4 4) t3 3) t2 2) t1 1 &&
 T3.all fun t0 => R7 (l8 (l8 (l8 (l8 [] t4 4) t3 3) t2 2) t1 1) t0 0 && vn t0 t1 t2 t3 t4 (I6 (ps5 t0 t1 t2 t3 t4))
theorem re : tB 0 = true := by decide +kernel
theorem qT : tB 1 = true := by decide +kernel
theorem rS : tB 2 = true := by decide +kernel
theorem sI (c : Int) : c % 3 ∈ T3 := by
 have h1 := Int.emod_nonneg c (show (3 : Int) ≠ 0 by decide)
 have h2 := Int.emod_lt_of_pos c (show (0 : Int) < 3 by decide)
 have : c % 3 = 0 ∨ c % 3 = 1 ∨ c % 3 = 2 := by lia
 rcases this with h | h | h <;> rw [h] <;> decide
theorem oH {t : Int} (h : t ∈ T3) : tB t = true := by
 simp only [T3,List.mem_cons,B8,or_false] at h
 rcases h with rfl | rfl | rfl
 ·exact re
 ·exact qT
 ·exact rS
structure tC (t0 t1 t2 t3 t4 : Int) (π : List Nat) : Prop where
 i4 : R7 [] t4 4 = true
 i3 : R7 (l8 [] t4 4) t3 3 = true
 i2 : R7 (l8 (l8 [] t4 4) t3 3) t2 2 = true
 i1 : R7 (l8 (l8 (l8 [] t4 4) t3 3) t2 2) t1 1 = true
 i0 : R7 (l8 (l8 (l8 (l8 [] t4 4) t3 3) t2 2) t1 1) t0 0 = true
 sh : sh5 t0 t1 t2 t3 t4 = π.map fun i => (at5 t0 t1 t2 t3 t4 i,i)
 so : I6 (ps5 t0 t1 t2 t3 t4) = π
 path : kR π = true
theorem dv {a b : Bool} (h : (a && b) = true) : a = true ∧ b = true := Bool.and_eq_true_iff.mp h
theorem vp {t0 t1 t2 t3 t4 : Int} (m0 : t0 ∈ T3) (m1 : t1 ∈ T3) (m2 : t2 ∈ T3) (m3 : t3 ∈ T3) (m4 : t4 ∈ T3) : tC t0 t1 t2 t3 t4 (I6 (ps5 t0 t1 t2 t3 t4)) :=
 have h4 := dv (oH m4)
 have h3 := dv (z4.mp h4.2 _ m3)
 have h2 := dv (z4.mp h3.2 _ m2)
 have h1 := dv (z4.mp h2.2 _ m1)
 have h0 := dv (z4.mp h1.2 _ m0)
 have h := dv h0.2
 ⟨h4.1,h3.1,h2.1,h1.1,h0.1,eq_of_beq h.1,rfl,h.2⟩
theorem tC.len {t0 t1 t2 t3 t4 : Int} {π : List Nat} (O : tC t0 t1 t2 t3 t4 π) : π.length = 5 ∧ ∀ i ∈ π,i < 5 := by
 have h := O.path
 simp only [kR,z5,beq_iff_eq,z4,decide_eq_true_eq] at h
 exact ⟨h.1.1.1.1,h.1.1.1.2⟩
theorem qk {C : Orc} {ρ : Rho} {i j : Nat} {m : ME} {v : PV} (F : x8 ρ) (hi : i < 24) (hj : j < 24) (hv : v.isUnb = false) (e : evE C m ρ [] = some v) : exS C (.own2 i j m (.list .nil)) ⟨ρ,[]⟩ = some (.next,⟨(ρ.set i v).set j (.box 0),[[]]⟩) := by
 have en : evE C (.list .nil) ρ [] = some (.list []) := rfl
 have s1 : eY i v ⟨ρ,[]⟩ = some ⟨ρ.set i v,[]⟩ := if_pos ⟨F.lt (by lia),hv⟩
 have s2 : eY j (.box 0) ⟨ρ.set i v,[[]]⟩ = some ⟨(ρ.set i v).set j (.box 0),[[]]⟩ := if_pos ⟨by rw [List.length_set]; exact F.lt (by lia),rfl⟩
 rw [ztc,e,en]
 simp only [i9]
 rw [if_pos (show i8 [] = true from rfl),s1]
 simp only [i9,List.nil_append]
 rw [show ([] : Sto).length = 0 from rfl,s2]
 rfl
theorem rK {ρ : Rho} : evE (orc 39) (.call (.glob 123) .nil none) ρ [] = some (.list (d6 u8)) := by
 have hs : H6 (.list (d6 u8)) = true := by
  simp only [H6,znc,znd,zne,znf,zng,PV.isUnb,d6,j0 (fun (s : List Nat) => (rfl : (PV.str s).noBox = true)),Bool.not_false,Bool.and_self]
 have hr : orc 39 (.glob 123) [] none [] = some (.list (d6 u8),[]) := pq 38 []
 have hc : B3 (orc 39) (.glob 123) [] none [] = some (.list (d6 u8)) := u7 rfl rfl rfl hs hr
 rw [zek,zec,zsa]
 simp only [i9]
 exact hc
inductive ux (c0 c1 c2 c3 c4 : Int) (π : List Nat) (ρ : Rho) : Prop
 | mk (ρ' : Rho) (σ : Sto) (F : x8 ρ') (a2 : n7 ρ' 2 = some (.list (cL c0 c1 c2 c3 c4))) (v : n7 ρ' 13 = some (.list (π.map fun i => PV.list (nIs (y9 i)))))
   (e : exB (orc 39) (w3.drop 2) ⟨ρ,[]⟩ = exB (orc 39) (w3.drop 16) ⟨ρ',σ⟩) : ux c0 c1 c2 c3 c4 π ρ
set_option maxHeartbeats 2000000 in
theorem uc {c0 c1 c2 c3 c4 t0 t1 t2 t3 t4 : Int} {π : List Nat} {ρ : Rho} {P : List (List Nat)} (O : tC t0 t1 t2 t3 t4 π) (ht0 : c0 % 3 = t0) (ht1 : c1 % 3 = t1) (ht2 : c2 % 3 = t2) (ht3 : c3 % 3 = t3) (ht4 : c4 % 3 = t4) (hP : pcs c0 c1 c2 c3 = P) (hP6 : P.length = 6) (hPm : ∀ p ∈ P,p ∈ H9)
  (F : x8 ρ) (h2 : n7 ρ 2 = some (.list (cL c0 c1 c2 c3 c4))) : ux c0 c1 c2 c3 c4 π ρ := by
 have hπ5 := O.len
 obtain ⟨ρ3,S2,F3,v3,k3⟩ := asF (C := orc 39) (σ := []) (i := 3) F (s2 (ρ := ρ)) (by decide) rfl
 have a2 := (k3 2 (by decide)).trans h2
 have e3 := s3 (C := orc 39) (σ := []) F3 a2 v3
 rw [hP] at e3
 obtain ⟨ρ4,S3,F4,v4,k4⟩ := asF (i := 4) F3 e3 (by decide) rfl
 have a2 := (k4 2 (by decide)).trans a2
 obtain ⟨ρ5,S4,F5,v5,k5⟩ := asF (i := 5) F4 rK (by decide) rfl
 have a2 := (k5 2 (by decide)).trans a2
 have a4 := (k5 4 (by decide)).trans v4
 obtain ⟨ρ6,S5,F6,v6,k6⟩ := asF (i := 6) F5 (s5 (C := orc 39) (σ := []) F5 v5) (by decide) rfl
 have a2 := (k6 2 (by decide)).trans a2
 have a4 := (k6 4 (by decide)).trans a4
 have a5 := (k6 5 (by decide)).trans v5
 obtain ⟨ρ7,S6,F7,v7,k7⟩ := asF (i := 7) F6 (s6 (C := orc 39) (σ := []) hP6 hPm F6 a5 a4) (by decide) rfl
 have a2 := (k7 2 (by decide)).trans a2
 have a4 := (k7 4 (by decide)).trans a4
 have a5 := (k7 5 (by decide)).trans a5
 have a6 := (k7 6 (by decide)).trans v6
 obtain ⟨ρ8,S7,F8,v8,k8⟩ := asF (i := 8) F7 (s7 (σ := []) hP6 hPm v7) (by decide) rfl
 have a2 := (k8 2 (by decide)).trans a2
 have a4 := (k8 4 (by decide)).trans a4
 have a5 := (k8 5 (by decide)).trans a5
 have a6 := (k8 6 (by decide)).trans a6
 have a7 := (k8 7 (by decide)).trans v7
 have S8 := kH (a := [.ret (.lit (.bool false))]) (s8 (C := orc 39) (σ := []) hP6 hPm F8 a5 a6 a7 v8)
 have S9 := qk (i := 9) (j := 10) (C := orc 39) F8 (by decide) (by decide) rfl (s9 (σ := []) hP6 hPm F8 a7 v8)
 have F9 := F8.set (v := .list (nIs ixL)) (show 9 < 24 by decide)
 have F10 := F9.set (v := .box 0) (show 10 < 24 by decide)
 have k10 : ∀ j,10 ≠ j → 9 ≠ j → n7 ((ρ8.set 9 (.list (nIs ixL))).set 10 (.box 0)) j = n7 ρ8 j := fun j h h' => (gN h).trans (gN h')
 have v9 : n7 ((ρ8.set 9 (.list (nIs ixL))).set 10 (.box 0)) 9 = some (.list (nIs ixL)) := (gN (by decide)).trans (gS (F8.lt (by decide)) rfl)
 have v10 : n7 ((ρ8.set 9 (.list (nIs ixL))).set 10 (.box 0)) 10 = some (.box 0) := gS (F9.lt (by decide)) rfl
 generalize (ρ8.set 9 (.list (nIs ixL))).set 10 (.box 0) = ρ10 at S9 F10 k10 v9 v10
 have a2 := (k10 2 (by decide) (by decide)).trans a2
 have a4 := (k10 4 (by decide) (by decide)).trans a4
 have a5 := (k10 5 (by decide) (by decide)).trans a5
 have a6 := (k10 6 (by decide) (by decide)).trans a6
 have a7 := (k10 7 (by decide) (by decide)).trans a7
 have S10 := s10 F10 ht0 ht1 ht2 ht3 ht4 O.i4 O.i3 O.i2 O.i1 O.i0 a2 a5 v9 v10
 have F11 := F10.set (v := .int 0) (show 11 < 24 by decide)
 have k11 : ∀ j,11 ≠ j → n7 (ρ10.set 11 (.int 0)) j = n7 ρ10 j := fun j h => gN h
 generalize ρ10.set 11 (.int 0) = ρ11 at S10 F11 k11
 have a2 := (k11 2 (by decide)).trans a2
 have a4 := (k11 4 (by decide)).trans a4
 have a6 := (k11 6 (by decide)).trans a6
 have a7 := (k11 7 (by decide)).trans a7
 have a9 := (k11 9 (by decide)).trans v9
 have a10 := (k11 10 (by decide)).trans v10
 have hσ : [A3 (sh5 t0 t1 t2 t3 t4)][0]? = some (A3 (sh5 t0 t1 t2 t3 t4)) := rfl
 have S11 := kH (a := [.ret (.lit (.bool false))]) (s11 (C := orc 39) F11 ht0 ht1 ht2 ht3 ht4 O.so hπ5.2 (by lia) O.sh a2 a6 a10 hσ)
 obtain ⟨ρ12,S12,F12,v12,k12⟩ := asF (i := 12) F11 (s12 (σ := [A3 (sh5 t0 t1 t2 t3 t4)]) hP6 hPm F11 a2 a7 a9) (by decide) rfl
 have a2 := (k12 2 (by decide)).trans a2
 have a4 := (k12 4 (by decide)).trans a4
 have a10 := (k12 10 (by decide)).trans a10
 have S13 := kH (a := [.ret (.lit (.bool false))]) (s13 (C := orc 39) (σ := [A3 (sh5 t0 t1 t2 t3 t4)]) F12 v12)
 have hk5 : ∀ p ∈ sh5 t0 t1 t2 t3 t4,p.2 < 5 := by
  rw [O.sh]
  intro p hp
  obtain ⟨i,hi,rfl⟩ := List.mem_map.mp hp
  exact hπ5.2 i hi
 have hshl : (sh5 t0 t1 t2 t3 t4).length ≤ 1000 := by rw [O.sh,List.length_map]; lia
 obtain ⟨ρ13,S14,F13,v13,k13⟩ := asF (i := 13) F12 (s14 (σ := [A3 (sh5 t0 t1 t2 t3 t4)]) hP6 hPm hk5 hshl F12 a4 a10 hσ) (by decide) rfl
 have S15 := kH (a := [.ret (.lit (.bool false))]) (s15 (σ := [A3 (sh5 t0 t1 t2 t3 t4)]) hk5 hshl F13 v13 ((k13 10 (by decide)).trans a10) hσ)
 exact ⟨ρ13,[A3 (sh5 t0 t1 t2 t3 t4)],F13,(k13 2 (by decide)).trans a2,by rw [v13,O.sh,List.map_map]; rfl,
  (j5 S2).trans ((j5 S3).trans ((j5 S4).trans ((j5 S5).trans ((j5 S6).trans ((j5 S7).trans ((j5 S8).trans ((j5 S9).trans ((j5 S10).trans ((j5 S11).trans ((j5 S12).trans ((j5 S13).trans ((j5 S14).trans (j5 S15)))))))))))))⟩
set_option maxHeartbeats 2000000 in
theorem tW {c0 c1 c2 c3 c4 S q : Int} {π : List Nat} {ρ13 : Rho} {σs : Sto} (H : ed π) (hπ5 : π.length = 5 ∧ ∀ i ∈ π,i < 5) (F13 : x8 ρ13) (a2 : n7 ρ13 2 = some (.list (cL c0 c1 c2 c3 c4))) (v13' : n7 ρ13 13 = some (.list (π.map fun i => PV.list (nIs (y9 i))))) (hS : [c0,c1,c2,c3,c4].sum = S)
  (hq : (if c0 / 7 % 2 == 1 then -(if c1 / 7 % 3 == 2 then (3 + S % 1000000) * lG else 3 + S % 1000000) else (if c1 / 7 % 3 == 2 then (3 + S % 1000000) * lG else 3 + S % 1000000)) = q) : ∃ s',exB (orc 39) (w3.drop 16) ⟨ρ13,σs⟩ = some (.ret (.bool true),s') := by
 have hb := qW (S := S) (c0 := c0) (c1 := c1) q hq.symm
 have e16 := s16 (C := orc 39) (σ := σs) a2
 rw [hS] at e16
 obtain ⟨ρA,S16,FA,vA,kA⟩ := asF (i := 14) F13 e16 (by decide) rfl
 have a2 := (kA 2 (by decide)).trans a2
 have a13 := (kA 13 (by decide)).trans v13'
 have hsm : C8 (3 + S % 1000000) = true := by
  exact I2 (k := 21) (q3 S).1 (by decide)
 obtain ⟨ρB,S17,FB,vB,kB⟩ := asF (i := 14) FA (s17 (C := orc 39) (σ := σs) hsm a2 vA) (by decide) rfl
 have a2 := (kB 2 (by decide)).trans a2
 have a13 := (kB 13 (by decide)).trans a13
 have e18 := s18 (C := orc 39) (σ := σs) a2 vB
 rw [hq] at e18
 obtain ⟨ρC,S18,FC,vC,kC⟩ := asF (i := 14) FB e18 (by decide) rfl
 have a13 := (kC 13 (by decide)).trans a13
 have e19 := s19 (σ := σs) hb.2 hπ5.2 (by lia) FC vC a13
 rw [vj hπ5.1 hπ5.2] at e19
 obtain ⟨ρD,S19,FD,vD,kD⟩ := asF (i := 15) FC e19 (by decide) rfl
 have a14 := (kD 14 (by decide)).trans vC
 obtain ⟨ρE,S20,FE,vE,kE⟩ := asF (C := orc 39) (σ := σs) (i := 16) (e := .lit (.int 1)) FD eL (by decide) rfl
 have a14 := (kE 14 (by decide)).trans a14
 have a15 := (kE 15 (by decide)).trans vD
 obtain ⟨ρF,σF,tvF,eR,FF,gF14,gF15,hTF⟩ := sV hb.1 hb.2 H 4 0 ρE σs (.list (W4 5 (Aq q π 0))) rfl FE a15 (.inl rfl) (by rw [H.zero,D0]; exact vE)
 have S21 : exS (orc 39) (.for (.one 17) (.range (.cons (.lit (.int 4)) .nil)) nD) ⟨ρE,σs⟩ = some (.next,⟨ρF,σF⟩) := by
  have hi : evI (orc 39) (.range (.cons (.lit (.int 4)) .nil)) ρE σs = some ((List.range' 0 4).map fun i => .int (i : Nat)) := rfl
  rw [ztm,hi]
  simp only [i9]
  rw [if_pos ⟨j0 (fun _ => rfl) _,rfl⟩]
  exact eR
 have a14 := gF14.trans a14
 have hrow0 : evP .idx [tvF,.int 0] σF = some (.list (iL 1 (Aq q π 4 0))) := gY (i := 0) hTF (by decide) rfl
 have h00 : evP .idx [.list (iL 1 (Aq q π 4 0)),.int 0] σF = some (.int (Aq q π 4 0 0)) := u5 (i := 0) (by decide) rfl
 obtain ⟨ρG,S22,FG,vG,kG⟩ := asF (C := orc 39) (i := 23) FF (eP2 (eP2 (eV gF15) eL hrow0) eL h00) (by decide) rfl
 have a14 := (kG 14 (by decide)).trans a14
 have S23 := kH (a := [.ret (.lit (.bool false))]) (s23 (C := orc 39) (σ := σF) hb.1 hb.2 (jP H) a14 vG)
 have e24 := s24 (σ := σF) hb.1 hb.2 (jP H) FG a14 vG
 refine ⟨⟨ρG,σF⟩,?_⟩
 refine (j5 S16).trans ((j5 S17).trans ((j5 S18).trans ((j5 S19).trans ((j5 S20).trans ((j5 S21).trans ((j5 S22).trans ((j5 S23).trans ?_)))))))
 show exB (orc 39) [.ret _] _ = _
 rw [zbb,ztn,e24]
 rfl
theorem lD {c0 c1 c2 c3 c4 : Int} {ρ : Rho} (F : x8 ρ) (h2 : n7 ρ 2 = some (.list (cL c0 c1 c2 c3 c4))) : ∃ s',exB (orc 39) (w3.drop 2) ⟨ρ,[]⟩ = some (.ret (.bool true),s') := by
 have O := vp (sI c0) (sI c1) (sI c2) (sI c3) (sI c4)
 obtain ⟨ρ',σ,F',a2,v,e⟩ := uc O rfl rfl rfl rfl rfl rfl rfl (@qj c0 c1 c2 c3) F h2
 rw [e]
 exact tW (pA O.path) O.len F' a2 v rfl rfl
theorem law_true (l : List Int) (h : l.length ≤ 63) : ∃ σ',orc 40 (.glob 154) [.list (l.map .int)] none [] = some (.bool true,σ') := by
 rw [z8 (m := 39) (fd := fR) (as := [.list (l.map .int)]) rfl rfl]
 have hst : FD.start fR [.list (l.map .int)] .none [] (.glob 154) = .list (l.map .int) :: List.replicate 54 .unb := rfl
 rw [hst]
 have F0 : x8 (.list (l.map .int) :: List.replicate 54 .unb) := ⟨rfl,fun i h1 h2 => by
  obtain ⟨k,rfl⟩ : ∃ k,i = k + 1 := ⟨i - 1,by lia⟩
  rw [List.getElem?_cons_succ,List.getElem?_replicate,if_pos (by lia)]⟩
 have h0 : n7 (.list (l.map .int) :: List.replicate 54 .unb) 0 = some (.list (l.map .int)) := rfl
 obtain ⟨ρ1,S0,F1,v1,k1⟩ := asF (i := 1) F0 (s0 (C := orc 39) (σ := []) (l := l) (by lia) h0) (by decide) rfl
 obtain ⟨ρ2,S1,F2,v2,k2⟩ := asF (i := 2) F1 (s1 (C := orc 39) (σ := []) (l := l.take 60) F1 (by rw [List.length_take]; lia) v1) (by decide) rfl
 obtain ⟨s',e⟩ := lD (c0 := gH (l.take 60) (0,1)) (c1 := gH (l.take 60) (1,0)) (c2 := gH (l.take 60) (2,3)) (c3 := gH (l.take 60) (3,6)) (c4 := gH (l.take 60) (4,2)) F2 v2
 have hall : exB (orc 39) w3 ⟨.list (l.map .int) :: List.replicate 54 .unb,[]⟩ = some (.ret (.bool true),s') := (j5 S0).trans ((j5 S1).trans e)
 exact ⟨s'.σ,by
  show (exB (orc 39) w3 _).map _ = _
  rw [hall]; rfl⟩
open PySem PySem.W PyProof.Rows
noncomputable def kS (x : String) (t : Tok) : Value := .str (Str.ofString x) t
noncomputable def kE (P : Params) (x : String) (t : Tok) (v : Value) : DictEntry := { hash := PyData.keyHash P (Str.ofString x),key := kS x t,val := v }
noncomputable def kC (x : String) (t : Nat) (l n a b g : Int) (r : Value) (q : Bool) (p u v w : Value) (k : Int) (z : Nat) : Obj :=
 { cls := .type "code",data := .fields #[kS x t,kS x (t + 1),kS "/claim/cut.py" (t + 2),.int l 0,.int n 0,.int a 0,.int b 0,.int g 0,r,.bool q,.int 181 0,p,.none,u,v,w,.int k 0,.int l 0,kS "/claim/cut.py" z] }
noncomputable def kF (n : Nat) (c : Addr) (dV kV : Value) (m : String) (t : Tok) : Obj := { cls := .type "function",data := .func (fdN n c dV kV (kS m t)) }
noncomputable def part (P : Params) : Frag := [
 (3,{ cls := .type "dict",data := .dict #[kE P "__name__" 165 (kS "law_rs0190_01" 355),kE P "__doc__" 166 .none,kE P "__package__" 167 .none,kE P "__loader__" 168 (.builtin "__main__.__loader__#opaque"),kE P "__spec__" 169 .none,kE P "__annotations__" 170 (.ref 6),kE P "__builtins__" 171 (.ref 4),kE P "__file__" 173 (kS "/claim/cut.py" 172),kE P "__cached__" 174 .none,kE P "_iter_escaped_chars" 198 (.ref 21),kE P "_strip_quoted_realnames" 210 (.ref 28),kE P "_check_parenthesis" 220 (.ref 35),kE P "_pre_parse_validation" 229 (.ref 42),kE P "_DIV_LIMIT" 233 (.int 4000 232),kE P "_div2n1n" 250 (.ref 49),kE P "_div3n2n" 264 (.ref 56),kE P "_int2digits" 275 (.ref 63),kE P "_digits2int" 286 (.ref 70),kE P "_divmod_pos" 301 (.ref 77),kE P "int_divmod" 311 (.ref 84),kE P "insort_right" 326 (.ref 93),kE P "bisect_right" 340 (.ref 102),kE P "bisect_left" 354 (.ref 111),kE P "_law_first" 363 (.ref 118),kE P "_law_rows" 369 (.ref 123),kE P "_law_mates" 375 (.ref 128),kE P "_law_plain" 385 (.ref 135),kE P "_law_rings" 398 (.ref 142),kE P "_law_often" 408 (.ref 149),kE P "law" 414 (.ref 154)] 30 }),
 (20,kC "_iter_escaped_chars" 189 2 1 0 0 35 (.ref 15) true (.ref 16) (.ref 17) (.ref 18) (.ref 19) 196 197),
 (21,kF 1 20 .none .none "cpy313.email.utils" 187),
 (27,kC "_strip_quoted_realnames" 199 15 1 0 0 3 (.ref 22) true (.ref 23) (.ref 24) (.ref 25) (.ref 26) 208 209),
 (28,kF 2 27 .none .none "cpy313.email.utils" 187),
 (34,kC "_check_parenthesis" 211 33 1 0 0 3 (.ref 29) true (.ref 30) (.ref 31) (.ref 32) (.ref 33) 218 219),
 (35,kF 3 34 .none .none "cpy313.email.utils" 187),
 (41,kC "_pre_parse_validation" 221 44 1 0 0 3 (.ref 36) true (.ref 37) (.ref 38) (.ref 39) (.ref 40) 227 228),
 (42,kF 4 41 .none .none "cpy313.email.utils" 187),
 (48,kC "_div2n1n" 234 53 3 0 0 3 (.ref 43) true (.ref 44) (.ref 45) (.ref 46) (.ref 47) 248 249),
 (49,kF 7 48 .none .none "cpy313._pylong" 230),
 (55,kC "_div3n2n" 251 69 6 0 0 3 (.ref 50) true (.ref 51) (.ref 52) (.ref 53) (.ref 54) 262 263),
 (56,kF 8 55 .none .none "cpy313._pylong" 230),
 (62,kC "_int2digits" 265 79 2 0 0 3 (.ref 57) true (.ref 58) (.ref 59) (.ref 60) (.ref 61) 273 274),
 (63,kF 9 62 .none .none "cpy313._pylong" 230),
 (69,kC "_digits2int" 276 95 2 0 0 3 (.ref 64) true (.ref 65) (.ref 66) (.ref 67) (.ref 68) 284 285),
 (70,kF 10 69 .none .none "cpy313._pylong" 230),
 (76,kC "_divmod_pos" 287 104 2 0 0 3 (.ref 71) true (.ref 72) (.ref 73) (.ref 74) (.ref 75) 299 300),
 (77,kF 11 76 .none .none "cpy313._pylong" 230),
 (83,kC "int_divmod" 302 115 2 0 0 3 (.ref 78) true (.ref 79) (.ref 80) (.ref 81) (.ref 82) 309 310),
 (84,kF 12 83 .none .none "cpy313._pylong" 230),
 (85,{ cls := .type "tuple",data := .seq #[.int 0 314,.none] }),
 (92,kC "insort_right" 316 127 4 0 1 3 (.ref 87) true (.ref 88) (.ref 89) (.ref 90) (.ref 91) 324 325),
 (93,kF 14 92 (.ref 85) (.ref 86) "cpy313.bisect" 312),
 (94,{ cls := .type "tuple",data := .seq #[.int 0 327,.none] }),
 (101,kC "bisect_right" 329 133 4 0 1 3 (.ref 96) true (.ref 97) (.ref 98) (.ref 99) (.ref 100) 338 339),
 (102,kF 15 101 (.ref 94) (.ref 95) "cpy313.bisect" 312),
 (103,{ cls := .type "tuple",data := .seq #[.int 0 341,.none] }),
 (110,kC "bisect_left" 343 153 4 0 1 3 (.ref 105) true (.ref 106) (.ref 107) (.ref 108) (.ref 109) 352 353),
 (111,kF 16 110 (.ref 103) (.ref 104) "cpy313.bisect" 312),
 (117,kC "_law_first" 357 174 1 0 0 3 (.ref 112) true (.ref 113) (.ref 114) (.ref 115) (.ref 116) 361 362),
 (118,kF 18 117 .none .none "law_rs0190_01" 355),
 (122,kC "_law_rows" 364 176 0 0 0 3 (.ref 119) true (.ref 120) .none .none (.ref 121) 367 368),
 (123,kF 19 122 .none .none "law_rs0190_01" 355),
 (127,kC "_law_mates" 370 181 2 0 0 3 (.ref 124) true (.ref 125) .none .none (.ref 126) 373 374),
 (128,kF 20 127 .none .none "law_rs0190_01" 355),
 (134,kC "_law_plain" 376 188 1 0 0 3 (.ref 129) true (.ref 130) (.ref 131) (.ref 132) (.ref 133) 383 384),
 (135,kF 21 134 .none .none "law_rs0190_01" 355),
 (141,kC "_law_rings" 386 196 2 0 0 3 (.ref 136) true (.ref 137) (.ref 138) (.ref 139) (.ref 140) 396 397),
 (142,kF 22 141 .none .none "law_rs0190_01" 355),
 (148,kC "_law_often" 399 205 2 0 0 3 (.ref 143) true (.ref 144) (.ref 145) (.ref 146) (.ref 147) 406 407),
 (149,kF 23 148 .none .none "law_rs0190_01" 355),
 (153,kC "law" 409 207 1 0 0 3 (.ref 150) true (.ref 151) .none .none (.ref 152) 412 413),
 (154,kF 24 153 .none .none "law_rs0190_01" 355)]
noncomputable def partA : List Addr := [3,20,21,27,28,34,35,41,42,48,49,55,56,62,63,69,70,76,77,83,84,85,92,93,94,101,102,103,110,111,117,118,122,123,127,128,134,135,141,142,148,149,153,154]
noncomputable def view : Program := { PySem.Challenge.rw_rs0190_01.row.prog with main := { PySem.Challenge.rw_rs0190_01.row.prog.main with body := [1,2,3,4,6,7,8,9,10,11,12,18,19,20,21,22,23,24].filterMap fun i => PySem.Challenge.rw_rs0190_01.row.prog.main.body[i]? } }
noncomputable def loose : List Str := [Str.ofString "insort_right",Str.ofString "bisect_right",Str.ofString "bisect_left"]
noncomputable def hook : Hook := kmHook part partA (fun _ => by kernel_rfl) [144,65,58]
theorem said : OpenLaw.wellSaid PySem.Challenge.rw_rs0190_01 = true := by
 unfold OpenLaw.wellSaid OpenRow.wellSaid OpenRow.partSaid looksOpen
 simp only [z5]
 (repeat' apply And.intro) <;> decide +kernel
end Mine
open PySem PySem.W PyProof.Rows
set_option maxRecDepth 100000 in
set_option maxHeartbeats 8000000 in
theorem PySem.Challenge.cw_rs0190_01_holds : PySem.Challenge.rw_rs0190_01.Holds := by
 w_on
 refine holds_law Mine.said fun said => ?_
 refine holds_open (q := Mine.view) (loose := Mine.loose) (Xt := fun s => xlAt Mine.view [] s && recOk (RowW.records PySem.Challenge.rw_rs0190_01.row.toRowW) s) (XP := XL Mine.view []) (Yf := Hook.obs Mine.hook) (Ya := Hook.val Mine.hook) (YP := Hook.says Mine.hook) (N := 1550) ?hl (Hook.of Mine.hook) (Hook.keeps Mine.hook) (fun s e => xl_of s (Bool.and_eq_true_iff.mp e).1) XL.keeps (by rfl) (by rfl) (by rfl) (fun s e => recFacts_of (Bool.and_eq_true_iff.mp e).2) (by rfl) (by first | assumption | decide +kernel) (by decide +kernel) ⟨rfl,rfl,rfl,rfl,rfl,by decide +kernel⟩ ?hw ?hc
 case hl => intro w; kernel_rfl
 case hw => w_witness2
 case hc =>
  intro w s₀ s₁ mg mb G Y fa o pm cd doc dV kV ho hd hcd hD hmg hg args vals as hpre hlay hrd hwl hlo
  have X := km_in_of Y
  have hT := km_tabs_of Y
  clear ho hd hcd hD
  have T := Ground.T G
  wrow_args hpre hlay hrd hwl hlo
  all_goals (
   rename_i hL _ _ _ hI _ _ _
   clear G Y
   refine wpAny_mono (Mine.join (prog := PySem.Challenge.rw_rs0190_01.row.prog) T X (fun P hP => hT P (by simp only [Mine.Tabs,List.mem_cons,List.not_mem_nil,or_false] at hP ⊢; rcases hP with h | h | h <;> simp [h])) ?kok hmg hg hL hI (Mine.law_true _ (by lia))) ?fin ?bad
   case kok =>
    refine ⟨?_,⟨⟨_,rfl⟩,_,_,_,rfl,rfl,rfl⟩,?_,?_,by kernel_rfl,?_,?_,⟨232,by kernel_rfl⟩,by kernel_rfl,?_⟩
    ·unfold Mine.defsL
     simp only [List.forall_mem_cons,List.not_mem_nil,false_implies,implies_true,and_true]
     refine ⟨?_,?_,?_,?_,?_,?_,?_,?_,?_,?_,?_,?_,?_,?_,?_,?_,?_,?_,?_⟩
     all_goals exact ⟨⟨_,rfl⟩,_,_,_,rfl,rfl,rfl⟩
    ·simp only [List.forall_mem_cons,List.not_mem_nil,false_implies,implies_true,and_true]
     exact ⟨⟨_,_,_,rfl,rfl⟩,⟨_,_,_,rfl,rfl⟩,⟨_,_,_,rfl,rfl⟩⟩
    ·unfold Mine.gfun
     simp only [List.forall_mem_cons,List.not_mem_nil,false_implies,implies_true,and_true]
     refine ⟨?_,?_,?_,?_,?_,?_,?_,?_,?_,?_,?_,?_,?_,?_,?_,?_,?_,?_,?_⟩ <;> kernel_rfl
    ·unfold Mine.gbi
     simp only [List.forall_mem_cons,List.not_mem_nil,false_implies,implies_true,and_true]
     refine ⟨?_,?_,?_,?_,?_⟩ <;> kernel_rfl
    ·unfold Mine.gty
     simp only [List.forall_mem_cons,List.not_mem_nil,false_implies,implies_true,and_true]
     refine ⟨?_,?_,?_,?_⟩ <;> kernel_rfl
    ·simp only [List.forall_mem_cons,List.not_mem_nil,false_implies,implies_true,and_true]
     exact ⟨by kernel_rfl,by kernel_rfl,by kernel_rfl⟩
   case fin =>
    intro v s' h
    obtain ⟨rfl,h1,h2,h3⟩ := h
    refine ⟨.inl ⟨.bool true,.bool true,[],rfl,fun cls => rfl,?_,?_,?_⟩,h1,h2,h3⟩
    ·constructor
    ·kernel_rfl
    ·intro h; exact ⟨List.nodup_nil,fun a ha => by cases ha⟩
   case bad =>
    intro e s' h
    exact h.elim)
