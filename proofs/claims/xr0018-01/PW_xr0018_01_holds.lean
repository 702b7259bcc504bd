import PyProof.Rows.All
import Wide.All
import OpenK.AllK
import Wide.FinOn
import PyProof.CompMap
import PyProof.WalksPairs
import KE.KSortTup
import KE.KDictSum
import PyProof.Draws
import PyProof.EnumMake
import PyProof.IsiStr
import KE.KLam
import PyProof.ListRange
import PySem.Challenge.RW_xr0018_01
set_option maxRecDepth 100000
set_option linter.unusedVariables false
set_option Elab.async false
set_option genSizeOfSpec false
set_option genInjectivity false
-- Printed by a program from the texts of wip/v2 (remarks taken out, long names made short).
-- The names tw<number> under Mine.aux and Mine.top are those that helper constants of the head would take: once they stand, the head is proved without those helpers, and the compiled file stays small.
section
namespace Mine
open PySem PySem.W PyProof.Rows
structure AV where
  t : Nat
  b : Bool
  m : Nat
  i : Int
  s : List Nat
  l : List AV
structure AO where
  t : Nat
  d : Nat
  ks : List Nat
  l : List AV
inductive HT where
  | nil
  | node (o : AO) (l r : HT)
structure AH where
  n : Nat
  t : HT
  h : Nat
noncomputable def aN : AV := ⟨0, false, 0, 0, [], []⟩
noncomputable def aB (b : Bool) : AV := ⟨1, b, 0, 0, [], []⟩
noncomputable def aI (i : Int) : AV := ⟨2, false, 0, i, [], []⟩
noncomputable def aS (s : List Nat) : AV := ⟨3, false, 0, 0, s, []⟩
noncomputable def VF (m : Nat) : AV := ⟨4, false, m, 0, [], []⟩
noncomputable def aHof (m : Nat) : AV := ⟨5, false, m, 0, [], []⟩
noncomputable def aDot (m : Nat) : AV := ⟨6, false, m, 0, [], []⟩
noncomputable def aZ (i : Int) : AV := ⟨8, false, 0, i, [], []⟩
noncomputable def aF (m : Nat) : AV := ⟨9, false, m, 0, [], []⟩
noncomputable def aC (m : Nat) : AV := ⟨10, false, m, 0, [m], []⟩
noncomputable def aR (m : Nat) : AV := ⟨11, false, m, 0, [], []⟩
noncomputable def aT (l : List AV) : AV := ⟨12, false, 0, 0, [], l⟩
noncomputable def aL (l : List AV) : AV := ⟨13, false, 0, 0, [], l⟩
noncomputable def aG (a b c : Int) : AV := ⟨14, false, 0, 0, [], [aI a, aI b, aI c]⟩
noncomputable def oNo : AO := ⟨99, 0, [], []⟩
noncomputable def oL (l : List AV) : AO := ⟨0, 0, [], l⟩
noncomputable def oI (ks : List Nat) (l : List AV) : AO := ⟨1, 0, ks, l⟩
noncomputable def oH (ks : List Nat) (l : List AV) : AO := ⟨2, 0, ks, l⟩
noncomputable def oA (d : Nat) (l : List AV) : AO := ⟨3, d, [], l⟩
noncomputable def oD : AO := ⟨4, 0, [], []⟩
noncomputable def oT (q : Nat) : AO := ⟨5, q, [], []⟩
noncomputable def sel {α : Type} (b : Bool) (x y : α) : α := Bool.rec (motive := fun _ => α) y x b
noncomputable def gd (b k : Bool) : Bool := Bool.rec (motive := fun _ => Bool) false k b
noncomputable def oB {α : Type} (o : Option α) (k : α -> Bool) : Bool := Option.rec (motive := fun _ => Bool) false k o
noncomputable def isZ {α : Type} (n : Nat) (x : α) (y : Nat -> α) : α := Nat.rec (motive := fun _ => α) x (fun m _ => y m) n
noncomputable def isP {α : Type} (i : Int) (x y : Nat -> α) : α := Int.rec (motive := fun _ => α) x y i
noncomputable def isC {α β : Type} (l : List α) (x : β) (y : α -> List α -> β) : β := List.rec (motive := fun _ => β) x (fun a r _ => y a r) l
noncomputable def kd (n m : Nat) (k : Bool) : Bool := Bool.rec (motive := fun _ => Bool) false k (Nat.beq n m)
theorem gd_t {b k : Bool} (h : gd b k = true) : b = true /\ k = true := by cases b; cases h; exact ⟨rfl, h⟩
noncomputable def kd2 (n m : Nat) (x y : Bool) : Bool := Bool.rec (motive := fun _ => Bool) y x (Nat.beq n m)
noncomputable def isN {α : Type} (l : List α) (k : Bool) : Bool := isC l k fun _ _ => false
noncomputable def is1 {α : Type} (l : List α) (k : α -> Bool) : Bool := List.rec (motive := fun _ => Bool) false (fun a r _ => List.rec (motive := fun _ => Bool) (k a) (fun _ _ _ => false) r) l
noncomputable def is2 {α : Type} (l : List α) (k : α -> α -> Bool) : Bool := List.rec (motive := fun _ => Bool) false (fun a r _ => is1 r (k a)) l
noncomputable def tget (t : HT) : Nat -> AO :=
  HT.rec (motive := fun _ => Nat -> AO) (fun _ => oNo) (fun o _ _ gl gr i => Nat.rec (motive := fun _ => AO) o (fun j _ => Nat.rec (motive := fun _ => AO) (gl (Nat.div j (nat_lit 2))) (fun _ _ => gr (Nat.div j (nat_lit 2))) (Nat.mod j (nat_lit 2))) i) t
noncomputable def tput (f : Nat) : HT -> Nat -> AO -> HT :=
  Nat.rec (motive := fun _ => HT -> Nat -> AO -> HT) (fun t _ _ => t) (fun _ ih t i x => Nat.rec (motive := fun _ => HT) (HT.rec (motive := fun _ => HT) (.node x .nil .nil) (fun _ l r _ _ => .node x l r) t) (fun j _ => HT.rec (motive := fun _ => HT)
    (Nat.rec (motive := fun _ => HT) (.node oNo (ih .nil (Nat.div j (nat_lit 2)) x) .nil) (fun _ _ => .node oNo .nil (ih .nil (Nat.div j (nat_lit 2)) x)) (Nat.mod j (nat_lit 2)))
    (fun o l r _ _ => Nat.rec (motive := fun _ => HT) (.node o (ih l (Nat.div j (nat_lit 2)) x) r) (fun _ _ => .node o l (ih r (Nat.div j (nat_lit 2)) x)) (Nat.mod j (nat_lit 2))) t) i) f
noncomputable def YP : AH := ⟨nat_lit 0, .nil, nat_lit 0⟩
noncomputable def hget (H : AH) (i : Nat) : AO := tget H.t i
noncomputable def hset (H : AH) (i : Nat) (x : AO) : AH := ⟨H.n, tput (nat_lit 13) H.t i x, H.h⟩
noncomputable def Ym (H : AH) (x : AO) : AH := ⟨Nat.succ H.n, tput (nat_lit 13) H.t H.n x, H.h⟩
noncomputable def room (H : AH) (k : Bool) : Bool := gd (Nat.ble (Nat.succ H.n) (nat_lit 8000)) k
noncomputable def newK (o : AO) (H : AH) (k : AV -> AH -> Bool) : Bool := room H (k (aR H.n) (Ym H o))
noncomputable def nth {α : Type} (l : List α) : Nat -> Option α := List.rec (motive := fun _ => Nat -> Option α) (fun _ => .none) (fun o _ ih i => isZ i (some o) ih) l
noncomputable def nthK {α : Type} (kk : α -> Bool) (l : List α) : Nat -> Bool := List.rec (motive := fun _ => Nat -> Bool) (fun _ => false) (fun o _ ih i => Nat.rec (motive := fun _ => Bool) (kk o) (fun m _ => ih m) i) l
noncomputable def zO2 (l : List AV) : Nat -> AV -> List AV := List.rec (motive := fun _ => Nat -> AV -> List AV) (fun _ _ => []) (fun o r ih i x => isZ i (x :: r) fun j => o :: ih j x) l
noncomputable def lenN {α : Type} (l : List α) : Nat := List.rec (motive := fun _ => Nat) 0 (fun _ _ n => Nat.succ n) l
noncomputable def Yh {α : Type} (l : List α) (k : Bool) : Bool := gd (Nat.blt (lenN l) (nat_lit 100000)) k
noncomputable def app {α : Type} (a b : List α) : List α := List.rec (motive := fun _ => List α) b (fun x _ r => x :: r) a
noncomputable def ltB (a b : Int) : Bool := isP a (fun m => isP b (fun n => Nat.blt m n) fun _ => false) fun m => isP b (fun _ => true) fun n => Nat.blt n m
noncomputable def eqB (a b : Int) : Bool := isP a (fun m => isP b (fun n => Nat.beq m n) fun _ => false) fun m => isP b (fun _ => false) fun n => Nat.beq m n
noncomputable def addI (a b : Int) : Int := isP a (fun m => isP b (fun n => .ofNat (Nat.add m n)) fun n => Int.subNatNat m (Nat.succ n)) fun m => isP b (fun n => Int.subNatNat n (Nat.succ m)) fun n => .negSucc (Nat.succ (Nat.add m n))
noncomputable def negI (a : Int) : Int := isP a (fun m => isZ m (.ofNat (nat_lit 0)) .negSucc) fun m => .ofNat (Nat.succ m)
noncomputable def subI (a b : Int) : Int := isP a (fun m => isP b (fun n => Int.subNatNat m n) fun n => .ofNat (Nat.add m (Nat.succ n))) fun _ => a - b
noncomputable def toN (a : Int) : Nat := isP a (fun n => n) fun _ => nat_lit 0
noncomputable def notB (b : Bool) : Bool := sel b false true
noncomputable def small (a : Int) (k : Bool) : Bool := gd (isP a (fun n => Nat.blt n (nat_lit 1000000000)) fun n => Nat.blt n (nat_lit 999999999)) k
noncomputable def YS (i : Int) (k : Nat -> Bool) : Bool := isP i k fun _ => false
noncomputable def eqL (a : List Nat) : List Nat -> Bool := List.rec (motive := fun _ => List Nat -> Bool) (fun b => isC b true fun _ _ => false) (fun x _ ih b => isC b false fun y t => gd (Nat.beq x y) (ih t)) a
noncomputable abbrev CE := AH -> (AV -> AH -> Bool) -> Bool
noncomputable abbrev CT := AH -> (Bool -> AH -> Bool) -> Bool
noncomputable abbrev CF := AH -> (List AV -> AH -> Bool) -> Bool
noncomputable abbrev Op2 := AH -> AV -> AV -> (AV -> AH -> Bool) -> Bool
noncomputable abbrev Op1 := AH -> AV -> (AV -> AH -> Bool) -> Bool
noncomputable abbrev Cp2 := AH -> AV -> AV -> (Bool -> AH -> Bool) -> Bool
section
variable {d : Nat}
noncomputable def litC (x : AV) : CE := fun H k => k x H
noncomputable def binK (f : Op2) (a b : CE) : CE := fun H k => a H fun x H1 => b H1 fun y H2 => f H2 x y k
noncomputable def unK (f : Op1) (a : CE) : CE := fun H k => a H fun x H1 => f H1 x k
noncomputable def cmpK (f : Cp2) (a b : CE) : CT := fun H k => a H fun x H1 => b H1 fun y H2 => f H2 x y k
noncomputable def Jd (t : CT) : CE := fun H k => t H fun b H1 => k (aB b) H1
noncomputable def intK (g : Int -> Int -> (Int -> Bool) -> Bool) : Op2 := fun H x y k => kd x.t 2 (kd y.t 2 (g x.i y.i fun z => k (aI z) H))
noncomputable def subG (a b : Int) (kk : Int -> Bool) : Bool := kk (subI a b)
noncomputable def mulG (a b : Int) (kk : Int -> Bool) : Bool := small a (YS a fun m => YS b fun n => kk (.ofNat (Nat.mul m n)))
noncomputable def isD (b : Int) (k : Nat -> Bool) : Bool := YS b fun n => isZ n false fun m => gd (Nat.blt m (nat_lit 1000000)) (k (Nat.succ m))
noncomputable def fdI (a : Int) (n : Nat) : Int := isP a (fun m => .ofNat (Nat.div m n)) fun _ => Int.fdiv a n
noncomputable def fmI (a : Int) (n : Nat) : Int := isP a (fun m => .ofNat (Nat.mod m n)) fun _ => Int.fmod a n
noncomputable def divG (a b : Int) (kk : Int -> Bool) : Bool := isD b fun n => kk (fdI a n)
noncomputable def modG (a b : Int) (kk : Int -> Bool) : Bool := isD b fun n => kk (fmI a n)
noncomputable def isS (a b : Int) (k : Nat -> Nat -> Bool) : Bool := small a (YS a fun m => YS b fun n => gd (Nat.blt n (nat_lit 1000)) (k m n))
noncomputable def powG (a b : Int) (kk : Int -> Bool) : Bool := isS a b fun m n => kk (.ofNat (Nat.pow m n))
noncomputable def shlG (a b : Int) (kk : Int -> Bool) : Bool := isS a b fun m n => kk (.ofNat (Nat.mul m (Nat.pow (nat_lit 2) n)))
noncomputable def andG (a b : Int) (kk : Int -> Bool) : Bool := YS a fun m => kk (isP b (fun n => .ofNat (Nat.land m n)) fun n => .ofNat (Nat.sub m (Nat.land m n)))
noncomputable def orG (a b : Int) (kk : Int -> Bool) : Bool := YS a fun m => YS b fun n => kk (.ofNat (Nat.lor m n))
noncomputable def negK : Op1 := fun H x k => kd x.t 2 (k (aI (negI x.i)) H)
noncomputable def XR (g : Int -> Int -> Bool) : Cp2 := fun H x y k => kd x.t 2 (kd y.t 2 (k (g x.i y.i) H))
noncomputable def gtI (a b : Int) : Bool := ltB b a
noncomputable def leI (a b : Int) : Bool := notB (ltB b a)
noncomputable def asT (a : CE) : CT := fun H k => a H fun v H1 => kd v.t 1 (k v.b H1)
noncomputable def notT (t : CT) : CT := fun H k => t H fun b H1 => k (notB b) H1
noncomputable def orT (a b : CT) : CT := fun H k => a H fun x H1 => sel x (k true H1) (b H1 k)
noncomputable def iteE (t : CT) (a b : CE) : CE := fun H k => t H fun x H1 => sel x (a H1 k) (b H1 k)
noncomputable def isK : Cp2 := fun H x y k => kd y.t 0 (kd2 x.t 0 (k true H) (kd2 x.t 2 (k false H) (kd x.t 9 (k false H))))
end
noncomputable abbrev CS (σ : Type) := AH -> (σ -> AH -> Bool) -> (AV -> AH -> Bool) -> Bool
section
variable {d : Nat} {σ τ : Type} {A : Around} {env : Env} {s s1 : Shared} {H : AH}
noncomputable def seqC (a : CS σ) (b : σ -> CS τ) : CS τ := fun H kn kr => a H (fun x H1 => b x H1 kn kr) kr
noncomputable def Zt (x : σ) : CS σ := fun H kn _ => kn x H
noncomputable def asgC (a : CE) : CS AV := fun H kn _ => a H kn
noncomputable def retC (a : CE) : CS σ := fun H _ kr => a H kr
noncomputable def ifC (t : CT) (a b : CS σ) : CS σ := fun H kn kr => t H fun x H1 => sel x (a H1 kn kr) (b H1 kn kr)
noncomputable def YY : CS σ := fun _ _ _ => false
noncomputable def Xl (a : CE) (x : σ) : CS σ := fun H kn _ => a H fun v H1 => kd v.t 0 (kn x H1)
end
section
variable {d : Nat} {s s' : Shared} {H : AH} {x : AV} {v : Value} {X : List Addr}
noncomputable def seqK (o : AO) (k : List AV -> Bool) : Bool := kd2 o.t 0 (k o.l) (kd o.t 3 (k o.l))
noncomputable def iseq (n : Nat) : Int -> Int -> List AV := Nat.rec (motive := fun _ => Int -> Int -> List AV) (fun _ _ => []) (fun _ ih a st => aI a :: ih (addI a st) st) n
noncomputable def rngK (a b st : Int) (k : List AV -> Bool) : Bool := small a (small b (sel (eqB st (.ofNat (nat_lit 1))) (k (iseq (toN (subI b a)) a st)) (gd (eqB st (.negSucc (nat_lit 0))) (k (iseq (toN (subI a b)) a st)))))
noncomputable def srcK (x : AV) (k : List AV -> Bool) : Bool := kd2 x.t 13 (k x.l) (kd x.t 14 (isC x.l false fun a r => isC r false fun b r2 => is1 r2 fun st => rngK a.i b.i st.i k))
end
section
variable {d : Nat} {σ : Type} {A : Around} {env : Env} {s : Shared} {H : AH}
noncomputable def forC (f : AV -> σ -> CS σ) (l : List AV) : σ -> CS σ := List.rec (motive := fun _ => σ -> CS σ) (fun st H kn _ => kn st H) (fun v _ ih st H kn kr => f v st H (fun st1 H1 => ih st1 H1 kn kr) kr) l
noncomputable def forL (it : CE) (f : AV -> σ -> CS σ) (st : σ) : CS σ := fun H kn kr => it H fun sv H1 => srcK sv fun l => forC f l st H1 kn kr
noncomputable def forN (f : AV -> σ -> CS σ) (id n : Nat) : Nat -> σ -> CS σ :=
  Nat.rec (motive := fun _ => Nat -> σ -> CS σ) (fun _ _ _ _ _ => false) (fun _ ih i st H kn kr => seqK (hget H id) fun l => Option.rec (motive := fun _ => Bool) (kn st H) (fun v => f v st H (fun st1 H1 => ih (Nat.succ i) st1 H1 kn kr) kr) (nth l i)) n
noncomputable def forR (it : CE) (f : AV -> σ -> CS σ) (st : σ) : CS σ := fun H kn kr => it H fun sv H1 => kd sv.t 11 (forN f sv.m 60 0 st H1 kn kr)
noncomputable def Yu (l : List Nat) : List AV := List.rec (motive := fun _ => List AV) [] (fun n _ ih => aI (.ofNat n) :: ih) l
noncomputable def zG1 (f : AV -> σ -> CS σ) (id n0 : Nat) (n : Nat) : Nat -> σ -> CS σ :=
  Nat.rec (motive := fun _ => Nat -> σ -> CS σ) (fun _ _ _ _ _ => false) (fun _ ih i st H kn kr => kd (hget H id).t 1 (kd (lenN (hget H id).ks) n0 (Option.rec (motive := fun _ => Bool) (kn st H) (fun v => f v st H (fun st1 H1 => ih (Nat.succ i) st1 H1 kn kr) kr) (nth (Yu (hget H id).ks) i)))) n
noncomputable def forD (it : CE) (f : AV -> σ -> CS σ) (st : σ) : CS σ := fun H kn kr => it H fun sv H1 => kd sv.t 11 (zG1 f sv.m (lenN (hget H1 sv.m).ks) 20 0 st H1 kn kr)
noncomputable def Vs (t : σ -> CT) (b : σ -> CS σ) (n : Nat) : σ -> CS σ := Nat.rec (motive := fun _ => σ -> CS σ) (fun _ _ _ _ => false) (fun _ ih st H kn kr => t st H fun x H1 => sel x (b st H1 (fun st1 H2 => ih st1 H2 kn kr) kr) (kn st H1)) n
end
section
variable {d : Nat} {s s₀ s' : Shared} {H : AH} {k : AV -> AH -> Bool} {L : Addr} {ob : Obj} {vs : List Value} {n : Nat} {l : List AV}
noncomputable def mkL (m : Bool) (l : List AV) (H : AH) (k : AV -> AH -> Bool) : Bool := sel m (newK (oL l) H k) (k (aL l) H)
noncomputable def nilL : CF := fun H k => k [] H
noncomputable def Ze (a : CE) (b : CF) : CF := fun H k => a H fun v H1 => b H1 fun l H2 => k (v :: l) H2
noncomputable def Yo (m : Bool) (b : CF) : CE := fun H k => b H fun l H1 => mkL m l H1 k
noncomputable def tupC (b : CF) : CE := fun H k => b H fun l H1 => k (aT l) H1
noncomputable def yo3 : CE := fun H k => newK (oI [] []) H k
noncomputable def yg1 : CE := fun H k => newK (oH [] []) H k
noncomputable def zi4 (H : AH) (x : AV) (k : List AV -> Bool) : Bool := kd2 x.t 13 (Yh x.l (k x.l)) (kd x.t 11 (kd (hget H x.m).t 0 (Yh (hget H x.m).l (k (hget H x.m).l))))
noncomputable def addL : Op2 := fun H x y k => zi4 H x fun a => zi4 H y fun b => mkL false (app a b) H k
noncomputable def repL {α : Type} (n : Nat) (l : List α) : List α := Nat.rec (motive := fun _ => List α) [] (fun _ ih => app l ih) n
noncomputable def mulL (m : Bool) (l : List AV) (y : AV) (H : AH) (k : AV -> AH -> Bool) : Bool := kd y.t 2 (YS y.i fun n => gd (Nat.blt n (nat_lit 100)) (Yh l (mkL m (repL n l) H k)))
noncomputable def mulC (m : Bool) (a : CF) (b : CE) : CE := fun H k => a H fun l H1 => b H1 fun y H2 => mulL m l y H2 k
noncomputable def unp3 (a : CE) : CS (AV × AV × AV) := fun H kn _ => a H fun v H1 => kd v.t 12 (isC v.l false fun x r => is2 r fun y z => kn (x, y, z) H1)
end
section
variable {d : Nat} {τ : Type}
noncomputable def yesT : CT := fun H k => k true H
noncomputable def ds2 (v : AV) (k : AV × AV -> Bool) : Bool := kd v.t 12 (is2 v.l fun a b => k (a, b))
noncomputable def zx2 (ds : AV -> (τ -> Bool) -> Bool) (t : τ -> CT) (el : τ -> CE) (l : List AV) : List AV -> CF :=
  List.rec (motive := fun _ => List AV -> CF) (fun acc H k => k acc H) (fun v _ ih acc H k => ds v fun p => t p H fun b H1 => sel b (el p H1 fun y H2 => ih (app acc [y]) H2 k) (ih acc H1 k)) l
noncomputable def YM (m : Bool) (src : AV -> (List AV -> Bool) -> Bool) (ds : AV -> (τ -> Bool) -> Bool) (it : CE) (t : τ -> CT) (el : τ -> CE) : CE := fun H k => it H fun sv H1 => src sv fun l => Yh l (zx2 ds t el l [] H1 fun r H2 => mkL m r H2 k)
noncomputable def srcT (sv : AV) (k : List AV -> Bool) : Bool := kd sv.t 13 (k sv.l)
noncomputable def useC (a : CE) : CS AV := fun H kn _ => a H kn
end
noncomputable def zr0 (k : Int) (n : Nat) (kk : Nat -> Bool) : Bool := isP k (fun i => gd (Nat.blt i n) (gd (Nat.blt i (nat_lit 1000000)) (kk i))) fun m => gd (Nat.blt m n) (gd (Nat.blt m (nat_lit 1000000)) (kk (Nat.sub n (Nat.succ m))))
noncomputable def subL {α : Type} (l : List α) (k : Int) (kk : α -> Bool) : Bool := isP k (fun i => gd (Nat.blt i (nat_lit 1000000)) (nthK kk l i)) fun m => zr0 (.negSucc m) (lenN l) fun j => nthK kk l j
noncomputable def VB {α : Type} (ks : List Nat) (n : Nat) (kk : α -> Bool) : List α -> Bool := List.rec (motive := fun _ => List α -> Bool) (fun _ => false) (fun k _ ih l => isC l false fun z r => sel (Nat.beq k n) (kk z) (ih r)) ks
noncomputable def gput (ks : List Nat) (n : Nat) : List Nat := List.rec (motive := fun _ => List Nat) [n] (fun k r ih => sel (Nat.beq k n) (k :: r) (k :: ih)) ks
noncomputable def zi7 (ks : List Nat) (n : Nat) (x : AV) : List AV -> List AV := List.rec (motive := fun _ => List AV -> List AV) (fun _ => [x]) (fun k _ ih l => isC l [] fun z r => sel (Nat.beq k n) (x :: r) (z :: ih r)) ks
section
variable {d : Nat} {s : Shared} {H : AH} {A : Around} {K : Type} [DecidableEq K] {f : Nat -> K}
noncomputable def Zk : Op2 := fun H x i k => kd2 x.t 13 (kd i.t 2 (subL x.l i.i fun z => k z H)) (kd2 x.t 11
    (kd2 (hget H x.m).t 0 (kd i.t 2 (subL (hget H x.m).l i.i fun z => k z H)) (kd2 (hget H x.m).t 2 (kd2 i.t 4 (VB (hget H x.m).ks i.m (fun z => k z H) (hget H x.m).l) (kd i.t 5 (VB (hget H x.m).ks i.m (fun z => k z H) (hget H x.m).l)))
      (kd2 (hget H x.m).t 1 (kd i.t 2 (YS i.i fun n => VB (hget H x.m).ks n (fun z => k z H) (hget H x.m).l)) (kd (hget H x.m).t 3 (kd i.t 2 (subL (hget H x.m).l i.i fun z => k z H))))))
    (kd2 x.t 12 (kd i.t 2 (subL x.l i.i fun z => k z H)) (kd x.t 3 (kd i.t 2 (subL x.s i.i fun n => k (aC n) H)))))
noncomputable def subK (f : Op2) (a b : CE) : CE := fun H k => a H fun x H1 => b H1 fun y H2 => f H2 x y k
end
section
variable {d : Nat} {s s' : Shared} {H : AH} {A : Around} {K : Type} [DecidableEq K] {f : Nat -> K}
noncomputable def putK (H : AH) (x i v : AV) (k : AH -> Bool) : Bool := kd x.t 11 (kd2 (hget H x.m).t 0 (kd i.t 2 (YS i.i fun n => gd (Nat.blt n (lenN (hget H x.m).l)) (gd (Nat.blt n (nat_lit 1000000)) (k (hset H x.m (oL (zO2 (hget H x.m).l n v)))))))
    (Yh (hget H x.m).ks (kd2 (hget H x.m).t 1 (kd i.t 2 (YS i.i fun n => k (hset H x.m (oI (gput (hget H x.m).ks n) (zi7 (hget H x.m).ks n v (hget H x.m).l))))) (kd (hget H x.m).t 2 (kd i.t 4 (k (hset H x.m (oH (gput (hget H x.m).ks i.m) (zi7 (hget H x.m).ks i.m v (hget H x.m).l)))))))))
noncomputable def putC {σ : Type} (e a b : CE) (x : σ) : CS σ := fun H kn _ => e H fun v H1 => a H1 fun o H2 => b H2 fun i H3 => putK H3 o i v fun H4 => kn x H4
noncomputable def memB (ks : List Nat) (n : Nat) : Bool := List.rec (motive := fun _ => Bool) false (fun k _ ih => sel (Nat.beq k n) true ih) ks
noncomputable def inK : Cp2 := fun H x y k => kd y.t 11 (kd (hget H y.m).t 1 (kd x.t 2 (YS x.i fun n => k (memB (hget H y.m).ks n) H)))
noncomputable def lmC (f : List AV -> List AV -> (List AV -> Bool) -> Bool) (a : CE) (b : CF) : CE := fun H k => a H fun x H1 => kd x.t 11 (kd (hget H1 x.m).t 0 (b H1 fun l H2 => kd (hget H2 x.m).t 0 (f (hget H2 x.m).l l fun l' => k aN (hset H2 x.m (oL l')))))
noncomputable def Yn (l args : List AV) (kk : List AV -> Bool) : Bool := is1 args fun x => Yh l (kk (app l [x]))
noncomputable def insL (i : Nat) (x : AV) : List AV -> List AV := Nat.rec (motive := fun _ => List AV -> List AV) (fun l => x :: l) (fun _ ih l => isC l [x] fun y r => y :: ih r) i
noncomputable def Jo (l args : List AV) (kk : List AV -> Bool) : Bool := is2 args fun i x => kd i.t 2 (YS i.i fun n => gd (Nat.blt n (nat_lit 1000000)) (Yh l (kk (insL n x l))))
noncomputable def Vx (l args : List AV) (kk : List AV -> Bool) : Bool := is1 args fun x => kd x.t 13 (Yh l (Yh x.l (kk (app l x.l))))
noncomputable def takL (n : Nat) : List AV -> List AV := Nat.rec (motive := fun _ => List AV -> List AV) (fun _ => []) (fun _ ih l => isC l [] fun y r => y :: ih r) n
noncomputable def revL (l : List AV) : List AV -> List AV := List.rec (motive := fun _ => List AV -> List AV) (fun acc => acc) (fun x _ ih acc => ih (x :: acc)) l
noncomputable def revC (a : CE) : CE := fun H k => a H fun x H1 => zi4 H1 x fun l => mkL false (revL l []) H1 k
noncomputable def upC (a b : CE) : CE := fun H k => a H fun x H1 => b H1 fun y H2 => zi4 H2 x fun l => kd y.t 2 (YS y.i fun n => mkL false (takL n l) H2 k)
end
end Mine
end
section
namespace Mine
open PySem PySem.W PySem.Calls PyProof.Rows
section
variable {d : Nat} {s : Shared} {H : AH} {A : Around} {env : Env}
noncomputable def Zn (code : List AV -> CS Unit) : List AV -> CE := fun avs H k => code avs H (fun _ H1 => k aN H1) k
noncomputable def ZC (code : List AV -> CE) (b : CF) : CE := fun H k => b H fun l H1 => code l H1 k
noncomputable def kwC (code : List AV -> CE) (df : List AV) (b : CF) (a : CE) : CE := fun H k => b H fun l H1 => a H1 fun v H2 => code (app l (app df [v])) H2 k
noncomputable def on1 (b : AV -> CS Unit) : List AV -> CS Unit := fun l => isC l YY fun x r => isC r (b x) fun _ _ => YY
noncomputable def on2 (b : AV -> AV -> CS Unit) : List AV -> CS Unit := fun l => isC l YY fun x r => on1 (b x) r
noncomputable def on3 (b : AV -> AV -> AV -> CS Unit) : List AV -> CS Unit := fun l => isC l YY fun x r => on2 (b x) r
noncomputable def on4 (b : AV -> AV -> AV -> AV -> CS Unit) : List AV -> CS Unit := fun l => isC l YY fun x r => on3 (b x) r
noncomputable def on5 (b : AV -> AV -> AV -> AV -> AV -> CS Unit) : List AV -> CS Unit := fun l => isC l YY fun x r => on4 (b x) r
end
section
variable {d : Nat} {s : Shared} {H : AH} {A : Around} {env : Env} {k : AV -> AH -> Bool}
noncomputable def biC (f : AH -> List AV -> (AV -> AH -> Bool) -> Bool) (b : CF) : CE := fun H k => b H fun l H1 => f H1 l k
noncomputable def XT (x : AV) (k : List Nat -> Bool) : Bool := kd2 x.t 3 (k x.s) (kd x.t 10 (k x.s))
noncomputable def zt6 (l : List AV) : (Nat -> Bool) -> Bool := List.rec (motive := fun _ => (Nat -> Bool) -> Bool) (fun k => k 0) (fun p _ ih k => kd p.t 12 (is2 p.l fun x y => XT x fun a => XT y fun b => ih fun n => k (Nat.add (Nat.add (lenN a) (lenN b)) n))) l
noncomputable def lenF (H : AH) (l : List AV) (k : AV -> AH -> Bool) : Bool := is1 l fun x => kd2 x.t 13 (Yh x.l (k (aI (.ofNat (lenN x.l))) H)) (kd2 x.t 11
    (kd2 (hget H x.m).t 0 (Yh (hget H x.m).l (k (aI (.ofNat (lenN (hget H x.m).l))) H)) (kd2 (hget H x.m).t 1 (Yh (hget H x.m).ks (k (aI (.ofNat (lenN (hget H x.m).ks))) H))
      (kd (hget H x.m).t 3 (kd (hget H (hget H x.m).d).t 4 (kd (hget H (nat_lit 0)).t 5 (kd (hget H (nat_lit 0)).d 0 (zt6 (hget H x.m).l fun n => gd (Nat.blt n (nat_lit 100000)) (k (aZ (.ofNat n)) H))))))))
    (kd2 x.t 12 (Yh x.l (k (aI (.ofNat (lenN x.l))) H)) (kd x.t 3 (Yh x.s (k (aI (.ofNat (lenN x.s))) H)))))
noncomputable def maxI (a b : Int) : Int := sel (ltB a b) b a
noncomputable def maxF (H : AH) (l : List AV) (k : AV -> AH -> Bool) : Bool := is2 l fun x y => kd x.t 2 (kd y.t 2 (k (aI (maxI x.i y.i)) H))
noncomputable def Yc (H : AH) (l : List AV) (k : AV -> AH -> Bool) : Bool := isC l false fun x r => kd x.t 2 (isC r (k (aG 0 x.i 1) H) fun y r2 => kd y.t 2 (isC r2 (k (aG x.i y.i 1) H) fun z r3 => isN r3 (kd z.t 2 (small z.i (sel (eqB z.i 0) false (k (aG x.i y.i z.i) H))))))
noncomputable def ys8 : Op2 := fun H x y k => XT x fun a => kd2 y.t 4 (gd (eqL a [46]) (k (aDot y.m) H)) (XT y fun b => Yh a (Yh b (k (aS (app a b)) H)))
noncomputable def ZW : Op2 := fun H x y k => kd2 x.t 2 (kd y.t 2 (k (aI (addI x.i y.i)) H)) (kd2 x.t 8 (kd y.t 2 (k (aZ (addI x.i y.i)) H)) (kd2 x.t 13 (addL H x y k) (kd2 x.t 11 (addL H x y k) (ys8 H x y k))))
noncomputable def ym1 : Op2 := fun H x y k => kd x.t 3 (kd y.t 2 (YS y.i fun n => gd (Nat.blt n (nat_lit 100)) (Yh x.s (k (aS (repL n x.s)) H))))
noncomputable def zD4 : Op2 := fun H x y k => kd2 x.t 2 (intK mulG H x y k) (ym1 H x y k)
noncomputable def oneC (a : CE) : CE := fun H k => a H fun v H1 => kd v.t 6 (k (aHof v.m) H1)
noncomputable def yf0 (l : List AV) : (List Nat -> Bool) -> Bool := List.rec (motive := fun _ => (List Nat -> Bool) -> Bool) (fun k => k []) (fun p _ ih k => XT p fun a => gd (Nat.ble (lenN a) (nat_lit 15)) (ih fun n => k (app a n))) l
noncomputable def zQ5 (b : CF) : CE := fun H k => b H fun l H1 => is1 l fun x => kd x.t 13 (Yh x.l (yf0 x.l fun r => k (aS r) H1))
end
end Mine
end
section
namespace Mine
open PySem PySem.W PySem.Calls PyProof.Rows PySem.SeqAt
noncomputable def allL {α : Type} (p : α -> Bool) (l : List α) : Bool := List.rec (motive := fun _ => Bool) true (fun x _ ih => gd (p x) ih) l
noncomputable def Ys (l : List Nat) : Bool := allL (fun x => Nat.blt x (nat_lit 128)) l
noncomputable def isIB (x : AV) : Bool := Nat.beq x.t 2
noncomputable def eqLs (f : AV -> AV -> (Bool -> Bool) -> Bool) (l : List AV) : List AV -> (Bool -> Bool) -> Bool :=
  List.rec (motive := fun _ => List AV -> (Bool -> Bool) -> Bool) (fun m k => isC m (k true) fun y r => gd (allL isIB (y :: r)) (k false))
    (fun x l ih m k => isC m (gd (allL isIB (x :: l)) (k false)) fun y r => f x y fun a => ih r fun b => k (sel a b false)) l
noncomputable def zF4 (H : AH) (x : AV) (k : List AV -> Bool) : Bool := kd2 x.t 13 (k x.l) (kd x.t 11 (kd (hget H x.m).t 0 (k (hget H x.m).l)))
noncomputable def eqX (H : AH) (n : Nat) : AV -> AV -> (Bool -> Bool) -> Bool :=
  Nat.rec (motive := fun _ => AV -> AV -> (Bool -> Bool) -> Bool) (fun _ _ _ => false) (fun _ ih x y k => kd2 x.t 2 (kd y.t 2 (k (eqB x.i y.i))) (kd2 x.t 12 (kd y.t 12 (eqLs ih x.l y.l k)) (kd2 x.t 8 (kd y.t 8 (k (eqB x.i y.i)))
    (kd2 x.t 3 (XT y fun b => gd (Ys x.s) (gd (Ys b) (k (eqL x.s b)))) (kd2 x.t 10 (XT y fun b => gd (Ys x.s) (gd (Ys b) (k (eqL x.s b)))) (zF4 H x fun a => zF4 H y fun b => eqLs ih a b k)))))) n
section
variable {d : Nat} {s : Shared} {H : AH} {A : Around}
noncomputable def Ja (x : AV) (k : Nat -> Bool) : Bool := kd2 x.t 4 (k x.m) (kd x.t 5 (k x.m))
noncomputable def eqG (g : Bool -> Bool) : Cp2 := fun H x y k => kd2 x.t 2 (kd y.t 2 (k (g (eqB x.i y.i)) H)) (kd2 x.t 4 (Ja y fun b => k (g (Nat.beq x.m b)) H) (kd2 x.t 5 (Ja y fun b => k (g (Nat.beq x.m b)) H)
    (kd2 x.t 3 (XT y fun b => k (g (eqL x.s b)) H) (eqX H 5 x y fun b => k (g b) H))))
noncomputable def eqK : Cp2 := eqG fun b => b
noncomputable def neK : Cp2 := eqG notB
noncomputable def ltK : Cp2 := fun H x y k => kd2 x.t 2 (kd y.t 2 (k (ltB x.i y.i) H)) (kd x.t 1 (kd y.t 1 (k (sel x.b false y.b) H)))
end
end Mine
end
section
namespace Mine
open PySem PySem.W PyProof.Rows
section
variable {d : Nat} {s : Shared} {H : AH} {A : Around}
noncomputable def runT {α : Type} (q : Nat -> Nat -> (Bool -> Bool) -> Bool) (t : KasT α) : (α -> Bool) -> Bool := KasT.rec (motive := fun _ => (α -> Bool) -> Bool) (fun a k => k a) (fun i j _ ih k => q i j fun b => ih b k) t
noncomputable def Vm (x : AV) : Bool := gd (Nat.beq x.t 12) (is2 x.l fun a b => gd (isIB a) (isIB b))
noncomputable def yn1 (l : List AV) (k : Bool -> Bool) : Bool := sel (allL isIB l) (k true) (gd (allL Vm l) (k false))
noncomputable def ltP (x y : AV) (k : Bool -> Bool) : Bool := is2 x.l fun a b => is2 y.l fun u v => k (sel (ltB a.i u.i) true (sel (eqB a.i u.i) (ltB b.i v.i) false))
noncomputable def askS (m : Bool) (l : List AV) (i j : Nat) (k : Bool -> Bool) : Bool := oB (nth l i) fun x => oB (nth l j) fun y => sel m (k (ltB x.i y.i)) (ltP x y k)
noncomputable def yc1 (l : List AV) (is : List Nat) : (List AV -> Bool) -> Bool := List.rec (motive := fun _ => (List AV -> Bool) -> Bool) (fun k => k []) (fun i _ ih k => oB (nth l i) fun x => ih fun r => k (x :: r)) is
noncomputable def zg7 (l : List AV) (k : List AV -> Bool) : Bool := gd (Nat.blt (lenN l) (nat_lit 64)) (sel (Nat.blt (lenN l) (nat_lit 2)) (k l) (yn1 l fun m => runT (askS m l) (kas_sort (lenN l)) fun p => yc1 l p.toList k))
noncomputable def colK (H : AH) (x : AV) (k : List AV -> Bool) : Bool := kd2 x.t 13 (k x.l) (kd x.t 11 (kd2 (hget H x.m).t 0 (k (hget H x.m).l) (kd (hget H x.m).t 1 (k (Yu (hget H x.m).ks)))))
noncomputable def srtC (b : CF) : CE := fun H k => b H fun l H1 => is1 l fun x => colK H1 x fun m => zg7 m fun r => mkL false r H1 k
end
end Mine
end
section
namespace Mine
open PySem PySem.W PySem.Calls PyProof.Rows Builtin
section
variable {d : Nat} {s : Shared} {H : AH} {A : Around} {E : Value -> Shared -> Prop}
noncomputable def zv8 (H : AH) (x : AV) (k : Nat -> Bool) : Bool := kd x.t 11 (kd (hget H x.m).t 3 (kd (hget H (hget H x.m).d).t 4 (k x.m)))
noncomputable def za0 (code : List AV -> CE) (a : CE) (b : CF) : CE := fun H k => a H fun x H1 => zv8 H1 x fun r => b H1 fun l H2 => code (aR r :: l) H2 k
noncomputable def ys9 (H : AH) (r : Nat) (l : List AV) (k : AV -> AH -> Bool) : Bool := kd (hget H r).t 3 (Yn (hget H r).l l fun l' => k aN (hset H r (oA (hget H r).d l')))
noncomputable def zK3 (a : CE) (b : CF) : CE := fun H k => a H fun x H1 => zv8 H1 x fun r => b H1 fun l H2 => ys9 H2 r l k
end
section
variable {d : Nat} {s : Shared} {H : AH} {A : Around} {E : Value -> Shared -> Prop} {a dx sl : Addr} {vs : List Value} {n k : Nat} {t : Tok} {M : Model}
noncomputable def yq8 (n : Nat) : List AV -> List AV := Nat.rec (motive := fun _ => List AV -> List AV) (fun l => l) (fun _ ih l => isC l [] fun _ r => ih r) n
noncomputable def yp1 (a b : CE) : CE := fun H k => a H fun x H1 => zv8 H1 x fun r => b H1 fun y H2 => kd (hget H2 r).t 3 (kd y.t 2 (YS y.i fun n => Yh (hget H2 r).l (mkL false (yq8 n (hget H2 r).l) H2 k)))
noncomputable def cutC {σ : Type} (e a b : CE) (x : σ) : CS σ := fun H kn _ => e H fun v H1 => a H1 fun o H2 => zv8 H2 o fun r => b H2 fun y H3 => kd v.t 13 (isN v.l (kd (hget H3 r).t 3 (kd y.t 2 (YS y.i fun n => Yh (hget H3 r).l (kn x (hset H3 r (oA (hget H3 r).d (takL n (hget H3 r).l))))))))
end
end Mine
end
section
namespace Mine
open PySem PySem.W PySem.Calls PyProof.Rows Builtin Builtin.ObjectAttr
noncomputable def cntC : List AV -> CE := fun l H k => is1 l fun x => kd x.t 11 (kd (hget H x.m).t 3 (Yh (hget H x.m).l (k (aI (.ofNat (lenN (hget H x.m).l))) H)))
section
variable {d : Nat} {A : Around} {E : Value -> Shared -> Prop}
noncomputable def zK2 (b : CF) : CE := fun H k => b H fun l H1 => is1 l fun x => kd x.t 8 (gd (eqB x.i 0) (newK oD H1 fun v H2 => kd v.t 11 (newK (oA v.m []) H2 k)))
end
end Mine
end
section
namespace Mine
open PySem PySem.W PySem.Calls PyProof.Rows Builtin
noncomputable def prsK (l : List AV) : (List (List Nat × List Nat) -> Bool) -> Bool := List.rec (motive := fun _ => (List (List Nat × List Nat) -> Bool) -> Bool) (fun k => k []) (fun p _ ih k => kd p.t 12 (is2 p.l fun x y => XT x fun a => XT y fun b => ih fun n => k ((a, b) :: n))) l
noncomputable def catN (r : List (List Nat × List Nat)) : List Nat := List.rec (motive := fun _ => List Nat) [] (fun p _ n => app (app p.1 p.2) n) r
end Mine
end
section
namespace Mine
open PySem PySem.W PySem.Calls PyProof.Rows Builtin Builtin.ObjectAttr
section
variable {d : Nat} {A : Around} {E : Value -> Shared -> Prop} {H : AH}
noncomputable def ym0 (b : Bool) : List Nat := sel b [84, 114, 117, 101] [70, 97, 108, 115, 101]
noncomputable def strL (x y : Bool) : List Nat := app [91] (app (ym0 x) (app [44, 32] (app (ym0 y) [93])))
noncomputable def strF (H : AH) (l : List AV) (k : AV -> AH -> Bool) : Bool := is1 l fun x => kd2 x.t 11 (kd (hget H x.m).t 3 (kd (hget H (hget H x.m).d).t 4 (kd (hget H (nat_lit 1)).t 5 (kd (hget H (nat_lit 1)).d 1 (gd (Nat.blt (nat_lit 1) H.n) (prsK (hget H x.m).l fun r => Yh r (Yh (catN r) (k (aS (catN r)) H))))))))
    (kd x.t 13 (is2 x.l fun y z => kd y.t 1 (kd z.t 1 (k (aS (strL y.b z.b)) H))))
end
end Mine
end
section
namespace Mine
open PySem PySem.W PyProof.Rows Builtin Builtin.Str
section
variable {d : Nat} {A : Around} {env : Env} {H : AH} {s : Shared}
variable {hn : Nat -> Str} {ht : Nat -> Tok} {t0 : Nat} {fa : Nat -> Addr} {μ : Addr -> Option AV}
noncomputable def XB (k : AV -> AH -> Bool) (H : AH) : AV -> AH -> Bool := fun av _ => kd av.t 2 (k (aI av.i) H)
end
end Mine
end
section
namespace Mine
open PySem PyProof.Rows
open PySem.W
open Spec
noncomputable def ze6 (x : AV) : Bool := gd (Nat.beq x.t 4) (Nat.blt x.m (nat_lit 7))
noncomputable def yv3 (x : AV) (k : Bool -> Bool) : Bool := kd2 x.t 0 (k true) (kd x.t 13 (gd (allL ze6 x.l) (Yh x.l (k false))))
noncomputable def yn4 (x b : AV) : CT := fun H k => kd b.t 0 (yv3 x fun z => k z H)
noncomputable def augC (n : AV) (a : CE) : CS AV := fun H kn _ => a H fun y H1 => kd n.t 2 (kd y.t 2 (kn (aI (addI n.i y.i)) H1))
section
variable {d : Nat} {A : Around} {env : Env} {H : AH} {s : Shared}
noncomputable def zf0 (a b : AV) : CS Unit := seqC (asgC (litC (aI 0))) fun n0 => seqC (forL (litC a) (fun x n => seqC (ifC (yn4 x b) (seqC (augC n (litC (aI 1))) fun n' => Zt n') (Zt n)) fun n' => Zt n') n0) fun n => retC (litC n)
end
end Mine
end
section
namespace Mine
open PySem PySem.W PyProof.Rows
section
variable {d : Nat}
noncomputable def b16 (a b : AV) : CS Unit := retC (Jd (cmpK eqK (litC a) (litC b)))
noncomputable def b17 (a b : AV) : CS Unit := retC (Jd (cmpK (XR gtI) (litC a) (litC b)))
noncomputable def b18 (a b : AV) : CS Unit := retC (binK ZW (litC a) (litC b))
noncomputable def b19 (a : AV) : CS Unit := retC (unK negK (litC a))
noncomputable def b20 (a b : AV) : CS Unit := retC (binK (intK subG) (litC a) (litC b))
noncomputable def isF {σ : Type} (x : AV) (f : Nat) (a : CS σ) : CS σ := fun H kn kr => kd x.t 9 (kd x.m f (a H kn kr))
noncomputable def zi3 (kc : List AV -> CE) (a mid : AV) : CE := ZC kc (Ze (subK Zk (litC a) (litC mid)) nilL)
noncomputable def za2 (st : AV × AV) (mid : AV) : CS (AV × AV) := seqC (asgC (binK ZW (litC mid) (litC (aI 1)))) fun v => Zt (v, st.2)
noncomputable def za3 (st : AV × AV) (mid : AV) : CS (AV × AV) := seqC (asgC (litC mid)) fun v => Zt (st.1, v)
noncomputable def zo8 (test : AV -> CT) (a b : AV × AV -> AV -> CS (AV × AV)) (st : AV × AV) : CS (AV × AV) := seqC (asgC (binK (intK divG) (binK ZW (litC st.1) (litC st.2)) (litC (aI 2)))) fun mid => seqC (ifC (test mid) (a st mid) (b st mid)) fun st' => Zt st'
noncomputable def zo9 (test : AV -> CT) (ca cb : AV × AV -> AV -> CS (AV × AV)) (a lo hi key : AV) : CS Unit := seqC (ifC (cmpK ltK (litC lo) (litC (aI 0))) YY (Zt ())) fun (_ : Unit) =>
  seqC (ifC (cmpK isK (litC hi) (litC aN)) (seqC (asgC (biC lenF (Ze (litC a) nilL))) fun v => Zt v) (Zt hi)) fun hi' =>
  seqC (ifC (cmpK isK (litC key) (litC aN)) YY (seqC (Vs (fun st => cmpK ltK (litC st.1) (litC st.2)) (zo8 test ca cb) 40 (lo, hi')) fun st => Zt st)) fun (st : AV × AV) => retC (litC st.1)
noncomputable def bisL (kc : List AV -> CE) (f : Nat) (a x lo hi key : AV) : CS Unit := isF key f (zo9 (fun mid => cmpK ltK (zi3 kc a mid) (litC x)) za2 za3 a lo hi key)
end
section
variable {d : Nat} {H : AH} {s : Shared} {A : Around}
noncomputable def onE (f : AV -> CE) : List AV -> CE := fun l H k => is1 l fun x => f x H k
noncomputable def zV2 (prs : List (List Nat × List Nat)) (a : CE) : CE := fun H k => a H fun i H1 => kd i.t 2 (subL prs i.i fun p => k (aS p.1) H1)
noncomputable def lamC (prs : List (List Nat × List Nat)) (a b n : AV) : CE := ZC (Zn (on2 b16)) (Ze (biC lenF (Ze (zV2 prs (litC n)) nilL))
  (Ze (ZC (Zn (on2 b20)) (Ze (ZC (Zn (on2 b18)) (Ze (litC a) (Ze (litC b) nilL))) (Ze (litC n) nilL))) nilL))
noncomputable def ym8 (H : AH) (l : List AV) (k : AV -> AH -> Bool) : Bool := is1 l fun x => kd x.t 14 (isC x.l false fun a r => is2 r fun b st => gd (eqB st.i 1) (rngK a.i b.i st.i fun m => Yh m (k (aL m) H)))
end
noncomputable def zr8 (over : AV) : CF := Ze (biC ym8 (Ze (biC Yc (Ze (litC over) nilL)) nilL)) (Ze (litC (aB true)) nilL)
noncomputable def yw1 (pile least over : AV) (H : AH) (l : List AV) (k : AV -> AH -> Bool) : Bool := kd pile.t 11 <| kd (hget H pile.m).t 3 <| kd (hget H (nat_lit 2)).t 5 <| kd (hget H (nat_lit 2)).d 2 <| kd (hget H (nat_lit 0)).t 5 <| kd (hget H (nat_lit 0)).d 0 <| gd (Nat.blt (nat_lit 2) H.n) <| kd least.t 2 <| kd over.t 2 <|
  prsK (hget H pile.m).l fun prs => is2 l fun x y => kd x.t 13 <| gd (allL isIB x.l) <| kd y.t 1 <| Zn (on5 (bisL (onE (lamC prs least over)) 28)) [x, y, aI 0, aN, aF 28] YP (XB k H)
noncomputable def yn2 (pile least over : AV) : CE := fun H k => zr8 over H fun l H1 => yw1 pile least over H1 l k
noncomputable def kLen (p : AV) (k : Nat -> Bool) : Bool := Bool.rec (motive := fun _ => Bool) false (List.rec (motive := fun _ => Bool) false (fun s _ _ => Bool.rec (motive := fun _ => Bool) false (Bool.rec (motive := fun _ => Bool) false (k (lenN s.s)) (Nat.ble (Nat.succ (lenN s.s)) (nat_lit 100000))) (Nat.beq s.t (nat_lit 3))) p.l) (Nat.beq p.t (nat_lit 12))
noncomputable def kfF : List AV -> CE := fun l H k => is1 l fun p => kLen p fun n => k (aI (negI (.ofNat n))) H
noncomputable def yf4 (i : Int) (k : Nat -> Bool) : Bool := isP i (fun m => isZ m (k (nat_lit 0)) fun _ => false) fun m => k (Nat.succ m)
noncomputable def bisN (l : List AV) (x : Nat) (k : AV -> Bool) (n : Nat) : Nat -> Nat -> AV -> Bool :=
  Nat.rec (motive := fun _ => Nat -> Nat -> AV -> Bool) (fun _ _ _ => false) (fun _ ih lo hi v => Bool.rec (motive := fun _ => Bool) (k v)
    (nthK (fun p => kLen p fun y => Bool.rec (motive := fun _ => Bool) (ih lo (Nat.div (Nat.add lo hi) (nat_lit 2)) v) (ih (Nat.succ (Nat.div (Nat.add lo hi) (nat_lit 2))) hi (aI (.ofNat (Nat.succ (Nat.div (Nat.add lo hi) (nat_lit 2)))))) (Nat.ble x y)) l (Nat.div (Nat.add lo hi) (nat_lit 2)))
    (Nat.ble (Nat.succ lo) hi)) n
noncomputable def bisQ (a x lo hi key : AV) (f : Nat -> Nat) (H : AH) (k : AV -> Bool) : Bool :=
  kd key.t 9 (kd key.m 28 (kd x.t 2 (yf4 x.i fun n => kd lo.t 2 (YS lo.i fun m => kd a.t 11 (Yh (hget H a.m).l (kd2 hi.t 0 (kd (hget H a.m).t 0 (bisN (hget H a.m).l (f n) k 40 m (lenN (hget H a.m).l) lo))
    (kd hi.t 2 (kd (hget H a.m).t 3 (YS hi.i fun h => bisN (hget H a.m).l (f n) k 40 m h lo)))))))))
noncomputable def bisU (f : Nat -> Nat) (a x lo hi key : AV) : CS Unit := fun H _ kr => bisQ a x lo hi key f H fun v => kr v H
noncomputable def bisF (f : Nat -> Nat) : List AV -> CE := Zn (on5 (bisU f))
noncomputable def insU (f : Nat -> Nat) (a x lo hi key : AV) : CS Unit := fun H kn _ => kLen x fun n => bisQ a (aI (negI (.ofNat n))) lo hi key f H fun v => kd a.t 11 (kd (hget H a.m).t 0 (kd (hget H a.m).t 0 (Jo (hget H a.m).l [v, x] fun l' => kd 0 0 (kn () (hset H a.m (oL l'))))))
noncomputable def insF (f : Nat -> Nat) : List AV -> CE := Zn (on5 (insU f))
end Mine
end
section
namespace Mine
open PySem PySem.W PySem.Calls PyProof.Rows
noncomputable def kf : List AV -> CE := kfF
noncomputable def q11 : List AV -> CE := bisF Nat.succ
noncomputable def q9 : List AV -> CE := bisF fun n => n
noncomputable def q10 : List AV -> CE := insF Nat.succ
noncomputable def q8 : List AV -> CE := insF fun n => n
noncomputable def yb7 (self fws string : AV) : CS Unit := seqC (Xl (zK3 (litC self) (Ze (tupC (Ze (litC fws) (Ze (litC string) nilL))) nilL)) ()) fun (_ : Unit) => Zt ()
noncomputable def popB (self i : AV) : CS Unit := seqC (asgC (yp1 (litC self) (litC i))) fun v => seqC (cutC (Yo false nilL) (litC self) (litC i) ()) fun (_ : Unit) => retC (litC v)
end Mine
end
section
namespace Mine
open PySem PySem.W PySem.Calls PyProof.Rows PySem.Builtin.Str
noncomputable def nthD (T : List Nat) : Nat -> Nat := List.rec (motive := fun _ => Nat -> Nat) (fun _ => 0) (fun x _ ih i => isZ i x ih) T
noncomputable def ancB (T : List Nat) (n : Nat) : Nat -> Nat -> Bool := Nat.rec (motive := fun _ => Nat -> Nat -> Bool) (fun _ _ => false) (fun _ ih i j => isZ i false fun i' => sel (Nat.beq (nthD T (Nat.succ i')) j) true (ih (nthD T (Nat.succ i')) j)) n
end Mine
end
section
namespace Mine
open PySem PySem.W PySem.Calls PyProof.Rows Builtin Builtin.ObjectAttr
noncomputable def zf1 : List Nat := [91, 84, 114, 117, 101, 44, 32, 70, 97, 108, 115, 101, 44, 32, 70, 97, 108, 115, 101, 44, 32, 70, 97, 108, 115, 101, 44, 32, 84, 114, 117, 101, 44, 32, 70, 97, 108, 115, 101, 44, 32, 70, 97, 108, 115, 101, 44, 32, 84, 114, 117, 101, 44, 32, 84, 114, 117, 101, 93]
end Mine
end
section
namespace Mine
open PySem PySem.W PySem.Calls PyProof.Rows
noncomputable def h7 (n : Nat) (k : Bool) : Bool := gd (Nat.blt n (nat_lit 7)) k
noncomputable def zb2 (T : List Nat) : List AV -> CE := fun avs H k => is1 avs fun v => Ja v fun j => isZ j false fun i => h7 (Nat.succ i) (k (aDot (nthD T (Nat.succ i))) H)
noncomputable def zJ0 : List AV -> CE := fun avs H k => is2 avs fun x y => Ja x fun i => Ja y fun j => kd i 6 (kd j 0 (k (aS zf1) H))
noncomputable def b31 (a0 : AV) : CS Unit :=
  (seqC (useC (YM true srcK (fun v k => k v) (biC Yc (Ze (litC (aI 7)) nilL)) (fun (v2 : AV) => yesT) (fun (v2 : AV) => (binK (intK shlG) (litC (aI 1)) (litC v2))))) (fun v1 => (seqC (forL (biC Yc (Ze (litC (aI 6)) (Ze (litC (aI 0)) (Ze (unK negK (litC (aI 1))) nilL)))) (fun v5 (r4 : Unit) => (seqC (putC (binK (intK orG) (subK Zk (litC v1) (subK Zk (litC a0) (litC v5))) (subK Zk (litC v1) (litC v5))) (litC v1) (subK Zk (litC a0) (litC v5)) ()) (fun (_ : Unit) => (Zt ())))) ()) (fun (r4 : Unit) => (retC (litC v1))))))
noncomputable def b33 (a0 : AV) : CS Unit :=
  (seqC (asgC (mulC true (Ze (litC (aI 0)) nilL) (litC (aI 7)))) (fun v1 => (seqC (asgC (mulC true (Ze (litC (aI 0)) nilL) (litC (aI 7)))) (fun v2 => (seqC (asgC (YM false srcK (fun v k => k v) (biC Yc (Ze (litC (aI 7)) nilL)) (fun (v4 : AV) => yesT) (fun (v4 : AV) => yo3))) (fun v3 => (seqC (useC (YM false srcK (fun v k => k v) (biC Yc (Ze (litC (aI 7)) nilL)) (fun (v7 : AV) => yesT) (fun (v7 : AV) => (Yo true nilL)))) (fun v6 => (seqC (forL (biC Yc (Ze (litC (aI 6)) (Ze (unK negK (litC (aI 1))) (Ze (unK negK (litC (aI 1))) nilL)))) (fun v10 (r9 : Unit) => (seqC (asgC (litC (aI 0))) (fun v11 => (seqC (asgC (litC (aI 0))) (fun v12 => (seqC (forL (subK Zk (litC a0) (litC v10)) (fun v14 (r13 : AV × AV) => (seqC (asgC (binK (intK orG) (litC r13.1) (binK (intK andG) (litC r13.2) (subK Zk (litC v1) (litC v14))))) (fun v15 => (seqC (asgC (binK (intK orG) (litC r13.2) (subK Zk (litC v1) (litC v14)))) (fun v16 => (Zt (v15, v16))))))) (v12, v11)) (fun (r13 : AV × AV) => (seqC (asgC (litC (aI 1))) (fun v17 => (seqC (Vs (fun (r18 : AV) => (cmpK (XR leI) (litC r18) (litC r13.1))) (fun (r18 : AV) => (seqC (asgC (binK zD4 (litC (aI 2)) (litC r18))) (fun v19 => (Zt v19)))) 40 v17) (fun (r18 : AV) => (seqC (putC (binK ZW (binK (intK orG) (litC r13.2) (binK (intK subG) (litC r18) (litC (aI 1)))) (litC (aI 1))) (litC v1) (litC v10) ()) (fun (_ : Unit) => (seqC (Vs (fun (r20 : Unit) => (cmpK eqK (binK (intK modG) (subK Zk (litC v1) (litC v10)) (binK (intK powG) (litC (aI 2)) (binK ZW (subK Zk (litC v2) (litC v10)) (litC (aI 1))))) (litC (aI 0)))) (fun (r20 : Unit) => (seqC (putC (binK ZW (subK Zk (litC v2) (litC v10)) (litC (aI 1))) (litC v2) (litC v10) ()) (fun (_ : Unit) => (Zt ())))) 40 ()) (fun (r20 : Unit) => (seqC (putC (binK ZW (subK Zk (litC v2) (litC v10)) (litC (aI 1))) (litC v2) (litC v10) ()) (fun (_ : Unit) => (seqC (putC (litC v10) (subK Zk (litC v3) (litC v10)) (subK Zk (litC v2) (litC v10)) ()) (fun (_ : Unit) => (seqC (forL (subK Zk (litC a0) (litC v10)) (fun v22 (r21 : Unit) => (seqC (forD (subK Zk (litC v3) (litC v22)) (fun v24 (r23 : Unit) => (seqC (ifC (cmpK (XR gtI) (litC v24) (subK Zk (litC v2) (litC v10))) (seqC (putC (subK Zk (subK Zk (litC v3) (litC v22)) (litC v24)) (subK Zk (litC v3) (litC v10)) (litC v24) ()) (fun (_ : Unit) => (Zt ()))) (Zt ()) : CS (Unit)) (fun (r25 : Unit) => (Zt ())))) ()) (fun (r23 : Unit) => (Zt ())))) ()) (fun (r21 : Unit) => (seqC (asgC (iteE (cmpK eqK (binK (intK modG) (litC v10) (litC (aI 2))) (litC (aI 1))) (subK Zk (litC a0) (litC v10)) (revC (subK Zk (litC a0) (litC v10))))) (fun v26 => (seqC (forL (biC Yc (Ze (binK (intK subG) (subK Zk (litC v2) (litC v10)) (litC (aI 1))) (Ze (litC (aI 0)) (Ze (unK negK (litC (aI 1))) nilL)))) (fun v28 (r27 : Unit) => (seqC (Xl (lmC Vx (subK Zk (litC v6) (litC v10)) (Ze (YM false srcK (fun v k => k v) (litC v26) (fun (v29 : AV) => (cmpK inK (litC v28) (subK Zk (litC v3) (litC v29)))) (fun (v29 : AV) => (tupC (Ze (binK zD4 (litC (aS [32])) (litC v28)) (Ze (subK Zk (litC (aS [116, 97, 98, 99, 100, 101, 102])) (subK Zk (subK Zk (litC v3) (litC v29)) (litC v28))) nilL))))) nilL)) ()) (fun (_ : Unit) => (Zt ())))) ()) (fun (r27 : Unit) => (Zt ())))))))))))))))))))))))))) ()) (fun (r9 : Unit) => (retC (tupC (Ze (litC v2) (Ze (litC v3) (Ze (litC v6) nilL)))))))))))))))
noncomputable def digs (ks : List Nat) : Nat -> List Nat := List.rec (motive := fun _ => Nat -> List Nat) (fun _ => []) (fun k _ ih n => n % k :: ih (n / k)) ks
noncomputable def Va (n : Nat) : List Nat := 0 :: digs [1, 2, 3, 4, 5, 6] n
section
variable {H : AH} {x y : AO} {i : Nat}
noncomputable def H2 (H : AH) (a b : List AV) : AH := Ym (Ym H (oL a)) (oL b)
variable {a b : List AV} (h : Nat.succ (Nat.succ H.n) <= 8000)
end
noncomputable def numK (u : AV) (k : Nat -> Bool) : Bool := @Bool.rec (fun _ => Bool) false (@Int.rec (fun _ => Bool) (fun n => k n) (fun _ => false) u.i) (Nat.beq u.t (nat_lit 2))
noncomputable def yd7 (w : AV) (k : Bool) : Bool := @Bool.rec (fun _ => Bool) false (@Bool.rec (fun _ => Bool) false k (Nat.ble (lenN w.l) (nat_lit 1000))) (Nat.beq w.t (nat_lit 13))
noncomputable def se2 (v2 : AV) : CS Unit := retC (zQ5 (Ze (YM false srcT ds2 (revC (srtC (Ze (litC v2) nilL))) (fun (v9 : AV × AV) => yesT) (fun (v9 : AV × AV) => (subK Zk (litC (aS [116, 97, 98, 99, 100, 101, 102])) (litC v9.2)))) nilL))
noncomputable def extK (b : Int) (g : AV -> AV) (l : List AV) : (List AV -> Bool) -> Bool := List.rec (motive := fun _ => (List AV -> Bool) -> Bool) (fun k => k []) (fun c _ ih k => @Bool.rec (fun _ => Bool) false (ih fun r => k (Bool.rec (motive := fun _ => List AV) (g c :: r) r (eqB c.i b))) (Nat.beq c.t (nat_lit 2))) l
noncomputable def entK (e : AV) (k : AV -> AV -> AV -> Nat -> Bool) : Bool := @Bool.rec (fun _ => Bool) false (@List.rec AV (fun _ => Bool) false (fun h t _ => @List.rec AV (fun _ => Bool) false (fun b z1 _ => @List.rec AV (fun _ => Bool) false (fun m z2 _ => @List.rec AV (fun _ => Bool) (@Bool.rec (fun _ => Bool) false (@Bool.rec (fun _ => Bool) false (@Bool.rec (fun _ => Bool) false (@Int.rec (fun _ => Bool) (fun j => @Bool.rec (fun _ => Bool) false (k h b m j) (Nat.ble j (nat_lit 99))) (fun _ => false) h.i) (Nat.beq m.t (nat_lit 2))) (Nat.beq b.t (nat_lit 2))) (Nat.beq h.t (nat_lit 2))) (fun _ _ _ => false) z2) z1) t) e.l) (Nat.beq e.t (nat_lit 12))
noncomputable def zU8 (N R W F : List AV) (i : Nat) (k : List AV -> List AV -> Bool) : Bool :=
  nthK (fun e => entK e fun h b m j => nthK (fun r => @Bool.rec (fun _ => Bool) false (nthK (fun w => yd7 w (extK b.i (fun c => aT [c, h, aI (maxI m.i r.i)]) w.l fun x => k (app W x) (Bool.rec (motive := fun _ => List AV) F (app F [aT [r, h]]) (ltB m.i r.i)))) N j) (Nat.beq r.t (nat_lit 2))) R j) W i
noncomputable def zB4 (N R : List AV) (n : Nat) : Nat -> List AV -> List AV -> (List AV -> List AV -> Bool) -> Bool := Nat.rec (motive := fun _ => Nat -> List AV -> List AV -> (List AV -> List AV -> Bool) -> Bool) (fun _ W F k => k W F) (fun _ ih i W F k => zU8 N R W F i fun W' F' => ih (Nat.succ i) W' F' k) n
noncomputable def c34 (a0 a1 a2 : AV) : CS Unit := fun H kn kr => @Bool.rec (fun _ => Bool) false (@Bool.rec (fun _ => Bool) false (@Bool.rec (fun _ => Bool) false (@Bool.rec (fun _ => Bool) false (@Bool.rec (fun _ => Bool) false (zB4 a1.l (hget H a2.m).l 7 (nat_lit 0) [aT [a0, aI (.negSucc (nat_lit 0)), aI (.ofNat (nat_lit 0))]] [] fun W F => se2 (aR (Nat.succ H.n)) (H2 H W F) kn kr) (Nat.ble (Nat.succ a2.m) H.n)) (Nat.beq (hget H a2.m).t (nat_lit 0))) (Nat.beq a2.t (nat_lit 11))) (Nat.beq a1.t (nat_lit 13))) (Nat.ble (Nat.succ (Nat.succ H.n)) (nat_lit 8000))
noncomputable def yq6 (e : Nat -> (Bool -> Bool) -> Bool) (ps : List Nat) : (Bool -> Bool) -> Bool := List.rec (motive := fun _ => (Bool -> Bool) -> Bool) (fun k => k true) (fun p _ ih k => e p fun b => ih fun r => k (Bool.rec (motive := fun _ => Bool) false r b)) ps
noncomputable def zH7 (U : List AV) (L : Nat) (c : AV) (k : Nat -> Bool) : Bool := numK c fun j => @Bool.rec (fun _ => Bool) false (nthK (fun u => numK u fun v => k (Nat.land L v)) U j) (Nat.ble j (nat_lit 99))
noncomputable def zo2 (U : List AV) (L : Nat) (l : List AV) : (List Nat -> Bool) -> Bool := List.rec (motive := fun _ => (List Nat -> Bool) -> Bool) (fun k => k []) (fun c _ ih k => zH7 U L c fun v => ih fun ps => k (v :: ps)) l
noncomputable def zx0 (L i : Nat) : Bool := Nat.beq (Nat.land (Nat.div L (Nat.pow (nat_lit 2) i)) (nat_lit 1)) (nat_lit 1)
noncomputable def yq3 (U K : List AV) (e : Nat -> (Bool -> Bool) -> Bool) (L i : Nat) (k : Bool -> Bool) : Bool := nthK (fun u => numK u fun v => nthK (fun w => yd7 w (zo2 U L w.l fun ps => yq6 e (List.cons (Nat.sub L (Nat.land L v)) ps) k)) K i) U i
noncomputable def yq5 (U K : List AV) (e : Nat -> (Bool -> Bool) -> Bool) (L : Nat) (k : Bool -> Bool) (ih : Nat -> Bool) (i : Nat) : Bool := @Bool.rec (fun _ => Bool) (ih (Nat.succ i)) (yq3 U K e L i fun b => @Bool.rec (fun _ => Bool) (ih (Nat.succ i)) (k true) b) (zx0 L i)
noncomputable def zX1 (U K : List AV) (e : Nat -> (Bool -> Bool) -> Bool) (L : Nat) (k : Bool -> Bool) (n : Nat) : Nat -> Bool := Nat.rec (motive := fun _ => Nat -> Bool) (fun _ => k false) (fun _ ih => yq5 U K e L k ih) n
noncomputable def enBs (U K : List AV) (ih : Nat -> Nat -> (Bool -> Bool) -> Bool) (L D : Nat) (k : Bool -> Bool) : Bool := @Bool.rec (fun _ => Bool) (@Bool.rec (fun _ => Bool) (k false) (@Bool.rec (fun _ => Bool) false (zX1 U K (fun p => ih p (Nat.pred D)) L k (nat_lit 7) (nat_lit 0)) (Nat.ble L (nat_lit 1000000))) (Nat.ble (nat_lit 2) D)) (@Bool.rec (fun _ => Bool) (k (Nat.ble (nat_lit 1) D)) (k true) (Nat.beq L (nat_lit 0))) (Nat.beq (Nat.land L (Nat.pred L)) (nat_lit 0))
noncomputable def enB (U K : List AV) (n : Nat) : Nat -> Nat -> (Bool -> Bool) -> Bool := Nat.rec (motive := fun _ => Nat -> Nat -> (Bool -> Bool) -> Bool) (fun _ _ _ => false) (fun _ ih => enBs U K ih) n
noncomputable def c32 (a0 a1 a2 a3 : AV) : CS Unit := fun H kn kr => @Bool.rec (fun _ => Bool) false (@Int.rec (fun _ => Bool) (fun L => @Bool.rec (fun _ => Bool) false (@Int.rec (fun _ => Bool) (fun D => @Bool.rec (fun _ => Bool) false (@Bool.rec (fun _ => Bool) false (@Bool.rec (fun _ => Bool) false (enB (hget H a2.m).l a3.l (nat_lit 9) L D fun b => kr (aB b) H) (Nat.beq a3.t (nat_lit 13))) (Nat.beq (hget H a2.m).t (nat_lit 0))) (Nat.beq a2.t (nat_lit 11))) (fun _ => false) a1.i) (Nat.beq a1.t (nat_lit 2))) (fun _ => false) a0.i) (Nat.beq a0.t (nat_lit 2))
noncomputable def b29 (T : List Nat) (a0 a1 : AV) : CS Unit :=
  (seqC (asgC yg1) (fun v1 => (seqC (useC (YM true srcK (fun v k => k v) (litC a0) (fun (v3 : AV) => yesT) (fun (v3 : AV) => (Yo false nilL)))) (fun v2 => (seqC (asgC (Yo true nilL)) (fun v5 => (seqC (asgC yg1) (fun v6 => (seqC (forL (litC a0) (fun v8 (r7 : Unit) => (seqC (putC (Yo true nilL) (litC v6) (litC v8) ()) (fun (_ : Unit) => (Zt ())))) ()) (fun (r7 : Unit) => (seqC (forL (biC Yc (Ze (litC (aI 6)) (Ze (unK negK (litC (aI 1))) (Ze (unK negK (litC (aI 1))) nilL)))) (fun v10 (r9 : Unit) => (seqC (asgC (ZC (Zn (on2 b16)) (Ze (binK (intK modG) (litC v10) (litC (aI 2))) (Ze (litC (aI 1)) nilL)))) (fun v11 => (seqC (asgC (Yo true nilL)) (fun v12 => (seqC (forR (subK Zk (litC v6) (subK Zk (litC a0) (litC v10))) (fun v14 (r13 : Unit) => (seqC (forR (subK Zk (litC v1) (litC v14)) (fun v16 (r15 : Unit) => (seqC (Xl (lmC Yn (litC v5) (Ze (iteE (asT (litC v11)) (kwC q10 [aI 0, aN] (Ze (litC v12) (Ze (litC v16) nilL)) (litC (aF 28))) (kwC q8 [aI 0, aN] (Ze (litC v12) (Ze (litC v16) nilL)) (litC (aF 28)))) nilL)) ()) (fun (_ : Unit) => (Zt ())))) ()) (fun (r15 : Unit) => (Zt ())))) ()) (fun (r13 : Unit) => (seqC (asgC (zK2 (Ze (litC a1) nilL))) (fun v17 => (seqC (asgC (litC (aI 0))) (fun v18 => (seqC (forR (litC v12) (fun v20 (r19 : AV) => (seqC (Xl (lmC Yn (litC v5) (Ze (za0 (Zn (on3 yb7)) (litC v17) (Ze (subK Zk (litC v20) (litC (aI 0))) (Ze (subK Zk (litC v20) (litC (aI 1))) nilL))) nilL)) ()) (fun (_ : Unit) => (seqC (asgC (ZC kf (Ze (litC v20) nilL))) (fun v21 => (seqC (ifC (notT (asT (ZC (Zn (on2 b17)) (Ze (litC (aI 2)) (Ze (ZC (Zn (on2 b20)) (Ze (kwC q9 [aI 0, aN] (Ze (litC v12) (Ze (litC v21) nilL)) (litC (aF 28))) (Ze (kwC q11 [aI 0, aN] (Ze (litC v12) (Ze (litC v21) nilL)) (litC (aF 28))) nilL))) nilL))))) (seqC (asgC (biC maxF (Ze (litC r19) (Ze (biC lenF (Ze (subK Zk (litC v20) (litC (aI 0))) nilL)) nilL)))) (fun v23 => (Zt v23))) (Zt r19) : CS (AV)) (fun (r22 : AV) => (Zt r22)))))))) v18) (fun (r19 : AV) => (seqC (asgC (kwC q11 [] (Ze (litC v17) (Ze (ZC (Zn (on1 b19)) (Ze (litC r19) nilL)) (Ze (litC (aI 0)) (Ze (za0 cntC (litC v17) nilL) nilL)))) (litC (aF 28)))) (fun v24 => (seqC (asgC (yn2 v17 r19 v24)) (fun v25 => (seqC (putC (za0 (Zn (on2 popB)) (litC v17) (Ze (litC v25) nilL)) (litC v2) (litC v10) ()) (fun (_ : Unit) => (seqC (Xl (lmC Yn (litC v5) (Ze (za0 (Zn (on3 yb7)) (litC v17) (Ze (binK zD4 (litC (aS [32])) (binK ZW (binK (intK subG) (binK ZW (litC r19) (litC v24)) (litC v25)) (litC (aI 1)))) (Ze (subK Zk (litC (aS [116, 97, 98, 99, 100, 101, 102])) (litC v10)) nilL))) nilL)) ()) (fun (_ : Unit) => (seqC (putC (litC v17) (litC v1) (subK Zk (litC a0) (litC v10)) ()) (fun (_ : Unit) => (seqC (ifC (cmpK (XR gtI) (litC v10) (litC (aI 0))) (seqC (Xl (lmC Yn (subK Zk (litC v6) (oneC (ZC (zb2 T) (Ze (subK Zk (litC a0) (litC v10)) nilL)))) (Ze (subK Zk (litC a0) (litC v10)) nilL)) ()) (fun (_ : Unit) => (Zt ()))) (Zt ()) : CS (Unit)) (fun (r26 : Unit) => (Zt ())))))))))))))))))))))))))) ()) (fun (r9 : Unit) => (retC (tupC (Ze (litC v1) (Ze (litC v2) (Ze (litC v5) nilL)))))))))))))))))
noncomputable def ladF (T : List Nat) (x0 : AV) (m0 : Nat) (n : Nat) : Nat -> (List AV -> Bool) -> Bool := Nat.rec (motive := fun _ => Nat -> (List AV -> Bool) -> Bool) (fun _ k => k []) (fun _ ih j k => @Bool.rec (fun _ => Bool) (@Nat.rec (fun _ => Bool) false (fun i _ => @Bool.rec (fun _ => Bool) false (ih (nthD T j) fun r => k (List.cons (aHof (nthD T j)) r)) (Nat.ble j (nat_lit 6))) j) (ih m0 fun r => k (List.cons x0 r)) (Nat.beq j m0)) n
noncomputable def fndK (m : Nat) (l : List AV) : AV -> (AV -> Bool) -> Bool := List.rec (motive := fun _ => AV -> (AV -> Bool) -> Bool) (fun _ _ => false) (fun y _ ih p k => @Bool.rec (fun _ => Bool) (ih y k) (k p) (Nat.beq y.m m)) l
noncomputable def letK (m : Nat) (k : Nat -> Bool) : Bool := @Bool.rec (fun _ => Bool) (@Bool.rec (fun _ => Bool) (@Bool.rec (fun _ => Bool) (@Bool.rec (fun _ => Bool) (@Bool.rec (fun _ => Bool) (@Bool.rec (fun _ => Bool) (@Bool.rec (fun _ => Bool) false (k (nat_lit 6)) (Nat.beq m (nat_lit 102))) (k (nat_lit 5)) (Nat.beq m (nat_lit 101))) (k (nat_lit 4)) (Nat.beq m (nat_lit 100))) (k (nat_lit 3)) (Nat.beq m (nat_lit 99))) (k (nat_lit 2)) (Nat.beq m (nat_lit 98))) (k (nat_lit 1)) (Nat.beq m (nat_lit 97))) (k (nat_lit 0)) (Nat.beq m (nat_lit 116))
noncomputable def yk7 (H : AH) (p : AV) (k : List AV -> Bool) : Bool := @Bool.rec (fun _ => Bool) false (@Bool.rec (fun _ => Bool) false (@Bool.rec (fun _ => Bool) false (@Bool.rec (fun _ => Bool) false (@Bool.rec (fun _ => Bool) false (@Bool.rec (fun _ => Bool) false (k (hget H p.m).l) (Nat.ble (lenN (hget H p.m).l) (nat_lit 99999))) (Nat.beq (hget H (hget H p.m).d).t (nat_lit 4))) (Nat.ble (Nat.succ (hget H p.m).d) H.n)) (Nat.beq (hget H p.m).t (nat_lit 3))) (Nat.ble (Nat.succ p.m) H.n)) (Nat.beq p.t (nat_lit 11))
noncomputable def yk8 (e : AV) (k : AV -> AV -> Bool) : Bool := @Bool.rec (fun _ => Bool) false (@List.rec AV (fun _ => Bool) false (fun b z1 _ => @List.rec AV (fun _ => Bool) false (fun c z2 _ => @List.rec AV (fun _ => Bool) (@Bool.rec (fun _ => Bool) false (@Bool.rec (fun _ => Bool) false (@Bool.rec (fun _ => Bool) false (@Bool.rec (fun _ => Bool) false (k b c) (Nat.ble (lenN b.s) (nat_lit 99999))) (eqL c.s [c.m])) (Nat.beq c.t (nat_lit 10))) (Nat.beq b.t (nat_lit 3))) (fun _ _ _ => false) z2) z1) e.l) (Nat.beq e.t (nat_lit 12))
noncomputable def zR4 (w : AV) (k : Bool) : Bool := @Bool.rec (fun _ => Bool) false (@Bool.rec (fun _ => Bool) false k (Nat.ble w.m (nat_lit 6))) (Nat.beq w.t (nat_lit 4))
noncomputable def askW (T : List Nat) (names Lad : List AV) (q : Nat) (a0 : AV) (H : AH) (ks : List Nat) (ps : List AV) (k : List Nat -> Bool) (ih : Nat -> List Nat -> AV -> Bool) (lv : Nat) (s : List Nat) (p : AV) : Bool := yk7 H p fun l => bisN l lv (fun v => numK v fun i => nthK (fun e => yk8 e fun b c => letK c.m fun li => nthK (fun w => zR4 w (@Bool.rec (fun _ => Bool) (@Bool.rec (fun _ => Bool) (ih (lenN b.s) (app s c.s) p) (fndK w.m Lad a0 fun y => VB ks y.m (fun p' => ih (lenN b.s) (app s c.s) p') ps) (ancB T (nat_lit 7) q w.m)) (@Bool.rec (fun _ => Bool) (k (app s c.s)) (k []) (ancB T (nat_lit 7) q w.m)) (Nat.beq q w.m))) names li) l i) 40 (nat_lit 0) (lenN l) (aI 0)
noncomputable def askF (T : List Nat) (names Lad : List AV) (q : Nat) (a0 : AV) (H : AH) (ks : List Nat) (ps : List AV) (k : List Nat -> Bool) (n : Nat) : Nat -> List Nat -> AV -> Bool :=
  Nat.rec (motive := fun _ => Nat -> List Nat -> AV -> Bool) (fun _ _ _ => k []) (fun _ ih => askW T names Lad q a0 H ks ps k ih) n
noncomputable def c30 (T : List Nat) (a0 a1 a2 : AV) : CS Unit := fun H _ kr => @Bool.rec (fun _ => Bool) false (zR4 a0 (@Bool.rec (fun _ => Bool) false (@List.rec AV (fun _ => Bool) false (fun x0 _ _ => zR4 x0 (@Bool.rec (fun _ => Bool) false (@Bool.rec (fun _ => Bool) false (@Bool.rec (fun _ => Bool) false (ladF T x0 x0.m 7 a0.m fun r => VB (hget H a2.m).ks x0.m (fun p => askF T a1.l r a0.m a0 H (hget H a2.m).ks (hget H a2.m).l (fun s => kr (aS s) (Ym H (oL (List.cons a0 r)))) 7 (nat_lit 8) [] p) (hget H a2.m).l) (Nat.beq (hget H a2.m).t (nat_lit 2))) (Nat.ble (Nat.succ a2.m) H.n)) (Nat.beq a2.t (nat_lit 11)))) a1.l) (Nat.beq a1.t (nat_lit 13)))) (Nat.ble (Nat.succ H.n) (nat_lit 8000))
noncomputable def b36 (T : List Nat) (a0 a1 a2 : AV) : CS Unit :=
  (seqC (unp3 (ZC (Zn (on2 (b29 T))) (Ze (litC a1) (Ze (litC a2) nilL)))) (fun (r1 : AV × AV × AV) => (seqC (asgC (YM false srcK (fun v k => k v) (biC Yc (Ze (litC (aI 7)) nilL)) (fun (v3 : AV) => yesT) (fun (v3 : AV) => (YM false srcK (fun v k => k v) (biC Yc (Ze (binK ZW (litC v3) (litC (aI 1))) (Ze (litC (aI 7)) nilL))) (fun (v4 : AV) => (cmpK eqK (subK Zk (litC a0) (litC v4)) (litC v3))) (fun (v4 : AV) => (litC v4)))))) (fun v2 => (seqC (asgC (ZC (Zn (on1 b31)) (Ze (litC a0) nilL))) (fun v7 => (seqC (forL (biC Yc (Ze (litC (aI 7)) nilL)) (fun v9 (r8 : Unit) => (seqC (asgC (biC lenF (Ze (subK Zk (subK Zk (subK Zk (litC r1.1) (subK Zk (litC a1) (litC v9))) (litC (aI 0))) (litC (aI 0))) nilL))) (fun v10 => (seqC (ifC (orT (notT (asT (ZC (Zn (on4 c32)) (Ze (subK Zk (litC v7) (litC v9)) (Ze (litC v10) (Ze (litC v7) (Ze (litC v2) nilL))))))) (asT (ZC (Zn (on4 c32)) (Ze (subK Zk (litC v7) (litC v9)) (Ze (binK (intK subG) (litC v10) (litC (aI 1))) (Ze (litC v7) (Ze (litC v2) nilL))))))) (retC (litC (aB false))) (Zt ()) : CS (Unit)) (fun (r11 : Unit) => (Zt ())))))) ()) (fun (r8 : Unit) => (seqC (unp3 (ZC (Zn (on1 b33)) (Ze (litC v2) nilL))) (fun (r12 : AV × AV × AV) => (seqC (useC (YM false srcK (fun v k => k v) (biC Yc (Ze (litC (aI 7)) nilL)) (fun (v14 : AV) => yesT) (fun (v14 : AV) => (binK ZW (subK Zk (litC v2) (litC v14)) (upC (Yo false (Ze (subK Zk (litC a0) (litC v14)) nilL)) (litC v14)))))) (fun v13 => (seqC (forL (biC Yc (Ze (litC (aI 7)) nilL)) (fun v17 (r16 : Unit) => (seqC (ifC (cmpK neK (ZC (Zn (on3 (c30 T))) (Ze (subK Zk (litC a1) (litC v17)) (Ze (litC a1) (Ze (litC r1.1) nilL)))) (ZC (Zn (on3 c34)) (Ze (litC v17) (Ze (litC v13) (Ze (litC r12.1) nilL))))) (retC (litC (aB false))) (Zt ()) : CS (Unit)) (fun (r18 : Unit) => (seqC (asgC (subK Zk (litC r1.1) (subK Zk (litC a1) (litC v17)))) (fun v19 => (seqC (asgC (zQ5 (Ze (YM false srcK (fun v k => k v) (revC (srtC (Ze (subK Zk (litC r12.2.1) (litC v17)) nilL))) (fun (v21 : AV) => yesT) (fun (v21 : AV) => (binK ZW (binK zD4 (litC (aS [32])) (litC v21)) (subK Zk (litC (aS [116, 97, 98, 99, 100, 101, 102])) (subK Zk (subK Zk (litC r12.2.1) (litC v17)) (litC v21)))))) nilL))) (fun v20 => (seqC (ifC (cmpK neK (Yo false (Ze (biC strF (Ze (litC v19) nilL)) (Ze (biC lenF (Ze (litC v19) nilL)) (Ze (za0 cntC (litC v19) nilL) (Ze (subK Zk (litC r1.2.1) (litC v17)) nilL))))) (Yo false (Ze (litC v20) (Ze (binK ZW (litC a2) (biC lenF (Ze (litC v20) nilL))) (Ze (biC lenF (Ze (subK Zk (litC r12.2.1) (litC v17)) nilL)) (Ze (subK Zk (litC r12.2.2) (litC v17)) nilL)))))) (retC (litC (aB false))) (Zt ()) : CS (Unit)) (fun (r23 : Unit) => (Zt ())))))))))) ()) (fun (r16 : Unit) => (seqC (ifC (cmpK neK (ZC (Zn (on2 zf0)) (Ze (binK ZW (litC r1.2.2) (Yo false (Ze (litC a1) nilL))) (Ze (litC aN) nilL))) (biC lenF (Ze (litC r1.2.2) nilL))) (retC (litC (aB false))) (Zt ()) : CS (Unit)) (fun (r24 : Unit) => (retC (Jd (cmpK eqK (ZC zJ0 (Ze (subK Zk (litC a1) (litC (aI 6))) (Ze (subK Zk (litC a1) (litC (aI 0))) nilL))) (litC (aS [91, 84, 114, 117, 101, 44, 32, 70, 97, 108, 115, 101, 44, 32, 70, 97, 108, 115, 101, 44, 32, 70, 97, 108, 115, 101, 44, 32, 84, 114, 117, 101, 44, 32, 70, 97, 108, 115, 101, 44, 32, 70, 97, 108, 115, 101, 44, 32, 84, 114, 117, 101, 44, 32, 84, 114, 117, 101, 93])))))))))))))))))))))
noncomputable def tabH : AH := Ym (Ym (Ym YP (oT 0)) (oT 1)) (oT 2)
noncomputable def zQ7 (H : AH) (q : Nat) (k : Bool) : Bool := kd (hget H q).t 5 k
noncomputable def okB (v : AV) (H : AH) : Bool := kd v.t 1 (sel v.b (zQ7 H (nat_lit 0) (zQ7 H (nat_lit 1) (zQ7 H (nat_lit 2) true))) false)
noncomputable def zs2 : List AV := [VF 0, VF 1, VF 2, VF 3, VF 4, VF 5, VF 6]
noncomputable def lawB (T : List Nat) : Bool := b36 T (aL (Yu T)) (aL zs2) (aZ 0) tabH (fun _ _ => false) okB
end Mine
end
section
namespace Mine
open PySem PySem.W PyProof.Rows
noncomputable def evN (b k : Nat) : Bool := Nat.rec (motive := fun _ => Bool) true (fun i ih => gd (lawB (Va (Nat.add b i))) ih) k
theorem yx2 {b : Nat} : ∀ {k : Nat}, evN b k = true -> ∀ n, b <= n -> n < b + k -> lawB (Va n) = true := by
  intro k
  induction k with
  | zero => exact fun _ n h1 h2 => absurd h2 (Nat.not_lt.mpr h1)
  | succ k ih =>
    intro h n h1 h2
    obtain ⟨h3, h4⟩ := gd_t (b := lawB (Va (Nat.add b k))) h
    rcases Nat.lt_or_eq_of_le (Nat.le_of_lt_succ h2) with h5 | h5
    · exact ih h4 n h1 h5
    · exact h5 ▸ h3
def EvR (a b : Nat) : Prop := ∀ n, a <= n -> n < b -> lawB (Va n) = true
theorem evP (b : Nat) (h : evN b (nat_lit 4) = true) : EvR b (b + 4) := yx2 h
theorem EvR.trans {a b e : Nat} (x : EvR a b) (y : EvR b e) : EvR a e := fun n h1 h2 => (Nat.lt_or_ge n b).elim (x n h1) fun h => y n h h2
theorem ev0 : EvR 0 4 := evP (nat_lit 0) (by kernel_rfl)
theorem ev4 : EvR 4 8 := evP (nat_lit 4) (by kernel_rfl)
theorem ev8 : EvR 8 12 := evP (nat_lit 8) (by kernel_rfl)
theorem ev12 : EvR 12 16 := evP (nat_lit 12) (by kernel_rfl)
theorem ev16 : EvR 16 20 := evP (nat_lit 16) (by kernel_rfl)
theorem ev20 : EvR 20 24 := evP (nat_lit 20) (by kernel_rfl)
theorem ev24 : EvR 24 28 := evP (nat_lit 24) (by kernel_rfl)
theorem ev28 : EvR 28 32 := evP (nat_lit 28) (by kernel_rfl)
theorem ev32 : EvR 32 36 := evP (nat_lit 32) (by kernel_rfl)
theorem ev36 : EvR 36 40 := evP (nat_lit 36) (by kernel_rfl)
theorem ev40 : EvR 40 44 := evP (nat_lit 40) (by kernel_rfl)
theorem ev44 : EvR 44 48 := evP (nat_lit 44) (by kernel_rfl)
theorem ev48 : EvR 48 52 := evP (nat_lit 48) (by kernel_rfl)
theorem ev52 : EvR 52 56 := evP (nat_lit 52) (by kernel_rfl)
theorem ev56 : EvR 56 60 := evP (nat_lit 56) (by kernel_rfl)
theorem ev60 : EvR 60 64 := evP (nat_lit 60) (by kernel_rfl)
theorem ev64 : EvR 64 68 := evP (nat_lit 64) (by kernel_rfl)
theorem ev68 : EvR 68 72 := evP (nat_lit 68) (by kernel_rfl)
theorem ev72 : EvR 72 76 := evP (nat_lit 72) (by kernel_rfl)
theorem ev76 : EvR 76 80 := evP (nat_lit 76) (by kernel_rfl)
theorem ev80 : EvR 80 84 := evP (nat_lit 80) (by kernel_rfl)
theorem ev84 : EvR 84 88 := evP (nat_lit 84) (by kernel_rfl)
theorem ev88 : EvR 88 92 := evP (nat_lit 88) (by kernel_rfl)
theorem ev92 : EvR 92 96 := evP (nat_lit 92) (by kernel_rfl)
theorem ev96 : EvR 96 100 := evP (nat_lit 96) (by kernel_rfl)
theorem yM8 : EvR 100 104 := evP (nat_lit 100) (by kernel_rfl)
theorem yM7 : EvR 104 108 := evP (nat_lit 104) (by kernel_rfl)
theorem yM6 : EvR 108 112 := evP (nat_lit 108) (by kernel_rfl)
theorem yM5 : EvR 112 116 := evP (nat_lit 112) (by kernel_rfl)
theorem yM4 : EvR 116 120 := evP (nat_lit 116) (by kernel_rfl)
theorem yM3 : EvR 120 124 := evP (nat_lit 120) (by kernel_rfl)
theorem yM2 : EvR 124 128 := evP (nat_lit 124) (by kernel_rfl)
theorem yM1 : EvR 128 132 := evP (nat_lit 128) (by kernel_rfl)
theorem yM0 : EvR 132 136 := evP (nat_lit 132) (by kernel_rfl)
theorem yL9 : EvR 136 140 := evP (nat_lit 136) (by kernel_rfl)
theorem yL8 : EvR 140 144 := evP (nat_lit 140) (by kernel_rfl)
theorem yL7 : EvR 144 148 := evP (nat_lit 144) (by kernel_rfl)
theorem yL6 : EvR 148 152 := evP (nat_lit 148) (by kernel_rfl)
theorem yL5 : EvR 152 156 := evP (nat_lit 152) (by kernel_rfl)
theorem yL4 : EvR 156 160 := evP (nat_lit 156) (by kernel_rfl)
theorem yL3 : EvR 160 164 := evP (nat_lit 160) (by kernel_rfl)
theorem yL2 : EvR 164 168 := evP (nat_lit 164) (by kernel_rfl)
theorem yL1 : EvR 168 172 := evP (nat_lit 168) (by kernel_rfl)
theorem yL0 : EvR 172 176 := evP (nat_lit 172) (by kernel_rfl)
theorem yK9 : EvR 176 180 := evP (nat_lit 176) (by kernel_rfl)
theorem yK8 : EvR 180 184 := evP (nat_lit 180) (by kernel_rfl)
theorem yK7 : EvR 184 188 := evP (nat_lit 184) (by kernel_rfl)
theorem yK6 : EvR 188 192 := evP (nat_lit 188) (by kernel_rfl)
theorem yK5 : EvR 192 196 := evP (nat_lit 192) (by kernel_rfl)
theorem yK4 : EvR 196 200 := evP (nat_lit 196) (by kernel_rfl)
theorem yK3 : EvR 200 204 := evP (nat_lit 200) (by kernel_rfl)
theorem yK2 : EvR 204 208 := evP (nat_lit 204) (by kernel_rfl)
theorem yK1 : EvR 208 212 := evP (nat_lit 208) (by kernel_rfl)
theorem yK0 : EvR 212 216 := evP (nat_lit 212) (by kernel_rfl)
theorem yJ9 : EvR 216 220 := evP (nat_lit 216) (by kernel_rfl)
theorem yJ8 : EvR 220 224 := evP (nat_lit 220) (by kernel_rfl)
theorem yJ7 : EvR 224 228 := evP (nat_lit 224) (by kernel_rfl)
theorem yJ6 : EvR 228 232 := evP (nat_lit 228) (by kernel_rfl)
theorem yJ5 : EvR 232 236 := evP (nat_lit 232) (by kernel_rfl)
theorem yJ4 : EvR 236 240 := evP (nat_lit 236) (by kernel_rfl)
theorem yJ3 : EvR 240 244 := evP (nat_lit 240) (by kernel_rfl)
theorem yJ2 : EvR 244 248 := evP (nat_lit 244) (by kernel_rfl)
theorem yJ1 : EvR 248 252 := evP (nat_lit 248) (by kernel_rfl)
theorem yJ0 : EvR 252 256 := evP (nat_lit 252) (by kernel_rfl)
theorem yI9 : EvR 256 260 := evP (nat_lit 256) (by kernel_rfl)
theorem yI8 : EvR 260 264 := evP (nat_lit 260) (by kernel_rfl)
theorem yI7 : EvR 264 268 := evP (nat_lit 264) (by kernel_rfl)
theorem yI6 : EvR 268 272 := evP (nat_lit 268) (by kernel_rfl)
theorem yI5 : EvR 272 276 := evP (nat_lit 272) (by kernel_rfl)
theorem yI4 : EvR 276 280 := evP (nat_lit 276) (by kernel_rfl)
theorem yI3 : EvR 280 284 := evP (nat_lit 280) (by kernel_rfl)
theorem yI2 : EvR 284 288 := evP (nat_lit 284) (by kernel_rfl)
theorem yI1 : EvR 288 292 := evP (nat_lit 288) (by kernel_rfl)
theorem yI0 : EvR 292 296 := evP (nat_lit 292) (by kernel_rfl)
theorem yH9 : EvR 296 300 := evP (nat_lit 296) (by kernel_rfl)
theorem yH8 : EvR 300 304 := evP (nat_lit 300) (by kernel_rfl)
theorem yH7 : EvR 304 308 := evP (nat_lit 304) (by kernel_rfl)
theorem yH6 : EvR 308 312 := evP (nat_lit 308) (by kernel_rfl)
theorem yH5 : EvR 312 316 := evP (nat_lit 312) (by kernel_rfl)
theorem yH4 : EvR 316 320 := evP (nat_lit 316) (by kernel_rfl)
theorem yH3 : EvR 320 324 := evP (nat_lit 320) (by kernel_rfl)
theorem yH2 : EvR 324 328 := evP (nat_lit 324) (by kernel_rfl)
theorem yH1 : EvR 328 332 := evP (nat_lit 328) (by kernel_rfl)
theorem yH0 : EvR 332 336 := evP (nat_lit 332) (by kernel_rfl)
theorem yG9 : EvR 336 340 := evP (nat_lit 336) (by kernel_rfl)
theorem yG8 : EvR 340 344 := evP (nat_lit 340) (by kernel_rfl)
theorem yG7 : EvR 344 348 := evP (nat_lit 344) (by kernel_rfl)
theorem yG6 : EvR 348 352 := evP (nat_lit 348) (by kernel_rfl)
theorem yG5 : EvR 352 356 := evP (nat_lit 352) (by kernel_rfl)
theorem yG4 : EvR 356 360 := evP (nat_lit 356) (by kernel_rfl)
theorem yG3 : EvR 360 364 := evP (nat_lit 360) (by kernel_rfl)
theorem yG2 : EvR 364 368 := evP (nat_lit 364) (by kernel_rfl)
theorem yG1 : EvR 368 372 := evP (nat_lit 368) (by kernel_rfl)
theorem yG0 : EvR 372 376 := evP (nat_lit 372) (by kernel_rfl)
theorem yF9 : EvR 376 380 := evP (nat_lit 376) (by kernel_rfl)
theorem yF8 : EvR 380 384 := evP (nat_lit 380) (by kernel_rfl)
theorem yF7 : EvR 384 388 := evP (nat_lit 384) (by kernel_rfl)
theorem yF6 : EvR 388 392 := evP (nat_lit 388) (by kernel_rfl)
theorem yF5 : EvR 392 396 := evP (nat_lit 392) (by kernel_rfl)
theorem yF4 : EvR 396 400 := evP (nat_lit 396) (by kernel_rfl)
theorem yF3 : EvR 400 404 := evP (nat_lit 400) (by kernel_rfl)
theorem yF2 : EvR 404 408 := evP (nat_lit 404) (by kernel_rfl)
theorem yF1 : EvR 408 412 := evP (nat_lit 408) (by kernel_rfl)
theorem yF0 : EvR 412 416 := evP (nat_lit 412) (by kernel_rfl)
theorem yE9 : EvR 416 420 := evP (nat_lit 416) (by kernel_rfl)
theorem yE8 : EvR 420 424 := evP (nat_lit 420) (by kernel_rfl)
theorem yE7 : EvR 424 428 := evP (nat_lit 424) (by kernel_rfl)
theorem yE6 : EvR 428 432 := evP (nat_lit 428) (by kernel_rfl)
theorem yE5 : EvR 432 436 := evP (nat_lit 432) (by kernel_rfl)
theorem yE4 : EvR 436 440 := evP (nat_lit 436) (by kernel_rfl)
theorem yE3 : EvR 440 444 := evP (nat_lit 440) (by kernel_rfl)
theorem yE2 : EvR 444 448 := evP (nat_lit 444) (by kernel_rfl)
theorem yE1 : EvR 448 452 := evP (nat_lit 448) (by kernel_rfl)
theorem yE0 : EvR 452 456 := evP (nat_lit 452) (by kernel_rfl)
theorem yD9 : EvR 456 460 := evP (nat_lit 456) (by kernel_rfl)
theorem yD8 : EvR 460 464 := evP (nat_lit 460) (by kernel_rfl)
theorem yD7 : EvR 464 468 := evP (nat_lit 464) (by kernel_rfl)
theorem yD6 : EvR 468 472 := evP (nat_lit 468) (by kernel_rfl)
theorem yD5 : EvR 472 476 := evP (nat_lit 472) (by kernel_rfl)
theorem yD4 : EvR 476 480 := evP (nat_lit 476) (by kernel_rfl)
theorem yD3 : EvR 480 484 := evP (nat_lit 480) (by kernel_rfl)
theorem yD2 : EvR 484 488 := evP (nat_lit 484) (by kernel_rfl)
theorem yD1 : EvR 488 492 := evP (nat_lit 488) (by kernel_rfl)
theorem yD0 : EvR 492 496 := evP (nat_lit 492) (by kernel_rfl)
theorem yC9 : EvR 496 500 := evP (nat_lit 496) (by kernel_rfl)
theorem yC8 : EvR 500 504 := evP (nat_lit 500) (by kernel_rfl)
theorem yC7 : EvR 504 508 := evP (nat_lit 504) (by kernel_rfl)
theorem yC6 : EvR 508 512 := evP (nat_lit 508) (by kernel_rfl)
theorem yC5 : EvR 512 516 := evP (nat_lit 512) (by kernel_rfl)
theorem yC4 : EvR 516 520 := evP (nat_lit 516) (by kernel_rfl)
theorem yC3 : EvR 520 524 := evP (nat_lit 520) (by kernel_rfl)
theorem yC2 : EvR 524 528 := evP (nat_lit 524) (by kernel_rfl)
theorem yC1 : EvR 528 532 := evP (nat_lit 528) (by kernel_rfl)
theorem yC0 : EvR 532 536 := evP (nat_lit 532) (by kernel_rfl)
theorem yB9 : EvR 536 540 := evP (nat_lit 536) (by kernel_rfl)
theorem yB8 : EvR 540 544 := evP (nat_lit 540) (by kernel_rfl)
theorem yB7 : EvR 544 548 := evP (nat_lit 544) (by kernel_rfl)
theorem yB6 : EvR 548 552 := evP (nat_lit 548) (by kernel_rfl)
theorem yB5 : EvR 552 556 := evP (nat_lit 552) (by kernel_rfl)
theorem yB4 : EvR 556 560 := evP (nat_lit 556) (by kernel_rfl)
theorem yB3 : EvR 560 564 := evP (nat_lit 560) (by kernel_rfl)
theorem yB2 : EvR 564 568 := evP (nat_lit 564) (by kernel_rfl)
theorem yB1 : EvR 568 572 := evP (nat_lit 568) (by kernel_rfl)
theorem yB0 : EvR 572 576 := evP (nat_lit 572) (by kernel_rfl)
theorem yA9 : EvR 576 580 := evP (nat_lit 576) (by kernel_rfl)
theorem yA8 : EvR 580 584 := evP (nat_lit 580) (by kernel_rfl)
theorem yA7 : EvR 584 588 := evP (nat_lit 584) (by kernel_rfl)
theorem yA6 : EvR 588 592 := evP (nat_lit 588) (by kernel_rfl)
theorem yA5 : EvR 592 596 := evP (nat_lit 592) (by kernel_rfl)
theorem yA4 : EvR 596 600 := evP (nat_lit 596) (by kernel_rfl)
theorem yA3 : EvR 600 604 := evP (nat_lit 600) (by kernel_rfl)
theorem yA2 : EvR 604 608 := evP (nat_lit 604) (by kernel_rfl)
theorem yA1 : EvR 608 612 := evP (nat_lit 608) (by kernel_rfl)
theorem yA0 : EvR 612 616 := evP (nat_lit 612) (by kernel_rfl)
theorem yz9 : EvR 616 620 := evP (nat_lit 616) (by kernel_rfl)
theorem yz8 : EvR 620 624 := evP (nat_lit 620) (by kernel_rfl)
theorem yz7 : EvR 624 628 := evP (nat_lit 624) (by kernel_rfl)
theorem yz6 : EvR 628 632 := evP (nat_lit 628) (by kernel_rfl)
theorem yz5 : EvR 632 636 := evP (nat_lit 632) (by kernel_rfl)
theorem yz4 : EvR 636 640 := evP (nat_lit 636) (by kernel_rfl)
theorem yz3 : EvR 640 644 := evP (nat_lit 640) (by kernel_rfl)
theorem yz2 : EvR 644 648 := evP (nat_lit 644) (by kernel_rfl)
theorem yz1 : EvR 648 652 := evP (nat_lit 648) (by kernel_rfl)
theorem yz0 : EvR 652 656 := evP (nat_lit 652) (by kernel_rfl)
theorem yy9 : EvR 656 660 := evP (nat_lit 656) (by kernel_rfl)
theorem yy8 : EvR 660 664 := evP (nat_lit 660) (by kernel_rfl)
theorem yy7 : EvR 664 668 := evP (nat_lit 664) (by kernel_rfl)
theorem yy6 : EvR 668 672 := evP (nat_lit 668) (by kernel_rfl)
theorem yy5 : EvR 672 676 := evP (nat_lit 672) (by kernel_rfl)
theorem yy4 : EvR 676 680 := evP (nat_lit 676) (by kernel_rfl)
theorem yy3 : EvR 680 684 := evP (nat_lit 680) (by kernel_rfl)
theorem yy2 : EvR 684 688 := evP (nat_lit 684) (by kernel_rfl)
theorem yy1 : EvR 688 692 := evP (nat_lit 688) (by kernel_rfl)
theorem yy0 : EvR 692 696 := evP (nat_lit 692) (by kernel_rfl)
theorem yx9 : EvR 696 700 := evP (nat_lit 696) (by kernel_rfl)
theorem yx8 : EvR 700 704 := evP (nat_lit 700) (by kernel_rfl)
theorem yx7 : EvR 704 708 := evP (nat_lit 704) (by kernel_rfl)
theorem yx6 : EvR 708 712 := evP (nat_lit 708) (by kernel_rfl)
theorem yx5 : EvR 712 716 := evP (nat_lit 712) (by kernel_rfl)
theorem yx4 : EvR 716 720 := evP (nat_lit 716) (by kernel_rfl)
theorem evg0 : EvR 0 80 := (ev0.trans (ev4.trans (ev8.trans (ev12.trans (ev16.trans (ev20.trans (ev24.trans (ev28.trans (ev32.trans (ev36.trans (ev40.trans (ev44.trans (ev48.trans (ev52.trans (ev56.trans (ev60.trans (ev64.trans (ev68.trans (ev72.trans ev76)))))))))))))))))))
theorem evg1 : EvR 80 160 := (ev80.trans (ev84.trans (ev88.trans (ev92.trans (ev96.trans (yM8.trans (yM7.trans (yM6.trans (yM5.trans (yM4.trans (yM3.trans (yM2.trans (yM1.trans (yM0.trans (yL9.trans (yL8.trans (yL7.trans (yL6.trans (yL5.trans yL4)))))))))))))))))))
theorem evg2 : EvR 160 240 := (yL3.trans (yL2.trans (yL1.trans (yL0.trans (yK9.trans (yK8.trans (yK7.trans (yK6.trans (yK5.trans (yK4.trans (yK3.trans (yK2.trans (yK1.trans (yK0.trans (yJ9.trans (yJ8.trans (yJ7.trans (yJ6.trans (yJ5.trans yJ4)))))))))))))))))))
theorem evg3 : EvR 240 320 := (yJ3.trans (yJ2.trans (yJ1.trans (yJ0.trans (yI9.trans (yI8.trans (yI7.trans (yI6.trans (yI5.trans (yI4.trans (yI3.trans (yI2.trans (yI1.trans (yI0.trans (yH9.trans (yH8.trans (yH7.trans (yH6.trans (yH5.trans yH4)))))))))))))))))))
theorem evg4 : EvR 320 400 := (yH3.trans (yH2.trans (yH1.trans (yH0.trans (yG9.trans (yG8.trans (yG7.trans (yG6.trans (yG5.trans (yG4.trans (yG3.trans (yG2.trans (yG1.trans (yG0.trans (yF9.trans (yF8.trans (yF7.trans (yF6.trans (yF5.trans yF4)))))))))))))))))))
theorem evg5 : EvR 400 480 := (yF3.trans (yF2.trans (yF1.trans (yF0.trans (yE9.trans (yE8.trans (yE7.trans (yE6.trans (yE5.trans (yE4.trans (yE3.trans (yE2.trans (yE1.trans (yE0.trans (yD9.trans (yD8.trans (yD7.trans (yD6.trans (yD5.trans yD4)))))))))))))))))))
theorem evg6 : EvR 480 560 := (yD3.trans (yD2.trans (yD1.trans (yD0.trans (yC9.trans (yC8.trans (yC7.trans (yC6.trans (yC5.trans (yC4.trans (yC3.trans (yC2.trans (yC1.trans (yC0.trans (yB9.trans (yB8.trans (yB7.trans (yB6.trans (yB5.trans yB4)))))))))))))))))))
theorem evg7 : EvR 560 640 := (yB3.trans (yB2.trans (yB1.trans (yB0.trans (yA9.trans (yA8.trans (yA7.trans (yA6.trans (yA5.trans (yA4.trans (yA3.trans (yA2.trans (yA1.trans (yA0.trans (yz9.trans (yz8.trans (yz7.trans (yz6.trans (yz5.trans yz4)))))))))))))))))))
theorem evg8 : EvR 640 720 := (yz3.trans (yz2.trans (yz1.trans (yz0.trans (yy9.trans (yy8.trans (yy7.trans (yy6.trans (yy5.trans (yy4.trans (yy3.trans (yy2.trans (yy1.trans (yy0.trans (yx9.trans (yx8.trans (yx7.trans (yx6.trans (yx5.trans yx4)))))))))))))))))))
theorem yx3 : ∀ n, n < 720 -> lawB (Va n) = true := fun n h => ((evg0.trans (evg1.trans (evg2.trans (evg3.trans (evg4.trans (evg5.trans (evg6.trans (evg7.trans evg8)))))))) : EvR 0 720) n (Nat.zero_le n) h
end Mine
end
section
namespace Mine
open PySem PySem.W PySem.Calls PyProof.Rows
set_option maxHeartbeats 8000000
abbrev hk (K : Params -> Frag) (as : List Addr) (e : ∀ P, as = (K P).map (·.1)) : Hook := kmHook K as e [141, 148, 269]
noncomputable abbrev Tt := True
theorem tt : Tt := ⟨⟩
namespace aux
theorem tw14406305520218024933:Tt:=tt
theorem tw2637759071900323424:Tt:=tt
end aux
namespace top
theorem tw10005945817407372193:Tt:=tt
theorem tw10006222313960134694:Tt:=tt
theorem tw10008474027749305400:Tt:=tt
theorem tw10090393231696489298:Tt:=tt
theorem tw10187264123177260123:Tt:=tt
theorem tw10404823597219466188:Tt:=tt
theorem tw10448899703829047738:Tt:=tt
theorem tw1047907039808853306:Tt:=tt
theorem tw105208000716104510:Tt:=tt
theorem tw10548783162686979305:Tt:=tt
theorem tw10567129059001840431:Tt:=tt
theorem tw10617020205504526918:Tt:=tt
theorem tw10648311167861321448:Tt:=tt
theorem tw10773188271377071773:Tt:=tt
theorem tw10780478100618124694:Tt:=tt
theorem tw10876214591147272127:Tt:=tt
theorem tw10936122117785486979:Tt:=tt
theorem tw10996937224433265937:Tt:=tt
theorem tw11133666699803404755:Tt:=tt
theorem tw11199532085631943738:Tt:=tt
theorem tw11203750815551599093:Tt:=tt
theorem tw11279390925490393535:Tt:=tt
theorem tw11334350811105764591:Tt:=tt
theorem tw11334415319851112604:Tt:=tt
theorem tw1139600151236580504:Tt:=tt
theorem tw11423202765487971197:Tt:=tt
theorem tw11430207588045935325:Tt:=tt
theorem tw11459358961799972967:Tt:=tt
theorem tw1149218181149386328:Tt:=tt
theorem tw11520865232209809239:Tt:=tt
theorem tw1160585946833251992:Tt:=tt
theorem tw11613256710310857696:Tt:=tt
theorem tw11762496359356365647:Tt:=tt
theorem tw11845233108574324481:Tt:=tt
theorem tw11858546649754279707:Tt:=tt
theorem tw11922380849998532372:Tt:=tt
theorem tw11960245374511038805:Tt:=tt
theorem tw12094960947251128927:Tt:=tt
theorem tw1212798325632107971:Tt:=tt
theorem tw12216630987165489725:Tt:=tt
theorem tw12317137736924338119:Tt:=tt
theorem tw12318557346453588183:Tt:=tt
theorem tw12324775313650579650:Tt:=tt
theorem tw12342655685612074800:Tt:=tt
theorem tw12376051458212225564:Tt:=tt
theorem tw12385144161495827662:Tt:=tt
theorem tw12392516345856041104:Tt:=tt
theorem tw12425085872883035938:Tt:=tt
theorem tw1245559373397905713:Tt:=tt
theorem tw12602364269489100833:Tt:=tt
theorem tw12643491718579748851:Tt:=tt
theorem tw1275901062530889299:Tt:=tt
theorem tw12819366960792805191:Tt:=tt
theorem tw13044034144603486326:Tt:=tt
theorem tw13068111086705522682:Tt:=tt
theorem tw13090165191389475591:Tt:=tt
theorem tw13120753694373217308:Tt:=tt
theorem tw13146070008365844820:Tt:=tt
theorem tw13160728816969591200:Tt:=tt
theorem tw13177472732611162249:Tt:=tt
theorem tw13272337422414781067:Tt:=tt
theorem tw13303987763403120937:Tt:=tt
theorem tw13345470168829271861:Tt:=tt
theorem tw13369591340354186047:Tt:=tt
theorem tw13370750898655102155:Tt:=tt
theorem tw13420762306968818387:Tt:=tt
theorem tw13455183412693649095:Tt:=tt
theorem tw13462072111691681927:Tt:=tt
theorem tw13501252493785611398:Tt:=tt
theorem tw13664746368384525793:Tt:=tt
theorem tw13822267516522204269:Tt:=tt
theorem tw13889484949932952446:Tt:=tt
theorem tw13981805738673051751:Tt:=tt
theorem tw1400011881503588481:Tt:=tt
theorem tw14168018189251442112:Tt:=tt
theorem tw14282377253939248939:Tt:=tt
theorem tw14349089067433371257:Tt:=tt
theorem tw14371913498598963198:Tt:=tt
theorem tw14372152842798730730:Tt:=tt
theorem tw14390669486469195807:Tt:=tt
theorem tw14402358008270493973:Tt:=tt
theorem tw14459580976405569124:Tt:=tt
theorem tw1448578141688816608:Tt:=tt
theorem tw14502225709538309166:Tt:=tt
theorem tw14611434983143301774:Tt:=tt
theorem tw14632489290957082403:Tt:=tt
theorem tw14697636140705633519:Tt:=tt
theorem tw14796646475526232899:Tt:=tt
theorem tw14823308797102314842:Tt:=tt
theorem tw1483126911874232274:Tt:=tt
theorem tw14851680436948445374:Tt:=tt
theorem tw14861896470697024400:Tt:=tt
theorem tw14901070454687303710:Tt:=tt
theorem tw14917401599646851644:Tt:=tt
theorem tw1492452104121835379:Tt:=tt
theorem tw14987219478266130788:Tt:=tt
theorem tw15058813355848621054:Tt:=tt
theorem tw15092371282622821202:Tt:=tt
theorem tw1516213087968936877:Tt:=tt
theorem tw15169761463676818070:Tt:=tt
theorem tw15177526630643400193:Tt:=tt
theorem tw15240379268576122478:Tt:=tt
theorem tw15299407806266782574:Tt:=tt
theorem tw15362295582089109014:Tt:=tt
theorem tw15569959144833144457:Tt:=tt
theorem tw15646934709686841381:Tt:=tt
theorem tw15860264024139754761:Tt:=tt
theorem tw15878805988109762761:Tt:=tt
theorem tw15918733279669447828:Tt:=tt
theorem tw15976228082101565994:Tt:=tt
theorem tw15985961358823992270:Tt:=tt
theorem tw15989215643740840201:Tt:=tt
theorem tw16044733080236030384:Tt:=tt
theorem tw16058212318047004132:Tt:=tt
theorem tw16123964013534891561:Tt:=tt
theorem tw16155163154822807229:Tt:=tt
theorem tw16174758807025615021:Tt:=tt
theorem tw16196420915677631385:Tt:=tt
theorem tw16204670001084760307:Tt:=tt
theorem tw16273406610938067001:Tt:=tt
theorem tw16352630495959832749:Tt:=tt
theorem tw16420938139371093754:Tt:=tt
theorem tw16439428074185983240:Tt:=tt
theorem tw16580785732701462914:Tt:=tt
theorem tw16713831800681072344:Tt:=tt
theorem tw16759092144687519636:Tt:=tt
theorem tw1676862907878916244:Tt:=tt
theorem tw16795567611416646642:Tt:=tt
theorem tw16821654228018055803:Tt:=tt
theorem tw16885616592811714743:Tt:=tt
theorem tw16900427199656544559:Tt:=tt
theorem tw17046948494117081484:Tt:=tt
theorem tw17177869089781658578:Tt:=tt
theorem tw17243030117017910178:Tt:=tt
theorem tw1732150942055357024:Tt:=tt
theorem tw17323899518341599180:Tt:=tt
theorem tw1736530178072539846:Tt:=tt
theorem tw17470836177267949868:Tt:=tt
theorem tw17485797064793806194:Tt:=tt
theorem tw17486766287000646611:Tt:=tt
theorem tw17492772389151264855:Tt:=tt
theorem tw17564307907911925210:Tt:=tt
theorem tw17620759639134147866:Tt:=tt
theorem tw17810072253543177317:Tt:=tt
theorem tw18034075008235765660:Tt:=tt
theorem tw18086089286151905521:Tt:=tt
theorem tw1814787853859245837:Tt:=tt
theorem tw18164388396756303480:Tt:=tt
theorem tw18186074749648716422:Tt:=tt
theorem tw1821599700212291331:Tt:=tt
theorem tw18237780215024852062:Tt:=tt
theorem tw1869187583165140508:Tt:=tt
theorem tw1881036608964069771:Tt:=tt
theorem tw1886144042066472794:Tt:=tt
theorem tw2057334267981633021:Tt:=tt
theorem tw2103544681925577474:Tt:=tt
theorem tw2126296398998916975:Tt:=tt
theorem tw2145171640123136144:Tt:=tt
theorem tw216529984938456764:Tt:=tt
theorem tw2218668502564051296:Tt:=tt
theorem tw2249405535684624136:Tt:=tt
theorem tw2287823674025257028:Tt:=tt
theorem tw2332264253326963986:Tt:=tt
theorem tw2443449257678562572:Tt:=tt
theorem tw2462062305354472974:Tt:=tt
theorem tw2464713573024523455:Tt:=tt
theorem tw2514443458684651071:Tt:=tt
theorem tw2555065506035805374:Tt:=tt
theorem tw2665807947273092163:Tt:=tt
theorem tw2731995056826638727:Tt:=tt
theorem tw2732273902793177162:Tt:=tt
theorem tw2741389259953327712:Tt:=tt
theorem tw2782073688633401757:Tt:=tt
theorem tw2812155379371279736:Tt:=tt
theorem tw2822501910515967889:Tt:=tt
theorem tw2847958352784047137:Tt:=tt
theorem tw2924597203103170677:Tt:=tt
theorem tw2949887148696902411:Tt:=tt
theorem tw3003957012961824650:Tt:=tt
theorem tw3195968871104189447:Tt:=tt
theorem tw3300278247637476943:Tt:=tt
theorem tw3326485260201107323:Tt:=tt
theorem tw3337584539547039419:Tt:=tt
theorem tw342308947776675178:Tt:=tt
theorem tw3430127420881650015:Tt:=tt
theorem tw352232786441526191:Tt:=tt
theorem tw3561193834555079511:Tt:=tt
theorem tw3584897518013459382:Tt:=tt
theorem tw370947364307004932:Tt:=tt
theorem tw3730354652608582461:Tt:=tt
theorem tw3732881995683944964:Tt:=tt
theorem tw3776753064480771068:Tt:=tt
theorem tw3861013047713225236:Tt:=tt
theorem tw390997316461189296:Tt:=tt
theorem tw3969286963782609292:Tt:=tt
theorem tw4047667213573674445:Tt:=tt
theorem tw4076138812419527698:Tt:=tt
theorem tw4186445540838780016:Tt:=tt
theorem tw4205137553216949640:Tt:=tt
theorem tw4213018616267185653:Tt:=tt
theorem tw427269002284569659:Tt:=tt
theorem tw4321519831107876412:Tt:=tt
theorem tw445293559880390639:Tt:=tt
theorem tw4498253355057717688:Tt:=tt
theorem tw453181688931711583:Tt:=tt
theorem tw4551080515912023512:Tt:=tt
theorem tw4655869559712951663:Tt:=tt
theorem tw4656485037274611717:Tt:=tt
theorem tw4671429814451907529:Tt:=tt
theorem tw4713442408853163898:Tt:=tt
theorem tw4859757453598101857:Tt:=tt
theorem tw4940147422707163885:Tt:=tt
theorem tw501154541418245514:Tt:=tt
theorem tw5058314954733539658:Tt:=tt
theorem tw5088111238790808980:Tt:=tt
theorem tw5088376156974544275:Tt:=tt
theorem tw508963535311629426:Tt:=tt
theorem tw5105846836358774362:Tt:=tt
theorem tw517144808224063464:Tt:=tt
theorem tw5225153198818245361:Tt:=tt
theorem tw5225916559131626549:Tt:=tt
theorem tw5244899138074338376:Tt:=tt
theorem tw5278709424875269971:Tt:=tt
theorem tw5405092056839124451:Tt:=tt
theorem tw5476889619067714990:Tt:=tt
theorem tw5523086135645875356:Tt:=tt
theorem tw5581607755468803823:Tt:=tt
theorem tw5667650583090716360:Tt:=tt
theorem tw575894324575664597:Tt:=tt
theorem tw5766051744304087583:Tt:=tt
theorem tw5843278905545460413:Tt:=tt
theorem tw5868845118606482295:Tt:=tt
theorem tw5952526542632690457:Tt:=tt
theorem tw6127594578889010139:Tt:=tt
theorem tw6187478851450931391:Tt:=tt
theorem tw6189502492464219833:Tt:=tt
theorem tw620129878449983639:Tt:=tt
theorem tw6211517296726131814:Tt:=tt
theorem tw6240723676877644813:Tt:=tt
theorem tw6286779285267259847:Tt:=tt
theorem tw6333448901615975916:Tt:=tt
theorem tw6370870915552960936:Tt:=tt
theorem tw6431110157172167083:Tt:=tt
theorem tw6438537300738474071:Tt:=tt
theorem tw6491118196486620199:Tt:=tt
theorem tw649594095290182367:Tt:=tt
theorem tw6505410396798821541:Tt:=tt
theorem tw6624316729101989866:Tt:=tt
theorem tw6662652255960138227:Tt:=tt
theorem tw6664487174759623829:Tt:=tt
theorem tw6749217079512962374:Tt:=tt
theorem tw6756868429301003459:Tt:=tt
theorem tw6812286434817487243:Tt:=tt
theorem tw6859976401760118174:Tt:=tt
theorem tw6883741973766446791:Tt:=tt
theorem tw6885214360128481674:Tt:=tt
theorem tw6898770573198911631:Tt:=tt
theorem tw6906291655842520137:Tt:=tt
theorem tw6930518751129746686:Tt:=tt
theorem tw7008692893051332821:Tt:=tt
theorem tw708234853630380328:Tt:=tt
theorem tw7198060816514059695:Tt:=tt
theorem tw72247145696351765:Tt:=tt
theorem tw7250933059871147345:Tt:=tt
theorem tw728428047077509346:Tt:=tt
theorem tw7297446738713254254:Tt:=tt
theorem tw7414872774492366064:Tt:=tt
theorem tw7429413206186439793:Tt:=tt
theorem tw7444641836354208208:Tt:=tt
theorem tw7527032243904285869:Tt:=tt
theorem tw7557910624720293991:Tt:=tt
theorem tw7643140197409024440:Tt:=tt
theorem tw7673058066778466091:Tt:=tt
theorem tw7743179893348639699:Tt:=tt
theorem tw775762912060472103:Tt:=tt
theorem tw7830913209206220567:Tt:=tt
theorem tw7847650389618582240:Tt:=tt
theorem tw7855079511596107753:Tt:=tt
theorem tw788273225186049534:Tt:=tt
theorem tw795583310449317561:Tt:=tt
theorem tw8040539793756171742:Tt:=tt
theorem tw8140125068956082859:Tt:=tt
theorem tw814325599930780420:Tt:=tt
theorem tw8143265674769528471:Tt:=tt
theorem tw81815255157605957:Tt:=tt
theorem tw8184561461823581802:Tt:=tt
theorem tw8204474986945543665:Tt:=tt
theorem tw8321918168302905379:Tt:=tt
theorem tw832561496525075734:Tt:=tt
theorem tw8345894832289464959:Tt:=tt
theorem tw8363718466572441477:Tt:=tt
theorem tw8435561252592420358:Tt:=tt
theorem tw8443935842833279946:Tt:=tt
theorem tw8477350598983701453:Tt:=tt
theorem tw8507776931139520737:Tt:=tt
theorem tw8538268897159353584:Tt:=tt
theorem tw8598144960395782539:Tt:=tt
theorem tw8622502720953521162:Tt:=tt
theorem tw8640399195822439974:Tt:=tt
theorem tw8645369167282567922:Tt:=tt
theorem tw864819663365544661:Tt:=tt
theorem tw8689318265317240412:Tt:=tt
theorem tw8694864300669457046:Tt:=tt
theorem tw8729362747519067210:Tt:=tt
theorem tw8735323631387419056:Tt:=tt
theorem tw8813761850579938390:Tt:=tt
theorem tw887695700811335699:Tt:=tt
theorem tw8965418945004540065:Tt:=tt
theorem tw8968296310393571370:Tt:=tt
theorem tw9016634818741928261:Tt:=tt
theorem tw9059672392935016618:Tt:=tt
theorem tw9059832203979395877:Tt:=tt
theorem tw9063741608606530840:Tt:=tt
theorem tw908825868028484722:Tt:=tt
theorem tw9108098604805947806:Tt:=tt
theorem tw9229161468869434483:Tt:=tt
theorem tw9259421805112917234:Tt:=tt
theorem tw9305691244287143441:Tt:=tt
theorem tw9335426496214029073:Tt:=tt
theorem tw9382581127745807760:Tt:=tt
theorem tw956942650209027819:Tt:=tt
theorem tw9614876229902214918:Tt:=tt
theorem tw9759319705405543751:Tt:=tt
theorem tw9800703332001039478:Tt:=tt
theorem tw987869383939708018:Tt:=tt
theorem tw9962302188120564619:Tt:=tt
end top
section
local macro_rules | `(tactic| o_head (kmHook $k $a $p $t)) => `(tactic| (exact (by assumption : PySem.Challenge.rw_xr0018_01.row.wellSaid = true -> PySem.Challenge.rw_xr0018_01.row.Holds) (by assumption)))
set_option Elab.async true in
theorem aux (hf : PySem.Challenge.rw_xr0018_01.row.wellSaid = true -> PySem.Challenge.rw_xr0018_01.row.Holds) : PySem.Challenge.rw_xr0018_01.Holds := by
  w_on
  o_law
  k_head
end
end Mine
end
section
namespace Mine
open PySem
theorem Vu {M : Model} {Γ : Ctx} {p : Pos} {t : Sem Fin} {fs : List Frame} {s : Shared} {e : End} {s' : Shared} (h : Runs M Γ p t fs s e s') : s.toks <= s'.toks := by
  induction h with
  | done => exact Nat.le_refl _
  | raise => exact Nat.le_refl _
  | again _ _ ih => exact ih
  | rule _ ih => exact ih
  | «at» _ ih => exact ih
  | load _ _ ih => exact ih
  | update _ _ ih => exact ih
  | loadIfAlive _ ih => exact ih
  | point _ ih => exact ih
  | alloc _ ih => exact ih
  | fresh _ ih => exact Nat.le_of_succ_le ih
  | ask _ ih => exact ih
  | choose _ _ ih => exact ih
  | os _ ih => exact ih
  | handled _ ih => exact ih
  | genState _ _ ih => exact ih
  | stack _ ih => exact ih
  | thread _ ih => exact ih
  | newGen _ ih => exact ih
  | call _ _ ih1 ih2 => exact Nat.le_trans ih1 ih2
  | callSusp _ ih => exact ih
  | yield => exact Nat.le_refl _
  | resumeFresh _ _ _ _ ih1 ih2 => exact Nat.le_trans ih1 ih2
  | resumeSuspended _ _ _ _ ih1 ih2 => exact Nat.le_trans ih1 ih2
  | resumeJustStarted _ _ _ ih => exact ih
  | resumeThrowFresh _ _ ih => exact ih
  | resumeRunning _ _ ih => exact ih
  | resumeFinished _ _ ih => exact ih
  | segRet _ _ ih1 ih2 => exact Nat.le_trans ih1 ih2
  | segGen _ _ ih1 ih2 => exact Nat.le_trans ih1 ih2
  | segSuspOut _ _ ih => exact ih
  | segSuspGen _ _ _ _ ih1 ih2 => exact Nat.le_trans ih1 ih2
theorem zu0 {M : Model} {Γ : Ctx} {p : Pos} {g : Nat} {r : Resume} {s : Shared} {res : GenResult} {s' : Shared} (h : Wakes M Γ p g r s res s') : s.toks <= s'.toks := by
  unfold Wakes at h
  split at h
  · exact h.elim
  · split at h
    · obtain ⟨e₁, s₁, h1, _, _, rfl⟩ := h
      have := Vu h1
      exact this
    · rw [h.2]; exact Nat.le_refl _
    · rw [h.2]; exact Nat.le_refl _
  · obtain ⟨e₁, s₁, h1, _, _, rfl⟩ := h
    have := Vu h1
    exact this
  · rw [h.2]; exact Nat.le_refl _
  · rw [h.2]; exact Nat.le_refl _
theorem zk0 {α : Type} {M : Model} {Γ : Ctx} {n : Nat} (t : Sem α) {Q : α -> Pos -> Shared -> Prop} {E : Value -> Pos -> Shared -> Prop} {p : Pos} {s : Shared} (h : Sem.wp M Γ t Q E p s) (hn : n <= s.toks) :
    Sem.wp M Γ t (fun a p' s' => n <= s'.toks /\ Q a p' s') (fun e p' s' => n <= s'.toks /\ E e p' s') p s := by
  induction t generalizing p s with
  | pure x => exact ⟨hn, h⟩
  | raise v => exact ⟨hn, h⟩
  | unsupported | finish | yield | fork | await | register => exact h
  | rule _ k ih | «at» _ k ih | alloc _ k ih | loadIfAlive _ k ih | point _ k ih | ask k ih | os _ _ k ih | handled _ k ih | newGen _ k ih | stack k ih | thread k ih => exact ih _ h hn
  | fresh k ih => exact ih _ h (Nat.le_succ_of_le hn)
  | load a _ k ih | genState a k ih => obtain ⟨o, ho, h⟩ := h; exact ⟨o, ho, ih _ h hn⟩
  | update a _ f k ih | choose _ _ k ih => obtain ⟨o, h⟩ := h; exact ⟨o, ih _ h hn⟩
  | call c h' g l k ih => obtain ⟨r, s', hr, h⟩ := h; exact ⟨r, s', hr, ih _ h (Nat.le_trans hn (Vu hr))⟩
  | resume g r l k ih => obtain ⟨r, s', hr, h⟩ := h; exact ⟨r, s', hr, ih _ h (Nat.le_trans hn (zu0 hr))⟩
theorem ZP {α : Type} {M : Model} {A : Around} {t : Sem α} {Q : α -> Shared -> Prop} {E : Value -> Shared -> Prop} {s : Shared} (h : wpAny M A t (fun a s' => s.toks <= s'.toks -> Q a s') E s) : wpAny M A t Q E s := fun Γ p hΓ =>
  Sem.wp_mono M Γ t (fun _ _ _ q => q.2 q.1) (fun _ _ _ q => q.2) p s (zk0 t (h Γ p hΓ) (Nat.le_refl _))
theorem Xa {M : Model} {A : Around} {c : Code} {R : Result -> Shared -> Prop} {s : Shared} (h : codeAny M A c (fun r s' => s.toks <= s'.toks -> R r s') s) : codeAny M A c R s := fun Γ p hc hΓ => by
  obtain ⟨r, s', hr, h⟩ := h Γ p hc hΓ
  exact ⟨r, s', hr, h (Vu hr)⟩
end Mine
end
section
namespace Mine
open PySem PySem.W PyProof.Rows
noncomputable def aUp (m : Nat) : AV := ⟨7, false, m, 0, [], []⟩
theorem YR {b x y : Bool} (h : sel b x y = true) : (b = true /\ x = true) \/ (b = false /\ y = true) := by cases b; exact .inr ⟨rfl, h⟩; exact .inl ⟨rfl, h⟩
theorem oB_t {α : Type} {o : Option α} {k : α -> Bool} (h : oB o k = true) : ∃ x, o = some x /\ k x = true := by
  cases o with
  | none => cases h
  | some x => exact ⟨x, rfl, h⟩
theorem kd_t {n m : Nat} {k : Bool} (h : kd n m k = true) : n = m /\ k = true := ⟨Nat.eq_of_beq_eq_true (gd_t (b := Nat.beq n m) h).1, (gd_t (b := Nat.beq n m) h).2⟩
theorem ZS {n m : Nat} {x y : Bool} (h : kd2 n m x y = true) : (n = m /\ x = true) \/ y = true := (YR (b := Nat.beq n m) h).imp (fun h => ⟨Nat.eq_of_beq_eq_true h.1, h.2⟩) (·.2)
theorem JK {α : Type} {l : List α} {y : α -> List α -> Bool} (h : isC l false y = true) : ∃ a r, l = a :: r /\ y a r = true := by
  cases l with
  | nil => cases h
  | cons a r => exact ⟨a, r, rfl, h⟩
theorem zR1 {α : Type} {l : List α} {k : Bool} (h : isN l k = true) : l = [] /\ k = true := by
  cases l with
  | nil => exact ⟨rfl, h⟩
  | cons a r => cases h
theorem XP {α : Type} {l : List α} {k : α -> Bool} (h : is1 l k = true) : ∃ a, l = [a] /\ k a = true := by
  obtain ⟨a, r, rfl, h⟩ := JK h
  obtain ⟨rfl, h⟩ := zR1 h
  exact ⟨a, rfl, h⟩
theorem Vz {α : Type} {l : List α} {k : α -> α -> Bool} (h : is2 l k = true) : ∃ a b, l = [a, b] /\ k a b = true := by
  obtain ⟨a, r, rfl, h⟩ := JK h
  obtain ⟨b, rfl, h⟩ := XP h
  exact ⟨a, b, rfl, h⟩
noncomputable def tl (t : HT) : HT := HT.rec (motive := fun _ => HT) .nil (fun _ l _ _ _ => l) t
noncomputable def tr (t : HT) : HT := HT.rec (motive := fun _ => HT) .nil (fun _ _ r _ _ => r) t
noncomputable def to' (t : HT) : AO := HT.rec (motive := fun _ => AO) oNo (fun o _ _ _ _ => o) t
theorem zp6 (t : HT) (j : Nat) : tget t (j + 1) = isZ (j % 2) (tget (tl t) (j / 2)) fun _ => tget (tr t) (j / 2) := by
  cases t with
  | nil => show oNo = isZ (j % 2) oNo fun _ => oNo; cases j % 2 <;> rfl
  | node o l r => rfl
theorem zf9 : ∀ (f : Nat) (t : HT) (i : Nat) (x : AO) (j : Nat), i + 1 < 2 ^ f -> tget (tput f t i x) j = if j = i then x else tget t j := by
  intro f
  induction f with
  | zero => intro t i x j h; exact absurd h (by simp)
  | succ f ih =>
    intro t i x j h
    cases i with
    | zero =>
      cases j with
      | zero => cases t <;> rfl
      | succ j => rw [if_neg (Nat.succ_ne_zero j), zp6, zp6]; cases t <;> rfl
    | succ i =>
      have hd : i / 2 + 1 < 2 ^ f := Nat.add_div_right i Nat.zero_lt_two ▸ Nat.div_lt_of_lt_mul (by rw [Nat.mul_comm]; exact h)
      have li := Nat.mod_lt i (Nat.zero_lt_two)
      have c : (j = i + 1) ↔ (j ≠ 0 /\ (i % 2 = (j - 1) % 2 /\ (j - 1) / 2 = i / 2)) := ⟨fun h => by subst h; exact ⟨Nat.succ_ne_zero i, rfl, rfl⟩, fun ⟨h, a, b⟩ => by
        obtain ⟨j, rfl⟩ := Nat.exists_eq_succ_of_ne_zero h
        exact congrArg Nat.succ ((Nat.div_add_mod j 2).symm.trans (((congr (congrArg (fun u v => 2 * u + v) b) a.symm)).trans (Nat.div_add_mod i 2)))⟩
      have e : tput (f + 1) t (i + 1) x = isZ (i % 2) (.node (to' t) (tput f (tl t) (i / 2) x) (tr t)) fun _ => .node (to' t) (tl t) (tput f (tr t) (i / 2) x) := by cases t <;> rfl
      rw [e]
      generalize i % 2 = p at c li ⊢
      cases j with
      | zero =>
        rw [if_neg (Nat.succ_ne_zero i).symm]
        cases p <;> cases t <;> rfl
      | succ j =>
        have lj := Nat.mod_lt j (Nat.zero_lt_two)
        have c : (j + 1 = i + 1) ↔ (p = j % 2 /\ j / 2 = i / 2) := ⟨fun h => (c.mp h).2, fun h => c.mpr ⟨Nat.succ_ne_zero j, h⟩⟩
        rw [zp6, zp6]
        generalize j % 2 = q at c lj ⊢
        have k := fun t => ih t (i / 2) x (j / 2) hd
        cases p with
        | zero =>
          cases q with
          | zero =>
            show tget (tput f (tl t) (i / 2) x) (j / 2) = if j + 1 = i + 1 then x else tget (tl t) (j / 2)
            rw [k]; simp only [c, true_and]
          | succ q => rw [if_neg fun h => nomatch (c.mp h).1]; rfl
        | succ p =>
          cases q with
          | zero => rw [if_neg fun h => nomatch (c.mp h).1]; rfl
          | succ q =>
            show tget (tput f (tr t) (i / 2) x) (j / 2) = if j + 1 = i + 1 then x else tget (tr t) (j / 2)
            have e : p + 1 = q + 1 := by rw [Nat.lt_one_iff.mp (Nat.lt_of_succ_lt_succ li), Nat.lt_one_iff.mp (Nat.lt_of_succ_lt_succ lj)]
            rw [k]; simp only [c, e, true_and]
theorem VA {H : AH} {i j : Nat} {x : AO} (h : i <= 8000) : hget (hset H i x) j = if j = i then x else hget H j := zf9 13 H.t i x j (Nat.lt_of_le_of_lt (Nat.succ_le_succ h) (by decide))
theorem Yz {H : AH} {j : Nat} {x : AO} (h : H.n <= 8000) : hget (Ym H x) j = if j = H.n then x else hget H j := zf9 13 H.t H.n x j (Nat.lt_of_le_of_lt (Nat.succ_le_succ h) (by decide))
theorem yk4 {H : AH} {k : Bool} (h : room H k = true) : H.n < 8000 /\ k = true := ⟨Nat.le_of_ble_eq_true (gd_t h).1, (gd_t h).2⟩
theorem JF {α : Type} (l : List α) : ∀ i, nth l i = l[i]? := by
  induction l with
  | nil => intro i; rfl
  | cons o l ih => intro i; cases i; rfl; exact ih _
theorem XA {α : Type} {kk : α -> Bool} {l : List α} : ∀ {i : Nat}, nthK kk l i = true -> ∃ z, l[i]? = some z /\ kk z = true := by
  induction l with
  | nil => intro i h; cases h
  | cons o l ih =>
    intro i h
    cases i with
    | zero => exact ⟨o, rfl, h⟩
    | succ i => exact ih h
theorem zO1 (l : List AV) : ∀ (i : Nat) (x : AV), zO2 l i x = l.set i x := by
  induction l with
  | nil => intro i x; rfl
  | cons o l ih => intro i x; cases i; rfl; exact congrArg (o :: ·) (ih _ _)
theorem Zw {α : Type} (l : List α) : lenN l = l.length := by
  induction l with
  | nil => rfl
  | cons o l ih => exact congrArg Nat.succ ih
theorem ZG {α : Type} {l : List α} {k : Bool} (h : Yh l k = true) : l.length < 100000 /\ k = true := ⟨Zw l ▸ Nat.blt_eq.mp (gd_t h).1, (gd_t h).2⟩
theorem ZM {α : Type} (a b : List α) : app a b = a ++ b := by
  induction a with
  | nil => rfl
  | cons x a ih => exact congrArg (x :: ·) ih
theorem VU (a b : Int) : addI a b = a + b := by cases a <;> cases b <;> rfl
theorem yc7 (a : Int) : negI a = -a := by
  cases a with
  | ofNat m => cases m <;> rfl
  | negSucc m => rfl
theorem Jx (a b : Int) : subI a b = a - b := by
  cases a with
  | ofNat m => cases b with
    | ofNat n => exact Int.subNatNat_eq_coe
    | negSucc n => rfl
  | negSucc m => rfl
theorem zz2 (a : Int) : toN a = a.toNat := by cases a <;> rfl
theorem ltB_iff {a b : Int} : ltB a b = true ↔ a < b := by
  rw [<- PySem.W.Z.ltB_iff]; cases a <;> cases b <;> exact Iff.rfl
theorem zD9 {a b : Int} (h : ltB a b = false) : ¬ a < b := fun q => Bool.false_ne_true (h.symm.trans (ltB_iff.mpr q))
theorem eqB_iff {a b : Int} : eqB a b = true ↔ a = b := by
  rw [<- PySem.W.Z.eqB_iff]; cases a <;> cases b <;> exact Iff.rfl
theorem zH1 {a b : Int} (h : eqB a b = false) : ¬ a = b := fun q => Bool.false_ne_true (h.symm.trans (eqB_iff.mpr q))
theorem b_eq {p : Prop} [Decidable p] {b : Bool} (h : b = true ↔ p) : decide p = b := by
  cases b
  · exact decide_eq_false fun hp => nomatch h.mpr hp
  · exact decide_eq_true (h.mp rfl)
theorem Jy {a : Int} {k : Bool} (h : small a k = true) : a.natAbs < 1073741824 /\ k = true := by
  refine ⟨?_, (gd_t h).2⟩
  have h := (gd_t h).1
  cases a with
  | ofNat n => exact Nat.lt_trans (Nat.blt_eq.mp h) (by decide)
  | negSucc n => exact Nat.lt_trans (Nat.succ_lt_succ (Nat.blt_eq.mp h)) (by decide)
theorem ZO {i : Int} {k : Nat -> Bool} (h : YS i k = true) : ∃ n : Nat, i = n /\ k n = true := by
  cases i with
  | ofNat n => exact ⟨n, rfl, h⟩
  | negSucc n => cases h
theorem YL {a : List Nat} : ∀ {b : List Nat}, eqL a b = true ↔ a = b := by
  induction a with
  | nil => intro b; cases b; exact ⟨fun _ => rfl, fun _ => rfl⟩; exact ⟨fun h => (nomatch (h : false = true)), fun h => (nomatch h)⟩
  | cons x a ih =>
    intro b
    cases b with
    | nil => exact ⟨fun h => (nomatch (h : false = true)), fun h => (nomatch h)⟩
    | cons y b =>
      refine ⟨fun h => ?_, fun h => ?_⟩
      · rw [Nat.eq_of_beq_eq_true (gd_t h).1, ih.mp (gd_t h).2]
      · cases h
        show gd (Nat.beq x x) (eqL a a) = true
        rw [Nat.beq_refl, ih.mpr rfl]; rfl
theorem cps {G : Prop} (h : ∀ P : Prop, (G -> P) -> P) : G := h G id
theorem Ya {h : Heap} {a : Addr} (ha : h.objs.size <= a) : h.get? a = none := by
  cases e : h.get? a with
  | none => rfl
  | some o => exact absurd (Heap.lt_size e) (Nat.not_lt.mpr ha)
structure Cfg where
  prog : Program
  w : World
  hb : Addr -> Option Obj
  hn : Nat -> Str
  sz : Int
  fa : Nat -> Addr
  cA : Addr
  K : Frag
  loose : List Str
  mg : Str -> Option Value
  mb : Str -> Option Value
  tq : Nat -> Str
  tp : Nat -> Addr
  ps : List (Str × NameKind)
  pc : Value
  pq : Str
  t0 : Nat
  ht : Nat -> Tok
noncomputable abbrev Cfg.M (c : Cfg) : Model := model c.prog c.w
structure Wd where
  ρ : List Addr
  μ : Addr -> Option AV
  tk : Nat
  ht : Nat -> Option Tok
noncomputable def Zx (vs : List Value) (n : Nat) : Obj := { cls := .type "list", data := .seq vs.toArray n }
noncomputable def YX (vs : List Value) (n : Nat) : Obj := { cls := .type "tuple", data := .seq vs.toArray n }
noncomputable def zq7 (a b c : Int) (t u v : Tok) : Obj := { cls := .type "range", data := .fields #[.int a t, .int b u, .int c v] }
noncomputable def Vn (hsh : Int) (t : Tok) (v : Value) (n : Nat) : Obj := { cls := .type "dict", data := .dict #[⟨hsh, .str "_initial_size" t, v⟩] n }
noncomputable def ZB (C dx : Addr) (vs : List Value) (n : Nat) : Obj := { cls := .ref C, dict := some dx, data := .seq vs.toArray n }
noncomputable def XY (x : Str) : Str := ⟨([46] ++ x.cps.toList).toArray⟩
noncomputable def upOf (x : Str) : Str := Txt.upper x
noncomputable def txt (l : List Nat) : Str := ⟨l.toArray⟩
noncomputable def aK (q : Nat) : AV := ⟨15, false, q, 0, [], []⟩
def nthP (l : List Prop) : Nat -> Prop := List.rec (motive := fun _ => Nat -> Prop) (fun _ => False) (fun p _ ih n => isZ n p ih) l
inductive Imps : List Prop -> List Prop -> Prop
  | nil : Imps [] []
  | cons {p q : Prop} {l m : List Prop} (h : p -> q) (t : Imps l m) : Imps (p :: l) (q :: m)
theorem Imps.at {l m : List Prop} (h : Imps l m) : ∀ n, nthP l n -> nthP m n := by
  induction h with
  | nil => exact fun _ h => h
  | cons h _ ih => intro n; cases n; exact h; exact ih _
def VRt (c : Cfg) (W : Wd) (x : AV) (v : Value) : Nat -> Prop := nthP [v = .none, v = .bool x.b, ∃ t, v = .int x.i t, ∃ t, v = .str (txt x.s) t, v = .str (c.hn x.m) (c.ht x.m), ∃ t, v = .str (c.hn x.m) t /\ t ≠ 0 /\ c.t0 <= t, ∃ t, v = .str (XY (c.hn x.m)) t, ∃ t, v = .str (upOf (c.hn x.m)) t,
  ∃ t, v = .int (c.sz + x.i) t, v = .ref (c.fa x.m), ∃ t, v = .str (txt x.s) t /\ t ≠ 0 /\ t < W.tk, ∃ a, v = .ref a /\ W.ρ[x.m]? = some a, ∃ a, v = .ref a /\ W.μ a = some x, ∃ a, v = .ref a /\ W.μ a = some x, ∃ a, v = .ref a /\ W.μ a = some x, ∃ t, v = .str (c.hn x.m) t /\ W.ht x.m = some t]
def VR (c : Cfg) (W : Wd) (x : AV) (v : Value) : Prop := VRt c W x v x.t
def VRs (c : Cfg) (W : Wd) (l : List AV) : List Value -> Prop := List.rec (motive := fun _ => List Value -> Prop) (fun vs => vs = []) (fun x _ ih vs => ∃ v r, vs = v :: r /\ VR c W x v /\ ih r) l
theorem VR.at {c : Cfg} {W : Wd} {x : AV} {v : Value} {n : Nat} (h : VR c W x v) (e : x.t = n) : VRt c W x v n := e ▸ h
structure Le (W W' : Wd) : Prop where
  ix : ∀ (i : Nat) (a : Addr), W.ρ[i]? = some a -> W'.ρ[i]? = some a
  mu : ∀ (a : Addr) (x : AV), W.μ a = some x -> W'.μ a = some x
  tk : W.tk <= W'.tk
  ht : ∀ (k : Nat) (t : Tok), W.ht k = some t -> W'.ht k = some t
theorem Le.refl (W : Wd) : Le W W := ⟨fun _ _ h => h, fun _ _ h => h, Nat.le_refl _, fun _ _ h => h⟩
theorem Le.trans {W W' W'' : Wd} (x : Le W W') (y : Le W' W'') : Le W W'' := ⟨fun i a h => y.ix i a (x.ix i a h), fun a v h => y.mu a v (x.mu a v h), Nat.le_trans x.tk y.tk, fun k t h => y.ht k t (x.ht k t h)⟩
theorem VR.le {c : Cfg} {W W' : Wd} (L : Le W W') {x : AV} {v : Value} (h : VR c W x v) : VR c W' x v :=
  Imps.at (.cons id (.cons id (.cons id (.cons id (.cons id (.cons id (.cons id (.cons id (.cons id (.cons id (.cons (fun ⟨t, e, h2, h3⟩ => ⟨t, e, h2, Nat.lt_of_lt_of_le h3 L.tk⟩) (.cons (fun ⟨a, e, h⟩ => ⟨a, e, L.ix _ _ h⟩)
    (.cons (fun ⟨a, e, h⟩ => ⟨a, e, L.mu _ _ h⟩) (.cons (fun ⟨a, e, h⟩ => ⟨a, e, L.mu _ _ h⟩) (.cons (fun ⟨a, e, h⟩ => ⟨a, e, L.mu _ _ h⟩) (.cons (fun ⟨t, e, h⟩ => ⟨t, e, L.ht _ _ h⟩) .nil)))))))))))))))) _ h
theorem VRs.le {c : Cfg} {W W' : Wd} (L : Le W W') {l : List AV} : ∀ {vs : List Value}, VRs c W l vs -> VRs c W' l vs := by
  induction l with
  | nil => exact fun h => h
  | cons x l ih => exact fun ⟨v, r, e, h, t⟩ => ⟨v, r, e, h.le L, ih t⟩
def Ji {prog : Program} {w : World} {K : Type} [DecidableEq K] (knd : KeyKind prog w K) (o : Obj) (kvs : List (K × Value)) : Prop :=
  ∃ es, o.ExactDict /\ o.data = .dict es kvs.length /\ KeysOf knd es /\ Pairs knd es.toList kvs /\ (kvs.map (·.1)).Nodup
theorem Ji.of {prog : Program} {w : World} {K : Type} [DecidableEq K] {knd : KeyKind prog w K} {o : Obj} {kvs : List (K × Value)} (h : Ji knd o kvs) : o.IsDictOf knd kvs := let ⟨es, r⟩ := h; ⟨es, _, r⟩
def FZt (c : Cfg) (W : Wd) (x : AV) (o : Obj) : Nat -> Prop := nthP [∃ vs n, o = YX vs n /\ VRs c W x.l vs, ∃ vs n, o = Zx vs n /\ VRs c W x.l vs, ∃ i j k t u v, x = aG i j k /\ o = zq7 i j k t u v,
  ∃ vs t, o.cls = .type "code" /\ o.data = .fields vs /\ vs[1]? = some (.str (c.tq x.m) t)]
def FZ (c : Cfg) (W : Wd) (x : AV) (o : Obj) : Prop := FZt c W x o (x.t - 12)
theorem FZ.at {c : Cfg} {W : Wd} {x : AV} {o : Obj} {n : Nat} (h : FZ c W x o) (e : x.t = n) : FZt c W x o (n - 12) := e ▸ h
def ORt (c : Cfg) (W : Wd) (x : AO) (o : Obj) : Nat -> Prop := nthP [∃ vs n, o = Zx vs n /\ VRs c W x.l vs,
  ∃ vs, Ji (intKind c.prog c.w) o ((x.ks.map Int.ofNat).zip vs) /\ VRs c W x.l vs /\ x.ks.length = x.l.length, ∃ vs, Ji (strKind c.prog c.w) o ((x.ks.map c.hn).zip vs) /\ VRs c W x.l vs /\ x.ks.length = x.l.length,
  ∃ vs n dx, o = ZB c.cA dx vs n /\ W.ρ[x.d]? = some dx /\ VRs c W x.l vs, ∃ hsh t u n, o = Vn hsh t (.int c.sz u) n,
  W.ρ[x.d]? = some (c.tp x.d) /\ ∃ ps, o = { cls := .none, data := .fields ps } /\ TriplesOk ps.toList /\ ∀ pos v, codeAmong pos ps.toList = some v -> ∃ a, v = .ref a /\ W.μ a = some (aK x.d)]
def OR (c : Cfg) (W : Wd) (x : AO) (o : Obj) : Prop := ORt c W x o x.t
theorem OR.at {c : Cfg} {W : Wd} {x : AO} {o : Obj} {n : Nat} (h : OR c W x o) (e : x.t = n) : ORt c W x o n := e ▸ h
theorem FZ.le {c : Cfg} {W W' : Wd} (L : Le W W') {x : AV} {o : Obj} (h : FZ c W x o) : FZ c W' x o :=
  Imps.at (.cons (fun ⟨vs, n, e, h⟩ => ⟨vs, n, e, h.le L⟩) (.cons (fun ⟨vs, n, e, h⟩ => ⟨vs, n, e, h.le L⟩) (.cons id (.cons id .nil)))) _ h
theorem OR.le {c : Cfg} {W W' : Wd} (L : Le W W') {x : AO} {o : Obj} (h : OR c W x o) : OR c W' x o :=
  Imps.at (.cons (fun ⟨vs, n, e, h⟩ => ⟨vs, n, e, h.le L⟩) (.cons (fun ⟨vs, e, h, n⟩ => ⟨vs, e, h.le L, n⟩) (.cons (fun ⟨vs, e, h, n⟩ => ⟨vs, e, h.le L, n⟩) (.cons (fun ⟨vs, n, dx, e, d, h⟩ => ⟨vs, n, dx, e, L.ix _ _ d, h.le L⟩) (.cons id
    (.cons (fun ⟨d, ps, e, h, q⟩ => ⟨L.ix _ _ d, ps, e, h, fun pos v hv => let ⟨a, e, m⟩ := q pos v hv; ⟨a, e, L.mu _ _ m⟩⟩) .nil)))))) _ h
structure HtOk (W : Wd) (n : Nat) : Prop where
  ok : ∀ k t, W.ht k = some t -> t ≠ 0 /\ t < W.tk
  inj : ∀ i j t, W.ht i = some t -> W.ht j = some t -> i = j
  out : ∀ k, n <= k -> W.ht k = none
structure Rel (c : Cfg) (W : Wd) (H : AH) (s : Shared) : Prop where
  cnt : H.n = W.ρ.length
  sm : H.n <= 8000
  nd : W.ρ.Nodup
  hts : HtOk W H.h
  obj : ∀ (i : Nat) (a : Addr), W.ρ[i]? = some a -> ∃ o, s.heap.get? a = some o /\ OR c W (hget H i) o
  frz : ∀ (a : Addr) (x : AV), W.μ a = some x -> a ∉ W.ρ /\ ∃ o, s.heap.get? a = some o /\ FZ c W x o
  st : ∀ (a : Addr) (o : Obj), c.hb a = some o -> s.heap.get? a = some o /\ a ∉ W.ρ
  tok : 0 < c.t0 /\ c.t0 <= W.tk /\ W.tk <= s.toks
structure Free (c : Cfg) (W : Wd) (a : Addr) : Prop where
  r : a ∉ W.ρ
  m : W.μ a = none
  b : c.hb a = none
theorem Rel.live {c : Cfg} {W : Wd} {H : AH} {s : Shared} (R : Rel c W H s) {a : Addr} (ha : a ∈ W.ρ) : ∃ o, s.heap.get? a = some o :=
  let ⟨i, hi⟩ := List.getElem?_of_mem ha; let ⟨o, ho, _⟩ := R.obj i a hi; ⟨o, ho⟩
theorem Yy {h : Heap} {a : Addr} {o : Obj} (e : h.get? a = none) (e' : h.get? a = some o) {P : Prop} : P := nomatch e.symm.trans e'
theorem Rel.free {c : Cfg} {W : Wd} {H : AH} {s : Shared} (R : Rel c W H s) {a : Addr} (e : s.heap.get? a = none) : Free c W a :=
  ⟨fun hm => let ⟨_, h⟩ := R.live hm; Yy e h, match q : W.μ a with
    | none => rfl
    | some x => let ⟨_, _, h, _⟩ := R.frz a x q; Yy e h, match q : c.hb a with
    | none => rfl
    | some o => Yy e (R.st a o q).1⟩
theorem Rel.stay {c : Cfg} {W : Wd} {H : AH} {s s' : Shared} (R : Rel c W H s) (k : ∀ (a : Addr) (o : Obj), ¬ Free c W a -> s.heap.get? a = some o -> s'.heap.get? a = some o) (le : s.toks <= s'.toks) : Rel c W H s' :=
  ⟨R.cnt, R.sm, R.nd, R.hts, fun i a hi => let ⟨o, ho, r⟩ := R.obj i a hi; ⟨o, k a o (fun f => f.r (List.mem_of_getElem? hi)) ho, r⟩, fun a x hx => let ⟨h, o, ho, r⟩ := R.frz a x hx; ⟨h, o, k a o (fun f => nomatch f.m.symm.trans hx) ho, r⟩,
    fun a o e => let ⟨h, n⟩ := R.st a o e; ⟨k a o (fun f => nomatch f.b.symm.trans e) h, n⟩, R.tok.1, R.tok.2.1, Nat.le_trans R.tok.2.2 le⟩
def But (a : Addr) (h h' : Heap) : Prop := ∀ (b : Addr) (o : Obj), b ≠ a -> h.get? b = some o -> h'.get? b = some o
theorem Rel.but {c : Cfg} {W : Wd} {H : AH} {s s' : Shared} (R : Rel c W H s) {I : Addr} (f : Free c W I) (k : But I s.heap s'.heap) (le : s.toks <= s'.toks) : Rel c W H s' :=
  R.stay (fun a o n e => k a o (fun q => n (q ▸ f)) e) le
structure GK (s s' : Shared) : Prop where
  os : s'.os = s.os
  gens : AllBare s.gens -> AllBare s'.gens
  tk : s.toks <= s'.toks
theorem GK.trans {s s' s'' : Shared} (x : GK s s') (y : GK s' s'') : GK s s'' := ⟨y.os.trans x.os, fun h => y.gens (x.gens h), Nat.le_trans x.tk y.tk⟩
theorem GK.of {s : Shared} {h : Heap} {t : Nat} (le : s.toks <= t) : GK s { s with heap := h, toks := t } := ⟨rfl, id, le⟩
structure Ext (X : List Addr) (W W' : Wd) (s s' : Shared) : Prop where
  le : Le W W'
  out : ∀ a, a ∈ W'.ρ -> a ∈ W.ρ \/ s.heap.get? a = none
  nw : ∀ (a : Addr) (x : AV), W'.μ a = some x -> W.μ a = some x \/ s.heap.get? a = none
  kp : ∀ (a : Addr) (o : Obj), a ∉ W'.ρ -> a ∉ X -> s.heap.get? a = some o -> s'.heap.get? a = some o
  al : ∀ (a : Addr) (o : Obj), s.heap.get? a = some o -> ∃ o', s'.heap.get? a = some o'
  gk : GK s s'
theorem Yt {h h' : Heap} {a : Addr} (al : ∀ (a : Addr) (o : Obj), h.get? a = some o -> ∃ o', h'.get? a = some o') (e : h'.get? a = none) : h.get? a = none :=
  match q : h.get? a with
  | none => rfl
  | some o => let ⟨_, ho'⟩ := al a o q; Yy e ho'
section
variable {c : Cfg} {X : List Addr} {W W' W'' : Wd} {s s' s'' : Shared} {H : AH} {a : Addr} {x : AV} {v : Value} {l : List AV} {vs : List Value}
theorem Ext.grow (k : ∀ (a : Addr) (o : Obj), s.heap.get? a = some o -> s'.heap.get? a = some o) (g : GK s s') : Ext X W W s s' := ⟨Le.refl W, fun _ => .inl, fun _ _ => .inl, fun a o _ _ => k a o, fun a o h => ⟨o, k a o h⟩, g⟩
theorem Ext.refl (W : Wd) (s : Shared) : Ext X W W s s := .grow (fun _ _ => id) ⟨rfl, id, Nat.le_refl _⟩
theorem Ext.notin (x : Ext X W W' s s') {o : Obj} (h : a ∉ W.ρ) (e : s.heap.get? a = some o) : a ∉ W'.ρ := fun m => (x.out a m).elim h fun n => Yy n e
theorem Ext.unfr (x : Ext X W W' s s') {o : Obj} (h : W.μ a = none) (e : s.heap.get? a = some o) : W'.μ a = none := match q : W'.μ a with
  | none => rfl
  | some _ => (x.nw a _ q).elim (fun n => nomatch h.symm.trans n) fun n => Yy n e
theorem Ext.free (x : Ext X W W' s s') {o : Obj} (f : Free c W a) (e : s.heap.get? a = some o) : Free c W' a := ⟨x.notin f.r e, x.unfr f.m e, f.b⟩
theorem Ext.trans (x : Ext X W W' s s') (y : Ext X W' W'' s' s'') : Ext X W W'' s s'' :=
  ⟨x.le.trans y.le, fun a m => (y.out a m).elim (x.out a) fun n => .inr (Yt x.al n), fun a u m => (y.nw a u m).elim (x.nw a u) fun n => .inr (Yt x.al n),
    fun a o h1 h2 e => y.kp a o h1 h2 (x.kp a o (fun m => h1 (let ⟨i, hi⟩ := List.getElem?_of_mem m; List.mem_of_getElem? (y.le.ix i a hi))) h2 e), fun a o e => let ⟨o', e'⟩ := x.al a o e; y.al a o' e', x.gk.trans y.gk⟩
theorem Ext.any (x : Ext [] W W' s s') : Ext X W W' s s' := ⟨x.le, x.out, x.nw, fun a o h _ => x.kp a o h (fun h => nomatch h), x.al, x.gk⟩
theorem VR.ext (h : VR c W x v) (e : Ext X W W' s s') : VR c W' x v := h.le e.le
theorem VRs.ext (h : VRs c W l vs) (e : Ext X W W' s s') : VRs c W' l vs := h.le e.le
theorem Rel.tick (R : Rel c W H s) {n : Nat} (le : s.toks <= n) : Rel c W H { s with toks := n } := R.stay (fun _ _ _ e => e) le
theorem Rel.grow (R : Rel c W H s) (k : ∀ (a : Addr) (o : Obj), s.heap.get? a = some o -> s'.heap.get? a = some o) (le : s.toks <= s'.toks) : Rel c W H s' := R.stay (fun a o _ => k a o) le
theorem Ext.but (x : Ext X W W' s s') (f : s.heap.get? a = none) (k : But a s'.heap s''.heap) (g : GK s' s'') : Ext X W W' s s'' :=
  ⟨x.le, x.out, x.nw, fun b o h1 h2 e => k b o (fun q => Yy f (q ▸ e)) (x.kp b o h1 h2 e), fun b o e => let ⟨o', e'⟩ := x.al b o e; ⟨o', k b o' (fun q => Yy f (q ▸ e)) e'⟩, x.gk.trans g⟩
theorem ZH (o : Obj) {b : Obj} (e : s.heap.get? a = some b) : (s.heap.push o).get? a = some b := Heap.get?_push_of_some o e
end
noncomputable abbrev Ctx := List (Str × AV)
noncomputable abbrev Sc := List (Str × NameKind)
noncomputable abbrev ownA (env : Env) : List Addr := env.locals :: env.cells.map (·.2)
structure FrR (c : Cfg) (W : Wd) (s : Shared) (env : Env) (Γ : Ctx) : Prop where
  kind : env.scope.kind = .function
  glob : env.globals = mainGlobals
  blt : env.builtins = builtinsNs
  loc : Free c W env.locals
  ns : ∃ m, s.heap.Ns env.locals m /\ ∀ x av, Γ.lookup x = some av -> env.kindOf x = some .local -> ∃ v, m x = some v /\ VR c W av v
  cells : ∀ x av, Γ.lookup x = some av -> env.kindOf x ≠ some .local -> (env.kindOf x = some .cell \/ env.kindOf x = some .free) /\ ∃ a v, env.cells.lookup x = some a /\ s.heap.IsCell a (some v) /\ VR c W av v
  own : ∀ x, env.kindOf x = some .cell -> ∃ a, env.cells.lookup x = some a
  cellAt : ∀ p ∈ env.cells, p.2 ∉ W.ρ /\ W.μ p.2 = none /\ (env.kindOf p.1 ≠ some .free -> c.hb p.2 = none) /\ ∃ v, s.heap.IsCell p.2 v
  apart : env.cells.Pairwise fun x y => x.2 ≠ y.2
  src : env.scope.names = c.ps -> c.ps.lookup (".0" : Str) = none -> env.code = c.pc /\ env.qual = c.pq
section
variable {c : Cfg} {W W' : Wd} {s s' : Shared} {env : Env} {Γ Γ' : Ctx}
theorem Ns.obj {h : Heap} {a : Addr} {m : Str -> Option Value} (n : h.Ns a m) : ∃ o es ep, h.get? a = some o /\ o.data = .dict es ep := let ⟨o, es, ep, ho, hd, _⟩ := n; ⟨o, es, ep, ho, hd⟩
theorem IsCell.move {h h' : Heap} {a : Addr} {v : Option Value} (x : h.IsCell a v) (k : ∀ o, h.get? a = some o -> h'.get? a = some o) : h'.IsCell a v := let ⟨o, ho, r⟩ := x; ⟨o, k o ho, r⟩
theorem Ns.move {h h' : Heap} {a : Addr} {m : Str -> Option Value} (x : h.Ns a m) (k : ∀ o, h.get? a = some o -> h'.get? a = some o) : h'.Ns a m := let ⟨o, es, ep, ho, r⟩ := x; ⟨o, es, ep, k o ho, r⟩
theorem FrR.move (F : FrR c W s env Γ) (L : Le W W') (k : ∀ a o, a ∈ ownA env -> s.heap.get? a = some o -> s'.heap.get? a = some o) (n : ∀ a o, a ∈ ownA env -> s.heap.get? a = some o -> a ∉ W.ρ -> W.μ a = none -> a ∉ W'.ρ /\ W'.μ a = none) : FrR c W' s' env Γ := by
  obtain ⟨m, hn, hv⟩ := F.ns
  have mc : ∀ p ∈ env.cells, p.2 ∈ ownA env := fun p hp => List.mem_cons_of_mem _ (List.mem_map_of_mem hp)
  have h0 : env.locals ∈ ownA env := List.mem_cons_self ..
  obtain ⟨o, es, ep, ho, _⟩ := Ns.obj hn
  obtain ⟨n1, n2⟩ := n _ o h0 ho F.loc.r F.loc.m
  exact ⟨F.kind, F.glob, F.blt, ⟨n1, n2, F.loc.b⟩, ⟨m, Ns.move hn fun o => k _ o h0, fun x av h1 h2 => let ⟨v, h3, h4⟩ := hv x av h1 h2; ⟨v, h3, h4.le L⟩⟩,
    fun x av h1 h2 => let ⟨h3, a, v, h4, h5, h6⟩ := F.cells x av h1 h2; ⟨h3, a, v, h4, IsCell.move h5 fun o => k _ o (mc _ (mem_of_lookup h4)), h6.le L⟩, F.own,
    fun p hp => let ⟨h1, h2, h3, v, h4⟩ := F.cellAt p hp; let ⟨o, ho, _⟩ := h4; let ⟨n1, n2⟩ := n p.2 o (mc p hp) ho h1 h2; ⟨n1, n2, h3, v, IsCell.move h4 fun o => k _ o (mc p hp)⟩, F.apart, F.src⟩
theorem FrR.out (F : FrR c W s env Γ) {a : Addr} (h : a ∈ ownA env) : a ∉ W.ρ := by
  rcases List.mem_cons.mp h with rfl | h
  · exact F.loc.r
  · obtain ⟨p, hp, rfl⟩ := List.mem_map.mp h
    exact (F.cellAt p hp).1
theorem FrR.ext (F : FrR c W s env Γ) (x : Ext [] W W' s s') : FrR c W' s' env Γ :=
  F.move x.le (fun a o h e => x.kp a o (x.notin (F.out h) e) (fun h => nomatch h) e) fun _ _ _ e h1 h2 => ⟨x.notin h1 e, x.unfr h2 e⟩
theorem FrR.weak (F : FrR c W s env Γ) (hs : ∀ x av, Γ'.lookup x = some av -> Γ.lookup x = some av) : FrR c W s env Γ' := by
  obtain ⟨m, hn, hv⟩ := F.ns
  exact ⟨F.kind, F.glob, F.blt, F.loc, ⟨m, hn, fun y av h1 h2 => hv y av (hs y av h1) h2⟩, fun y av h1 h2 => F.cells y av (hs y av h1) h2, F.own, F.cellAt, F.apart, F.src⟩
end
structure Stat (c : Cfg) : Prop where
  K : ∀ a o, c.K.lookup a = some o -> c.hb a = some o
  T : ∀ h : Heap, (∀ a o, c.hb a = some o -> h.get? a = some o) -> TopRead c.prog c.loose c.mg c.mb h
  sysm : ∃ o, c.hb sysModules = some o
  hinj : ∀ i j, c.hn i = c.hn j -> i = j
structure AOk (d : Nat) (A : Around) : Prop where
  hd : A.handled = none
  dp : A.depth + d < recursionLimit
  un : A.units + 10 * d < cLine
  fr : ∃ l, A.frames = some l
  gd : A.guards = some []
theorem AOk.le {d e : Nat} {A : Around} (h : AOk d A) (hd : e <= d) : AOk e A := ⟨h.hd, Nat.lt_of_le_of_lt (Nat.add_le_add_left hd _) h.dp, Nat.lt_of_le_of_lt (Nat.add_le_add_left (Nat.mul_le_mul_left _ hd) _) h.un, h.fr, h.gd⟩
theorem yu2 {u v d : Nat} (h : v <= 10) : u + v + 10 * d <= u + 10 * (d + 1) := by omega
theorem AOk.deeper {d : Nat} {A : Around} {env : Env} (h : AOk (d + 1) A) : AOk d (A.deeper env) := by
  obtain ⟨l, hl⟩ := h.fr
  exact ⟨h.hd, (Nat.add_right_comm A.depth 1 d).symm ▸ h.dp, Nat.lt_of_le_of_lt (yu2 (v := 3) (by decide)) h.un, ⟨env :: l, by show A.frames.map _ = _; rw [hl]; rfl⟩, h.gd⟩
def NoE : Value -> Shared -> Prop := fun _ _ => False
theorem noe {E : Value -> Shared -> Prop} : ∀ v s, NoE v s -> E v s := fun _ _ h => h.elim
structure Rdy (c : Cfg) (d : Nat) (sc : Sc) (Γ : Ctx) (A : Around) (env : Env) (W : Wd) (s : Shared) (H : AH) : Prop where
  hA : AOk d A
  hs : env.scope.names = sc
  F : FrR c W s env Γ
  R : Rel c W H s
inductive PG {α β : Type} (c : Cfg) (rel : Wd -> β -> α -> Prop) (W : Wd) (s : Shared) (k : β -> AH -> Bool) (v : α) (s' : Shared) : Prop
  | mk (x : β) (H' : AH) (W' : Wd) (h : k x H' = true) (X : Ext [] W W' s s') (R : Rel c W' H' s') (r : rel W' x v) : PG c rel W s k v s'
def SimG {α β : Type} (c : Cfg) (d : Nat) (sc : Sc) (Γ : Ctx) (t : Env -> Sem α) (rel : Wd -> β -> α -> Prop) (code : AH -> (β -> AH -> Bool) -> Bool) : Prop :=
  ∀ (A : Around) (env : Env) (W : Wd) (s : Shared) (H : AH) (k : β -> AH -> Bool), Rdy c d sc Γ A env W s H -> code H k = true -> wpAny c.M A (t env) (PG c rel W s k) NoE s
section
variable {α β : Type} {c : Cfg} {d : Nat} {sc : Sc} {Γ : Ctx} {A : Around} {env : Env} {W : Wd} {s : Shared} {H : AH} {rel : Wd -> β -> α -> Prop}
theorem SimG.use {t : Env -> Sem α} {code : AH -> (β -> AH -> Bool) -> Bool} (h : SimG c d sc Γ t rel code) (D : Rdy c d sc Γ A env W s H) {k : β -> AH -> Bool} (hk : code H k = true) {Q : α -> Shared -> Prop} {E : Value -> Shared -> Prop}
    (q : ∀ x v H1 W1 s1, k x H1 = true -> Ext [] W W1 s s1 -> Rdy c d sc Γ A env W1 s1 H1 -> rel W1 x v -> Q v s1) : wpAny c.M A (t env) Q E s :=
  wpAny_mono (h A env W s H k D hk) (fun v s1 p => p.rec fun x H1 W1 h X R r => q x v H1 W1 s1 h X ⟨D.hA, D.hs, D.F.ext X, R⟩ r) noe
theorem PG.trans {W1 : Wd} {s1 s' : Shared} {k : β -> AH -> Bool} {v : α} (p : PG c rel W1 s1 k v s') (x : Ext [] W W1 s s1) : PG c rel W s k v s' := p.rec fun y H1 W2 h X R r => ⟨y, H1, W2, h, x.trans X, R, r⟩
end
noncomputable abbrev ev (e : PySem.Expr) (env : Env) : Sem Value := eval e env
noncomputable abbrev evT (e : PySem.Expr) (env : Env) : Sem Bool := isTrue e env (eval e env)
abbrev isB (_ : Wd) (x y : Bool) : Prop := y = x
abbrev SimE (c : Cfg) (d : Nat) (sc : Sc) (Γ : Ctx) (e : PySem.Expr) (code : CE) : Prop := SimG c d sc Γ (ev e) (VR c) code
abbrev SimT (c : Cfg) (d : Nat) (sc : Sc) (Γ : Ctx) (e : PySem.Expr) (code : CT) : Prop := SimG c d sc Γ (evT e) isB code
abbrev PE (c : Cfg) (W : Wd) (s : Shared) (k : AV -> AH -> Bool) (v : Value) (s' : Shared) : Prop := PG c (VR c) W s k v s'
abbrev PT (c : Cfg) (W : Wd) (s : Shared) (k : Bool -> AH -> Bool) (v : Bool) (s' : Shared) : Prop := PG c isB W s k v s'
section
variable {c : Cfg} {d : Nat} {sc : Sc} {Γ : Ctx} {W : Wd} {s : Shared} {H : AH} {k : AV -> AH -> Bool}
theorem PG.now {α β : Type} {rel : Wd -> β -> α -> Prop} {k : β -> AH -> Bool} {x : β} {v : α} (R : Rel c W H s) (h : k x H = true) (r : rel W x v) : PG c rel W s k v s := ⟨x, H, W, h, .refl W s, R, r⟩
theorem PG.more {α β : Type} {rel : Wd -> β -> α -> Prop} {k : β -> AH -> Bool} {x : β} {v : α} {h' : Heap} {n : Nat} (R : Rel c W H s) (h : k x H = true) (r : rel W x v) (le : s.toks <= n) (g : ∀ (a : Addr) (o : Obj), s.heap.get? a = some o -> h'.get? a = some o) :
    PG c rel W s k v { s with heap := h', toks := n } := ⟨x, H, W, h, .grow g (.of le), R.grow g le, r⟩
theorem PG.tok {α β : Type} {rel : Wd -> β -> α -> Prop} {k : β -> AH -> Bool} {x : β} {v : α} {n : Nat} (R : Rel c W H s) (h : k x H = true) (r : rel W x v) (le : s.toks <= n) : PG c rel W s k v { s with toks := n } := .more R h r le fun _ _ e => e
theorem Za {x : Str} {pos : Pos} {av : AV} (hx : Γ.lookup x = some av) (hd : (x == ("__debug__" : Str)) = false := by decide) (hd2 : (x == ("__classdict__" : Str)) = false := by decide) :
    SimE c d sc Γ (.Name x pos) (fun H k => k av H) := by
  intro A env W s H k D hk
  refine wpAny_Name ?_ hd
  by_cases hl : env.kindOf x = some .local
  · obtain ⟨m, hn, hv⟩ := D.F.ns
    obtain ⟨v, h1, h2⟩ := hv x av hx hl
    exact wpAny_loadName_local D.F.kind hl hn h1 (.now D.R hk h2)
  · obtain ⟨h1, a, v, h2, h4, h5⟩ := D.F.cells x av hx hl
    rcases h1 with h1 | h1
    · exact wpAny_loadName_cell D.F.kind h1 h2 h4 (.now D.R hk h5)
    · exact wpAny_loadName_free D.F.kind h1 h2 h4 (.now D.R hk h5) hd2
theorem Zg {i : Int} {n : Nat} {pos : Pos} : SimE c d sc Γ (.Constant (.int i) n pos) (fun H k => k (aI i) H) := fun _ _ _ _ _ _ D hk => wpAny_Constant_int (.tok D.R hk ⟨_, rfl⟩ (Nat.le_succ _))
theorem Xp {n : Nat} {pos : Pos} : SimE c d sc Γ (.Constant .none n pos) (fun H k => k aN H) := fun _ _ _ _ _ _ D hk => fun _ _ _ => .now D.R hk rfl
theorem ZU {b : Bool} {n : Nat} {pos : Pos} : SimE c d sc Γ (.Constant (.bool b) n pos) (fun H k => k (aB b) H) := fun _ _ _ _ _ _ D hk => fun _ _ _ => .now D.R hk rfl
theorem Zy {x : Str} {l : List Nat} {n : Nat} {pos : Pos} (hx : x = txt l) : SimE c d sc Γ (.Constant (.str x) n pos) (fun H k => k (aS l) H) := by
  subst hx
  exact fun _ _ _ _ _ _ D hk => fun _ _ _ => .tok D.R hk ⟨_, rfl⟩ (Nat.le_succ _)
end
section
variable {c : Cfg} {d : Nat} {sc : Sc} {Γ : Ctx}
def zp4 (c : Cfg) (d : Nat) (op : Operator) (f : Op2) : Prop := ∀ {A W s H x y u v k}, AOk d A -> Rel c W H s -> VR c W x u -> VR c W y v -> f H x y k = true -> wpAny c.M A (binaryOp op u v) (PE c W s k) NoE s
def UnOk (c : Cfg) (op : UnaryOp) (f : Op1) : Prop := ∀ {A W s H x u k}, Rel c W H s -> VR c W x u -> f H x k = true -> wpAny c.M A (unaryOp op u) (PE c W s k) NoE s
def Jj (c : Cfg) (d : Nat) (op : CmpOp) (f : Cp2) : Prop := ∀ {A W s H x y u v k}, AOk d A -> Rel c W H s -> VR c W x u -> VR c W y v -> f H x y k = true -> wpAny c.M A (compareOp op u v) (fun r s' => ∃ z, r = .bool z /\ PT c W s k z s') NoE s
theorem Zl {f : Op2} {op : Operator} {l r : PySem.Expr} {pos : Pos} {a b : CE} (hop : zp4 c d op f) (ha : SimE c d sc Γ l a) (hb : SimE c d sc Γ r b) : SimE c d sc Γ (.BinOp l op r pos) (binK f a b) :=
  fun _ _ _ _ _ _ D hk => wpAny_BinOp (ha.use D hk fun _ _ _ _ _ k1 x1 D1 v1 => hb.use D1 k1 fun _ _ _ _ _ k2 x2 D2 v2 => wpAny_mono (hop D2.hA D2.R (v1.ext x2) v2 k2) (fun _ _ p => p.trans (x1.trans x2)) noe)
theorem Xi {f : Op1} {op : UnaryOp} {l : PySem.Expr} {pos : Pos} {a : CE} (hop : UnOk c op f) (ha : SimE c d sc Γ l a) (hs : ∀ env, eval (.UnaryOp op l pos) env = (eval l env >>= fun v => standAt pos >>= fun _ => holding [v] (unaryOp op v)) := by intro _; rfl) :
    SimE c d sc Γ (.UnaryOp op l pos) (unK f a) := fun _ _ _ _ _ _ D hk => by
  show wpAny _ _ (eval _ _) _ _ _
  rw [hs]
  exact wpAny_bind (ha.use D hk fun _ _ _ _ _ k1 x1 D1 v1 => wpAny_bind (wpAny_standAt (wpAny_holding (wpAny_mono (hop D1.R v1 k1) (fun _ _ p => p.trans x1) noe))))
theorem PT.lift {W : Wd} {s s' : Shared} {k : AV -> AH -> Bool} {r : Value} (h : ∃ z, r = .bool z /\ PT c W s (fun b H1 => k (aB b) H1) z s') : PE c W s k r s' := h.elim fun z h => h.1 ▸ h.2.rec fun y H1 W1 h X R r => ⟨aB y, H1, W1, h, X, R, congrArg Value.bool r⟩
theorem Vk {f : Cp2} {op : CmpOp} {l r : PySem.Expr} {pos : Pos} {a b : CE} (hop : Jj c d op f) (ha : SimE c d sc Γ l a) (hb : SimE c d sc Γ r b) (hm : behindInMarks op r = false := by rfl) : SimE c d sc Γ (.Compare l [op] [r] pos) (Jd (cmpK f a b)) :=
  fun _ _ _ _ _ _ D hk => wpAny_Compare1 (ha.use D hk fun _ _ _ _ _ k1 x1 D1 v1 => hb.use D1 k1 fun _ _ _ _ _ k2 x2 D2 v2 => wpAny_mono (hop D2.hA D2.R (v1.ext x2) v2 k2) (fun _ _ p => (PT.lift p).trans (x1.trans x2)) noe) hm
theorem Zq {f : Cp2} {op : CmpOp} {l r : PySem.Expr} {pos : Pos} {a b : CE} (hop : Jj c d op f) (ha : SimE c d sc Γ l a) (hb : SimE c d sc Γ r b) (hm : behindInMarks op r = false := by rfl) : SimT c d sc Γ (.Compare l [op] [r] pos) (cmpK f a b) :=
  fun _ _ _ _ _ _ D hk => wpAny_isTrue_Compare1 (ha.use D hk fun _ _ _ _ _ k1 x1 D1 v1 => hb.use D1 k1 fun _ _ _ _ _ k2 x2 D2 v2 => wpAny_mono (hop D2.hA D2.R (v1.ext x2) v2 k2)
    (fun _ _ p => p.elim fun _ p => p.1 ▸ wpAny_truthy_bool (p.2.trans (x1.trans x2))) noe) hm
def za5 (c : Cfg) (op : Operator) (g : Int -> Int -> (Int -> Bool) -> Bool) : Prop := ∀ {A s x y t u kk} {Q : Value -> Shared -> Prop}, g x y kk = true -> (∀ z, kk z = true -> Q (.int z s.toks) { s with toks := s.toks + 1 }) -> wpAny c.M A (binaryOp op (.int x t) (.int y u)) Q NoE s
theorem PG.int {W : Wd} {s : Shared} {H : AH} {k : AV -> AH -> Bool} {z : Int} {t : Tok} {n : Nat} (R : Rel c W H s) (h : k (aI z) H = true) : PE c W s k (.int z t) { s with toks := s.toks + n } := .tok R h ⟨t, rfl⟩ (Nat.le_add_right _ _)
theorem Zz {op : Operator} {g : Int -> Int -> (Int -> Bool) -> Bool} (hop : za5 c op g) : zp4 c d op (intK g) := fun {A W s H x y u v k} _ R hu hv hk => by
  obtain ⟨e1, hk⟩ := kd_t hk
  obtain ⟨e2, hk⟩ := kd_t hk
  obtain ⟨t, rfl⟩ := hu.at e1
  obtain ⟨t', rfl⟩ := hv.at e2
  exact hop hk fun z h => .int R h
theorem zW8 (a : Int) (n : Nat) : fdI a n = Int.fdiv a n := by
  cases a with
  | ofNat m => exact Int.ofNat_fdiv m n
  | negSucc m => rfl
theorem zW7 (a : Int) (n : Nat) : fmI a n = Int.fmod a n := by
  cases a with
  | ofNat m => exact (Int.fmod_eq_emod_of_nonneg (Int.ofNat m) (Int.natCast_nonneg n)).symm
  | negSucc m => rfl
theorem yn8 {b : Int} {k : Nat -> Bool} (h : isD b k = true) : ∃ n : Nat, b = n /\ n ≠ 0 /\ n <= 1000000 /\ k n = true := by
  obtain ⟨n, rfl, h⟩ := ZO h
  cases n with
  | zero => cases h
  | succ n => exact ⟨_, rfl, Nat.succ_ne_zero n, Nat.blt_eq.mp (gd_t h).1, (gd_t h).2⟩
theorem yf2 {a b : Int} {k : Nat -> Nat -> Bool} (h : isS a b k = true) : a.natAbs < 2 ^ 64 /\ ∃ m n : Nat, a = m /\ b = n /\ (n : Int) <= 1000000 /\ k m n = true := by
  obtain ⟨h1, h2⟩ := Jy h
  obtain ⟨m, e, h3⟩ := ZO h2
  obtain ⟨n, e2, h4⟩ := ZO h3
  exact ⟨Nat.lt_trans h1 (by decide), m, n, e, e2, Int.ofNat_le.mpr (Nat.le_trans (Nat.le_of_lt (Nat.blt_eq.mp (gd_t h4).1)) (by decide)), (gd_t h4).2⟩
noncomputable def shrG (a b : Int) (kk : Int -> Bool) : Bool := isS a b fun m n => kk (.ofNat (Nat.div m (Nat.pow (nat_lit 2) n)))
theorem JD : za5 c .Sub subG := fun h q => P.sub_int (q _ (Jx _ _ ▸ h))
theorem yr2 {a : Int} (h : a.natAbs < 1073741824) : Builtin.Int.intBits a <= 64 := by
  have h2 := PySem.W.X.bits_le (k := a) (by omega) (by omega)
  rw [PySem.W.X.oBits.2] at h2
  exact h2
theorem yl4 : za5 c .Mult mulG := fun h q => by
  obtain ⟨h1, h2⟩ := Jy h
  obtain ⟨m, rfl, h3⟩ := ZO h2
  obtain ⟨n, rfl, h4⟩ := ZO h3
  exact P.mul_int (q _ h4) (IntMulOk.of_left (yr2 h1))
theorem nz {n : Nat} (h : n ≠ 0) : (n : Int) ≠ 0 := fun e => h (Int.ofNat_inj.mp e)
theorem zh3 : za5 c .FloorDiv divG := fun h q => by
  obtain ⟨n, rfl, h0, h1, h⟩ := yn8 h
  exact floordiv_int (nz h0) (q _ (zW8 _ _ ▸ h)) (.inl (PyProof.noPylong_small (Nat.lt_of_le_of_lt h1 (by decide))))
theorem Vc : za5 c .Mod modG := fun h q => by
  obtain ⟨n, rfl, h0, h1, h⟩ := yn8 h
  exact mod_int' (nz h0) (q _ (zW7 _ _ ▸ h))
theorem yl3 : za5 c .Pow powG := fun h q => by
  obtain ⟨h1, m, n, rfl, rfl, h2, h⟩ := yf2 h
  exact pow_int_small (Int.natCast_nonneg n) h2 h1 (q _ ((Int.natCast_pow m n).symm.trans rfl ▸ h))
theorem zy7 (n : Nat) : (2 : Int) ^ ((n : Int).toNat) = ((2 ^ n : Nat) : Int) := (Int.natCast_pow 2 n).symm
theorem yl2 : za5 c .LShift shlG := fun h q => by
  obtain ⟨h1, m, n, rfl, rfl, h2, h⟩ := yf2 h
  exact lshift_int_small (Int.natCast_nonneg n) h2 h1 (q _ (by rw [zy7]; exact h))
theorem yl1 : za5 c .RShift shrG := fun h q => by
  obtain ⟨h1, m, n, rfl, rfl, h2, h⟩ := yf2 h
  exact rshift_int (Int.natCast_nonneg n) (q _ (by rw [zy7, <- zW8]; exact h))
theorem Xm (m : Nat) : Builtin.bitNot (Int.negSucc m) = Int.ofNat m := by
  show -(Int.negSucc m) - 1 = _
  rw [Int.neg_negSucc]; exact Int.add_sub_cancel m 1
theorem VC (m : Nat) : Builtin.bitNot (m : Int) = Int.negSucc m := by
  show -(m : Int) - 1 = _
  rw [Int.negSucc_eq, Int.neg_add]; rfl
theorem nn (m : Nat) : decide ((0 : Int) <= (m : Int)) = true := decide_eq_true (Int.natCast_nonneg m)
theorem nnn (m : Nat) : decide ((0 : Int) <= Int.negSucc m) = false := decide_eq_false (Int.not_le.mpr (Int.negSucc_lt_zero m))
theorem zh4 : za5 c .BitAnd andG := fun {_ _ x y _ _ _ _} h q => by
  obtain ⟨m, rfl, h⟩ := ZO h
  refine and_int (q _ ?_)
  unfold Builtin.bitAnd
  rw [nn]
  cases y with
  | ofNat n => rw [show decide ((0 : Int) <= Int.ofNat n) = true from nn n]; exact h
  | negSucc n =>
    rw [nnn, Xm]
    exact (Int.ofNat_sub (Nat.and_le_left : m &&& n <= m)) ▸ h
theorem zP4 : za5 c .BitOr orG := fun h q => by
  obtain ⟨m, rfl, h2⟩ := ZO h
  obtain ⟨n, rfl, h3⟩ := ZO h2
  refine or_int (q _ ?_)
  unfold Builtin.bitOr
  rw [VC, VC]
  unfold Builtin.bitAnd
  rw [nnn, nnn, Xm, Xm]
  exact (congrArg Builtin.bitNot (VC (m ||| n))).trans (Xm _) ▸ h3
noncomputable def invK : Op1 := fun H x k => kd x.t 2 (k (aI (isP x.i .negSucc .ofNat)) H)
theorem Xz : UnOk c .USub negK := fun R hu hk => by
  obtain ⟨e1, hk⟩ := kd_t hk
  obtain ⟨t, rfl⟩ := hu.at e1
  exact P.neg_int (.int R (yc7 _ ▸ hk))
theorem yl5 : UnOk c .Invert invK := fun {A W s H x u k} R hu hk => by
  obtain ⟨e1, hk⟩ := kd_t hk
  obtain ⟨t, rfl⟩ := hu.at e1
  refine invert_int (.int R ?_)
  cases q : x.i with
  | ofNat m => rw [q] at hk; exact (VC m).symm ▸ hk
  | negSucc m => rw [q] at hk; rw [Xm]; exact hk
theorem zo4 {op : CmpOp} {g : Int -> Int -> Bool} (hop : ∀ {A : Around} {s : Shared} {x y : Int} {t u : Tok} {Q : Value -> Shared -> Prop}, Q (.bool (g x y)) s -> wpAny c.M A (compareOp op (.int x t) (.int y u)) Q NoE s) : Jj c d op (XR g) := fun _ R hu hv hk => by
  obtain ⟨e1, hk⟩ := kd_t hk
  obtain ⟨e2, hk⟩ := kd_t hk
  obtain ⟨t, rfl⟩ := hu.at e1
  obtain ⟨t', rfl⟩ := hv.at e2
  exact hop ⟨_, rfl, .now R hk rfl⟩
noncomputable def geI (a b : Int) : Bool := notB (ltB a b)
theorem zr2 {b : Bool} {p : Prop} (h : b = true ↔ p) : notB b = true ↔ ¬ p := by
  rw [<- h]; cases b <;> decide
theorem zC5 : Jj c d .Gt (XR gtI) := zo4 fun {_ _ x y _ _ _} hq => P.gt_int (b_eq (show gtI x y = true ↔ x > y from ltB_iff) ▸ hq)
theorem yu9 : Jj c d .LtE (XR leI) := zo4 fun {_ _ x y _ _ _} hq => P.le_int (b_eq (show leI x y = true ↔ x <= y from (zr2 ltB_iff).trans Int.not_lt) ▸ hq)
theorem yl6 : Jj c d .GtE (XR geI) := zo4 fun {_ _ x y _ _ _} hq => P.ge_int (b_eq (show geI x y = true ↔ x ≥ y from (zr2 ltB_iff).trans Int.not_lt) ▸ hq)
theorem zJ1 (x y : Int) : (x == y) = eqB x y := Bool.eq_iff_iff.mpr (beq_iff_eq.trans eqB_iff.symm)
def yt0 (e : PySem.Expr) : Prop := ∀ (env : Env) (t : Sem Value), isTrue e env t = (t >>= fun v => standAt e.pos >>= fun _ => holding [v] (truthy v))
theorem Xd {e : PySem.Expr} {a : CE} (ha : SimE c d sc Γ e a) (hp : yt0 e := by intro _ _; rfl) : SimT c d sc Γ e (asT a) := fun _ env _ _ _ _ D hk => by
  show wpAny _ _ (isTrue e env (eval e env)) _ _ _
  rw [hp]
  refine wpAny_bind (ha.use D hk fun x v _ _ _ k1 x1 D1 v1 => ?_)
  obtain ⟨e, k1⟩ := kd_t k1
  obtain rfl := v1.at e
  exact wpAny_bind (wpAny_standAt (wpAny_holding (wpAny_truthy_bool ⟨_, _, _, k1, x1, D1.R, rfl⟩)))
theorem Xq {e : PySem.Expr} {pos : Pos} {t : CT} (ht : SimT c d sc Γ e t) : SimT c d sc Γ (.UnaryOp .Not e pos) (notT t) := fun _ env _ _ _ _ D hk => by
  show wpAny _ _ (isTrue e env (eval e env) >>= fun b => pure (!b)) _ _ _
  exact wpAny_bind (ht.use D hk fun x v _ _ _ k1 x1 D1 v1 => wpAny_pure ⟨_, _, _, k1, x1, D1.R, by subst v1; cases v <;> rfl⟩)
theorem zd0 {l r : PySem.Expr} {pos : Pos} {a b : CT} (ha : SimT c d sc Γ l a) (hb : SimT c d sc Γ r b) : SimT c d sc Γ (.BoolOp .Or [l, r] pos) (orT a b) := fun _ env _ _ _ _ D hk => by
  show wpAny _ _ (isTrue l env (eval l env) >>= fun x => match BoolOp.Or, x with
      | .And, false => pure false
      | .Or, true => pure true
      | _, _ => isTrue r env (eval r env) >>= fun y => match BoolOp.Or, y with
        | .And, false => pure false
        | .Or, true => pure true
        | _, _ => pure (BoolOp.Or == .And)) _ _ _
  refine wpAny_bind (ha.use D hk fun x v _ _ _ k1 x1 D1 v1 => ?_)
  subst v1
  cases v with
  | true => exact wpAny_pure ⟨true, _, _, k1, x1, D1.R, rfl⟩
  | false => exact wpAny_bind (hb.use D1 k1 fun y v _ _ _ k2 x2 D2 v2 => by subst v2; cases v <;> exact wpAny_pure ⟨_, _, _, k2, x1.trans x2, D2.R, rfl⟩)
noncomputable def orE (a b : CE) : CE := fun H k => a H fun x H1 => kd x.t 1 (sel x.b (k x H1) (b H1 k))
theorem SimE.on {e : PySem.Expr} {b : CE} {A : Around} {env : Env} {W W1 : Wd} {s s1 : Shared} {H : AH} {k : AV -> AH -> Bool} (hb : SimE c d sc Γ e b) (D : Rdy c d sc Γ A env W1 s1 H) (h : b H k = true) (x : Ext [] W W1 s s1) : wpAny c.M A (eval e env) (PE c W s k) NoE s1 :=
  wpAny_mono (hb _ _ _ _ _ _ D h) (fun _ _ p => p.trans x) noe
theorem yj9 {l r : PySem.Expr} {pos : Pos} {a b : CE} (ha : SimE c d sc Γ l a) (hb : SimE c d sc Γ r b) : SimE c d sc Γ (.BoolOp .Or [l, r] pos) (orE a b) := fun _ env _ _ _ _ D hk => by
  show wpAny _ _ (eval l env >>= fun v => standAt pos >>= fun _ => holding [v] (truthy v) >>= fun t => match BoolOp.Or, t with
      | .And, false | .Or, true => pure v
      | _, _ => eval r env) _ _ _
  refine wpAny_bind (ha.use D hk fun x v _ _ _ k1 x1 D1 v1 => ?_)
  obtain ⟨e, k1⟩ := kd_t k1
  have v2 := v1
  obtain rfl := v1.at e
  refine wpAny_bind (wpAny_standAt (wpAny_bind (wpAny_holding (wpAny_truthy_bool ?_))))
  cases q : x.b with
  | true => rw [q] at k1; exact wpAny_pure ⟨x, _, _, k1, x1, D1.R, q ▸ v2⟩
  | false => rw [q] at k1; exact hb.on D1 k1 x1
theorem zl5 {t l r : PySem.Expr} {pos : Pos} {ct : CT} {a b : CE} (ht : SimT c d sc Γ t ct) (ha : SimE c d sc Γ l a) (hb : SimE c d sc Γ r b) : SimE c d sc Γ (.IfExp t l r pos) (iteE ct a b) := fun _ env _ _ _ _ D hk => by
  show wpAny _ _ (isTrue t env (eval t env) >>= fun x => if x = true then eval l env else eval r env) _ _ _
  refine wpAny_bind (ht.use D hk fun x v _ _ _ k1 x1 D1 v1 => ?_)
  subst v1
  cases v with
  | true => rw [if_pos rfl]; exact ha.on D1 k1 x1
  | false => rw [if_neg Bool.false_ne_true]; exact hb.on D1 k1 x1
theorem zv5 : Jj c d .Is isK := fun {A W s H x y u v k} _ R hu hv hk => by
  obtain ⟨e2, hk⟩ := kd_t hk
  obtain rfl := hv.at e2
  rcases ZS hk with ⟨e, hk⟩ | hk
  · obtain rfl := hu.at e; exact fun _ _ _ => ⟨true, rfl, .now R hk rfl⟩
  · rcases ZS hk with ⟨e, hk⟩ | hk
    · obtain ⟨t, rfl⟩ := hu.at e; exact fun _ _ _ => ⟨false, rfl, .now R hk rfl⟩
    · obtain ⟨e, hk⟩ := kd_t hk
      obtain rfl := hu.at e; exact fun _ _ _ => ⟨false, rfl, .now R hk rfl⟩
end
theorem ya9 {h h' : Heap} {a : Addr} (hs : Heap.SameBut a h h') (ha : ∃ o, h'.get? a = some o) (b : Addr) (o : Obj) (e : h.get? b = some o) : ∃ o', h'.get? b = some o' := by
  by_cases hb : b = a
  · exact hb ▸ ha
  · exact ⟨o, (hs.2 b hb).trans e⟩
theorem Ext.same {X : List Addr} {W : Wd} {s s' : Shared} {a : Addr} (hs : Heap.SameBut a s.heap s'.heap) (ha : ∃ o, s'.heap.get? a = some o) (m : a ∈ X \/ a ∈ W.ρ) (g : GK s s') : Ext X W W s s' :=
  ⟨Le.refl W, fun _ => .inl, fun _ _ => .inl, fun b _ h1 h e => (hs.2 b (fun q => m.elim (fun m => h (q ▸ m)) fun m => h1 (q ▸ m))).trans e, ya9 hs ha, g⟩
inductive PS (c : Cfg) (W : Wd) (s : Shared) (env : Env) {σ : Type} (g : σ -> Ctx) (kn : σ -> AH -> Bool) (kr : AV -> AH -> Bool) : Flow -> Shared -> Prop
  | next {s'} (st : σ) (H' : AH) (W' : Wd) (h : kn st H' = true) (X : Ext (ownA env) W W' s s') (R : Rel c W' H' s') (F : FrR c W' s' env (g st)) : PS c W s env g kn kr .next s'
  | ret {s' v} (x : AV) (H' : AH) (W' : Wd) (h : kr x H' = true) (X : Ext (ownA env) W W' s s') (R : Rel c W' H' s') (r : VR c W' x v) : PS c W s env g kn kr (.ret v) s'
theorem PS.trans {c : Cfg} {W W1 : Wd} {s s1 : Shared} {env : Env} {σ : Type} {g : σ -> Ctx} {kn : σ -> AH -> Bool} {kr : AV -> AH -> Bool} (x : Ext (ownA env) W W1 s s1) {f : Flow} {s' : Shared} (p : PS c W1 s1 env g kn kr f s') : PS c W s env g kn kr f s' := by
  cases p with
  | next st H' W' h X R F => exact .next st H' W' h (x.trans X) R F
  | ret y H' W' h X R r => exact .ret y H' W' h (x.trans X) R r
def SimP (c : Cfg) (d : Nat) (sc : Sc) (Γ : Ctx) (t : Env -> Sem Flow) {σ : Type} (g : σ -> Ctx) (code : CS σ) : Prop :=
  ∀ (A : Around) (env : Env) (W : Wd) (s : Shared) (H : AH) (kn : σ -> AH -> Bool) (kr : AV -> AH -> Bool), Rdy c d sc Γ A env W s H -> code H kn kr = true -> wpAny c.M A (t env) (PS c W s env g kn kr) NoE s
abbrev Sim1 (c : Cfg) (d : Nat) (sc : Sc) (Γ : Ctx) (st : Stmt) {σ : Type} (g : σ -> Ctx) (code : CS σ) : Prop := SimP c d sc Γ (exec st) g code
abbrev SimS (c : Cfg) (d : Nat) (sc : Sc) (Γ : Ctx) (ss : List Stmt) {σ : Type} (g : σ -> Ctx) (code : CS σ) : Prop := SimP c d sc Γ (execs ss) g code
section
variable {c : Cfg} {d : Nat} {sc : Sc} {Γ : Ctx} {σ τ : Type} {A : Around} {env : Env} {W W1 : Wd} {s s1 : Shared} {H : AH}
theorem Rdy.weak {Γ' : Ctx} (D : Rdy c d sc Γ A env W s H) (h : ∀ x av, Γ'.lookup x = some av -> Γ.lookup x = some av) : Rdy c d sc Γ' A env W s H := ⟨D.hA, D.hs, D.F.weak h, D.R⟩
theorem SimP.on {t : Env -> Sem Flow} {g : σ -> Ctx} {b : CS σ} {kn : σ -> AH -> Bool} {kr : AV -> AH -> Bool} (hb : SimP c d sc Γ t g b) (D : Rdy c d sc Γ A env W1 s1 H) (h : b H kn kr = true) (x : Ext (ownA env) W W1 s s1) : wpAny c.M A (t env) (PS c W s env g kn kr) NoE s1 :=
  wpAny_mono (hb _ _ _ _ _ _ _ D h) (fun _ _ p => p.trans x) noe
theorem Zc {st : Stmt} {rest : List Stmt} {g : σ -> Ctx} {g' : τ -> Ctx} {a : CS σ} {b : σ -> CS τ} (ha : Sim1 c d sc Γ st g a) (hb : ∀ x, SimS c d sc (g x) rest g' (b x)) : SimS c d sc Γ (st :: rest) g' (seqC a b) :=
  fun A env W s H kn kr D hk => wpAny_execs_cons (wpAny_mono (ha A env W s H _ kr D hk) (fun f s1 p => by
    cases p with
    | next x H1 W1 h X R F => exact (hb x).on ⟨D.hA, D.hs, F, R⟩ h X
    | ret y H1 W1 h X R r => exact .ret y H1 W1 h X R r) noe)
theorem Zj {g : σ -> Ctx} (x : σ) (hg : ∀ y av, (g x).lookup y = some av -> Γ.lookup y = some av) : SimS c d sc Γ [] g (Zt x) := fun _ _ W s H _ _ D hk => wpAny_execs_nil (.next x H W hk (.refl W s) D.R (D.F.weak hg))
theorem Xg {x y : Str} {av : AV} {Γ : Ctx} : ((x, av) :: Γ).lookup y = if y = x then some av else Γ.lookup y := by
  rw [List.lookup_cons]
  by_cases h : y = x
  · subst h; simp
  · simp [h, beq_eq_false_iff_ne.mpr h]
theorem ZE {x y : Str} {av bv : AV} {Γ : Ctx} (h : ((x, av) :: Γ).lookup y = some bv) : (y = x /\ bv = av) \/ (y ≠ x /\ Γ.lookup y = some bv) := by
  rw [Xg] at h
  by_cases e : y = x
  · rw [if_pos e] at h; exact .inl ⟨e, (Option.some.inj h).symm⟩
  · rw [if_neg e] at h; exact .inr ⟨e, h⟩
noncomputable def Zr (sc : Sc) (x : Str) : Bool := sc.lookup x == some .local || sc.lookup x == some .cell
theorem YC {sc : Sc} {x : Str} (h : Zr sc x = true) : sc.lookup x = some .local \/ sc.lookup x = some .cell := (Bool.or_eq_true_iff.mp h).imp beq_iff_eq.mp beq_iff_eq.mp
theorem zI3 {h : Heap} {a b : Addr} {m : Str -> Option Value} {v : Option Value} (x : h.Ns a m) (y : h.IsCell b v) : b ≠ a := fun q => by
  obtain ⟨o, es, ep, ho, hd⟩ := Ns.obj x
  obtain ⟨o', ho', hd'⟩ := y
  rw [q, ho] at ho'
  cases ho'
  exact nomatch hd.symm.trans hd'
def VG (env : Env) (x : Str) (a : Addr) : Prop := (env.scope.names.lookup x = some .local /\ a = env.locals) \/ (env.scope.names.lookup x = some .cell /\ env.cells.lookup x = some a)
theorem VG.own {x : Str} {a : Addr} (h : VG env x a) : a ∈ ownA env := h.elim (fun h => h.2 ▸ List.mem_cons_self ..) fun h => List.mem_cons_of_mem _ (List.mem_map_of_mem (f := (·.2)) (mem_of_lookup h.2))
theorem Ext.mono {X Y : List Addr} {W W' : Wd} {s s' : Shared} (x : Ext X W W' s s') (h : ∀ a ∈ X, a ∈ Y) : Ext Y W W' s s' := ⟨x.le, x.out, x.nw, fun a o h1 h2 => x.kp a o h1 fun m => h2 (h a m), x.al, x.gk⟩
theorem zc4 {x : Str} {av : AV} {v : Value} {Q : Unit -> Shared -> Prop} {E : Value -> Shared -> Prop} (D : Rdy c d sc Γ A env W s H) (hv : VR c W av v) (hx : Zr sc x = true)
    (q : ∀ s' a, VG env x a -> Ext [a] W W s s' -> Rdy c d sc ((x, av) :: Γ) A env W s' H -> Q () s') : wpAny c.M A (storeName env x v) Q E s := by
  have F := D.F
  obtain ⟨m, hn, hm⟩ := F.ns
  have hL : ∀ y, env.scope.names.lookup y = env.kindOf y := fun _ => rfl
  rcases YC (D.hs ▸ hx) with hl | hl
  · refine wpAny_storeName_local hl hn (fun h' hn' hs' => ?_) (by rw [F.kind]; rfl)
    have cell : ∀ {a w}, s.heap.IsCell a w -> h'.IsCell a w := fun hc => IsCell.move hc fun o ho => (hs'.2 _ (zI3 hn hc)).trans ho
    have al : ∃ o, h'.get? env.locals = some o := let ⟨o, _, _, ho, _⟩ := Ns.obj hn'; ⟨o, ho⟩
    refine q _ _ (.inl ⟨hl, rfl⟩) (.same hs' al (.inl (List.mem_cons_self ..)) (.of (Nat.le_succ _))) ⟨D.hA, D.hs, ⟨F.kind, F.glob, F.blt, F.loc, ⟨_, hn', fun y bv h1 h2 => ?_⟩, fun y bv h1 h2 => ?_, F.own, fun p hp => ?_, F.apart, F.src⟩, D.R.but F.loc hs'.extBut (Nat.le_succ _)⟩
    · rcases ZE h1 with ⟨rfl, rfl⟩ | ⟨hy, h1⟩
      · exact ⟨v, if_pos rfl, hv⟩
      · obtain ⟨u, h3, h4⟩ := hm y bv h1 h2
        exact ⟨u, (if_neg hy).trans h3, h4⟩
    · rcases ZE h1 with ⟨rfl, rfl⟩ | ⟨hy, h1⟩
      · exact absurd hl h2
      · obtain ⟨h3, a, u, h4, h6, h7⟩ := F.cells y bv h1 h2
        exact ⟨h3, a, u, h4, cell h6, h7⟩
    · obtain ⟨h1, h2, h3, u, h4⟩ := F.cellAt p hp
      exact ⟨h1, h2, h3, u, cell h4⟩
  · obtain ⟨a, h3⟩ := F.own x hl
    have ma := mem_of_lookup h3
    obtain ⟨h4, hμ, h5, u, h6⟩ := F.cellAt _ ma
    have h5 := h5 fun q => nomatch (hl.symm.trans q)
    refine wpAny_storeName_cell F.kind hl h3 h6 fun h' hc' hs' => ?_
    have cellN : ∀ {b w}, b ≠ a -> s.heap.IsCell b w -> h'.IsCell b w := fun hb hc => hc.sameBut hs' hb
    refine q _ a (.inr ⟨hl, h3⟩) (.same hs' (let ⟨o, ho, _⟩ := hc'; ⟨o, ho⟩) (.inl (List.mem_cons_self ..)) (.of (Nat.le_refl _))) ⟨D.hA, D.hs, ⟨F.kind, F.glob, F.blt, F.loc, ⟨m, hn.sameBut hs' (zI3 hn h6).symm, fun y bv h1 h2 => ?_⟩, fun y bv h1 h2 => ?_, F.own, fun p hp => ?_, F.apart, F.src⟩, D.R.but ⟨h4, hμ, h5⟩ hs'.extBut (Nat.le_refl _)⟩
    · rcases ZE h1 with ⟨rfl, rfl⟩ | ⟨hy, h1⟩
      · exact nomatch (hl.symm.trans h2)
      · exact hm y bv h1 h2
    · rcases ZE h1 with ⟨rfl, rfl⟩ | ⟨hy, h1⟩
      · exact ⟨.inl hl, a, v, h3, hc', hv⟩
      · obtain ⟨h7, b, w, h8, h10, h11⟩ := F.cells y bv h1 h2
        exact ⟨h7, b, w, h8, cellN (fun q => hy (name_of_addr F.apart (mem_of_lookup h8) (q ▸ ma))) h10, h11⟩
    · obtain ⟨h1, h2, h3, u, h4⟩ := F.cellAt p hp
      by_cases hpa : p.2 = a
      · exact ⟨h1, h2, h3, some v, hpa ▸ hc'⟩
      · exact ⟨h1, h2, h3, u, cellN hpa h4⟩
theorem zC2 {a : Addr} {Y : List Addr} (h : a ∈ Y) : ∀ b ∈ [a], b ∈ Y := fun _ m => List.mem_singleton.mp m ▸ h
theorem Xh {x : Str} {av : AV} {v : Value} {Q : Unit -> Shared -> Prop} {E : Value -> Shared -> Prop} (D : Rdy c d sc Γ A env W s H) (hv : VR c W av v) (hx : Zr sc x = true)
    (q : ∀ s', Ext (ownA env) W W s s' -> Rdy c d sc ((x, av) :: Γ) A env W s' H -> Q () s') : wpAny c.M A (storeName env x v) Q E s := zc4 D hv hx fun s' _ h X => q s' (X.mono (zC2 h.own))
theorem Zm {x : Str} {px pos : Pos} {e : PySem.Expr} {a : CE} (ha : SimE c d sc Γ e a) (hx : Zr sc x = true) (hs : ∀ env : Env, swapsWith e (some (.Name x px)) pos.line env = pure false := by intro _; rfl) :
    Sim1 c d sc Γ (.Assign [.Name x px] e pos) (fun v => (x, v) :: Γ) (asgC a) := fun _ env _ _ _ _ _ D hk =>
  wpAny_Assign_Name (ha.use D hk fun y _ _ _ _ k1 e1 D1 v1 => Xh D1 v1 hx fun _ e2 D2 => .next y _ _ k1 (e1.any.trans e2) D2.R D2.F) (hs env)
theorem Zo {pos : Pos} {e : PySem.Expr} {rest : List Stmt} {a : CE} {g : σ -> Ctx} (ha : SimE c d sc Γ e a) : SimS c d sc Γ (.Return (some e) pos :: rest) g (retC a) := fun _ _ _ _ _ _ _ D hk =>
  wpAny_execs_cons (wpAny_Return_some (ha.use D hk fun y _ _ _ _ k1 e1 D1 v1 => .ret y _ _ k1 e1.any D1.R v1))
theorem ZJ {t : PySem.Expr} {l r : List Stmt} {pos : Pos} {ct : CT} {a b : CS σ} {g : σ -> Ctx} (ht : SimT c d sc Γ t ct) (ha : SimS c d sc Γ l g a) (hb : SimS c d sc Γ r g b) : Sim1 c d sc Γ (.If t l r pos) g (ifC ct a b) := fun _ _ _ _ _ _ _ D hk =>
  wpAny_If (ht.use D hk fun x v _ _ _ k1 e1 D1 v1 => by
    subst v1
    cases v with
    | true => rw [if_pos rfl]; exact ha.on D1 k1 e1.any
    | false => rw [if_neg Bool.false_ne_true]; exact hb.on D1 k1 e1.any)
theorem Zu {ss : List Stmt} {g : σ -> Ctx} : SimS c d sc Γ ss g YY := fun _ _ _ _ _ _ _ _ hk => nomatch hk
theorem Yq {e : PySem.Expr} {pos : Pos} {a : CE} {x : σ} {g : σ -> Ctx} (ha : SimE c d sc Γ e a) (hg : ∀ y av, (g x).lookup y = some av -> Γ.lookup y = some av) (hs : ∀ env, swapsWith e none pos.line env = pure false := by intro _; rfl) :
    Sim1 c d sc Γ (.Expr e pos) g (Xl a x) := fun _ env _ _ _ _ _ D hk =>
  wpAny_Expr (ha.use D hk fun y v _ _ _ k1 e1 D1 v1 => by
    obtain ⟨e, k1⟩ := kd_t k1
    obtain rfl := v1.at e
    exact .next x _ _ k1 e1.any D1.R (D1.F.weak hg)) (by unfold interactive; rw [D.F.kind]; rfl) (hs env)
end
section
variable {c : Cfg} {d : Nat} {W W' : Wd} {s s' : Shared} {H : AH} {x : AV} {v : Value} {X : List Addr}
theorem Yi (R : Rel c W H s) (hv : VR c W x v) (e : x.t = 13) : ∃ a vs n, v = .ref a /\ s.heap.get? a = some (Zx vs n) /\ VRs c W x.l vs := by
  obtain ⟨a, rfl, h⟩ := hv.at e
  obtain ⟨_, o, ho, z⟩ := R.frz a x h
  obtain ⟨vs, n, rfl, h⟩ := z.at e
  exact ⟨a, vs, n, rfl, ho, h⟩
theorem XI (R : Rel c W H s) (hv : VR c W x v) (e : x.t = 12) : ∃ a vs n, v = .ref a /\ s.heap.get? a = some (YX vs n) /\ VRs c W x.l vs := by
  obtain ⟨a, rfl, h⟩ := hv.at e
  obtain ⟨_, o, ho, z⟩ := R.frz a x h
  obtain ⟨vs, n, rfl, h⟩ := z.at e
  exact ⟨a, vs, n, rfl, ho, h⟩
theorem zB6 (R : Rel c W H s) (hv : VR c W x v) (e : x.t = 14) : ∃ r i j k t u y, v = .ref r /\ x = aG i j k /\ s.heap.get? r = some (zq7 i j k t u y) := by
  obtain ⟨a, rfl, h⟩ := hv.at e
  obtain ⟨_, o, ho, z⟩ := R.frz a x h
  obtain ⟨i, j, k, t, u, y, h, rfl⟩ := z.at e
  exact ⟨a, i, j, k, t, u, y, rfl, h, ho⟩
theorem Yp (R : Rel c W H s) (hv : VR c W x v) (e : x.t = 11) {n : Nat} (h : (hget H x.m).t = n) : ∃ a o, v = .ref a /\ W.ρ[x.m]? = some a /\ s.heap.get? a = some o /\ ORt c W (hget H x.m) o n := by
  obtain ⟨a, rfl, hi⟩ := hv.at e
  obtain ⟨o, ho, r⟩ := R.obj _ _ hi
  exact ⟨a, o, rfl, hi, ho, r.at h⟩
noncomputable abbrev Wd.up (W : Wd) (n : Nat) : Wd := { W with tk := n }
theorem Le.up {n : Nat} (h : W.tk <= n) : Le W (W.up n) := ⟨fun _ _ h => h, fun _ _ h => h, h, fun _ _ h => h⟩
theorem HtOk.up {n m : Nat} (q : HtOk W m) (h : W.tk <= n) : HtOk (W.up n) m := ⟨fun k t e => ⟨(q.ok k t e).1, Nat.lt_of_lt_of_le (q.ok k t e).2 h⟩, q.inj, q.out⟩
theorem Rel.up {n : Nat} (R : Rel c W H s) (h : W.tk <= n) (h2 : n <= s.toks) : Rel c (W.up n) H s :=
  ⟨R.cnt, R.sm, R.nd, R.hts.up h, fun i a hi => (R.obj i a hi).imp fun _ h' => ⟨h'.1, h'.2.le (.up h)⟩, fun a x hx => ⟨(R.frz a x hx).1, (R.frz a x hx).2.imp fun _ h' => ⟨h'.1, h'.2.le (.up h)⟩⟩, R.st, R.tok.1, Nat.le_trans R.tok.2.1 h, h2⟩
theorem Ext.up {n : Nat} (x : Ext X W W' s s') (h : W'.tk <= n) : Ext X W (W'.up n) s s' := ⟨x.le.trans (.up h), x.out, x.nw, x.kp, x.al, x.gk⟩
theorem VRs.len {l : List AV} : ∀ {vs : List Value}, VRs c W l vs -> vs.length = l.length := by
  induction l with
  | nil => intro vs h; cases h; rfl
  | cons x l ih =>
    rintro vs ⟨v, r, rfl, _, h⟩
    exact congrArg Nat.succ (ih h)
theorem VRs.get {l : List AV} : ∀ {vs : List Value}, VRs c W l vs -> ∀ {i : Nat} {av : AV}, l[i]? = some av -> ∃ v, vs[i]? = some v /\ VR c W av v := by
  induction l with
  | nil => intro vs _ i av e; cases e
  | cons x l ih =>
    rintro vs ⟨v, r, rfl, hv, h⟩ i av e
    cases i with
    | zero => cases e; exact ⟨v, rfl, hv⟩
    | succ i => exact ih h e
theorem VRs.none {l : List AV} {vs : List Value} (h : VRs c W l vs) {i : Nat} (e : l[i]? = none) : vs[i]? = none := List.getElem?_eq_none_iff.mpr (h.len ▸ List.getElem?_eq_none_iff.mp e)
inductive NX (c : Cfg) (W : Wd) (St : Nat -> Heap -> Prop) (i : Nat) (s' : Shared) : Option AV -> Option Value -> Prop
  | none : NX c W St i s' none none
  | some {av v} (h : VR c (W.up s'.toks) av v) (st : St (i + 1) s'.heap) : NX c W St i s' (some av) (some v)
structure Src (c : Cfg) (d : Nat) (I : Addr) (sv : AV) (src : Value) (nx : Nat -> AH -> Option AV -> Prop) (St : Nat -> Heap -> Prop) : Prop where
  obj : ∀ {i h}, St i h -> ∃ o, h.get? I = some o
  keep : ∀ {i h h'}, St i h -> (∀ o, h.get? I = some o -> h'.get? I = some o) -> St i h'
  self : ∀ {A : Around} {s : Shared} {i : Nat} {Q : Value -> Shared -> Prop} {E : Value -> Shared -> Prop}, St i s.heap -> Q (.ref I) s -> wpAny c.M A (pyIter (.ref I)) Q E s
  next : ∀ {A W H s i o}, AOk d A -> Rel c W H s -> VR c W sv src -> Free c W I -> St i s.heap -> nx i H o -> wpAny c.M A (pyNext (.ref I)) (fun r s' => GK s s' /\ But I s.heap s'.heap /\ NX c W St i s' o r) NoE s
inductive VV (c : Cfg) (W : Wd) (H : AH) (s : Shared) (St : Addr -> Nat -> Heap -> Prop) (it : Value) (s' : Shared) : Prop
  | mk (I : Addr) (e : it = .ref I) (x : Ext [] W W s s') (R : Rel c W H s') (f : s.heap.get? I = none) (st : St I 0 s'.heap) : VV c W H s St it s'
theorem FrR.alive {env : Env} {Γ : Ctx} (F : FrR c W s env Γ) {a : Addr} (h : a ∈ ownA env) : ∃ o, s.heap.get? a = some o := by
  rcases List.mem_cons.mp h with rfl | h
  · obtain ⟨m, hn, _⟩ := F.ns
    obtain ⟨o, _, _, ho, _⟩ := Ns.obj hn
    exact ⟨o, ho⟩
  · obtain ⟨p, hp, rfl⟩ := List.mem_map.mp h
    obtain ⟨_, _, _, v, o, ho, _⟩ := F.cellAt p hp
    exact ⟨o, ho⟩
theorem FrR.fresh {env : Env} {Γ : Ctx} (F : FrR c W s env Γ) {a : Addr} (e : s.heap.get? a = Option.none) : a ∉ ownA env := fun h => (F.alive h).elim fun _ ho => Yy e ho
theorem XN {A : Around} {it a : Addr} {i : Nat} {oa : Obj} {items : Array Value} {m : Nat} {x : Value} {Q : Option Value -> Shared -> Prop} {E : Value -> Shared -> Prop} (hit : s.heap.IsListIter it a i)
    (ho : s.heap.get? a = some oa) (hd : oa.data = .seq items m) (hx : items[i]? = some x)
    (hQ : ∀ h', h'.IsListIter it a (i + 1) -> Heap.SameBut it s.heap h' -> Q (some x) { s with heap := h' }) : wpAny c.M A (pyNext (.ref it)) Q E s := by
  obtain ⟨o, hoi, hc, hdi⟩ := id hit
  unfold pyNext
  refine wpAny_bind (wpAny_attempt (wpAny_callSpecial?_slot (name := Str.ofString "__next__") hit.typeIs slot_listiter_next
    (wpAny_call_entry slot_listiter_next hit.typeIs entry_listiter_next ?_ (args_listiter_next _))))
  show wpAny _ _ (field (.ref it) 0 >>= _) _ _ s
  refine wpAny_bind (wpAny_field hoi hdi (x := .ref a) rfl ?_)
  show wpAny _ _ (if (Value.ref a == Value.none) = true then _ else _) _ _ s
  rw [if_neg (show ¬ ((Value.ref a == Value.none) = true) from Bool.false_ne_true)]
  show wpAny _ _ (field (.ref it) 1 >>= _) _ _ s
  refine wpAny_bind (wpAny_field hoi hdi (x := .int i 0) rfl ?_)
  show wpAny _ _ (seqItems? (.ref a) >>= _) _ _ s
  refine wpAny_bind (wpAny_seqItems ho hd ?_)
  simp only [Int.toNat_natCast, hx]
  refine wpAny_bind (wpAny_setField hoi hdi (by simp) (wpAny_pure ⟨x, rfl, wpAny_pure (hQ _ ⟨_, Heap.get?_update_self _ hoi (Obj.isFreed_of_fields (Obj.data_mapFields hdi _)), (Obj.cls_mapFields ..).trans hc, ?_⟩ (Heap.SameBut.update ..))⟩))
  rw [Obj.data_mapFields hdi]; simp [rawInt]
theorem Vb {A : Around} {it a : Addr} {i : Nat} {oa : Obj} {items : Array Value} {m : Nat} {Q : Option Value -> Shared -> Prop} {E : Value -> Shared -> Prop} (hh : A.handled = none) (hit : s.heap.IsListIter it a i)
    (ho : s.heap.get? a = some oa) (hd : oa.data = .seq items m) (hx : items[i]? = none)
    (hQ : ∀ h', Heap.ExtBut it s.heap h' -> Q none { s with heap := h' }) : wpAny c.M A (pyNext (.ref it)) Q E s := by
  obtain ⟨o, hoi, hc, hdi⟩ := id hit
  unfold pyNext
  refine wpAny_bind (wpAny_attempt (wpAny_callSpecial?_slot (name := Str.ofString "__next__") hit.typeIs slot_listiter_next
    (wpAny_call_entry slot_listiter_next hit.typeIs entry_listiter_next ?_ (args_listiter_next _))))
  show wpAny _ _ (field (.ref it) 0 >>= _) _ _ s
  refine wpAny_bind (wpAny_field hoi hdi (x := .ref a) rfl ?_)
  show wpAny _ _ (if (Value.ref a == Value.none) = true then _ else _) _ _ s
  rw [if_neg (show ¬ ((Value.ref a == Value.none) = true) from Bool.false_ne_true)]
  show wpAny _ _ (field (.ref it) 1 >>= _) _ _ s
  refine wpAny_bind (wpAny_field hoi hdi (x := .int i 0) rfl ?_)
  show wpAny _ _ (seqItems? (.ref a) >>= _) _ _ s
  refine wpAny_bind (wpAny_seqItems ho hd ?_)
  simp only [Int.toNat_natCast, hx]
  refine wpAny_bind (wpAny_rule (wpAny_bind (wpAny_setField hoi hdi (by simp) ?_)))
  show wpAny _ _ (newExc (.type "StopIteration") [] >>= _) _ _ _
  refine wpAny_bind ?_
  simp only [newExc, newTuple]
  refine wpAny_bind (wpAny_newObj_type ?_ (by size_fits))
  refine wpAny_bind (m := firstArgMember _ _) (wpAny_of_eq (a := Value.none) (by first | rfl | (simp only [firstArgMember]; rfl)) ?_)
  refine wpAny_newObj_type ?_ (by size_fits)
  simp only [raiseNew]
  refine wpAny_bind (wpAny_handled ?_)
  rw [show A.in1.handled = none from hh]
  refine wpAny_bind (wpAny_pure (wpAny_throw ?_))
  refine wpAny_bind (wpAny_isInstance (T := "StopIteration") (b := true) ⟨_, Heap.get?_push_size _ rfl, rfl⟩ isSubtype_stop ?_)
  exact wpAny_pure (hQ _ (((Heap.SameBut.update ..).extBut.push _).push _))
theorem XO {I a : Addr} {i : Nat} {h : Heap} (st : h.IsListIter I a i) : ∃ o, h.get? I = some o := let ⟨o, ho, _⟩ := st; ⟨o, ho⟩
theorem Xr {I a : Addr} {i : Nat} {h h' : Heap} (st : h.IsListIter I a i) (k : ∀ o, h.get? I = some o -> h'.get? I = some o) : h'.IsListIter I a i := let ⟨o, ho, r⟩ := st; ⟨o, k o ho, r⟩
theorem zq6 {A : Around} {I a : Addr} {i : Nat} {oa : Obj} {vs : List Value} {n : Nat} {l : List AV} (hA : A.handled = Option.none) (R : Rel c W H s) (st : s.heap.IsListIter I a i) (ho : s.heap.get? a = some oa) (hd : oa.data = .seq vs.toArray n) (hvs : VRs c W l vs) :
    wpAny c.M A (pyNext (.ref I)) (fun r s' => GK s s' /\ But I s.heap s'.heap /\ NX c W (fun i h => h.IsListIter I a i) i s' (nth l i) r) NoE s := by
  rw [JF]
  have g : ∀ h' : Heap, GK s { s with heap := h' } := fun h' => .of (Nat.le_refl _)
  cases hi : l[i]? with
  | none => exact Vb hA st ho hd (by rw [List.getElem?_toArray]; exact hvs.none hi) fun h' he => ⟨g h', he, .none⟩
  | some av =>
    obtain ⟨v, h1, h2⟩ := hvs.get hi
    exact XN st ho hd (x := v) (by rw [List.getElem?_toArray]; exact h1) fun h' hit hsb => ⟨g h', hsb.extBut, .some (h2.le (.up R.tok.2.2)) hit⟩
abbrev nxL (l : List AV) : Nat -> AH -> Option AV -> Prop := fun i _ o => o = nth l i
theorem Src.lst {I : Addr} {sv : AV} {a : Addr} (e : sv.t = 13) : Src c d I sv (.ref a) (nxL sv.l) (fun i h => h.IsListIter I a i) where
  obj := XO
  keep := Xr
  self := fun st q => wpAny_pyIter_listiter st q
  next := fun hA R hv hI st hn => by
    subst hn
    obtain ⟨b, vs, n, q, ho, hvs⟩ := Yi R hv e
    cases q
    exact zq6 hA.hd R st ho rfl hvs
def yf1 (o : AO) : Prop := o.t = 0 \/ o.t = 3
theorem zU7 {o : AO} {k : List AV -> Bool} (h : seqK o k = true) : yf1 o /\ k o.l = true := (ZS h).elim (fun h => ⟨.inl h.1, h.2⟩) fun h => ⟨.inr (kd_t h).1, (kd_t h).2⟩
theorem ya1 (R : Rel c W H s) {id : Nat} {a : Addr} (ha : W.ρ[id]? = some a) (h : yf1 (hget H id)) : ∃ o vs n, s.heap.get? a = some o /\ o.data = .seq vs.toArray n /\ VRs c W (hget H id).l vs := by
  obtain ⟨o, ho, r⟩ := R.obj _ _ ha
  rcases h with h | h
  · obtain ⟨vs, n, rfl, hv⟩ := r.at h; exact ⟨_, vs, n, ho, rfl, hv⟩
  · obtain ⟨vs, n, dx, rfl, _, hv⟩ := r.at h; exact ⟨_, vs, n, ho, rfl, hv⟩
abbrev nxR (id : Nat) : Nat -> AH -> Option AV -> Prop := fun i H o => yf1 (hget H id) /\ o = nth (hget H id).l i
theorem Src.ref {I a : Addr} {sv : AV} (e : sv.t = 11) : Src c d I sv (.ref a) (nxR sv.m) (fun i h => h.IsListIter I a i) where
  obj := XO
  keep := Xr
  self := fun st q => wpAny_pyIter_listiter st q
  next := fun hA R hv hI st hn => by
    obtain ⟨h, rfl⟩ := hn
    obtain ⟨b, q, ha⟩ := hv.at e
    cases q
    obtain ⟨oa, vs, n, ho, hd, hvs⟩ := ya1 R ha h
    exact zq6 hA.hd R st ho hd hvs
theorem zQ6 : ∀ (n : Nat) (a st : Int) (i : Nat), (iseq n a st)[i]? = if i < n then some (aI (a + i * st)) else none := by
  intro n
  induction n with
  | zero => intro a st i; rfl
  | succ n ih =>
    intro a st i
    cases i with
    | zero => show some (aI a) = _; rw [if_pos (Nat.zero_lt_succ n), show (((0 : Nat) : Int) * st) = 0 from Int.zero_mul st, Int.add_zero]
    | succ i =>
      show (iseq n (addI a st) st)[i]? = _
      rw [ih, VU, show (a + st + (i : Int) * st) = a + ((i + 1 : Nat) : Int) * st from by rw [Int.add_assoc, Int.natCast_succ, Int.add_mul, Int.one_mul, Int.add_comm st]]
      by_cases h : i < n
      · rw [if_pos h, if_pos (Nat.succ_lt_succ h)]
      · rw [if_neg h, if_neg fun q => h (Nat.lt_of_succ_lt_succ q)]
theorem Jp : ∀ (n : Nat) (a st : Int), (iseq n a st).length = n := by
  intro n
  induction n with
  | zero => intro a st; rfl
  | succ n ih => intro a st; exact congrArg Nat.succ (ih _ _)
theorem rs1 (a b : Int) : Builtin.Range.rangeSize a b 1 = ((b - a).toNat : Int) := by
  show (if a < b then (b - a - 1) / 1 + 1 else 0) = _
  rw [Int.ediv_one, Int.sub_add_cancel]
  split
  · rename_i h; exact (Int.toNat_of_nonneg (Int.le_of_lt (Int.sub_pos_of_lt h))).symm
  · rename_i h; rw [Int.toNat_eq_zero.mpr (Int.sub_nonpos_of_le (Int.not_lt.mp h))]; rfl
theorem rsm (a b : Int) : Builtin.Range.rangeSize a b (-1) = Builtin.Range.rangeSize b a 1 := rfl
theorem fits {i : Int} (h : i.natAbs < 2147483648) : Builtin.Range.rangeFitsLong i = true := by
  unfold Builtin.Range.rangeFitsLong
  exact Bool.and_eq_true_iff.mpr ⟨decide_eq_true (by omega), decide_eq_true (by omega)⟩
theorem zY9 (i : Int) : i.toNat <= i.natAbs := by cases i; exact Nat.le_refl _; exact Nat.zero_le _
theorem zz7 {a b : Int} (ha : a.natAbs < 1073741824) (hb : b.natAbs < 1073741824) : ((b - a).toNat : Int).natAbs < 2147483648 := by
  rw [Int.natAbs_natCast]
  exact Nat.lt_of_le_of_lt (Nat.le_trans (zY9 _) (Int.natAbs_sub_le b a)) (Nat.add_lt_add hb ha)
theorem zU4 {a b st : Int} (hs : st = 1 \/ st = -1) (ha : a.natAbs < 1073741824) (hb : b.natAbs < 1073741824) : Builtin.Range.small a b st = true := by
  unfold Builtin.Range.small
  have f : ∀ {i : Int}, i.natAbs < 1073741824 -> Builtin.Range.rangeFitsLong i = true := fun h => fits (Nat.lt_trans h (by decide))
  have e : Builtin.Range.rangeFitsLong (Builtin.Range.rangeSize a b st) = true := by
    rcases hs with rfl | rfl
    · rw [rs1]; exact fits (zz7 ha hb)
    · rw [rsm, rs1]; exact fits (zz7 hb ha)
  rw [f ha, f hb, e]
  rcases hs with rfl | rfl <;> (show (_ || Builtin.Range.rangeFitsLong (b + 0)) = true; rw [Int.add_zero, f hb, Bool.or_true])
structure RngL (a b st : Int) (l : List AV) : Prop where
  sm : Builtin.Range.small a b st = true
  e : l = iseq l.length a st
  len : (l.length : Int) = Builtin.Range.rangeSize a b st
theorem zV0 {a b st : Int} {k : List AV -> Bool} (h : rngK a b st k = true) : ∃ l, k l = true /\ RngL a b st l := by
  obtain ⟨ha, h1⟩ := Jy h
  obtain ⟨hb, h2⟩ := Jy h1
  rcases YR h2 with ⟨hs, h3⟩ | ⟨_, h3⟩
  · have hs := eqB_iff.mp hs
    exact ⟨_, h3, zU4 (.inl hs) ha hb, by rw [Jp], by rw [Jp, zz2, Jx, hs]; exact (rs1 a b).symm⟩
  · have hs := eqB_iff.mp (gd_t h3).1
    exact ⟨_, (gd_t h3).2, zU4 (.inr hs) ha hb, by rw [Jp], by rw [Jp, zz2, Jx, hs]; exact (rs1 b a).symm⟩
abbrev yP8 (a b st : Int) (l : List AV) (I : Addr) (i : Nat) (h : Heap) : Prop := i <= l.length + 1 /\ IsRangeIter h I (a + (i : Nat) * st) ((l.length : Int) - (i : Nat)) st
theorem Src.rng {I r : Addr} {a b st : Int} {sv : AV} {l : List AV} (hl : RngL a b st l) : Src c d I sv (.ref r) (nxL l) (yP8 a b st l I) where
  obj := fun h => ⟨_, h.2⟩
  keep := fun h k => ⟨h.1, k _ h.2⟩
  self := fun st q => wpAny_pyIter_rangeiter st.2 q
  next := fun {A W H s i o} hA R hv hI hst hn => by
    subst hn
    have g := zQ6 l.length a st i
    rw [<- hl.e] at g
    rw [JF, g]
    by_cases hi : i < l.length
    · rw [if_pos hi]
      refine wpAny_pyNext_range_item hst.2 (Int.sub_pos_of_lt (Int.ofNat_lt.mpr hi)) fun h' hit hsb => ⟨.of (Nat.le_succ _), hsb.extBut, .some ⟨_, rfl⟩ ⟨Nat.succ_le_succ (Nat.le_of_lt hi), ?_⟩⟩
      have e1 : a + ((i + 1 : Nat) : Int) * st = a + (i : Int) * st + st := by rw [Int.natCast_succ, Int.add_mul, Int.one_mul, Int.add_assoc]
      have e2 : (l.length : Int) - ((i + 1 : Nat) : Int) = (l.length : Int) - (i : Int) - 1 := by rw [Int.natCast_succ, Int.sub_sub]
      rw [e1, e2]; exact hit
    · rw [if_neg hi]
      exact wpAny_pyNext_range_end hA.hd hst.2 (Int.sub_nonpos_of_le (Int.ofNat_le.mpr (Nat.not_lt.mp hi))) fun h' he => ⟨.of (Nat.le_refl _), he, .none⟩
theorem ze4 {A : Around} {a : Addr} {vs : Array Value} (R : Rel c W H s) (hl : s.heap.IsList a vs) {E : Value -> Shared -> Prop} : wpAny c.M A (pyIter (.ref a)) (VV c W H s fun I i h => h.IsListIter I a i) E s :=
  wpAny_pyIter_list hl ⟨_, rfl, .grow (fun _ _ => ZH _) (.of (Nat.le_refl _)), R.grow (fun _ _ => ZH _) (Nat.le_refl _), Ya (Nat.le_refl _), _, Heap.get?_push_size _ rfl, rfl, rfl⟩
theorem ZX {h : Heap} {a : Addr} {vs : List Value} {n : Nat} (e : h.get? a = some (Zx vs n)) : h.IsList a vs.toArray := ⟨_, e, rfl, n, rfl⟩
theorem zU3 {A : Around} {sv : AV} {src : Value} {k : List AV -> Bool} (R : Rel c W H s) (hv : VR c W sv src) (h : srcK sv k = true) {E : Value -> Shared -> Prop} :
    ∃ l, k l = true /\ ∃ St : Addr -> Nat -> Heap -> Prop, wpAny c.M A (pyIter src) (VV c W H s St) E s /\ ∀ I, Src c d I sv src (nxL l) (St I) := by
  rcases ZS h with ⟨e, h⟩ | h
  · obtain ⟨a, vs, n, rfl, ho, hvs⟩ := Yi R hv e
    exact ⟨_, h, _, ze4 R (ZX ho), fun I => .lst e⟩
  · obtain ⟨e, h⟩ := kd_t h
    obtain ⟨r, i, j, y, t, u, z, rfl, rfl, ho⟩ := zB6 R hv e
    obtain ⟨l, h, hl⟩ := zV0 (a := i) (b := j) (st := y) h
    refine ⟨l, h, _, wpAny_pyIter_range ho hl.sm ⟨_, rfl, .grow (fun _ _ => ZH _) (.of (Nat.le_refl _)), R.grow (fun _ _ => ZH _) (Nat.le_refl _), Ya (Nat.le_refl _), Nat.zero_le _, ?_⟩, fun I => .rng hl⟩
    rw [show ((0 : Nat) : Int) = 0 from rfl, Int.zero_mul, Int.add_zero, Int.sub_zero, hl.len]
    exact Heap.get?_push_size _ rfl
end
section
variable {c : Cfg} {d : Nat} {sc : Sc} {Γ : Ctx} {σ : Type} {A : Around} {env : Env} {W : Wd} {s : Shared} {H : AH}
theorem FrR.but {s' : Shared} {I : Addr} (F : FrR c W s env Γ) (k : But I s.heap s'.heap) (h : I ∉ ownA env) : FrR c W s' env Γ := F.move (.refl W) (fun a o m e => k a o (fun q => h (q ▸ m)) e) fun _ _ _ _ h1 h2 => ⟨h1, h2⟩
theorem FrR.up {n : Nat} (F : FrR c W s env Γ) (h : W.tk <= n) : FrR c (W.up n) s env Γ := F.move (.up h) (fun _ _ _ e => e) fun _ _ _ _ h1 h2 => ⟨h1, h2⟩
theorem Rdy.but {s' : Shared} {I : Addr} (D : Rdy c d sc Γ A env W s H) (f : Free c W I) (k : But I s.heap s'.heap) (h : I ∉ ownA env) (g : GK s s') : Rdy c d sc Γ A env (W.up s'.toks) s' H :=
  ⟨D.hA, D.hs, (D.F.but k h).up (Nat.le_trans D.R.tok.2.2 g.tk), (D.R.but f k g.tk).up (Nat.le_trans D.R.tok.2.2 g.tk) (Nat.le_refl _)⟩
inductive LInv (c : Cfg) (d : Nat) (sc : Sc) (A : Around) (I : Addr) (env : Env) {σ : Type} (g : σ -> Ctx) (sv : AV) (src : Value) (St : Nat -> Heap -> Prop) (W₀ : Wd) (s₀ : Shared) (cont : Nat -> Nat -> σ -> AH -> Prop) (n : Nat) (s : Shared) : Prop
  | mk (W : Wd) (H : AH) (i : Nat) (st : σ) (D : Rdy c d sc (g st) A env W s H) (v : VR c W sv src) (hst : St i s.heap) (f : Free c W I) (x : Ext (ownA env) W₀ W s₀ s) (h : cont n i st H) : LInv c d sc A I env g sv src St W₀ s₀ cont n s
theorem zR7 {x : Str} {px : Pos} {body : List Stmt} {I : Addr} {sv : AV} {src : Value} {nx : Nat -> AH -> Option AV -> Prop} {St : Nat -> Heap -> Prop} {g : σ -> Ctx} {f : AV -> σ -> CS σ} {cont : Nat -> Nat -> σ -> AH -> Prop} {kn : σ -> AH -> Bool} {kr : AV -> AH -> Bool}
    (S : Src c d I sv src nx St) (hx : Zr sc x = true)
    (hstep : ∀ {n i st H}, cont n i st H -> ∃ o, nx i H o /\ match o with
      | none => kn st H = true
      | some v => ∃ m k', m < n /\ (∀ st1 H1, k' st1 H1 = true -> cont m (i + 1) st1 H1) /\ f v st H k' kr = true)
    (hb : ∀ v st, SimS c d sc ((x, v) :: g st) body g (f v st)) {W₀ : Wd} {s₀ : Shared} {n i : Nat} {st : σ} {E : Value -> Shared -> Prop}
    (D : Rdy c d sc (g st) A env W s H) (hsv : VR c W sv src) (hst : St i s.heap) (hI : Free c W I) (hI0 : s₀.heap.get? I = none) (hIo : I ∉ ownA env) (X : Ext (ownA env) W₀ W s₀ s) (hk : cont n i st H) :
    codeAny c.M A (.forLoop (.Name x px) (.ref I) body [] env) (fun r s' => match r with | .ok fl => PS c W₀ s₀ env g kn kr fl s' | .error e => E e s') s := by
  refine codeAny_forLoop (LInv c d sc A I env g sv src St W₀ s₀ cont) ?_ n ⟨W, H, i, st, D, hsv, hst, hI, X, hk⟩
  rintro n s ⟨W, H, i, st, D, hsv, hst, hI, X, hk⟩
  obtain ⟨o, ho, hs⟩ := hstep hk
  refine wpAny_mono (S.next D.hA D.R hsv hI hst ho) (fun r s1 p1 => ?_) noe
  obtain ⟨gk, hbut, p1⟩ := p1
  have D1 := D.but hI hbut hIo gk
  have le := Nat.le_trans D.R.tok.2.2 gk.tk
  have X1 := (X.but hI0 hbut gk).up le
  cases p1 with
  | none => exact wpAny_execs_nil (.next st H _ hs X1 D1.R D1.F)
  | some hv hst1 =>
    obtain ⟨m, k', hm, hc, hf⟩ := hs
    refine wpAny_assign_Name (Xh D1 hv hx fun s2 X2 D2 => wpAny_mono (hb _ st A env _ s2 H _ _ D2 hf) (fun fl s3 p3 => ?_) noe)
    cases p3 with
    | ret y H3 W3 h X3 R3 r => exact .ret y H3 W3 h (X1.trans (X2.trans X3)) R3 r
    | next st3 H3 W3 h X3 R3 F3 =>
      have X23 := X2.trans X3
      have f1 : Free c (W.up s1.toks) I := ⟨hI.r, hI.m, hI.b⟩
      obtain ⟨oI, hoI⟩ := S.obj hst1
      have f3 := X23.free f1 hoI
      exact ⟨m, hm, W3, H3, i + 1, st3, ⟨D.hA, D.hs, F3, R3⟩, hsv.le ((Le.up le).trans X23.le), S.keep hst1 fun o e => X23.kp I o f3.r hIo e, f3, X1.trans X23, hc _ _ h⟩
structure Feed (c : Cfg) (d : Nat) {σ : Type} (W : Wd) (H : AH) (s : Shared) (sv : AV) (src : Value) (f : AV -> σ -> CS σ) (st : σ) (kn : σ -> AH -> Bool) (kr : AV -> AH -> Bool) (St : Addr -> Nat -> Heap -> Prop) (nx : Nat -> AH -> Option AV -> Prop) (cont : Nat -> Nat -> σ -> AH -> Prop) (n : Nat) : Prop where
  start : wpAny c.M A (pyIter src) (VV c W H s St) NoE s
  S : ∀ I, Src c d I sv src nx (St I)
  c0 : cont n 0 st H
  step : ∀ {n i st H}, cont n i st H -> ∃ o, nx i H o /\ match o with
      | none => kn st H = true
      | some v => ∃ m k', m < n /\ (∀ st1 H1, k' st1 H1 = true -> cont m (i + 1) st1 H1) /\ f v st H k' kr = true
theorem JN {x : Str} {px pos : Pos} {iter : PySem.Expr} {body : List Stmt} {it : CE} {g : σ -> Ctx} {f : AV -> σ -> CS σ} {st : σ} {k1 : AV -> AH -> (σ -> AH -> Bool) -> (AV -> AH -> Bool) -> Bool}
    (hit : SimE c d sc Γ iter it) (hx : Zr sc x = true) (hg : ∀ y av, (g st).lookup y = some av -> Γ.lookup y = some av) (hb : ∀ v st, SimS c d sc ((x, v) :: g st) body g (f v st))
    (hsrc : ∀ {A W H s sv src kn kr}, AOk d A -> Rel c W H s -> VR c W sv src -> k1 sv H kn kr = true -> ∃ St nx cont n, Feed (A := A) c d W H s sv src f st kn kr St nx cont n)
    (hs : ∀ (env : Env) x, foldedSetIterable iter env x = pure x := by intro _ _; rfl) : Sim1 c d sc Γ (.For (.Name x px) iter body [] pos) g (fun H kn kr => it H fun sv H1 => k1 sv H1 kn kr) := fun A env W s H kn kr D hk =>
  wpAny_For (hit.use D hk fun sv src H1 W1 s1 k2 x1 D1 v1 => by
    obtain ⟨St, nx, cont, n, Z⟩ := hsrc D.hA D1.R v1 k2
    refine wpAny_mono Z.start (fun it s2 p2 => ?_) noe
    obtain ⟨I, rfl, x2, R2, hI1, hst⟩ := p2
    exact zR7 (S := Z.S I) hx Z.step hb ⟨D.hA, D.hs, (D1.F.ext x2).weak hg, R2⟩ v1 hst (D1.R.free hI1) (Yt x1.al hI1) (D1.F.fresh hI1) (x1.any.trans x2.any) Z.c0) (hs env)
theorem ZY {x : Str} {px pos : Pos} {iter : PySem.Expr} {body : List Stmt} {it : CE} {g : σ -> Ctx} {f : AV -> σ -> CS σ} {st : σ}
    (hit : SimE c d sc Γ iter it) (hx : Zr sc x = true) (hg : ∀ y av, (g st).lookup y = some av -> Γ.lookup y = some av) (hb : ∀ v st, SimS c d sc ((x, v) :: g st) body g (f v st)) (hs : ∀ (env : Env) x, foldedSetIterable iter env x = pure x := by intro _ _; rfl) :
    Sim1 c d sc Γ (.For (.Name x px) iter body [] pos) g (forL it f st) :=
  JN (k1 := fun sv H1 kn kr => srcK sv fun l => forC f l st H1 kn kr) hit hx hg hb (fun {A W H s sv src kn kr} _ R hv hk => by
    obtain ⟨l, hk, St, h1, h2⟩ := zU3 (A := A) (d := d) R hv hk
    refine ⟨St, nxL l, fun n i st H => n = l.length - i /\ forC f (l.drop i) st H kn kr = true, l.length, h1, h2, ⟨rfl, hk⟩, ?_⟩
    rintro n i st H ⟨rfl, hc⟩
    refine ⟨_, rfl, ?_⟩
    rw [JF]
    cases hi : l[i]? with
    | none =>
      rw [List.drop_eq_nil_iff.mpr (List.getElem?_eq_none_iff.mp hi)] at hc
      exact hc
    | some v =>
      obtain ⟨hlt, hv⟩ := List.getElem?_eq_some_iff.mp hi
      rw [List.drop_eq_getElem_cons hlt, hv] at hc
      exact ⟨l.length - (i + 1), _, Nat.sub_lt_sub_left hlt (Nat.lt_succ_self i), fun _ _ h => ⟨rfl, h⟩, hc⟩) hs
theorem zW2 {f : AV -> σ -> CS σ} {id n i : Nat} {st : σ} {H : AH} {kn : σ -> AH -> Bool} {kr : AV -> AH -> Bool} : forN f id (n + 1) i st H kn kr = seqK (hget H id) fun l => Option.rec (motive := fun _ => Bool) (kn st H) (fun v => f v st H (fun st1 H1 => forN f id n (i + 1) st1 H1 kn kr) kr) (nth l i) := rfl
def zL3 (c : Cfg) (d : Nat) : Prop := ∀ {A W H s a dx vs n}, AOk d A -> Rel c W H s -> s.heap.get? a = some (ZB c.cA dx vs n) -> wpAny c.M A (pyIter (.ref a)) (VV c W H s fun I i h => h.IsListIter I a i) NoE s
theorem zc9 {x : Str} {px pos : Pos} {iter : PySem.Expr} {body : List Stmt} {it : CE} {g : σ -> Ctx} {f : AV -> σ -> CS σ} {st : σ} (hacc : zL3 c d)
    (hit : SimE c d sc Γ iter it) (hx : Zr sc x = true) (hg : ∀ y av, (g st).lookup y = some av -> Γ.lookup y = some av) (hb : ∀ v st, SimS c d sc ((x, v) :: g st) body g (f v st)) (hs : ∀ (env : Env) x, foldedSetIterable iter env x = pure x := by intro _ _; rfl) :
    Sim1 c d sc Γ (.For (.Name x px) iter body [] pos) g (forR it f st) :=
  JN (k1 := fun sv H1 kn kr => kd sv.t 11 (forN f sv.m 60 0 st H1 kn kr)) hit hx hg hb (fun {A W H s sv src kn kr} hA R hv hk => by
    obtain ⟨e, hk⟩ := kd_t hk
    obtain ⟨a, rfl, ha⟩ := hv.at e
    refine ⟨fun I i h => h.IsListIter I a i, nxR sv.m, fun n i st H => forN f sv.m n i st H kn kr = true, 60, ?_, fun I => Src.ref e, hk, ?_⟩
    · obtain ⟨o, ho, r⟩ := R.obj _ _ ha
      rw [zW2] at hk
      rcases (zU7 hk).1 with h | h
      · obtain ⟨vs, n, rfl, _⟩ := r.at h
        exact ze4 R (ZX ho)
      · obtain ⟨vs, n, dx, rfl, _⟩ := r.at h
        exact hacc hA R ho
    · intro n i st H hc
      cases n with
      | zero => cases hc
      | succ n =>
        rw [zW2] at hc
        obtain ⟨h, hc⟩ := zU7 hc
        refine ⟨_, ⟨h, rfl⟩, ?_⟩
        cases q : nth (hget H sv.m).l i with
        | none => rw [q] at hc; exact hc
        | some v => rw [q] at hc; exact ⟨n, _, Nat.lt_succ_self n, fun _ _ h => h, hc⟩) hs
theorem zD2 (l : List Nat) : ∀ i : Nat, (Yu l)[i]? = (l[i]?).map fun n => aI (.ofNat n) := by
  induction l with
  | nil => intro i; rfl
  | cons x l ih => intro i; cases i; rfl; exact ih _
noncomputable abbrev ze3 (ks : List Nat) (vs : List Value) : List (Int × Value) := (ks.map Int.ofNat).zip vs
theorem Vy {ks : List Nat} {vs : List Value} (h : vs.length = ks.length) : (ze3 ks vs).length = ks.length := by rw [List.length_zip, List.length_map, h]; exact Nat.min_self _
theorem zE6 {ks : List Nat} : ∀ {vs : List Value}, vs.length = ks.length -> ∀ i : Nat, match ks[i]? with
    | none => (ze3 ks vs)[i]? = none
    | some n => ∃ v, (ze3 ks vs)[i]? = some ((n : Int), v) := by
  induction ks with
  | nil => intro vs _ i; rfl
  | cons x l ih =>
    intro vs h i
    cases vs with
    | nil => cases h
    | cons v vs => cases i with
      | zero => exact ⟨v, rfl⟩
      | succ i => exact ih (Nat.succ.inj h) i
theorem zH9 {a : Addr} {id : Nat} (R : Rel c W H s) (ha : W.ρ[id]? = some a) (h : (hget H id).t = 1) : ∃ vs o, s.heap.get? a = some o /\ Ji (intKind c.prog c.w) o (ze3 (hget H id).ks vs) /\ VRs c W (hget H id).l vs /\ vs.length = (hget H id).ks.length := by
  obtain ⟨o, ho, r⟩ := R.obj _ _ ha
  obtain ⟨vs, hd, hvs, hl⟩ := r.at h
  exact ⟨vs, o, ho, hd, hvs, hvs.len.trans hl.symm⟩
theorem zd8 (S : Stat c) (R : Rel c W H s) {a : Addr} {id : Nat} (ha : W.ρ[id]? = some a) : (a == sysModules) = false := by
  obtain ⟨o, ho⟩ := S.sysm
  exact beq_eq_false_iff_ne.mpr fun q => (R.st _ _ ho).2 (q ▸ List.mem_of_getElem? ha)
abbrev nxD (id n0 : Nat) : Nat -> AH -> Option AV -> Prop := fun i H o => (hget H id).t = 1 /\ (hget H id).ks.length = n0 /\ o = nth (Yu (hget H id).ks) i
theorem Src.dict {I a : Addr} {sv : AV} {n0 : Nat} (e : sv.t = 11) : Src c d I sv (.ref a) (nxD sv.m n0) (fun i h => h.IsKeyIter I a i n0 n0) where
  obj := fun st => let ⟨o, ho, _⟩ := st; ⟨o, ho⟩
  keep := fun st k => let ⟨o, ho, r⟩ := st; ⟨o, k o ho, r⟩
  self := fun st q => wpAny_pyIter_keyiter st q
  next := fun {A W H s i o} hA R hv hI st hn => by
    obtain ⟨h, rfl, rfl⟩ := hn
    obtain ⟨b, q, ha⟩ := hv.at e
    cases q
    obtain ⟨vs, oa, hoa, ⟨es, hd⟩, hvs, hlen⟩ := zH9 R ha h
    have hz := Vy hlen
    have hat : s.heap.DictAt (intKind c.prog c.w) a (ze3 (hget H sv.m).ks vs) (hget H sv.m).ks.length := ⟨oa, es, hoa, hz ▸ hd⟩
    have st' : s.heap.IsKeyIter I a i (ze3 (hget H sv.m).ks vs).length (hget H sv.m).ks.length := hz.symm ▸ st
    have kg := zE6 hlen i
    rw [JF, zD2]
    cases hi : (hget H sv.m).ks[i]? with
    | none =>
      rw [hi] at kg
      exact wpAny_pyNext_dict_end hA.hd st' hat kg fun h' he => ⟨.of (Nat.le_refl _), he, .none⟩
    | some p =>
      rw [hi] at kg
      obtain ⟨v, kg⟩ := kg
      refine wpAny_pyNext_dict_item st' hat kg fun key h' hk hit hsb => ⟨.of (Nat.le_refl _), hsb.extBut, ?_⟩
      obtain ⟨t, rfl⟩ := Value.isInt_shape hk
      exact .some ⟨t, rfl⟩ (hz ▸ hit)
theorem zG0 {f : AV -> σ -> CS σ} {id n0 n i : Nat} {st : σ} {H : AH} {kn : σ -> AH -> Bool} {kr : AV -> AH -> Bool} : zG1 f id n0 (n + 1) i st H kn kr = kd (hget H id).t 1 (kd (lenN (hget H id).ks) n0 (Option.rec (motive := fun _ => Bool) (kn st H) (fun v => f v st H (fun st1 H1 => zG1 f id n0 n (i + 1) st1 H1 kn kr) kr) (nth (Yu (hget H id).ks) i))) := rfl
theorem zN5 {x : Str} {px pos : Pos} {iter : PySem.Expr} {body : List Stmt} {it : CE} {g : σ -> Ctx} {f : AV -> σ -> CS σ} {st : σ} (S : Stat c)
    (hit : SimE c d sc Γ iter it) (hx : Zr sc x = true) (hg : ∀ y av, (g st).lookup y = some av -> Γ.lookup y = some av) (hb : ∀ v st, SimS c d sc ((x, v) :: g st) body g (f v st)) (hs : ∀ (env : Env) x, foldedSetIterable iter env x = pure x := by intro _ _; rfl) :
    Sim1 c d sc Γ (.For (.Name x px) iter body [] pos) g (forD it f st) :=
  JN (k1 := fun sv H1 kn kr => kd sv.t 11 (zG1 f sv.m (lenN (hget H1 sv.m).ks) 20 0 st H1 kn kr)) hit hx hg hb (fun {A W H s sv src kn kr} hA R hv hk => by
    obtain ⟨e, hk⟩ := kd_t hk
    obtain ⟨a, rfl, ha⟩ := hv.at e
    rw [Zw] at hk
    have hk' := hk
    rw [zG0] at hk'
    obtain ⟨vs, oa, hoa, ⟨es, hd⟩, hvs, hlen⟩ := zH9 R ha (kd_t hk').1
    have hz := Vy hlen
    have hat : s.heap.DictAt (intKind c.prog c.w) a (ze3 (hget H sv.m).ks vs) (hget H sv.m).ks.length := ⟨oa, es, hoa, hz ▸ hd⟩
    refine ⟨fun I i h => h.IsKeyIter I a i (hget H sv.m).ks.length (hget H sv.m).ks.length, nxD sv.m (hget H sv.m).ks.length, fun n i st H1 => zG1 f sv.m (hget H sv.m).ks.length n i st H1 kn kr = true, 20, ?_, fun I => Src.dict e, hk, ?_⟩
    · exact wpAny_pyIter_dict (zd8 S R ha) hat ⟨_, rfl, .grow (fun _ _ => ZH _) (.of (Nat.le_refl _)), R.grow (fun _ _ => ZH _) (Nat.le_refl _), Ya (Nat.le_refl _), _, Heap.get?_push_size _ rfl, rfl, by rw [hz]; rfl⟩
    · intro n i st H hc
      cases n with
      | zero => cases hc
      | succ n =>
        rw [zG0] at hc
        obtain ⟨h, hc⟩ := kd_t hc
        obtain ⟨h2, hc⟩ := kd_t hc
        refine ⟨_, ⟨h, (Zw _).symm.trans h2, rfl⟩, ?_⟩
        cases q : nth (Yu (hget H sv.m).ks) i with
        | none => rw [q] at hc; exact hc
        | some v => rw [q] at hc; exact ⟨n, _, Nat.lt_succ_self n, fun _ _ h => h, hc⟩) hs
inductive WInv (c : Cfg) (d : Nat) (sc : Sc) (A : Around) (env : Env) {σ : Type} (g : σ -> Ctx) (W₀ : Wd) (s₀ : Shared) (t : σ -> CT) (b : σ -> CS σ) (kn : σ -> AH -> Bool) (kr : AV -> AH -> Bool) (n : Nat) (s : Shared) : Prop
  | mk (W : Wd) (H : AH) (st : σ) (D : Rdy c d sc (g st) A env W s H) (x : Ext (ownA env) W₀ W s₀ s) (h : Vs t b n st H kn kr = true) : WInv c d sc A env g W₀ s₀ t b kn kr n s
theorem Vt {test : PySem.Expr} {body : List Stmt} {pos : Pos} {g : σ -> Ctx} {t : σ -> CT} {b : σ -> CS σ} {st : σ} {n : Nat}
    (hg : ∀ y av, (g st).lookup y = some av -> Γ.lookup y = some av) (ht : ∀ st, SimT c d sc (g st) test (t st)) (hb : ∀ st, SimS c d sc (g st) body g (b st)) : Sim1 c d sc Γ (.While test body [] pos) g (Vs t b n st) := fun A env W₀ s₀ H kn kr D hk => by
  refine wpAny_While (codeAny_whileLoop (WInv c d sc A env g W₀ s₀ t b kn kr) ?_ n ⟨W₀, H, st, D.weak hg, .refl _ _, hk⟩)
  rintro n s ⟨W, H, st, D, X, hk⟩
  cases n with
  | zero => cases hk
  | succ n =>
    refine (ht st).use D hk fun x v H1 W1 s1 k1 x1 D1 v1 => ?_
    subst v1
    have X1 := X.trans x1.any
    cases v with
    | false =>
      rw [if_neg Bool.false_ne_true]
      exact wpAny_execs_nil (.next st H1 W1 k1 X1 D1.R D1.F)
    | true =>
      rw [if_pos rfl]
      refine wpAny_mono (hb st A env W1 s1 H1 _ kr D1 k1) (fun fl s2 p2 => ?_) noe
      cases p2 with
      | next st2 H2 W2 h X2 R2 F2 => exact ⟨n, Nat.lt_succ_self n, W2, H2, st2, ⟨D.hA, D.hs, F2, R2⟩, X1.trans X2, h⟩
      | ret y H2 W2 h X2 R2 r => exact .ret y H2 W2 h (X1.trans X2) R2 r
end
section
variable {c : Cfg} {d : Nat} {sc : Sc} {Γ : Ctx} {W W₀ : Wd} {s s₀ s' : Shared} {H : AH} {k : AV -> AH -> Bool} {L : Addr} {ob : Obj} {vs : List Value} {n : Nat} {l : List AV}
inductive Laid (c : Cfg) (W₀ : Wd) (s₀ : Shared) (k : AV -> AH -> Bool) (W : Wd) (L : Addr) (s : Shared) : Prop
  | mk (x : AV) (H' : AH) (W' : Wd) (h : k x H' = true) (X : Ext [] W₀ W' s₀ s) (R : Rel c W' H' s) (r : VR c W' x (.ref L)) (f : ∀ a, a ≠ L -> Free c W a -> Free c W' a) : Laid c W₀ s₀ k W L s
theorem Laid.pe (h : Laid c W₀ s₀ k W L s) : PE c W₀ s₀ k (.ref L) s := h.rec fun x H' W' h X R r _ => ⟨x, H', W', h, X, R, r⟩
theorem Laid.frz {x : AV} (X : Ext [] W₀ W s₀ s) (R : Rel c W H s) (fL : s₀.heap.get? L = none) (f : Free c W L) (ho : s.heap.get? L = some ob) (hx : x.t = 12 \/ x.t = 13 \/ x.t = 14) (z : FZ c W x ob) (hk : k x H = true) : Laid c W₀ s₀ k W L s := by
  have le : Le W { W with μ := fun a => if a = L then some x else W.μ a } := ⟨fun _ _ h => h, fun a y h => (if_neg fun q => nomatch (q ▸ f.m).symm.trans h).trans h, Nat.le_refl _, fun _ _ h => h⟩
  refine ⟨x, H, { W with μ := fun a => if a = L then some x else W.μ a }, hk, ⟨X.le.trans le, X.out, fun a y h => ?_, X.kp, X.al, X.gk⟩, ⟨R.cnt, R.sm, R.nd, ⟨R.hts.ok, R.hts.inj, R.hts.out⟩, fun i a hi => (R.obj i a hi).imp fun _ h => ⟨h.1, h.2.le le⟩, fun a y h => ?_, R.st, R.tok⟩, ?_, fun a ne f => ⟨f.r, (if_neg ne).trans f.m, f.b⟩⟩
  · by_cases e : a = L
    · exact .inr (e ▸ fL)
    · exact X.nw a y ((if_neg e).symm.trans h)
  · by_cases e : a = L
    · subst e
      cases (if_pos rfl).symm.trans h
      exact ⟨f.r, ob, ho, z.le le⟩
    · have h := R.frz a y ((if_neg e).symm.trans h)
      exact ⟨h.1, h.2.imp fun _ h => ⟨h.1, h.2.le le⟩⟩
  · have q : ∃ a, Value.ref L = .ref a /\ (if a = L then some x else W.μ a) = some x := ⟨L, rfl, if_pos rfl⟩
    unfold VR
    rcases hx with e | e | e <;> (rw [e]; exact q)
theorem zx8 {ρ : List Addr} {i : Nat} {a L : Addr} (h : (ρ ++ [L])[i]? = some a) : ρ[i]? = some a \/ (i = ρ.length /\ a = L) := by
  by_cases hl : i < ρ.length
  · exact .inl (by rw [List.getElem?_append_left hl] at h; exact h)
  · have hl := Nat.not_lt.mp hl
    rw [List.getElem?_append_right hl] at h
    cases q : i - ρ.length with
    | zero => rw [q] at h; exact .inr ⟨Nat.le_antisymm (Nat.sub_eq_zero_iff_le.mp q) hl, (Option.some.inj h).symm⟩
    | succ j => rw [q] at h; cases h
theorem Laid.reg {o : AO} (X : Ext [] W₀ W s₀ s) (R : Rel c W H s) (fL : s₀.heap.get? L = none) (f : Free c W L) (ho : s.heap.get? L = some ob) (z : ∀ W', Le W W' -> W'.ρ = W.ρ ++ [L] -> OR c W' o ob) (hk : newK o H k = true) : Laid c W₀ s₀ k W L s := by
  obtain ⟨hr, hk⟩ := yk4 hk
  have le : Le W { W with ρ := W.ρ ++ [L] } := ⟨fun i a h => by rw [List.getElem?_append_left (List.getElem?_eq_some_iff.mp h).1]; exact h, fun _ _ h => h, Nat.le_refl _, fun _ _ h => h⟩
  have no : ∀ a, a ≠ L -> a ∉ W.ρ -> a ∉ W.ρ ++ [L] := fun a h1 h2 h => (List.mem_append.mp h).elim h2 fun h => h1 (List.mem_singleton.mp h)
  refine ⟨_, _, { W with ρ := W.ρ ++ [L] }, hk, ⟨X.le.trans le, fun a h => (List.mem_append.mp h).elim (X.out a) fun h => .inr (List.mem_singleton.mp h ▸ fL), X.nw, fun a o h => X.kp a o fun m => h (List.mem_append_left _ m), X.al, X.gk⟩,
    ⟨by rw [List.length_append]; exact congrArg Nat.succ R.cnt, hr, ?_, ⟨R.hts.ok, R.hts.inj, R.hts.out⟩, fun i a hi => ?_, fun a y h => ?_, fun a o e => ?_, R.tok⟩, ⟨L, rfl, ?_⟩, fun a ne f => ⟨no a ne f.r, f.m, f.b⟩⟩
  · rw [List.nodup_append]
    exact ⟨R.nd, List.nodup_cons.mpr ⟨fun h => (nomatch h), List.nodup_nil⟩, fun a h b hb e => f.r (List.mem_singleton.mp hb ▸ e ▸ h)⟩
  · rcases zx8 hi with h | ⟨e, rfl⟩
    · obtain ⟨o', h1, h2⟩ := R.obj i a h
      rw [Yz R.sm, if_neg fun e => Nat.lt_irrefl _ ((e.trans R.cnt) ▸ (List.getElem?_eq_some_iff.mp h).1)]
      exact ⟨o', h1, h2.le le⟩
    · rw [Yz R.sm, if_pos (e.trans R.cnt.symm)]
      exact ⟨ob, ho, z _ le rfl⟩
  · have hf := R.frz a y h
    exact ⟨no a (fun e => nomatch (e ▸ f.m).symm.trans h) hf.1, hf.2.imp fun _ h => ⟨h.1, h.2.le le⟩⟩
  · exact ⟨(R.st a o e).1, no a (fun q => nomatch (q ▸ f.b).symm.trans e) (R.st a o e).2⟩
  · exact (congrArg _ R.cnt).trans (by rw [List.getElem?_append_right (Nat.le_refl _), Nat.sub_self]; rfl)
theorem Laid.list {m : Bool} (X : Ext [] W₀ W s₀ s) (R : Rel c W H s) (fL : s₀.heap.get? L = none) (f : Free c W L) (ho : s.heap.get? L = some (Zx vs n)) (v : VRs c W l vs) (hk : mkL m l H k = true) : Laid c W₀ s₀ k W L s := by
  cases m with
  | true => exact .reg (o := oL l) X R fL f ho (fun W' le _ => ⟨vs, n, rfl, v.le le⟩) hk
  | false => exact .frz (x := aL l) X R fL f ho (.inr (.inl rfl)) ⟨vs, n, rfl, v⟩ hk
theorem YA (R : Rel c W H s) : s.heap.get? s.heap.objs.size = none /\ Free c W s.heap.objs.size := ⟨Ya (Nat.le_refl _), R.free (Ya (Nat.le_refl _))⟩
theorem Ext.push {X : List Addr} (o : Obj) : Ext X W W s { s with heap := s.heap.push o } := .grow (fun _ _ => ZH o) (.of (Nat.le_refl _))
theorem Rel.push (R : Rel c W H s) (o : Obj) : Rel c W H { s with heap := s.heap.push o } := R.grow (fun _ _ => ZH o) (Nat.le_refl _)
theorem PG.pushL {m : Bool} (X : Ext [] W₀ W s₀ s) (R : Rel c W H s) (v : VRs c W l vs) (hk : mkL m l H k = true) (e : s' = { s with heap := s.heap.push (Zx vs 0) }) : PE c W₀ s₀ k (.ref s.heap.objs.size) s' := by
  subst e
  obtain ⟨h1, h2⟩ := YA R
  exact Laid.pe (.list (X.trans (.push _)) (R.push _) (Yt X.al h1) h2 (Heap.get?_push_size _ rfl) v hk)
theorem PG.pushF {x : AV} (X : Ext [] W₀ W s₀ s) (R : Rel c W H s) (hx : x.t = 12 \/ x.t = 13 \/ x.t = 14) (z : FZ c W x ob) (hf : ob.isFreed = false) (hk : k x H = true) (e : s' = { s with heap := s.heap.push ob }) : PE c W₀ s₀ k (.ref s.heap.objs.size) s' := by
  subst e
  obtain ⟨h1, h2⟩ := YA R
  exact Laid.pe (.frz (X.trans (.push _)) (R.push _) (Yt X.al h1) h2 (Heap.get?_push_size _ hf) hx z hk)
noncomputable abbrev evs (es : List PySem.Expr) (pos : Pos) (env : Env) : Sem (List Value) := spliced (backTo pos (starEach es env))
abbrev relL (c : Cfg) (n : Nat) : Wd -> List AV -> List Value -> Prop := fun W l vs => VRs c W l vs /\ vs.length = n
structure SimL (c : Cfg) (d : Nat) (sc : Sc) (Γ : Ctx) (es : List PySem.Expr) (code : CF) : Prop where
  len : es.length < 1000
  sim : ∀ pos, SimG c d sc Γ (evs es pos) (relL c es.length) code
theorem Zd : SimL c d sc Γ [] nilL := ⟨by decide, fun _ _ _ _ _ _ _ D hk => spliced_none (.now D.R hk ⟨rfl, rfl⟩)⟩
theorem Zb {e : PySem.Expr} {es : List PySem.Expr} {a : CE} {b : CF} (ha : SimE c d sc Γ e a) (hb : SimL c d sc Γ es b) (hl : es.length < 999 := by decide) (he : ∀ env, starEach (e :: es) env = (false, eval e env) :: starEach es env := by intro _; rfl) :
    SimL c d sc Γ (e :: es) (Ze a b) := ⟨Nat.succ_lt_succ hl, fun pos _ env _ _ _ _ D hk =>
  spliced_more (ha.use D hk fun x v _ _ _ k1 x1 D1 v1 => (hb.sim pos).use D1 k1 fun l us H2 W2 _ k2 x2 D2 v2 => ⟨x :: l, H2, W2, k2, x1.trans x2, D2.R, ⟨v, us, rfl, v1.ext x2, v2.1⟩, congrArg Nat.succ v2.2⟩) (he env)⟩
theorem few {n m : Nat} (h : n < 1000) (e : m = n) : m <= sizeLine := by rw [sizeLine_eq]; exact Nat.le_trans (Nat.le_of_lt (e ▸ h)) (by decide)
theorem ZD {m : Bool} {es : List PySem.Expr} {pos : Pos} {b : CF} (hb : SimL c d sc Γ es b) : SimE c d sc Γ (.List es pos) (Yo m b) := fun _ _ _ _ _ _ D hk =>
  wpAny_List ((hb.sim pos).use D hk fun _ _ _ _ _ k1 x1 D1 v1 => ⟨few hb.len v1.2, .pushL x1 D1.R v1.1 k1 rfl⟩)
theorem Vj {es : List PySem.Expr} {n : Nat} {pos : Pos} {b : CF} (hb : SimL c d sc Γ es b) : SimE c d sc Γ (.Tuple es n pos) (tupC b) := fun _ _ _ _ _ _ D hk =>
  wpAny_Tuple ((hb.sim pos).use D hk fun l us _ _ _ k1 x1 D1 v1 => ⟨few hb.len v1.2, .pushF (x := aT l) (ob := YX us 0) x1 D1.R (.inl rfl) ⟨us, 0, rfl, v1.1⟩ rfl k1 rfl⟩)
theorem zq2 {o : AO} {pos : Pos} (ho : ∀ {W' : Wd} {ob : Obj}, Ji (intKind c.prog c.w) ob [] -> Ji (strKind c.prog c.w) ob [] -> OR c W' o ob) : SimE c d sc Γ (.Dict [] [] pos) (fun H k => newK o H k) := fun _ _ W s _ _ D hk => by
  obtain ⟨h1, h2⟩ := YA D.R
  have hob0 : (s.heap.push { cls := .type "dict", data := .dict #[] }).get? s.heap.objs.size = some { cls := .type "dict", data := .dict #[] } := Heap.get?_push_size _ rfl
  refine wpAny_Dict_empty (Laid.pe (.reg (.push _) (D.R.push _) h1 h2 hob0 (fun W' _ _ => ho ?_ ?_) hk))
  · obtain ⟨ob, hob, es, ep, q1, q2, q3⟩ := Heap.dictOf_iff.mp (Heap.DictOf.new (knd := intKind c.prog c.w) s.heap)
    cases Option.some.inj (hob0.symm.trans hob)
    cases q2
    exact ⟨_, q1, rfl, q3⟩
  · obtain ⟨ob, hob, es, ep, q1, q2, q3⟩ := Heap.dictOf_iff.mp (Heap.DictOf.new (knd := strKind c.prog c.w) s.heap)
    cases Option.some.inj (hob0.symm.trans hob)
    cases q2
    exact ⟨_, q1, rfl, q3⟩
theorem zN2 {pos : Pos} : SimE c d sc Γ (.Dict [] [] pos) yo3 := zq2 fun h _ => ⟨[], h, rfl, rfl⟩
theorem zq1 {pos : Pos} : SimE c d sc Γ (.Dict [] [] pos) yg1 := zq2 fun _ h => ⟨[], h, rfl, rfl⟩
theorem ze5 {x : AV} {v : Value} {k : List AV -> Bool} (R : Rel c W H s) (hv : VR c W x v) (h : zi4 H x k = true) : ∃ l a vs n, v = .ref a /\ s.heap.get? a = some (Zx vs n) /\ VRs c W l vs /\ vs.length < 100000 /\ k l = true := by
  rcases ZS h with ⟨e, h⟩ | h
  · obtain ⟨a, vs, n, rfl, ho, hvs⟩ := Yi R hv e
    exact ⟨_, a, vs, n, rfl, ho, hvs, hvs.len ▸ (ZG h).1, (ZG h).2⟩
  · obtain ⟨e, h⟩ := kd_t h
    obtain ⟨e2, h⟩ := kd_t h
    obtain ⟨a, o, rfl, _, ho, vs, n, rfl, hvs⟩ := Yp R hv e e2
    exact ⟨_, a, vs, n, rfl, ho, hvs, hvs.len ▸ (ZG h).1, (ZG h).2⟩
theorem VRs.append {l m : List AV} : ∀ {vs ws : List Value}, VRs c W l vs -> VRs c W m ws -> VRs c W (app l m) (vs ++ ws) := by
  induction l with
  | nil => intro vs ws h hw; cases h; exact hw
  | cons y l ih => rintro vs ws ⟨v, r, rfl, hv, h⟩ hw; exact ⟨v, _, rfl, hv, ih h hw⟩
theorem XH {a b : Nat} (h1 : a < 100000) (h2 : b < 100000) : a + b <= sizeLine := by rw [sizeLine_eq]; exact Nat.le_trans (Nat.add_le_add (Nat.le_of_lt h1) (Nat.le_of_lt h2)) (by decide)
theorem ZZ {a : Nat} (h1 : a < 100000) : a <= sizeLine := XH (b := 0) h1 (by decide)
theorem zC6 : zp4 c d .Add addL := fun {_ _ _ _ _ _ _ _ _} _ R hu hv hk => by
  obtain ⟨a, p, vs, n, rfl, ho, hvs, h1, hk⟩ := ze5 R hu hk
  obtain ⟨b, q, ws, n2, rfl, ho2, hws, h2, hk⟩ := ze5 R hv hk
  have hsz : vs.toArray.size + ws.toArray.size <= sizeLine := XH h1 h2
  refine concat_meets ⟨_, ho, rfl⟩ ⟨_, ho2, rfl⟩ noFill_list_add seq_list_add PySem.F.slot_list_add PySem.F.entry_list_add (PySem.F.args_list_add_2 _ _) (list_addW p q vs.toArray ws.toArray n n2 none none #[] #[] hsz) ⟨ho, ho2, ?_⟩
  rw [show vs.toArray ++ ws.toArray = (vs ++ ws).toArray from List.append_toArray ..]
  exact .pushL (.refl _ _) R (hvs.append hws) hk rfl
theorem zB7 (l : List Value) (n : Nat) : (List.foldl (fun x1 x2 => x1 ++ x2) (#[] : Array Value) (List.replicate n l.toArray)) = (repL n l).toArray := by
  have : ∀ (n : Nat) (acc : Array Value), List.foldl (fun x1 x2 => x1 ++ x2) acc (List.replicate n l.toArray) = acc ++ (repL n l).toArray := by
    intro n
    induction n with
    | zero => intro acc; exact (Array.append_empty).symm
    | succ n ih => intro acc; rw [List.replicate_succ, List.foldl_cons, ih, Array.append_assoc, show repL (n + 1) l = app l (repL n l) from rfl, ZM, List.append_toArray l]
  rw [this, Array.empty_append]
theorem zq8 (n : Nat) : repL n ([] : List Value) = [] := by
  induction n with
  | zero => rfl
  | succ n ih => exact ih
theorem VRs.rep (r : VRs c W l vs) : ∀ n : Nat, VRs c W (repL n l) (repL n vs) := by
  intro n
  induction n with
  | zero => rfl
  | succ n ih => show VRs c W (app l _) (app vs _); rw [ZM vs]; exact r.append ih
theorem yd0 {a n : Nat} (h1 : a < 100000) (h2 : n < 100) : a * n <= sizeLine := by rw [sizeLine_eq]; exact Nat.le_trans (Nat.mul_le_mul (Nat.le_of_lt h1) (Nat.le_of_lt h2)) (by decide)
theorem zA9 {m : Bool} {es : List PySem.Expr} {r : PySem.Expr} {pos lp : Pos} {a : CF} {b : CE} (ha : SimL c d sc Γ es a) (hb : SimE c d sc Γ r b) : SimE c d sc Γ (.BinOp (.List es lp) .Mult r pos) (mulC m a b) := fun A env W s H k D hk => by
  refine wpAny_BinOp ((ZD (m := false) (b := fun H k => a H fun l H1 => k l H1) ha).use (k := fun x H1 => kd x.t 13 (b H1 fun y H2 => mulL m x.l y H2 k)) D hk fun x u H1 W1 s1 k1 x1 D1 v1 => ?_)
  obtain ⟨e, k1⟩ := kd_t k1
  refine hb.use D1 k1 fun y v H2 W2 s2 k2 x2 D2 v2 => ?_
  obtain ⟨p, vs, q, rfl, ho, hvs⟩ := Yi D2.R (v1.ext x2) e
  obtain ⟨e2, k2⟩ := kd_t k2
  obtain ⟨t, rfl⟩ := v2.at e2
  obtain ⟨n, hn, k2⟩ := ZO k2
  obtain ⟨h1, k2⟩ := gd_t k2
  obtain ⟨h2, k2⟩ := ZG k2
  have h1 : n < 100 := Nat.blt_eq.mp h1
  rw [<- hvs.len] at h2
  have hn' : y.i.toNat = n := congrArg Int.toNat hn
  have hz : vs.toArray.size * y.i.toNat <= sizeLine := hn' ▸ yd0 h2 h1
  have e3 : (List.foldl (fun x1 x2 => x1 ++ x2) (#[] : Array Value) (List.replicate (if vs.toArray.isEmpty = true then 0 else y.i.toNat) vs.toArray)) = (repL n vs).toArray := by
    rw [zB7, hn']
    cases vs with
    | nil => rw [zq8, zq8]
    | cons v vs => rfl
  have g1 : ¬(!Builtin.List.listFitsIndex y.i) = true := by
    have : Builtin.List.listFitsIndex y.i = true := by rw [hn]; simp [Builtin.List.listFitsIndex]; omega
    rw [this]; decide
  have g2 : ¬ vs.toArray.size * y.i.toNat > (2 ^ 63 - 1) / 8 := Nat.not_lt.mpr (Nat.le_trans hz (by rw [sizeLine_eq]; decide))
  have g3 : ¬ Builtin.List.listTooLong (vs.toArray.size * y.i.toNat) = true := fun h => absurd (of_decide_eq_true h) (Nat.not_lt.mpr hz)
  refine wpAny_binaryOp_repeat_ref (T := "list") (U := "int") (by decide) ⟨_, ho, rfl⟩ (fun s' => typeIs_int s' y.i t) noFill_list_mul PySem.F.fills_int_mul PySem.F.slot_int_rmul repeat_list PySem.F.slot_int_index.lookup
    (call_meets PySem.F.slot_int_rmul (typeIs_int s2 y.i t) PySem.F.entry_int_rmul (PySem.F.args_int_rmul_2 _ _) (int___rmul___int_list y.i t p vs.toArray q)
      ⟨ho, rfl, ⟨_, ho, rfl⟩, call_meets PySem.F.slot_list_mul ⟨_, ho, rfl⟩ PySem.F.entry_list_mul (PySem.F.args_list_mul_2 _ _) (AutoListH.list___mul___list_int_3 p vs.toArray q y.i t g1 g2 g3) ⟨ho, ?_⟩⟩)
  rw [e3]
  exact .pushL (x1.trans x2) D2.R (hvs.rep n) k2 rfl
theorem zA0 {A : Around} {env : Env} {Q : Unit -> Shared -> Prop} {E : Value -> Shared -> Prop} (xs : List (Str × Pos)) : ∀ {avs : List AV} {vs : List Value} {Γ : Ctx} {s : Shared}, Rdy c d sc Γ A env W s H -> VRs c W avs vs -> xs.length = avs.length -> (∀ p ∈ xs, Zr sc p.1 = true) ->
    (∀ s' X, (∀ a ∈ X, ∃ p ∈ xs, VG env p.1 a) -> Ext X W W s s' -> Rdy c d sc (((xs.map (·.1)).zip avs).reverse ++ Γ) A env W s' H -> Q () s') -> wpAny c.M A (assignInOrder (xs.map fun p => assign (.Name p.1 p.2) env) vs) Q E s := by
  induction xs with
  | nil => exact fun D _ _ _ q => assignInOrder_nil (q _ [] (fun _ h => (nomatch h)) (.refl _ _) D)
  | cons p xs ih =>
    intro avs vs Γ s D hv hl hst q
    cases avs with
    | nil => cases hl
    | cons a avs =>
      obtain ⟨v, t, rfl, hv, ht⟩ := hv
      refine assignInOrder_cons (wpAny_assign_Name (zc4 D hv (hst p (List.mem_cons_self ..)) fun s1 b hb x1 D1 => ih D1 ht (Nat.succ.inj hl) (fun q hq => hst q (List.mem_cons_of_mem _ hq)) fun s2 X hX x2 D2 =>
        q s2 (b :: X) (fun a ha => ?_) ((x1.mono (zC2 (List.mem_cons_self ..))).trans (x2.mono fun _ => List.mem_cons_of_mem _)) ?_))
      · rcases List.mem_cons.mp ha with rfl | ha
        · exact ⟨p, List.mem_cons_self .., hb⟩
        · exact (hX a ha).imp fun r h => ⟨List.mem_cons_of_mem _ h.1, h.2⟩
      · rw [List.map_cons, List.zip_cons_cons, List.reverse_cons, List.append_assoc]
        exact D2
noncomputable abbrev tgts (xs : List (Str × Pos)) : List PySem.Expr := xs.map fun p => .Name p.1 p.2
theorem zy8 {A : Around} {env : Env} {xs : List (Str × Pos)} {l : List AV} {vs : List Value} {a : Addr} {n k : Nat} {tp : Pos} {Q : Unit -> Shared -> Prop} {E : Value -> Shared -> Prop} (D : Rdy c d sc Γ A env W s H) (ho : s.heap.get? a = some (YX vs n)) (hvs : VRs c W l vs) (hl : xs.length = l.length) (hst : ∀ p ∈ xs, Zr sc p.1 = true)
    (he : assignEach (tgts xs) env = xs.map fun p => (false, assign (.Name p.1 p.2) env)) (q : ∀ s' X, (∀ a ∈ X, ∃ p ∈ xs, VG env p.1 a) -> Ext X W W s s' -> Rdy c d sc (((xs.map (·.1)).zip l).reverse ++ Γ) A env W s' H -> Q () s') : wpAny c.M A (assign (.Tuple (tgts xs) k tp) env (.ref a)) Q E s := by
  refine wpAny_assign_Tuple D.hA.hd ⟨_, ho, rfl, n, rfl⟩ (by rw [he, List.length_map, List.size_toArray, hvs.len]; exact hl) ?_ fun h' hx => ?_
  · rw [he, List.findIdx?_eq_none_iff]
    intro y hy
    obtain ⟨p, _, rfl⟩ := List.mem_map.mp hy
    rfl
  · rw [he, List.map_map]
    have X : ∀ {X}, Ext X W W s { s with heap := h' } := fun {X} => .grow (fun b o e => hx b o (Nat.ne_of_lt (Heap.lt_size e)) e) (.of (Nat.le_refl _))
    exact zA0 xs ⟨D.hA, D.hs, D.F.ext X, D.R.grow (fun b o e => hx b o (Nat.ne_of_lt (Heap.lt_size e)) e) (Nat.le_refl _)⟩ hvs hl hst fun s2 Y hY X2 D2 => q s2 Y hY (X.trans X2) D2
theorem zU0 {A : Around} {env : Env} {xs : List (Str × Pos)} {x : AV} {v : Value} {k : Nat} {tp : Pos} {Q : Unit -> Shared -> Prop} {E : Value -> Shared -> Prop} (D : Rdy c d sc Γ A env W s H) (hv : VR c W x v) (e : x.t = 12) (hl : xs.length = x.l.length) (hst : ∀ p ∈ xs, Zr sc p.1 = true)
    (he : assignEach (tgts xs) env = xs.map fun p => (false, assign (.Name p.1 p.2) env)) (q : ∀ s' X, (∀ a ∈ X, ∃ p ∈ xs, VG env p.1 a) -> Ext X W W s s' -> Rdy c d sc (((xs.map (·.1)).zip x.l).reverse ++ Γ) A env W s' H -> Q () s') : wpAny c.M A (assign (.Tuple (tgts xs) k tp) env v) Q E s := by
  obtain ⟨a, vs, n, rfl, ho, hvs⟩ := XI D.R hv e
  exact zy8 D ho hvs hl hst he q
theorem zu1 {A : Around} {env : Env} {xs : List (Str × Pos)} {x : AV} {v : Value} {k : Nat} {tp : Pos} {Q : Unit -> Shared -> Prop} {E : Value -> Shared -> Prop} (D : Rdy c d sc Γ A env W s H) (hv : VR c W x v) (e : x.t = 12) (hl : xs.length = x.l.length) (hst : ∀ p ∈ xs, Zr sc p.1 = true)
    (he : assignEach (tgts xs) env = xs.map fun p => (false, assign (.Name p.1 p.2) env)) (q : ∀ s', Ext (ownA env) W W s s' -> Rdy c d sc (((xs.map (·.1)).zip x.l).reverse ++ Γ) A env W s' H -> Q () s') : wpAny c.M A (assign (.Tuple (tgts xs) k tp) env v) Q E s :=
  zU0 D hv e hl hst he fun s' _ hX X => q s' (X.mono fun a ha => (hX a ha).elim fun _ h => h.2.own)
theorem mem3 {α : Type} {P : α -> Prop} {x y z : α} (hx : P x) (hy : P y) (hz : P z) : ∀ p ∈ [x, y, z], P p := fun p hp => by
  rcases List.mem_cons.mp hp with rfl | hp
  · exact hx
  · rcases List.mem_cons.mp hp with rfl | hp
    · exact hy
    · rw [List.mem_singleton.mp hp]; exact hz
theorem zc6 {x y z : Str} {p1 p2 p3 tp pos : Pos} {k : Nat} {e : PySem.Expr} {a : CE} (ha : SimE c d sc Γ e a) (hx : Zr sc x = true) (hy : Zr sc y = true) (hz : Zr sc z = true)
    (hs : ∀ env, swapsWithSole [.Tuple [.Name x p1, .Name y p2, .Name z p3] k tp] e pos.line env = pure false := by intro _; rfl)
    (hw : ∀ env, swappedStores [.Tuple [.Name x p1, .Name y p2, .Name z p3] k tp] e env = pure none := by intro _; rfl) :
    Sim1 c d sc Γ (.Assign [.Tuple [.Name x p1, .Name y p2, .Name z p3] k tp] e pos) (fun r : AV × AV × AV => (z, r.2.2) :: (y, r.2.1) :: (x, r.1) :: Γ) (unp3 a) := fun A env _ _ _ _ _ D hk => by
  refine Assign_Tuple (ha.use D hk fun av v _ _ _ k1 x1 D1 v1 => ?_) (hs env) (hw env)
  obtain ⟨e, k1⟩ := kd_t k1
  obtain ⟨u, r, e1, k1⟩ := JK k1
  obtain ⟨v', w, rfl, k1⟩ := Vz k1
  refine zu1 (xs := [(x, p1), (y, p2), (z, p3)]) D1 v1 e (by rw [e1]; rfl) (mem3 hx hy hz) rfl fun s2 X2 D2 => .next (u, v', w) _ _ k1 (x1.any.trans X2) D2.R ?_
  have F2 := D2.F
  rw [e1] at F2
  exact F2
end
noncomputable def relK (sc ns : Sc) : Sc := ns.map fun (n, k) => if (k == .free && sc.lookup n == some .cell) then (n, .cell) else (n, k)
theorem Vv {scope : Scope} {env : Env} {sc : Sc} (hk : env.scope.kind = .function) (hs : env.scope.names = sc) : (relabel scope env).names = relK sc scope.names := by
  unfold relabel relK
  simp only [hk, hs, Env.kindOf]
  congr 1
  funext x
  obtain ⟨n, k⟩ := x
  simp
noncomputable def zt0 (sc ns : Sc) : Bool := ns.all fun p => p.2 != .free || sc.lookup p.1 == some .cell
noncomputable def zb3 (l : List Str) : Bool := List.rec (motive := fun _ => Bool) true (fun x l ih => !(l.contains x) && ih) l
theorem Yf {l : List Str} (h : zb3 l = true) : l.Nodup := by
  induction l with
  | nil => exact List.nodup_nil
  | cons x l ih =>
    obtain ⟨h1, h2⟩ := Bool.and_eq_true_iff.mp (show (!(l.contains x) && zb3 l) = true from h)
    exact List.nodup_cons.mpr ⟨by simpa using h1, ih h2⟩
theorem Yl {α : Type} {cs : List (Str × α)} {n : Str} {c : α} (hnd : (cs.map (·.1)).Nodup) (hm : (n, c) ∈ cs) : cs.lookup n = some c := by
  induction cs with
  | nil => cases hm
  | cons p cs ih =>
    rw [List.map_cons, List.nodup_cons] at hnd
    rcases List.mem_cons.mp hm with rfl | hm
    · exact List.lookup_cons_self
    · rw [List.lookup_cons, beq_eq_false_iff_ne.mpr fun (e : n = p.1) => hnd.1 (show p.1 ∈ cs.map (·.1) from e ▸ (List.mem_map_of_mem (f := (·.1)) hm : n ∈ cs.map (·.1)))]
      exact ih hnd.2 hm
structure Clos (names : List (Str × NameKind)) (env : Env) (cl : List (Str × Addr)) : Prop where
  q : ∀ q ∈ cl, env.cells.lookup q.1 = some q.2 /\ (q.1, .free) ∈ names
  l : ∀ x, (x, .free) ∈ names -> ∃ a, (x, a) ∈ cl /\ env.cells.lookup x = some a
  n : (cl.map (·.1)).Nodup
theorem Clos.look {names : List (Str × NameKind)} {env : Env} {cl : List (Str × Addr)} (C : Clos names env cl) {x : Str} (h : (x, NameKind.free) ∈ names) : cl.lookup x = env.cells.lookup x := let ⟨_, h1, h2⟩ := C.l x h; (Yl C.n h1).trans h2.symm
theorem zo6 {env : Env} (names : List (Str × NameKind)) : ∀ (done : List (Str × NameKind)) (acc : List (Str × Addr)), ((names ++ done).map (·.1)).Nodup -> Clos done env acc -> (∀ p ∈ names, p.2 = .free -> ∃ a, env.cells.lookup p.1 = some a) ->
    ∃ cl, (forIn names acc fun (x : Str × NameKind) (r : List (Str × Addr)) => if (x.2 == .free) = true then (do let a <- cellOf env x.1; pure (ForInStep.yield ((x.1, a) :: r))) else pure (ForInStep.yield r) : Sem _) = pure cl /\ Clos (names.reverse ++ done) env cl := by
  induction names with
  | nil => exact fun done acc _ C _ => ⟨acc, rfl, C⟩
  | cons p names ih =>
    obtain ⟨n, k⟩ := p
    intro done acc hn C h
    have hp : ((names ++ (n, k) :: done).map (·.1)).Nodup := ((List.Perm.map _ List.perm_middle).nodup_iff).mpr hn
    have hnd : ∀ a, (n, a) ∉ done := fun a hm => by
      rw [List.cons_append, List.map_cons, List.nodup_cons] at hn
      exact hn.1 (List.mem_map_of_mem (f := (·.1)) (List.mem_append_right names hm))
    have e : ((n, k) :: names).reverse ++ done = names.reverse ++ (n, k) :: done := by rw [List.reverse_cons, List.append_assoc]; rfl
    rw [e, List.forIn_cons]
    by_cases hk : k = .free
    · subst hk
      obtain ⟨a, ha⟩ := h (n, .free) (List.mem_cons_self ..) rfl
      have C' : Clos ((n, .free) :: done) env ((n, a) :: acc) := ⟨fun q hq => ?_, fun x hx => ?_, ?_⟩
      · obtain ⟨cl, h1, h2⟩ := ih _ _ hp C' fun p hp => h p (List.mem_cons_of_mem _ hp)
        refine ⟨cl, ?_, h2⟩
        rw [<- h1]
        simp only [cellOf, ha, beq_self_eq_true, if_true]
        rfl
      · rcases List.mem_cons.mp hq with rfl | hq
        · exact ⟨ha, List.mem_cons_self ..⟩
        · exact ⟨(C.q q hq).1, List.mem_cons_of_mem _ (C.q q hq).2⟩
      · rcases List.mem_cons.mp hx with e | hx
        · cases e; exact ⟨a, List.mem_cons_self .., ha⟩
        · obtain ⟨b, h1, h2⟩ := C.l x hx
          exact ⟨b, List.mem_cons_of_mem _ h1, h2⟩
      · rw [List.map_cons, List.nodup_cons]
        refine ⟨fun hm => ?_, C.n⟩
        obtain ⟨q, hq, e⟩ := List.mem_map.mp hm
        exact hnd _ ((show q.1 = n from e) ▸ (C.q q hq).2)
    · have hb : ¬ (k == NameKind.free) = true := fun q => hk (beq_iff_eq.mp q)
      have C' : Clos ((n, k) :: done) env acc := ⟨fun q hq => ⟨(C.q q hq).1, List.mem_cons_of_mem _ (C.q q hq).2⟩, fun x hx => (List.mem_cons.mp hx).elim (fun e => absurd (congrArg Prod.snd e).symm hk) (C.l x), C.n⟩
      obtain ⟨cl, h1, h2⟩ := ih _ _ hp C' fun p hp => h p (List.mem_cons_of_mem _ hp)
      refine ⟨cl, ?_, h2⟩
      rw [<- h1, if_neg hb]
      rfl
theorem JO {scope : Scope} {env : Env} (h : ∀ p ∈ scope.names, p.2 = .free -> ∃ a, env.cells.lookup p.1 = some a) (hnd : (scope.names.map (·.1)).Nodup) : ∃ cl, closureFor scope env = pure cl /\ Clos scope.names env cl := by
  obtain ⟨cl, h1, h2⟩ := zo6 (env := env) scope.names [] [] (by rw [List.append_nil]; exact hnd) ⟨fun _ h => (nomatch h), fun _ h => (nomatch h), List.nodup_nil⟩ h
  rw [List.append_nil] at h2
  refine ⟨cl, ?_, fun q hq => ⟨(h2.q q hq).1, List.mem_reverse.mp (h2.q q hq).2⟩, fun x hx => h2.l x (List.mem_reverse.mpr hx), h2.n⟩
  unfold closureFor
  exact (congrArg (fun t : Sem (List (Str × Addr)) => t >>= fun s => pure s) h1).trans rfl
structure yt5 (h' : Heap) (n : Nat) (names : List (Str × NameKind)) (acc cs : List (Str × Addr)) : Prop where
  at' : ∀ q ∈ cs, q ∈ acc \/ (h'.IsCell q.2 none /\ n <= q.2 /\ (q.1, .cell) ∈ names)
  ap : cs.Pairwise (fun x y => x.2 ≠ y.2)
  no : ∀ x, (x, .cell) ∉ names -> cs.lookup x = acc.lookup x
  yes : ∀ x, (acc.lookup x).isSome \/ (x, .cell) ∈ names -> ∃ a, cs.lookup x = some a
theorem zb8 (names : List (Str × NameKind)) : ∀ (h : Heap) (acc : List (Str × Addr)), (∀ q ∈ acc, q.2 < h.objs.size) -> acc.Pairwise (fun x y => x.2 ≠ y.2) -> yt5 (pushCells h names) h.objs.size names acc (cellsFrom h.objs.size names acc) := by
  induction names with
  | nil => exact fun h acc hlt hp => ⟨fun q hq => .inl hq, hp, fun _ _ => rfl, fun x hx => hx.elim Option.isSome_iff_exists.mp fun hx => nomatch hx⟩
  | cons p r ih =>
    obtain ⟨n, k⟩ := p
    intro h acc hlt hp
    unfold cellsFrom pushCells
    by_cases hk : k = .cell
    · subst hk
      rw [if_pos (beq_self_eq_true _), if_pos (beq_self_eq_true _)]
      have Z := ih (h.push { cls := .type "cell", data := .cell none }) ((n, h.objs.size) :: acc) (fun q hq => by
        rw [Heap.size_push]
        rcases List.mem_cons.mp hq with rfl | hq
        · exact Nat.lt_succ_self _
        · exact Nat.lt_succ_of_lt (hlt q hq)) (.cons (fun q hq e => Nat.lt_irrefl _ (Nat.lt_of_lt_of_eq (hlt q hq) e)) hp)
      rw [Heap.size_push] at Z
      refine ⟨fun q hq => ?_, Z.ap, fun x hx => ?_, fun x hx => Z.yes x ?_⟩
      · rcases Z.at' q hq with h | ⟨h, h', h''⟩
        · rcases List.mem_cons.mp h with rfl | h
          · exact .inr ⟨⟨_, pushCells_keeps r _ _ _ (Heap.get?_push_size _ rfl), rfl⟩, Nat.le_refl _, List.mem_cons_self ..⟩
          · exact .inl h
        · exact .inr ⟨h, Nat.le_of_succ_le h', List.mem_cons_of_mem _ h''⟩
      · rw [Z.no x fun hm => hx (List.mem_cons_of_mem _ hm), List.lookup_cons, beq_eq_false_iff_ne.mpr (fun (e : x = n) => hx (by rw [e]; exact List.mem_cons_self ..))]
      · rcases hx with hx | hx
        · left
          rw [List.lookup_cons]
          split
          · rfl
          · exact hx
        · rcases List.mem_cons.mp hx with e | hx
          · cases e; exact .inl (by rw [List.lookup_cons_self]; rfl)
          · exact .inr hx
    · rw [if_neg fun q => hk (beq_iff_eq.mp q), if_neg fun q => hk (beq_iff_eq.mp q)]
      have Z := ih h acc hlt hp
      refine ⟨fun q hq => (Z.at' q hq).imp id fun h => ⟨h.1, h.2.1, List.mem_cons_of_mem _ h.2.2⟩, Z.ap, fun x hx => Z.no x fun hm => hx (List.mem_cons_of_mem _ hm), fun x hx => Z.yes x (hx.imp id fun hx => (List.mem_cons.mp hx).elim (fun e => absurd (congrArg Prod.snd e).symm hk) id)⟩
theorem zd9 {M : Model} {A : Around} {E : Value -> Shared -> Prop} {s : Shared} {scope : Scope} {globals : Addr} {cl : List (Str × Addr)} {qual : Str} {env : Env} {Q : Env -> Shared -> Prop}
    (hQ : Q (newEnv scope s.heap.objs.size globals (cellsFrom (s.heap.objs.size + 1) scope.names cl) qual none .none (some env) builtinsNs) { s with heap := pushCells (s.heap.push { cls := .type "dict", data := .dict #[] }) scope.names }) :
    wpAny M A (newFunctionEnv scope globals cl [] qual none .none (some env)) Q E s := by
  simp only [newFunctionEnv, Option.isSome_some, if_true]
  refine wpAny_bind (wpAny_alloc ?_)
  refine wpAny_bind (wpAny_layCells _ (fun name kind cells => by cases hkc : kind == NameKind.cell <;> simp [hkc]) _ _ _ _ ?_)
  rw [List.forIn_nil, show ({ s with heap := s.heap.push { cls := .type "dict", data := .dict #[] } } : Shared).heap.objs.size = s.heap.objs.size + 1 from Heap.size_push ..]
  exact wpAny_bind (wpAny_pure (wpAny_pure hQ))
section
variable {c : Cfg} {d : Nat} {sc : Sc} {Γ : Ctx} {W : Wd} {H : AH} {s : Shared} {env : Env}
theorem JB {ns : Sc} {y : Str} : (relK sc ns).lookup y = (ns.lookup y).map fun k => if (k == .free && sc.lookup y == some .cell) then NameKind.cell else k := by
  induction ns with
  | nil => rfl
  | cons p r ih =>
    obtain ⟨n, k⟩ := p
    have e : relK sc ((n, k) :: r) = (n, if (k == NameKind.free && sc.lookup n == some NameKind.cell) = true then NameKind.cell else k) :: relK sc r := by
      show (if (k == NameKind.free && sc.lookup n == some NameKind.cell) = true then (n, NameKind.cell) else (n, k)) :: relK sc r = _
      split <;> rfl
    rw [e, List.lookup_cons, List.lookup_cons]
    by_cases hy : y = n
    · rw [hy, beq_self_eq_true]; rfl
    · rw [beq_eq_false_iff_ne.mpr hy]; exact ih
theorem YU {y : Str} {k : NameKind} (hs : env.scope.names = sc) (h : sc.lookup y = some k) : env.kindOf y = some k := by subst hs; exact h
structure XE (sc : Sc) (Γ : Ctx) (scope : Scope) (Γi : Ctx) : Prop where
  kind : scope.kind = .function
  free : zt0 sc scope.names = true
  nod : zb3 (scope.names.map (·.1)) = true
  dot : (scope.names.lookup (".0" : Str)).isSome = true
  ctx : ∀ y av, Γi.lookup y = some av -> Γ.lookup y = some av /\ scope.names.lookup y = some .free
noncomputable abbrev Vo (scope : Scope) (C : Addr) (cells : List (Str × Addr)) (env : Env) : Env := { newEnv scope C env.globals cells env.qual none .none (some env) builtinsNs with scope := relabel scope env }
theorem XE.fr {scope : Scope} {Γi : Ctx} (K : XE sc Γ scope Γi) {y : Str} (hy : (y, NameKind.free) ∈ scope.names) : sc.lookup y = some .cell := by
  have := List.all_eq_true.mp K.free _ hy
  simpa using this
noncomputable abbrev zI1 (s : Shared) (scope : Scope) : Shared := { s with heap := pushCells (s.heap.push { cls := .type "dict", data := .dict #[] }) scope.names }
theorem Yw {scope : Scope} (a : Addr) (o : Obj) (e : s.heap.get? a = some o) : (zI1 s scope).heap.get? a = some o := pushCells_keeps scope.names _ a o (ZH _ e)
theorem zw6 {scope : Scope} {Γi : Ctx} {cl : List (Str × Addr)} (K : XE sc Γ scope Γi) (F : FrR c W s env Γ) (R : Rel c W H s) (hs : env.scope.names = sc) (C : Clos scope.names env cl) :
    FrR c W (zI1 s scope) (Vo scope s.heap.objs.size (cellsFrom (s.heap.objs.size + 1) scope.names cl) env) Γi /\
      (∀ x a, Zr scope.names x = true -> VG (Vo scope s.heap.objs.size (cellsFrom (s.heap.objs.size + 1) scope.names cl) env) x a -> s.heap.objs.size <= a) /\
      ∀ a ∈ ownA (Vo scope s.heap.objs.size (cellsFrom (s.heap.objs.size + 1) scope.names cl) env), s.heap.objs.size <= a \/ a ∈ ownA env := by
  have hnd := Yf K.nod
  have pcl : cl.Pairwise fun x y => x.2 ≠ y.2 := by
    have hn := C.n
    rw [List.Nodup, List.pairwise_map] at hn
    exact List.Pairwise.imp_of_mem (fun {p q} hp hq' hne e => hne (name_of_addr F.apart (mem_of_lookup (C.q p hp).1) (e ▸ mem_of_lookup (C.q q hq').1))) hn
  have Z := zb8 scope.names (s.heap.push { cls := .type "dict", data := .dict #[] }) cl (fun q hm => by
    obtain ⟨_, _, _, _, o, ho, _⟩ := F.cellAt _ (mem_of_lookup (C.q q hm).1)
    rw [Heap.size_push]
    exact Nat.lt_succ_of_lt (Heap.lt_size ho)) pcl
  rw [Heap.size_push] at Z
  obtain ⟨hN, hfree⟩ := YA R
  have kd : ∀ y, (Vo scope s.heap.objs.size (cellsFrom (s.heap.objs.size + 1) scope.names cl) env).kindOf y = (scope.names.lookup y).map fun k => if (k == .free && sc.lookup y == some .cell) then NameKind.cell else k := fun y => by
    rw [<- JB, <- Vv F.kind hs]; rfl
  have kf : ∀ {y}, scope.names.lookup y = some .free -> (Vo scope s.heap.objs.size (cellsFrom (s.heap.objs.size + 1) scope.names cl) env).kindOf y = some .cell := fun {y} h => by
    rw [kd, h, K.fr (mem_of_lookup h)]; rfl
  refine ⟨⟨K.kind, F.glob, F.blt, hfree, ⟨fun _ => none, (Heap.Ns.new s.heap (.type "dict")).keeps (pushCells_keeps _ _), fun y av h1 h2 => ?_⟩, fun y av h1 _ => ?_, fun y h1 => ?_, fun p hp => ?_, Z.ap, fun hsc h0 => ?_⟩, fun x a hx h => ?_, fun a h => ?_⟩
  · exact nomatch (kf (K.ctx y av h1).2).symm.trans h2
  · obtain ⟨h2, h3⟩ := K.ctx y av h1
    have h4 := K.fr (mem_of_lookup h3)
    obtain ⟨_, a, v, h6, h7, h9⟩ := F.cells y av h2 fun q => nomatch (YU hs h4).symm.trans q
    refine ⟨.inl (kf h3), a, v, ?_, IsCell.move h7 fun o => Yw a o, h9⟩
    exact (Z.no y fun hm => nomatch h3.symm.trans (Yl hnd hm)).trans ((C.look (mem_of_lookup h3)).trans h6)
  · cases hy : scope.names.lookup y with
    | none => rw [kd, hy] at h1; cases h1
    | some k =>
      by_cases hk : k = .free
      · subst hk
        obtain ⟨a, _, ha⟩ := C.l y (mem_of_lookup hy)
        exact Z.yes y (.inl (by rw [C.look (mem_of_lookup hy), ha]; rfl))
      · rw [kd, hy] at h1
        have hb : (k == NameKind.free) = false := beq_eq_false_iff_ne.mpr hk
        rw [Option.map_some, hb] at h1
        cases h1
        exact Z.yes y (.inr (mem_of_lookup hy))
  · rcases Z.at' p hp with hp | ⟨h1, h2, _⟩
    · obtain ⟨h1, h2, h3, u, h4⟩ := F.cellAt _ (mem_of_lookup (C.q p hp).1)
      exact ⟨h1, h2, fun _ => h3 fun q => (nomatch (YU hs (K.fr (C.q p hp).2)).symm.trans q), u, IsCell.move h4 fun o => Yw p.2 o⟩
    · have f := R.free (Ya (Nat.le_of_succ_le h2))
      exact ⟨f.r, f.m, fun _ => f.b, none, h1⟩
  · have hd := K.dot
    have := kd (".0" : Str)
    rw [show (Vo scope s.heap.objs.size (cellsFrom (s.heap.objs.size + 1) scope.names cl) env).kindOf (".0" : Str) = c.ps.lookup (".0" : Str) from hsc ▸ rfl, h0] at this
    cases hl0 : scope.names.lookup (".0" : Str) with
    | none => rw [hl0] at hd; cases hd
    | some k => rw [hl0] at this; cases this
  · rcases h with ⟨_, rfl⟩ | ⟨h1, h2⟩
    · exact Nat.le_refl _
    · rcases Z.at' _ (mem_of_lookup h2) with hm | ⟨_, h3, _⟩
      · have e := Yl hnd (C.q _ hm).2
        rcases YC hx with h | h <;> exact nomatch h.symm.trans e
      · exact Nat.le_of_succ_le h3
  · rcases List.mem_cons.mp h with rfl | h
    · exact .inl (Nat.le_refl _)
    · obtain ⟨p, hp, rfl⟩ := List.mem_map.mp h
      rcases Z.at' p hp with hm | ⟨_, h3, _⟩
      · exact .inr (List.mem_cons_of_mem _ (List.mem_map_of_mem (f := (·.2)) (mem_of_lookup (C.q p hm).1)))
      · exact .inl (Nat.le_of_succ_le h3)
end
section
variable {c : Cfg} {d : Nat} {sc : Sc} {Γ Γi : Ctx} {τ : Type}
noncomputable abbrev tsts (ifs : List PySem.Expr) (env : Env) : Sem Bool := forIn ifs true fun c r => if r = true then do let ok <- isTrue c env (eval c env); pure (ForInStep.yield ok) else pure (ForInStep.yield r)
abbrev SimI (c : Cfg) (d : Nat) (sc : Sc) (Γ : Ctx) (ifs : List PySem.Expr) (code : CT) : Prop := SimG c d sc Γ (tsts ifs) isB code
theorem YQ : SimI c d sc Γ [] yesT := fun _ _ _ _ _ _ D hk => wpAny_pure (.now D.R hk rfl)
theorem Jn {e : PySem.Expr} {t : CT} (ht : SimT c d sc Γ e t) : SimI c d sc Γ [e] t := fun _ _ _ _ _ _ D hk => by
  show wpAny _ _ (forIn [e] true _) _ _ _
  rw [List.forIn_cons, if_pos rfl]
  exact wpAny_bind (wpAny_bind (ht.use D hk fun _ _ _ _ _ k1 x1 D1 v1 => wpAny_pure (wpAny_pure ⟨_, _, _, k1, x1, D1.R, v1⟩)))
theorem zI0 {elt target iter : PySem.Expr} {ifs : List PySem.Expr} {scope : Scope} {pos : Pos} {it acc : Value} {env : Env} {A : Around} {R : Result -> Shared -> Prop} (I : Nat -> Shared -> Prop)
    (turn : ∀ n s, I n s -> wpAny c.M A (pyNext it) (fun r s₁ => match r with
      | none => R (.ok .next) s₁
      | some v => wpAny c.M A (letOwnedTupleGo target it v) (fun _ s₂ => wpAny c.M A (assign target env v) (fun _ s₃ => wpAny c.M A (tsts ifs env) (fun ok s₄ =>
            if ok = true then wpAny c.M A (eval elt env) (fun x s₅ => wpAny c.M A (call (.builtin "list.append") [acc, x]) (fun _ s₆ => ∃ m, m < n /\ I m s₆) NoE s₅) NoE s₄
            else ∃ m, m < n /\ I m s₄) NoE s₃) NoE s₂) NoE s₁) NoE s) {n : Nat} {s : Shared} (h : I n s) :
    codeAny c.M A (.compLoop (.ListComp elt [⟨target, iter, ifs, 0⟩] scope pos) 0 it acc env) R s := by
  refine codeAny_loop rfl I (fun n s hI => ?_) n h
  show wpAny _ A ((compTurn (.ListComp elt [⟨target, iter, ifs, 0⟩] scope pos) 0 it acc env).onRaise (fun x => do noteFrame x env; theTreesLotGoes x)) _ _ s
  refine wpAny_noted ?_
  rw [compTurn_list]
  refine wpAny_bind (wpAny_standAt (wpAny_bind (wpAny_mono (turn n s hI) (fun r s₁ h₁ => ?_) noe)))
  cases r with
  | none => exact wpAny_pure h₁
  | some v =>
    refine wpAny_bind (wpAny_mono h₁ (fun _ s₂ h₂ => wpAny_bind (wpAny_mono h₂ (fun _ s₃ h₃ => wpAny_bind (wpAny_mono h₃ (fun ok s₄ h₄ => ?_) noe)) noe)) noe)
    cases ok with
    | false => exact wpAny_pure ⟨rfl, h₄⟩
    | true => exact wpAny_bind (wpAny_bind (wpAny_mono h₄ (fun x s₅ h₅ => wpAny_bind (wpAny_mono h₅ (fun _ s₆ h₆ => wpAny_pure (wpAny_pure ⟨rfl, h₆⟩)) noe)) noe))
structure Tgt (c : Cfg) (d : Nat) (sc : Sc) (Γi : Ctx) (target : PySem.Expr) (ds : AV -> (τ -> Bool) -> Bool) (gi : τ -> Ctx) (ok : Addr -> Heap -> Prop) (names : Sc) : Prop where
  run : ∀ {A env W s H v val I k}, Rdy c d sc Γi A env W s H -> VR c W v val -> ok I s.heap -> ds v k = true -> ∃ p, k p = true /\ ∀ {Q : Unit -> Shared -> Prop},
    (∀ s' X, (∀ a ∈ X, ∃ x, Zr names x = true /\ VG env x a) -> Ext X W W s s' -> Rdy c d sc (gi p) A env W s' H -> Q () s') -> wpAny c.M A (letOwnedTupleGo target (.ref I) val) (fun _ s1 => wpAny c.M A (assign target env val) Q NoE s1) NoE s
  weak : ∀ p y av, Γi.lookup y = some av -> (gi p).lookup y = some av
theorem zg2 {names : Sc} {x : Str} (h : Zr names x = true) : Zr (relK sc names) x = true := by
  unfold Zr
  rw [JB]
  rcases YC h with h | h <;> rw [h] <;> rfl
theorem Tgt.name {scope : Scope} {x : Str} {px : Pos} (K : XE sc Γ scope Γi) (hx : Zr scope.names x = true) : Tgt c d (relK sc scope.names) Γi (.Name x px) (fun v k => k v) (fun v : AV => (x, v) :: Γi) (fun _ _ => True) scope.names where
  run := fun {A env W s H v val I k} D hv _ hk => ⟨v, hk, fun q => wpAny_of_eq (a := ()) rfl (wpAny_assign_Name (zc4 D hv (zg2 hx) fun s' a ha X D' => q s' [a] (fun b hb => ⟨x, hx, List.mem_singleton.mp hb ▸ ha⟩) X D'))⟩
  weak := fun v y av h => by
    rw [Xg, if_neg]
    · exact h
    · rintro rfl
      rcases YC hx with q | q <;> exact nomatch q.symm.trans (K.ctx y av h).2
theorem Tgt.pair {scope : Scope} {x y : Str} {px py tp : Pos} {tn : Nat} (hx : Zr scope.names x = true) (hy : Zr scope.names y = true)
    (he : ∀ env, assignEach [.Name x px, .Name y py] env = [(false, assign (.Name x px) env), (false, assign (.Name y py) env)] := by intro _; rfl) :
    Tgt c d (relK sc scope.names) [] (.Tuple [.Name x px, .Name y py] tn tp) ds2 (fun p : AV × AV => [(y, p.2), (x, p.1)]) (fun I h => ∃ l i, h.IsListIter I l i) scope.names where
  run := fun {A env W s H v val I k} D hv ⟨l, i, st⟩ hk => by
    obtain ⟨e, hk⟩ := kd_t hk
    obtain ⟨a, b, e2, hk⟩ := Vz hk
    refine ⟨(a, b), hk, fun q => ?_⟩
    have h2 : ∀ p ∈ [(x, px), (y, py)], Zr scope.names p.1 = true := fun p hp => by
      rcases List.mem_cons.mp hp with rfl | hp
      · exact hx
      · rw [List.mem_singleton.mp hp]; exact hy
    obtain ⟨t, _, _, rfl, _, _⟩ := XI D.R hv e
    refine wpAny_letOwnedTupleGo_listiter st (zU0 (xs := [(x, px), (y, py)]) D hv e (by rw [e2]; rfl) (fun p hp => zg2 (h2 p hp)) (he env) fun s' X hX X' D' => q s' X (fun a ha => (hX a ha).elim fun p h => ⟨p.1, h2 p h.1, h.2⟩) X' ?_)
    rw [e2] at D'
    exact D'
  weak := fun _ _ _ h => nomatch h
def zK5 (c : Cfg) (d : Nat) (src : AV -> (List AV -> Bool) -> Bool) (ok : Addr -> Heap -> Prop) : Prop := ∀ {A W H s sv v k}, Rel c W H s -> VR c W sv v -> src sv k = true ->
  ∃ l, k l = true /\ ∃ St : Addr -> Nat -> Heap -> Prop, wpAny c.M A (pyIter v) (VV c W H s St) NoE s /\ (∀ I, Src c d I sv v (nxL l) (St I)) /\ ∀ I i h, St I i h -> ok I h
theorem zA5 : zK5 c d srcK (fun _ _ => True) := fun {A W H s sv v k} R hv hk => let ⟨l, h, St, h1, h2⟩ := zU3 (A := A) (d := d) R hv hk; ⟨l, h, St, h1, h2, fun _ _ _ _ => trivial⟩
theorem zZ8 : zK5 c d srcT (fun I h => ∃ l i, h.IsListIter I l i) := fun R hv hk => by
  obtain ⟨e, hk⟩ := kd_t hk
  obtain ⟨a, vs, n, rfl, ho, hvs⟩ := Yi R hv e
  exact ⟨_, hk, _, ze4 R (ZX ho), fun I => .lst e, fun I i h st => ⟨a, i, st⟩⟩
structure zL1 (c : Cfg) (W₀ : Wd) (s₀ : Shared) (k : List AV -> AH -> Bool) (C L : Addr) (s' : Shared) (l : List AV) (H : AH) (W : Wd) (vs : List Value) (n : Nat) : Prop where
  code : k l H = true
  X : Ext [] W₀ W s₀ s'
  R : Rel c W H s'
  l0 : s₀.heap.get? L = none
  fL : Free c W L
  oL : s'.heap.get? L = some (Zx vs n)
  val : VRs c W l vs
  ns : ∃ m, s'.heap.Ns C m
  c0 : s₀.heap.get? C = none
  fC : Free c W C
  ne : C ≠ L
theorem Ext.fresh {X : List Addr} {W W1 W2 : Wd} {s s1 s2 : Shared} (x : Ext [] W W1 s s1) (y : Ext X W1 W2 s1 s2) (h : ∀ a ∈ X, s.heap.get? a = none) : Ext [] W W2 s s2 :=
  ⟨x.le.trans y.le, fun a m => (y.out a m).elim (x.out a) fun n => .inr (Yt x.al n), fun a u m => (y.nw a u m).elim (x.nw a u) fun n => .inr (Yt x.al n),
    fun a o h1 h2 e => y.kp a o h1 (fun m => Yy (h a m) e) (x.kp a o (fun m => h1 (let ⟨i, hi⟩ := List.getElem?_of_mem m; List.mem_of_getElem? (y.le.ix i a hi))) h2 e), fun a o e => let ⟨o', e'⟩ := x.al a o e; y.al a o' e', x.gk.trans y.gk⟩
inductive CInv (c : Cfg) (d : Nat) (sc : Sc) (Γi : Ctx) (A : Around) (L I : Addr) (cenv : Env) (l : List AV) (sv : AV) (src : Value) (St : Nat -> Heap -> Prop) (W₀ : Wd) (s₀ : Shared) {τ : Type} (ds : AV -> (τ -> Bool) -> Bool) (t : τ -> CT) (el : τ -> CE) (k : List AV -> AH -> Bool) (n : Nat) (s : Shared) : Prop
  | mk (W : Wd) (H : AH) (i : Nat) (acc : List AV) (vs : List Value) (m : Nat) (D : Rdy c d sc Γi A cenv W s H) (v : VR c W sv src) (st : St i s.heap) (fI : Free c W I) (fL : Free c W L) (oL : s.heap.get? L = some (Zx vs m)) (a : VRs c W acc vs) (x : Ext [] W₀ W s₀ s)
    (h : zx2 ds t el (l.drop i) acc H k = true) (e : n = l.length - i) (le : vs.length <= i) : CInv c d sc Γi A L I cenv l sv src St W₀ s₀ ds t el k n s
theorem zx1 {elt iter target : PySem.Expr} {ifs : List PySem.Expr} {scope : Scope} {pos : Pos} {ds : AV -> (τ -> Bool) -> Bool} {t : τ -> CT} {el : τ -> CE} {gi : τ -> Ctx} {ok : Addr -> Heap -> Prop} {names : Sc}
    (T : Tgt c d sc Γi target ds gi ok names) (ht : ∀ p, SimI c d sc (gi p) ifs (t p)) (he : ∀ p, SimE c d sc (gi p) elt (el p))
    {A : Around} {cenv : Env} {W₀ W : Wd} {s₀ s : Shared} {H : AH} {k : List AV -> AH -> Bool} {RR : Result -> Shared -> Prop} {L I C : Addr} {l : List AV} {sv : AV} {src : Value} {St : Nat -> Heap -> Prop}
    (S : Src c d I sv src (nxL l) St) (hok : ∀ i h, St i h -> ok I h) (hsh : l.length < 100000) (hIL : I ≠ L) (hI : I ∉ ownA cenv) (hL : L ∉ ownA cenv) (hI0 : s₀.heap.get? I = none) (hL0 : s₀.heap.get? L = none) (hC0 : s₀.heap.get? C = none) (hC : cenv.locals = C) (hCL : C ≠ L)
    (hnew : ∀ x a, Zr names x = true -> VG cenv x a -> s₀.heap.get? a = none) (D : Rdy c d sc Γi A cenv W s H) (hv : VR c W sv src) (hst : St 0 s.heap) (fI : Free c W I) (fL : Free c W L) (oL : s.heap.get? L = some (Zx [] 0)) (X : Ext [] W₀ W s₀ s)
    (hk : zx2 ds t el l [] H k = true) (hRR : ∀ s' l H' W' vs n, zL1 c W₀ s₀ k C L s' l H' W' vs n -> RR (.ok .next) s') : codeAny c.M A (.compLoop (.ListComp elt [⟨target, iter, ifs, 0⟩] scope pos) 0 (.ref I) (.ref L) cenv) RR s := by
  refine zI0 (I := CInv c d sc Γi A L I cenv l sv src St W₀ s₀ ds t el k) ?_ (n := l.length) ⟨W, H, 0, [], [], 0, D, hv, hst, fI, fL, oL, rfl, X, hk, rfl, Nat.le_refl _⟩
  rintro n s ⟨W, H, i, acc, vs, m, D, hsv, hst, fI, fL, oL, hacc, X, hk, rfl, hle⟩
  refine wpAny_mono (S.next D.hA D.R hsv fI hst rfl) (fun r s1 p1 => ?_) noe
  obtain ⟨gk, hbut, p1⟩ := p1
  have D1 := D.but fI hbut hI gk
  have le := Nat.le_trans D.R.tok.2.2 gk.tk
  have X1 := (X.but hI0 hbut gk).up le
  have fI1 : Free c (W.up s1.toks) I := ⟨fI.r, fI.m, fI.b⟩
  have fL1 : Free c (W.up s1.toks) L := ⟨fL.r, fL.m, fL.b⟩
  have oL1 := hbut L _ hIL.symm oL
  rw [JF] at p1
  cases hi : l[i]? with
  | none =>
    rw [hi] at p1
    cases p1
    rw [List.drop_eq_nil_iff.mpr (List.getElem?_eq_none_iff.mp hi)] at hk
    obtain ⟨m', hns, _⟩ := D1.F.ns
    exact hRR _ acc H _ vs m ⟨hk, X1, D1.R, hL0, fL1, oL1, hacc.le (.up le), ⟨m', hC ▸ hns⟩, hC0, hC ▸ D1.F.loc, hCL⟩
  | some av =>
    rw [hi] at p1
    cases p1 with
    | some hv1 hst1 =>
      obtain ⟨hlt, hav⟩ := List.getElem?_eq_some_iff.mp hi
      rw [List.drop_eq_getElem_cons hlt, hav] at hk
      obtain ⟨p, hk, hrun⟩ := T.run D1 hv1 (hok _ _ hst1) hk
      refine hrun fun s2 Y hY x2 D2 => ?_
      have noY : ∀ {a}, a ∉ ownA cenv -> a ∉ Y := fun h m => h ((hY _ m).elim fun _ h => h.2.own)
      have x12 := X1.fresh x2 fun a m => (hY a m).elim fun x h => hnew x a h.1 h.2
      obtain ⟨oI, hoI⟩ := S.obj hst1
      have st2 := S.keep hst1 fun o e => x2.kp I o fI1.r (noY hI) e
      have oL2 := x2.kp L _ fL1.r (noY hL) oL1
      refine (ht p).use D2 hk fun b b' H3 W3 s3 k3 x3 D3 v3 => ?_
      have oL3 := x3.kp L _ (x3.notin fL1.r oL2) (fun h => nomatch h) oL2
      obtain ⟨oI2, hoI2⟩ := S.obj st2
      have fI3 := x3.free fI1 hoI2
      have fL3 := x3.free fL1 oL2
      have st3 := S.keep st2 fun o e => x3.kp I o fI3.r (fun h => nomatch h) e
      have le3 := (Le.up le).trans x3.le
      have lt := Nat.sub_lt_sub_left hlt (Nat.lt_succ_self i)
      subst v3
      cases b' with
      | false =>
        rw [if_neg Bool.false_ne_true]
        exact ⟨_, lt, W3, H3, i + 1, acc, vs, m, D3.weak (T.weak p), hsv.le le3, st3, fI3, fL3, oL3, hacc.le le3, x12.trans x3, k3, rfl, Nat.le_succ_of_le hle⟩
      | true =>
        rw [if_pos rfl]
        refine (he p).use D3 k3 fun y v H4 W4 s4 k4 x4 D4 v4 => ?_
        have oL4 := x4.kp L _ (x4.notin fL3.r oL3) (fun h => nomatch h) oL3
        have fL4 := x4.free fL3 oL3
        obtain ⟨oI3, hoI3⟩ := S.obj st3
        have fI4 := x4.free fI3 hoI3
        have st4 := S.keep st3 fun o e => x4.kp I o fI4.r (fun h => nomatch h) e
        refine wpAny_list_append_plain ⟨m, oL4⟩ (fun h' hpl hsb => ?_) (by rw [List.size_toArray]; exact ZZ (Nat.lt_of_le_of_lt hle (Nat.lt_trans hlt hsh)))
        obtain ⟨n', hn'⟩ := hpl
        have le4 := le3.trans x4.le
        exact ⟨_, lt, W4, H4, i + 1, app acc [y], vs ++ [v], n', ⟨D.hA, D.hs, (D4.F.weak (T.weak p)).but hsb.extBut hL, D4.R.but fL4 hsb.extBut (Nat.le_refl _)⟩, hsv.le le4, S.keep st4 fun o e => (hsb.2 I hIL).trans e, fI4, fL4,
          by rw [hn', List.push_toArray]; rfl, (hacc.le le4).append ⟨v, [], rfl, v4, rfl⟩, ((x12.trans x3).trans x4).but hL0 hsb.extBut (.of (Nat.le_refl _)), k4, rfl, by rw [List.length_append]; exact Nat.succ_le_succ hle⟩
theorem zj3 {elt iter target : PySem.Expr} {ifs : List PySem.Expr} {scope : Scope} {pos : Pos} {it : CE} {srcc : AV -> (List AV -> Bool) -> Bool} {ds : AV -> (τ -> Bool) -> Bool} {t : τ -> CT} {el : τ -> CE} {gi : τ -> Ctx} {ok : Addr -> Heap -> Prop}
    (hit : SimE c d sc Γ iter it) (hsrc : zK5 c d srcc ok) (K : XE sc Γ scope Γi) (T : Tgt c d (relK sc scope.names) Γi target ds gi ok scope.names) (ht : ∀ p, SimI c d (relK sc scope.names) (gi p) ifs (t p)) (he : ∀ p, SimE c d (relK sc scope.names) (gi p) elt (el p))
    {A : Around} {env : Env} {W₀ : Wd} {s₀ : Shared} {H : AH} {k : List AV -> AH -> Bool} {E : Value -> Shared -> Prop} {RR : Value -> Addr -> Result -> Shared -> Prop} {cl : List (Str × Addr)}
    (D : Rdy c d sc Γ A env W₀ s₀ H) (hk : (it H fun sv H1 => srcc sv fun l => Yh l (zx2 ds t el l [] H1 k)) = true) (Z : Clos scope.names env cl) (hRR : ∀ C L s' l H' W' vs n, zL1 c W₀ s₀ k C L s' l H' W' vs n -> RR (.ref L) C (.ok .next) s') :
    wpAny c.M A (eval iter env) (fun x' s₁ => wpAny c.M A (pyIter x') (fun it s₂ => wpAny c.M A (newList []) (fun acc s₃ =>
      wpAny c.M A (newFunctionEnv scope env.globals cl [] env.qual none .none (some env)) (fun cenv s₄ =>
        codeAny c.M A (.compStart (.ListComp elt [⟨target, iter, ifs, 0⟩] scope pos) 0 it acc { cenv with scope := relabel scope env }) (RR acc cenv.locals) s₄) E s₃) E s₂) E s₁) E s₀ := by
  refine hit.use D hk fun sv src H1 W1 s1 k1 x1 D1 v1 => ?_
  obtain ⟨l, k1, St, hpi, hS, hok⟩ := hsrc (A := A) D1.R v1 k1
  obtain ⟨hsh, k1⟩ := ZG k1
  refine wpAny_mono hpi (fun itv s2 p2 => ?_) noe
  obtain ⟨I, rfl, x2, R2, hI1, hst⟩ := p2
  have F2 := D1.F.ext x2
  refine wpAny_newObj_type ?_ (by size_fits)
  have h3 := YA R2
  have x23 : Ext [] W1 W1 s2 { s2 with heap := s2.heap.push (Zx [] 0) } := .push _
  have R3 := R2.push (Zx [] 0)
  have F3 := F2.ext x23
  obtain ⟨F4, hnew, hown⟩ := zw6 K F3 R3 D.hs Z
  have x12 := x1.trans x2
  have gr : ∀ a o, s2.heap.get? a = some o -> (zI1 { s2 with heap := s2.heap.push (Zx [] 0) } scope).heap.get? a = some o := fun a o e => Yw a o (ZH _ e)
  have hz : (s2.heap.push (Zx [] 0)).objs.size = s2.heap.objs.size + 1 := Heap.size_push ..
  have new : ∀ a, (s2.heap.push (Zx [] 0)).objs.size <= a -> s2.heap.get? a = none := fun a h => Ya (Nat.le_trans (Nat.le_succ _) (Nat.le_trans (Nat.le_of_eq hz.symm) h))
  obtain ⟨oI, hoI⟩ := (hS I).obj hst
  have notI : ∀ {a}, a ∉ ownA env -> (∃ o, (s2.heap.push (Zx [] 0)).get? a = some o) -> a ∉ ownA (Vo scope (s2.heap.push (Zx [] 0)).objs.size (cellsFrom ((s2.heap.push (Zx [] 0)).objs.size + 1) scope.names cl) env) :=
    fun h1 h2 m => (hown _ m).elim (fun h => h2.elim fun _ ho => absurd (Heap.lt_size ho) (Nat.not_lt.mpr h)) h1
  have oL : (s2.heap.push (Zx [] 0)).get? s2.heap.objs.size = some (Zx [] 0) := Heap.get?_push_size _ rfl
  refine zd9 ?_
  rw [F2.glob, <- F2.glob]
  have S := hS I
  have lp := zx1 (RR := RR (.ref s2.heap.objs.size) (s2.heap.push (Zx [] 0)).objs.size) (elt := elt) (iter := iter) (scope := scope) (pos := pos) T ht he S (hok I) hsh (fun q => Yy (q ▸ h3.1 : s2.heap.get? I = none) hoI) (notI (D1.F.fresh hI1) ⟨oI, ZH _ hoI⟩) (notI (F2.fresh h3.1) ⟨_, oL⟩)
    (Yt x1.al hI1) (Yt x12.al h3.1) (Yt x12.al (new _ (Nat.le_refl _))) rfl (fun q => Nat.succ_ne_self _ (hz.symm.trans q)) (fun x a h1 h2 => Yt x12.al (new a (hnew x a h1 h2)))
    ⟨D.hA, Vv F2.kind D.hs, F4, R3.grow (fun a o e => Yw a o e) (Nat.le_refl _)⟩ v1 (S.keep hst (gr I)) (D1.R.free hI1) h3.2 (Yw _ _ oL) (x12.trans (x23.trans (.grow (fun a o e => Yw a o e) (.of (Nat.le_refl _))))) k1 (hRR _ _)
  exact codeAny_compStart_list lp (S.self (S.keep hst (gr I)) lp)
theorem VZ {scope : Scope} {W : Wd} {s : Shared} {env : Env} (K : XE sc Γ scope Γi) (F : FrR c W s env Γ) (hs : env.scope.names = sc) : ∃ cl, closureFor scope env = pure cl /\ Clos scope.names env cl := by
  refine JO (fun p hp hf => F.own p.1 (YU hs (K.fr ?_))) (Yf K.nod)
  obtain ⟨n, k⟩ := p
  cases hf
  exact hp
theorem zb7 {scope : Scope} (K : XE sc Γ scope Γi) : ∀ y ∈ scope.names, y.2 = .local -> scope.names.lookup y.1 = some .local := fun y hy hl => hl ▸ Yl (Yf K.nod) (n := y.1) (c := y.2) hy
theorem zq3 {m : Bool} {elt iter target : PySem.Expr} {ifs : List PySem.Expr} {scope : Scope} {pos : Pos} {it : CE} {srcc : AV -> (List AV -> Bool) -> Bool} {ds : AV -> (τ -> Bool) -> Bool} {t : τ -> CT} {el : τ -> CE} {gi : τ -> Ctx} {ok : Addr -> Heap -> Prop}
    (hit : SimE c d sc Γ iter it) (hsrc : zK5 c d srcc ok) (K : XE sc Γ scope Γi) (T : Tgt c d (relK sc scope.names) Γi target ds gi ok scope.names) (ht : ∀ p, SimI c d (relK sc scope.names) (gi p) ifs (t p)) (he : ∀ p, SimE c d (relK sc scope.names) (gi p) elt (el p))
    (hfs : ∀ (env : Env) x, foldedSetIterable iter env x = pure x := by intro _ _; rfl) : SimE c d sc Γ (.ListComp elt [⟨target, iter, ifs, 0⟩] scope pos) (YM m srcc ds it t el) := fun A env W s H k D hk => by
  obtain ⟨cl, hcl, Z⟩ := VZ K D.F D.hs
  show wpAny _ _ (eval _ _) _ _ _
  rw [eval_ListComp]
  refine wpAny_comprehension_free (use := none) rfl (hfs env) hcl K.kind (zb7 K) ?_
  exact zj3 (RR := fun acc C => compPost c.M A NoE none (PE c W s k) acc C) hit hsrc K T ht he D hk Z fun C L s' l H' W' vs n X => X.ns.imp fun m hm => ⟨hm, fun h' hs' =>
    Laid.pe (.list (s := { s' with heap := h' }) (X.X.but X.c0 hs'.extBut (.of (Nat.le_refl _))) (X.R.but X.fC hs'.extBut (Nat.le_refl _)) X.l0 X.fL ((hs'.2 L X.ne.symm).trans X.oL) X.val X.code)⟩
theorem zZ9 {m : Bool} {elt iter target : PySem.Expr} {y : Str} {py pos spos : Pos} {ifs : List PySem.Expr} {scope : Scope} {it : CE} {srcc : AV -> (List AV -> Bool) -> Bool} {ds : AV -> (τ -> Bool) -> Bool} {t : τ -> CT} {el : τ -> CE} {gi : τ -> Ctx} {ok : Addr -> Heap -> Prop}
    (hit : SimE c d sc Γ iter it) (hsrc : zK5 c d srcc ok) (K : XE sc Γ scope Γi) (T : Tgt c d (relK sc scope.names) Γi target ds gi ok scope.names) (ht : ∀ p, SimI c d (relK sc scope.names) (gi p) ifs (t p)) (he : ∀ p, SimE c d (relK sc scope.names) (gi p) elt (el p))
    (hy : sc.lookup y = some .local) (hsn : (scope.names.any fun (n, k) => n == y && (k == .local || k == .cell)) = false) (hsw : (py.line == pos.line) = true := by rfl) (hfs : ∀ (env : Env) x, foldedSetIterable iter env x = pure x := by intro _ _; rfl) :
    Sim1 c d sc Γ (.Assign [.Name y py] (.ListComp elt [⟨target, iter, ifs, 0⟩] scope pos) spos) (fun v => (y, v) :: Γ) (useC (YM m srcc ds it t el)) := fun A env W s H kn kr D hk => by
  obtain ⟨cl, hcl, Z⟩ := VZ K D.F D.hs
  have hkd : env.kindOf y = some .local := YU D.hs hy
  have hsw' : swapsWith (.ListComp elt [⟨target, iter, ifs, 0⟩] scope pos) (some (.Name y py)) spos.line env = pure true := by
    have hbk : env.blockKind = .function := by unfold Env.blockKind; rw [D.F.kind]; rfl
    show pure _ = _
    rw [hkd, hbk, show ((Expr.ListComp elt [⟨target, iter, ifs, 0⟩] scope pos).pos.line) = pos.line from rfl, hsw, hsn]
    rfl
  rw [exec_Assign_Name_used _ _ _ _ hsw']
  refine wpAny_bind (wpAny_standAt (wpAny_bind ?_))
  show wpAny _ A (do let _ <- comprehension (.ListComp elt [⟨target, iter, ifs, 0⟩] scope pos) scope env _ (newList []) false (eval iter env) (some (assign (.Name y py) env))) _ _ s
  refine wpAny_bind (wpAny_mono (wpAny_comprehension_free (use := some (assign (.Name y py) env)) (Q := fun _ s' => PS c W s env (fun v => (y, v) :: Γ) kn kr .next s') (E := NoE) rfl (hfs env) hcl K.kind (zb7 K) ?_)
    (fun _ s' hq => wpAny_pure (wpAny_pure hq)) noe)
  refine zj3 (RR := fun acc C => compPost c.M A NoE (some (assign (.Name y py) env)) (fun _ s' => PS c W s env (fun v => (y, v) :: Γ) kn kr .next s') acc C) hit hsrc K T ht he D hk Z fun C L s' l H' W' vs n X => ?_
  show wpAny c.M A (assign (.Name y py) env (.ref L)) _ _ s'
  obtain ⟨x, H2, W2, hk2, X2, R2, v2, f2⟩ := Laid.list X.X X.R X.l0 X.fL X.oL X.val X.code
  refine wpAny_assign_Name (Xh ⟨D.hA, D.hs, D.F.ext X2, R2⟩ v2 (by unfold Zr; rw [hy]; rfl) fun s3 X3 D3 => ?_)
  obtain ⟨m', hm'⟩ := X.ns
  have hC : C ∉ ownA env := D.F.fresh X.c0
  exact ⟨m', Ns.move hm' fun o e => X3.kp C o (f2 C X.ne X.fC).r hC e, fun h' hs' => .next x H2 W2 hk2 ((X2.any.trans X3).but X.c0 hs'.extBut (.of (Nat.le_refl _))) (D3.R.but (f2 C X.ne X.fC) hs'.extBut (Nat.le_refl _)) (D3.F.but hs'.extBut hC)⟩
theorem zc1 {elt : PySem.Expr} {gens : List Comprehension} {scope : Scope} {pos p : Pos} {t : Str} {line : Nat} {env : Env} (h : env.scope.names = sc) (hc : (sc.lookup t == some .local) = false) : swapsWith (.ListComp elt gens scope pos) (some (.Name t p)) line env = pure false := by
  show pure _ = _
  rw [show env.kindOf t = sc.lookup t from h ▸ rfl, hc, Bool.and_false]
  rfl
theorem zq5 {elt : PySem.Expr} {gens : List Comprehension} {x : Str} {px pos p : Pos} {scope : Scope} {a : CE} (ha : SimE c d sc Γ (.ListComp elt gens scope p) a) (hx : sc.lookup x = some .cell) :
    Sim1 c d sc Γ (.Assign [.Name x px] (.ListComp elt gens scope p) pos) (fun v => (x, v) :: Γ) (asgC a) := fun _ env _ _ _ _ _ D hk =>
  wpAny_Assign_Name (ha.use D hk fun y _ _ _ _ k1 e1 D1 v1 => Xh D1 v1 (by unfold Zr; rw [hx]; rfl) fun _ e2 D2 => .next y _ _ k1 (e1.any.trans e2) D2.R D2.F) (zc1 D.hs (by rw [hx]; rfl))
end
structure XU (k : Int) (n j : Nat) : Prop where
  idx : seqIndex? k n = some j
  lt : j < n
  cs : (0 <= k /\ j = k.toNat) \/ (k < 0 /\ -(n : Int) <= k /\ j = (k + n).toNat)
  b1 : -1000001 < k
  b2 : k < 1000000
theorem zh2 {i n : Nat} (h : i < n) (h2 : i < 1000000) : XU (i : Int) n i := by
  refine ⟨?_, h, .inl ⟨Int.natCast_nonneg _, rfl⟩, Int.lt_of_lt_of_le (by decide) (Int.natCast_nonneg _), Int.ofNat_lt.mpr h2⟩
  unfold seqIndex?
  rw [if_neg (Int.not_lt.mpr (Int.natCast_nonneg i))]
  show (if (decide (0 <= (i : Int)) && decide ((i : Int) < n)) = true then some (i : Int).toNat else none) = _
  rw [decide_eq_true (Int.natCast_nonneg i), decide_eq_true (Int.ofNat_lt.mpr h)]
  rfl
theorem zC1 {m n : Nat} (h : m < n) (h2 : m < 1000000) : XU (.negSucc m) n (n - (m + 1)) := by
  have e : Int.negSucc m + (n : Int) = ((n - (m + 1) : Nat) : Int) := by rw [Int.ofNat_sub h, Int.negSucc_eq, Int.natCast_succ, Int.add_comm]; exact (Int.sub_eq_add_neg).symm
  refine ⟨?_, Nat.sub_lt (Nat.lt_of_le_of_lt (Nat.zero_le _) h) (Nat.succ_pos m), .inr ⟨Int.negSucc_lt_zero m, ?_, by rw [e]; rfl⟩, by rw [Int.negSucc_eq]; omega, Int.lt_trans (Int.negSucc_lt_zero m) (by decide)⟩
  · unfold seqIndex?
    rw [if_pos (Int.negSucc_lt_zero m), e]
    generalize hj : n - (m + 1) = j
    have lt : j < n := hj ▸ Nat.sub_lt (Nat.lt_of_le_of_lt (Nat.zero_le _) h) (Nat.succ_pos m)
    show (if (decide (0 <= (j : Int)) && decide ((j : Int) < n)) = true then some (j : Int).toNat else none) = _
    rw [decide_eq_true (Int.natCast_nonneg _), decide_eq_true (Int.ofNat_lt.mpr lt)]
    rfl
  · rw [Int.negSucc_eq]; exact Int.neg_le_neg (Int.ofNat_le.mpr h)
theorem zP2 {k : Int} {n : Nat} {kk : Nat -> Bool} (h : zr0 k n kk = true) : ∃ j, XU k n j /\ kk j = true := by
  cases k with
  | ofNat i =>
    have h2 := gd_t (gd_t h).2
    exact ⟨i, zh2 (Nat.blt_eq.mp (gd_t h).1) (Nat.blt_eq.mp h2.1), h2.2⟩
  | negSucc m =>
    have h2 := gd_t (gd_t h).2
    exact ⟨_, zC1 (Nat.blt_eq.mp (gd_t h).1) (Nat.blt_eq.mp h2.1), h2.2⟩
theorem za8 {α : Type} {l : List α} {k : Int} {kk : α -> Bool} (h : subL l k kk = true) : ∃ j z, XU k l.length j /\ l[j]? = some z /\ kk z = true := by
  cases k with
  | ofNat i =>
    obtain ⟨z, h1, h2⟩ := XA (gd_t h).2
    exact ⟨i, z, zh2 (List.getElem?_eq_some_iff.mp h1).1 (Nat.blt_eq.mp (gd_t h).1), h1, h2⟩
  | negSucc m =>
    obtain ⟨j, hp, h⟩ := zP2 (show zr0 (.negSucc m) (lenN l) (fun j => nthK kk l j) = true from h)
    obtain ⟨z, h1, h2⟩ := XA h
    exact ⟨j, z, Zw l ▸ hp, h1, h2⟩
section
variable {c : Cfg} {d : Nat} {sc : Sc} {Γ : Ctx} {W : Wd} {s : Shared} {H : AH} {A : Around} {K : Type} [DecidableEq K] {f : Nat -> K}
theorem zF8 (hf : ∀ a b, f a = f b -> a = b) {kk : AV -> Bool} {n : Nat} {ks : List Nat} : ∀ {l : List AV} {vs : List Value}, VRs c W l vs -> VB ks n kk l = true -> ∃ z v, valueAt ((ks.map f).zip vs) (f n) = some v /\ VR c W z v /\ kk z = true := by
  induction ks with
  | nil => intro l vs _ h; cases h
  | cons k ks ih =>
    intro l vs hv h
    obtain ⟨z, r, rfl, h⟩ := JK h
    obtain ⟨v, t, rfl, h1, h2⟩ := hv
    have e : valueAt (((k :: ks).map f).zip (v :: t)) (f n) = if f k = f n then some v else valueAt ((ks.map f).zip t) (f n) := by
      unfold valueAt
      rw [List.map_cons, List.zip_cons_cons, List.find?_cons]
      by_cases q : f k = f n <;> simp [q]
    rw [e]
    rcases YR h with ⟨hb, h⟩ | ⟨hb, h⟩
    · rw [if_pos (congrArg f (Nat.eq_of_beq_eq_true hb))]; exact ⟨z, v, rfl, h1, h⟩
    · rw [if_neg fun q => Nat.ne_of_beq_eq_false hb (hf _ _ q)]; exact ih h2 h
theorem zk8 {k : K} {v u : Value} {k' : K} {kvs : List (K × Value)} : stored ((k', u) :: kvs) k v = if k' = k then (k', v) :: kvs.map (fun kv => if kv.1 = k then (kv.1, v) else kv) else (k', u) :: stored kvs k v := by
  unfold stored
  by_cases q : k' = k
  · simp [q]
  · rw [if_neg q]
    simp only [List.any_cons, q, decide_false, Bool.false_or, List.map_cons, if_false]
    split <;> rfl
theorem zu3 (hf : ∀ a b, f a = f b -> a = b) {n : Nat} {x : AV} {v : Value} (hx : VR c W x v) {ks : List Nat} : ∀ {l : List AV} {vs : List Value}, VRs c W l vs -> ks.length = l.length -> (((ks.map f).zip vs).map (·.1)).Nodup ->
    ∃ vs', stored ((ks.map f).zip vs) (f n) v = ((gput ks n).map f).zip vs' /\ VRs c W (zi7 ks n x l) vs' /\ (gput ks n).length = (zi7 ks n x l).length := by
  induction ks with
  | nil => intro l vs _ _ _; exact ⟨[v], rfl, ⟨v, [], rfl, hx, rfl⟩, rfl⟩
  | cons k ks ih =>
    intro l vs hv hl hn
    cases l with
    | nil => cases hl
    | cons y l =>
      obtain ⟨u, t, rfl, hu, ht⟩ := hv
      rw [List.map_cons, List.zip_cons_cons, List.map_cons, List.nodup_cons] at hn
      rw [List.map_cons, List.zip_cons_cons, zk8]
      show ∃ vs', _ = ((sel (Nat.beq k n) (k :: ks) (k :: gput ks n)).map f).zip vs' /\ VRs c W (sel (Nat.beq k n) (x :: l) (y :: zi7 ks n x l)) vs' /\ (sel (Nat.beq k n) (k :: ks) (k :: gput ks n)).length = (sel (Nat.beq k n) (x :: l) (y :: zi7 ks n x l)).length
      cases hb : Nat.beq k n with
      | true =>
        have e := congrArg f (Nat.eq_of_beq_eq_true hb)
        rw [if_pos e]
        refine ⟨v :: t, ?_, ⟨v, t, rfl, hx, ht⟩, hl⟩
        show _ = (f k, v) :: (ks.map f).zip t
        congr 1
        conv => rhs; rw [<- List.map_id ((ks.map f).zip t)]
        exact List.map_congr_left fun kv hm => if_neg fun q => hn.1 (List.mem_map.mpr ⟨kv, hm, q.trans e.symm⟩)
      | false =>
        rw [if_neg fun q => Nat.ne_of_beq_eq_false hb (hf _ _ q)]
        obtain ⟨vs', h1, h2, h3⟩ := ih ht (Nat.succ.inj hl) hn.2
        exact ⟨u :: vs', by rw [h1]; rfl, ⟨u, vs', rfl, hu, h2⟩, congrArg Nat.succ h3⟩
theorem zW0 (S : Stat c) (a b : Nat) (h : c.hn a = c.hn b) : a = b := S.hinj _ _ h
theorem VN (a b : Nat) (h : Int.ofNat a = Int.ofNat b) : a = b := Int.ofNat.inj h
def zT9 (c : Cfg) (A : Around) (u v : Value) (Q : Value -> Shared -> Prop) (s : Shared) : Prop := wpAny c.M A (getitemInPython u) (fun b s' => b = false /\ s' = s) NoE s /\ wpAny c.M A (getItem u v) Q NoE s
theorem YI {u : Value} {T id : String} (hT : s.TypeIs u T) (hl : typeLookup (.type T) "__getitem__" = pure (some (.builtin id))) : wpAny c.M A (getitemInPython u) (fun b s' => b = false /\ s' = s) NoE s := by
  rw [getitemInPython_of_ne hT.not_modules]
  exact wpAny_bind (wpAny_specialOf hT hl (wpAny_pure ⟨rfl, rfl⟩))
def zK9 (c : Cfg) (d : Nat) (f : Op2) : Prop := ∀ {A W s H x i u v k}, AOk d A -> Rel c W H s -> VR c W x u -> VR c W i v -> f H x i k = true -> zT9 c A u v (PE c W s k) s
theorem Zh {f : Op2} {value slice : PySem.Expr} {pos : Pos} {a b : CE} (hf : zK9 c d f) (ha : SimE c d sc Γ value a) (hb : SimE c d sc Γ slice b) (hsl : ∀ o i, subscripted slice false o i = operate [o, i] (getItem o i) := by intro _ _; rfl) :
    SimE c d sc Γ (.Subscript value slice pos) (subK f a b) := fun _ _ _ _ _ _ D hk => by
  show wpAny _ _ (eval _ _) _ _ _
  rw [eval_Subscript]
  refine wpAny_bind (ha.use D hk fun x u _ _ _ k1 x1 D1 v1 => wpAny_bind (wpAny_holding (hb.use D1 k1 fun y v _ _ s2 k2 x2 D2 v2 => ?_)))
  obtain ⟨g1, g2⟩ := hf D2.hA D2.R (v1.ext x2) v2 k2
  refine wpAny_bind (wpAny_standAt (wpAny_bind (wpAny_mono g1 (fun b s' hb => ?_) noe)))
  obtain ⟨rfl, rfl⟩ := hb
  rw [hsl]
  exact wpAny_bind (wpAny_operating (wpAny_mono g2 (fun w s3 p => wpAny_bind (wpAny_letTemporaryGo (wpAny_pure (p.trans (x1.trans x2))))) noe))
def zL4 (c : Cfg) (d : Nat) : Prop := ∀ {A W H s a dx vs n k t x j} {Q : Value -> Shared -> Prop}, AOk d A -> Rel c W H s -> s.heap.get? a = some (ZB c.cA dx vs n) -> XU k vs.length j -> vs[j]? = some x -> Q x s -> zT9 c A (.ref a) (.int k t) Q s
theorem zs4 {a : Addr} {vs : List Value} {n : Nat} {k : Int} {t : Tok} {j : Nat} {w : Value} {Q : Value -> Shared -> Prop} (ho : s.heap.get? a = some (Zx vs n)) (P : XU k vs.length j) (hw : vs[j]? = some w) (hQ : Q w s) : zT9 c A (.ref a) (.int k t) Q s := by
  refine ⟨YI ⟨_, ho, rfl⟩ PySem.slot_list_getitem.lookup, ?_⟩
  have b1 := P.b1
  have b2 := P.b2
  rcases P.cs with ⟨h0, rfl⟩ | ⟨h0, h1, rfl⟩
  · exact wpAny_getItem_list (ZX ho) h0 (by omega) (by rw [List.getElem?_toArray]; exact hw) hQ
  · exact wpAny_getItem_list_neg (ZX ho) h0 h1 (by omega) (by rw [List.getElem?_toArray]; exact hw) hQ
theorem zs5 {knd : KeyKind c.prog c.w K} {o : Obj} {kvs : List (K × Value)} {a : Addr} {key w : Value} {k : AV -> AH -> Bool} {z : AV} {n : K} (R : Rel c W H s) (ho : s.heap.get? a = some o) (hd : Ji knd o kvs) (hkey : knd.is n key = true)
    (hw : valueAt kvs n = some w) (hz : VR c W z w) (hk : k z H = true) : zT9 c A (.ref a) key (PE c W s k) s := by
  have hdo : s.heap.DictOf knd a kvs := Heap.dictOf_iff.mpr ⟨_, ho, hd.of⟩
  exact ⟨YI hdo.typeIs PySem.slot_dict_getitem.lookup, wpAny_getItem_of (knd := knd) (k := n) hkey hdo.mapOf hw (.tok R hk hz (Nat.le_add_right _ 1))⟩
theorem zV4 (S : Stat c) (hacc : zL4 c d) : zK9 c d Zk := fun {A W s H x i u v k} hA R hu hv hk => by
  have seq : ∀ {l : List AV} {vs : List Value} {j z}, VRs c W l vs -> XU i.i l.length j -> l[j]? = some z -> k z H = true -> XU i.i vs.length j /\ ∃ w, vs[j]? = some w /\ PE c W s k w s := fun hvs P hz hk =>
    ⟨hvs.len.symm ▸ P, (hvs.get hz).imp fun w h => ⟨h.1, .now R hk h.2⟩⟩
  rcases ZS hk with ⟨e, hk⟩ | hk
  · obtain ⟨e2, hk⟩ := kd_t hk
    obtain ⟨t, rfl⟩ := hv.at e2
    obtain ⟨a, vs, n, rfl, ho, hvs⟩ := Yi R hu e
    obtain ⟨j, z, P, hz, hk⟩ := za8 hk
    obtain ⟨P, w, hw, p⟩ := seq hvs P hz hk
    exact zs4 ho P hw p
  rcases ZS hk with ⟨e, hk⟩ | hk
  · rcases ZS hk with ⟨e2, hk⟩ | hk
    · obtain ⟨a, o, rfl, _, ho, vs, n, rfl, hvs⟩ := Yp R hu e e2
      obtain ⟨e3, hk⟩ := kd_t hk
      obtain ⟨t, rfl⟩ := hv.at e3
      obtain ⟨j, z, P, hz, hk⟩ := za8 hk
      obtain ⟨P, w, hw, p⟩ := seq hvs P hz hk
      exact zs4 ho P hw p
    rcases ZS hk with ⟨e2, hk⟩ | hk
    · obtain ⟨a, o, rfl, _, ho, vs, hd, hvs, _⟩ := Yp R hu e e2
      have key : ∃ t, v = .str (c.hn i.m) t /\ VB (hget H x.m).ks i.m (fun z => k z H) (hget H x.m).l = true := (ZS hk).elim (fun h => ⟨_, hv.at h.1, h.2⟩) fun h => (hv.at (kd_t h).1).imp fun t q => ⟨q.1, (kd_t h).2⟩
      obtain ⟨t, rfl, hk⟩ := key
      obtain ⟨z, w, hw, hz, hk⟩ := zF8 (zW0 S) hvs hk
      exact zs5 R ho hd (strKind_is _ _ _ _) hw hz hk
    rcases ZS hk with ⟨e2, hk⟩ | hk
    · obtain ⟨a, o, rfl, _, ho, vs, hd, hvs, _⟩ := Yp R hu e e2
      obtain ⟨e3, hk⟩ := kd_t hk
      obtain ⟨t, rfl⟩ := hv.at e3
      obtain ⟨n, hn, hk⟩ := ZO hk
      obtain ⟨z, w, hw, hz, hk⟩ := zF8 VN hvs hk
      rw [hn]
      exact zs5 R ho hd (intKind_is _ _ _ _) hw hz hk
    · obtain ⟨e2, hk⟩ := kd_t hk
      obtain ⟨a, o, rfl, _, ho, vs, n, dx, rfl, _, hvs⟩ := Yp R hu e e2
      obtain ⟨e3, hk⟩ := kd_t hk
      obtain ⟨t, rfl⟩ := hv.at e3
      obtain ⟨j, z, P, hz, hk⟩ := za8 hk
      obtain ⟨P, w, hw, p⟩ := seq hvs P hz hk
      exact hacc hA R ho P hw p
  rcases ZS hk with ⟨e, hk⟩ | hk
  · obtain ⟨e2, hk⟩ := kd_t hk
    obtain ⟨t, rfl⟩ := hv.at e2
    obtain ⟨a, vs, n, rfl, ho, hvs⟩ := XI R hu e
    obtain ⟨j, z, P, hz, hk⟩ := za8 hk
    obtain ⟨P, w, hw, p⟩ := seq hvs P hz hk
    have ht : IsTup s.heap a vs.toArray := ⟨_, ho, rfl, n, rfl⟩
    have b1 := P.b1
    have b2 := P.b2
    exact ⟨YI ht.typeIs PySem.F.slot_tuple_getitem.lookup, getItem_tuple ht (by omega) (by omega) P.idx (by rw [List.getElem?_toArray]; exact hw) p⟩
  · obtain ⟨e, hk⟩ := kd_t hk
    obtain ⟨e2, hk⟩ := kd_t hk
    obtain ⟨t, rfl⟩ := hv.at e2
    obtain ⟨t', rfl⟩ := hu.at e
    obtain ⟨j, n, P, hz, hk⟩ := za8 hk
    have b1 := P.b1
    have b2 := P.b2
    refine ⟨YI (typeIs_str s _ t') PySem.F.slot_str_getitem.lookup, PySem.P.getItem_str (c := n) (by simp; omega) (by rw [show seqIndex? i.i (Str.length (txt x.s)) = some j from P.idx]; simpa [txt] using hz) ?_⟩
    refine ⟨aC n, H, W.up (s.toks + 1), hk, (Ext.grow (s := s) (s' := { s with toks := s.toks + 1 }) (fun _ _ e => e) (.of (Nat.le_succ _))).up (Nat.le_trans R.tok.2.2 (Nat.le_succ _)), (R.tick (Nat.le_succ _)).up (Nat.le_trans R.tok.2.2 (Nat.le_succ _)) (Nat.le_refl _), _, rfl, Nat.ne_of_gt (Nat.lt_of_lt_of_le R.tok.1 (Nat.le_trans R.tok.2.1 R.tok.2.2)), Nat.lt_succ_self _⟩
end
section
variable {c : Cfg} {d : Nat} {sc : Sc} {Γ : Ctx} {W : Wd} {s s' : Shared} {H : AH} {A : Around} {K : Type} [DecidableEq K] {f : Nat -> K}
theorem zh5 {l : List Addr} : ∀ {i j : Nat} {a : Addr}, l.Nodup -> l[i]? = some a -> l[j]? = some a -> i = j := by
  induction l with
  | nil => intro i j a _ h; cases h
  | cons x l ih =>
    intro i j a hn h1 h2
    rw [List.nodup_cons] at hn
    cases i with
    | zero =>
      cases j with
      | zero => rfl
      | succ j => cases h1; exact absurd (List.mem_of_getElem? (show l[j]? = some x from h2)) hn.1
    | succ i =>
      cases j with
      | zero => cases h2; exact absurd (List.mem_of_getElem? (show l[i]? = some x from h1)) hn.1
      | succ j => exact congrArg Nat.succ (ih hn.2 h1 h2)
theorem Rel.upd {i : Nat} {a : Addr} {ob : Obj} {o' : AO} (R : Rel c W H s) (ha : W.ρ[i]? = some a) (hs : Heap.SameBut a s.heap s'.heap) (ho : s'.heap.get? a = some ob) (hr : OR c W o' ob) (le : s.toks <= s'.toks) : Rel c W (hset H i o') s' := by
  have hm := List.mem_of_getElem? ha
  have hi : i <= 8000 := Nat.le_trans (Nat.le_of_lt (List.getElem?_eq_some_iff.mp ha).1) (R.cnt ▸ R.sm)
  refine ⟨R.cnt, R.sm, R.nd, R.hts, fun j b hb => ?_, fun b x hx => ⟨(R.frz b x hx).1, (R.frz b x hx).2.imp fun _ h => ⟨(hs.2 b fun q => (R.frz b x hx).1 (q ▸ hm)).trans h.1, h.2⟩⟩, fun b o e => ⟨(hs.2 b fun q => (R.st b o e).2 (q ▸ hm)).trans (R.st b o e).1, (R.st b o e).2⟩, R.tok.1, R.tok.2.1, Nat.le_trans R.tok.2.2 le⟩
  rw [VA hi]
  by_cases e : j = i
  · subst e
    rw [if_pos rfl]
    cases ha.symm.trans hb
    exact ⟨ob, ho, hr⟩
  · rw [if_neg e]
    exact (R.obj j b hb).imp fun _ h => ⟨(hs.2 b fun q => e (zh5 R.nd hb (q ▸ ha))).trans h.1, h.2⟩
theorem VRs.set {l : List AV} {x : AV} {v : Value} (hx : VR c W x v) : ∀ {vs : List Value} {j : Nat}, VRs c W l vs -> VRs c W (zO2 l j x) (vs.set j v) := by
  induction l with
  | nil => intro vs j h; cases h; rfl
  | cons y l ih =>
    rintro vs j ⟨u, t, rfl, hu, ht⟩
    cases j with
    | zero => exact ⟨v, t, rfl, hx, ht⟩
    | succ j => exact ⟨u, _, rfl, hu, ih ht⟩
theorem zO0 {knd : KeyKind c.prog c.w K} {a : Addr} {o : Obj} {kvs : List (K × Value)} {k : K} {key v : Value} {Q : Unit -> Shared -> Prop} {E : Value -> Shared -> Prop} (hkey : knd.is k key = true) (ho : s.heap.get? a = some o) (hm : Ji knd o kvs)
    (hQ : ∀ h' o', h'.get? a = some o' -> Ji knd o' (stored kvs k v) -> Heap.SameBut a s.heap h' -> Q () { s with heap := h', toks := s.toks + 1 }) (hsz : kvs.length <= sizeLine) : wpAny c.M A (setItem (.ref a) key v) Q E s := by
  obtain ⟨es, hc, hd, hk, hp, hn⟩ := hm
  have hes : es.size <= sizeLine := Nat.le_trans (Nat.le_of_eq hp.length) hsz
  have hT : s.TypeIs (.ref a) "dict" := ⟨o, ho, hc.1⟩
  unfold setItem
  try with_reducible refine wpAny_holding ?_
  refine wpAny_bind (wpAny_sequenceKey hT (by decide) ?_)
  refine wpAny_bind (wpAny_callSpecial?_slot (name := Str.ofString "__setitem__") hT slot_dict_setitem (wpAny_call_entry slot_dict_setitem hT entry_dict_setitem ?_ (args_dict_setitem _ _ _)))
  show wpAny _ _ (Builtin.Dict.notOrdered "__setitem__" ⟨[.ref a, key, v], []⟩ >>= _) _ _ s
  refine wpAny_bind (wpAny_notOrdered_dict hT ?_)
  show wpAny _ _ (dictSet a key v >>= _) _ _ s
  refine wpAny_bind ?_
  unfold dictSet
  try with_reducible refine wpAny_holding ?_
  refine wpAny_bind (knd.pyHash hkey ?_)
  unfold dictSetHashed
  try with_reducible refine wpAny_holding ?_
  refine wpAny_bind (wpAny_dictFind_of (s := { s with toks := s.toks + 1 }) hkey ho hd hk ?_)
  have hl0 : ∀ p : DictEntry -> Bool, es.toList.findIdx? p = es.findIdx? p := fun p => by obtain ⟨l⟩ := es; simp
  have hidx : (es.findIdx? fun e => knd.is k e.key) = kvs.findIdx? fun kv => decide (kv.1 = k) := (hl0 _).symm.trans (hp.findIdx k)
  have sl : ∀ b, b = (kvs.any fun kv => decide (kv.1 = k)) -> (stored kvs k v).length = cond b kvs.length (kvs.length + 1) := fun b hb => by unfold stored; rw [<- hb]; cases b <;> simp
  cases hi : es.findIdx? fun e => knd.is k e.key with
  | some i =>
    have hany := any_of_findIdx_some (hidx ▸ hi)
    refine wpAny_bind (wpAny_rule (wpAny_bind (wpAny_updateDict (s := { s with toks := s.toks + 1 }) ho hd (wpAny_point (wpAny_pure ⟨.none, rfl, wpAny_pure (hQ _ _ (Heap.get?_update_self _ ho (Obj.isFreed_of_dict (Obj.data_mapDict hd _)))
      ⟨es.modify i fun e => { e with val := v }, hc.mapDict _, by rw [sl _ hany.symm]; exact Obj.data_mapDict hd _, hk.modify _ _, ?_, ?_⟩ (Heap.SameBut.update ..))⟩)))))
    · rw [stored, if_pos hany]
      have := hp.modify hn ((hl0 _).trans hi) v
      obtain ⟨l⟩ := es
      simpa using this
    · rw [stored, if_pos hany, keys_map_store]; exact hn
  | none =>
    have hnot : k ∉ kvs.map (·.1) := not_mem_of_findIdx_none (hidx ▸ hi)
    have hany : ¬ (kvs.any fun kv => decide (kv.1 = k)) = true := fun h => by
      obtain ⟨kv, hkv, he⟩ := List.any_eq_true.mp h
      exact hnot (List.mem_map.mpr ⟨kv, hkv, of_decide_eq_true he⟩)
    refine wpAny_bind (wpAny_rule (wpAny_updateDictKeys (hz := hes) (s := { s with toks := s.toks + 1 }) ho hd (wpAny_pure ⟨.none, rfl, wpAny_pure (hQ _ _ (Heap.get?_update_self _ ho (Obj.isFreed_of_dict (Obj.data_mapDictKeys hd _)))
      ⟨es.push ⟨knd.hash k, key, v⟩, hc.mapDictKeys _, by rw [sl _ (Bool.not_eq_true _ ▸ hany).symm]; exact Obj.data_mapDictKeys hd _, hk.push hkey _, ?_, ?_⟩ (Heap.SameBut.update ..))⟩)))
    · rw [stored, if_neg hany]
      have := hp.append hkey (knd.hash k) v
      obtain ⟨l⟩ := es
      simpa using this
    · rw [stored, if_neg hany, List.map_append, List.nodup_append]
      exact ⟨hn, List.nodup_cons.mpr ⟨fun h => (nomatch h), List.nodup_nil⟩, fun a ha b hb e => hnot ((e.trans (List.mem_singleton.mp hb) : a = k) ▸ ha)⟩
inductive PH (c : Cfg) (W : Wd) (s : Shared) (k : AH -> Bool) (s' : Shared) : Prop
  | mk (H' : AH) (h : k H' = true) (X : Ext [] W W s s') (R : Rel c W H' s') : PH c W s k s'
theorem zq9 {knd : KeyKind c.prog c.w K} {i n : Nat} {a : Addr} {ob : Obj} {ks : List Nat} {l : List AV} {vs : List Value} {key v : Value} {x : AV} {k : AH -> Bool} {o' : AO} (hf : ∀ a b, f a = f b -> a = b) (R : Rel c W H s) (ha : W.ρ[i]? = some a) (ho : s.heap.get? a = some ob)
    (hd : Ji knd ob ((ks.map f).zip vs)) (hv : VRs c W l vs) (hl : ks.length = l.length) (hx : VR c W x v) (hkey : knd.is (f n) key = true) (hsh : ks.length < 100000)
    (hr : ∀ {o vs}, Ji knd o (((gput ks n).map f).zip vs) -> VRs c W (zi7 ks n x l) vs -> (gput ks n).length = (zi7 ks n x l).length -> OR c W o' o) (hk : k (hset H i o') = true) : wpAny c.M A (setItem (.ref a) key v) (fun _ => PH c W s k) NoE s := by
  refine zO0 hkey ho hd (fun h' ob' ho' hd' hs => ?_) (by rw [List.length_zip, List.length_map]; exact Nat.le_trans (Nat.min_le_left ..) (ZZ hsh))
  obtain ⟨es, _, _, _, _, hnd⟩ := hd
  obtain ⟨vs', h1, h2, h3⟩ := zu3 (n := n) hf hx hv hl hnd
  rw [h1] at hd'
  exact ⟨_, hk, .same hs ⟨_, ho'⟩ (.inr (List.mem_of_getElem? ha)) (.of (Nat.le_succ _)), R.upd (s' := { s with heap := h', toks := s.toks + 1 }) ha hs ho' (hr hd' h2 h3) (Nat.le_succ _)⟩
theorem yk5 (S : Stat c) {x y z : AV} {u i v : Value} {k : AH -> Bool} (R : Rel c W H s) (hu : VR c W x u) (hi : VR c W y i) (hv : VR c W z v) (hk : putK H x y z k = true) : wpAny c.M A (setItem u i v) (fun _ => PH c W s k) NoE s := by
  obtain ⟨e, hk⟩ := kd_t hk
  rcases ZS hk with ⟨e2, hk⟩ | hk
  · obtain ⟨a, o, rfl, ha, ho, vs, m, rfl, hvs⟩ := Yp R hu e e2
    obtain ⟨e3, hk⟩ := kd_t hk
    obtain ⟨t, rfl⟩ := hi.at e3
    obtain ⟨n, hn, hk⟩ := ZO hk
    obtain ⟨h1, hk⟩ := gd_t hk
    obtain ⟨h2, hk⟩ := gd_t hk
    have h1 : n < vs.length := hvs.len.symm ▸ Zw (hget H x.m).l ▸ Nat.blt_eq.mp h1
    have h2 : n < 1000000 := Nat.blt_eq.mp h2
    rw [hn]
    refine ki_setAt ho (Int.natCast_nonneg n) (Int.lt_trans (Int.ofNat_lt.mpr h2) (by decide)) (by rw [List.size_toArray]; exact Int.ofNat_lt.mpr h1) ?_
    have hs : Heap.SameBut a s.heap (s.heap.update a (Obj.mapSeq (·.setIfInBounds (n : Int).toNat v))) := Heap.SameBut.update ..
    have hg : (s.heap.update a (Obj.mapSeq (·.setIfInBounds (n : Int).toNat v))).get? a = some (Zx (vs.set n v) m) := by
      rw [Heap.get?_update_self _ ho rfl]
      simp [Obj.mapSeq, Zx]
    exact ⟨_, hk, .same hs ⟨_, hg⟩ (.inr (List.mem_of_getElem? ha)) (.of (Nat.le_refl _)), R.upd ha hs hg ⟨_, m, rfl, hvs.set hv⟩ (Nat.le_refl _)⟩
  obtain ⟨hsh, hk⟩ := ZG hk
  rcases ZS hk with ⟨e2, hk⟩ | hk
  · obtain ⟨a, o, rfl, ha, ho, vs, hd, hvs, hl⟩ := Yp R hu e e2
    obtain ⟨e3, hk⟩ := kd_t hk
    obtain ⟨t, rfl⟩ := hi.at e3
    obtain ⟨n, hn, hk⟩ := ZO hk
    rw [hn]
    exact zq9 (o' := oI _ _) VN R ha ho hd hvs hl hv (intKind_is _ _ _ _) hsh (fun h1 h2 h3 => ⟨_, h1, h2, h3⟩) hk
  · obtain ⟨e2, hk⟩ := kd_t hk
    obtain ⟨a, o, rfl, ha, ho, vs, hd, hvs, hl⟩ := Yp R hu e e2
    obtain ⟨e3, hk⟩ := kd_t hk
    obtain rfl := hi.at e3
    exact zq9 (o' := oH _ _) (zW0 S) R ha ho hd hvs hl hv (strKind_is _ _ _ _) hsh (fun h1 h2 h3 => ⟨_, h1, h2, h3⟩) hk
theorem Xc {σ : Type} {o i value : PySem.Expr} {pos' pos : Pos} {e a b : CE} {x : σ} {g : σ -> Ctx} (S : Stat c) (he : SimE c d sc Γ value e) (ha : SimE c d sc Γ o a) (hb : SimE c d sc Γ i b) (hg : ∀ y av, (g x).lookup y = some av -> Γ.lookup y = some av)
    (hs : ∀ env, swapsWith value (some (.Subscript o i pos')) pos.line env = pure false := by intro _; rfl) : Sim1 c d sc Γ (.Assign [.Subscript o i pos'] value pos) g (putC e a b x) := fun _ env _ _ _ _ _ D hk =>
  wpAny_Assign_Subscript (he.use D hk fun _ _ _ _ _ k1 x1 D1 v1 => ha.use D1 k1 fun _ _ _ _ _ k2 x2 D2 v2 => hb.use D2 k2 fun _ _ _ _ _ k3 x3 D3 v3 => wpAny_mono (yk5 S D3.R (v2.ext x3) v3 ((v1.ext x2).ext x3) k3) (fun _ s4 p => by
    obtain ⟨H4, h, X, R4⟩ := p
    exact .next x H4 _ h (x1.trans (x2.trans (x3.trans X))).any R4 ((D3.F.ext X).weak hg)) noe) (hs env)
theorem yd1 (hf : ∀ a b, f a = f b -> a = b) {n : Nat} {ks : List Nat} : ∀ {vs : List Value}, ks.length = vs.length -> (valueAt ((ks.map f).zip vs) (f n)).isSome = memB ks n := by
  induction ks with
  | nil => intro vs _; rfl
  | cons k ks ih =>
    intro vs h
    cases vs with
    | nil => cases h
    | cons v vs =>
      have e : (valueAt (((k :: ks).map f).zip (v :: vs)) (f n)) = if f k = f n then some v else valueAt ((ks.map f).zip vs) (f n) := by
        unfold valueAt
        rw [List.map_cons, List.zip_cons_cons, List.find?_cons]
        by_cases q : f k = f n <;> simp [q]
      rw [e]
      show _ = sel (Nat.beq k n) true (memB ks n)
      cases hb : Nat.beq k n with
      | true => rw [if_pos (congrArg f (Nat.eq_of_beq_eq_true hb))]; rfl
      | false => rw [if_neg fun q => Nat.ne_of_beq_eq_false hb (hf _ _ q)]; exact ih (Nat.succ.inj h)
theorem yv0 (S : Stat c) : Jj c d .In inK := fun {A W s H x y u v k} hA R hu hv hk => by
  obtain ⟨e, hk⟩ := kd_t hk
  obtain ⟨e2, hk⟩ := kd_t hk
  obtain ⟨e3, hk⟩ := kd_t hk
  obtain ⟨a, o, rfl, ha, ho, vs, hd, hvs, hl⟩ := Yp R hv e e2
  obtain ⟨t, rfl⟩ := hu.at e3
  obtain ⟨n, hn, hk⟩ := ZO hk
  have hdo : s.heap.DictOf (intKind c.prog c.w) a (ze3 (hget H y.m).ks vs) := Heap.dictOf_iff.mpr ⟨_, ho, hd.of⟩
  refine wpAny_in_of (knd := intKind c.prog c.w) (k := x.i) (intKind_is _ _ _ _) (zd8 S R ha) hdo.mapOf ⟨_, ?_, .tok R hk rfl (Nat.le_add_right _ 1)⟩
  rw [hn]
  exact congrArg Value.bool (yd1 VN (hl.trans hvs.len.symm))
inductive LmP (c : Cfg) (W : Wd) (s : Shared) (a : Addr) (kk : List AV -> Bool) (v : Value) : Shared -> Prop
  | mk (l : List AV) (vs : List Value) (n : Nat) (h' : Heap) (e : v = .none) (h : kk l = true) (hs : Heap.SameBut a s.heap h') (ho : h'.get? a = some (Zx vs n)) (r : VRs c W l vs) : LmP c W s a kk v { s with heap := h' }
def LmOk (c : Cfg) (id : String) (f : List AV -> List AV -> (List AV -> Bool) -> Bool) : Prop :=
  ∀ {A W s a vs n l args us kk}, s.heap.get? a = some (Zx vs n) -> VRs c W l vs -> VRs c W args us -> f l args kk = true -> (∀ x v, VR c W x v -> x.t = 13 -> ∃ b ws m, v = .ref b /\ s.heap.get? b = some (Zx ws m) /\ VRs c W x.l ws) -> wpAny c.M A (call (.builtin id) (.ref a :: us)) (LmP c W s a kk) NoE s
theorem ZQ {e : PySem.Expr} {es : List PySem.Expr} {pos : Pos} {env : Env} (he : starEach (e :: es) env = (false, eval e env) :: starEach es env) : backTo pos (starEach (e :: es) env) = (false, eval e env) :: backTo pos (starEach es env) := by rw [he]; rfl
theorem Xx {name : Str} {id : String} {f : List AV -> List AV -> (List AV -> Bool) -> Bool} {o e : PySem.Expr} {es : List PySem.Expr} {apos pos : Pos} {a : CE} {b : CF} (slot : Slot "list" name id) (hty : typeOf (.builtin id) = pure (.type "method_descriptor"))
    (hf : LmOk c id f) (ha : SimE c d sc Γ o a) (hb : SimL c d sc Γ (e :: es) b) (hbase : ∀ env, attributeBase o name env (eval o env) = eval o env := by intro _; rfl)
    (hfew : ∀ env, ((backTo pos (starEach (e :: es) env)).all (fun x => !x.1) && (backToKw pos (keywordEach [] env)).all (fun x => x.1.isSome)
      && decide ((e :: es).length + ([] : List Keyword).length + (if ([] : List Keyword).isEmpty then 0 else 1) < 30)) = true := by intro _; rfl)
    (hline : (apos.endLine == pos.line) = true := by rfl) (he : ∀ env, starEach (e :: es) env = (false, eval e env) :: starEach es env := by intro _; rfl) (hplain : ∀ env, (backTo pos (starEach (e :: es) env)).any (·.1) = false := by intro _; rfl) :
    SimE c d sc Γ (.Call (.Attribute o name apos) (e :: es) [] pos) (lmC f a b) := fun A env W s H k D hk => by
  refine wpAny_Call_method_late (hbase env) (hfew env) hline rfl (ha.use D hk fun x u H1 W1 s1 k1 x1 D1 v1 => ?_)
  obtain ⟨e1, k1⟩ := kd_t k1
  obtain ⟨e2, k1⟩ := kd_t k1
  obtain ⟨q, ob, rfl, hq, hob, vs0, n0, rfl, _⟩ := Yp D1.R v1 e1 e2
  refine ⟨"list", id, PySem.F.plainAttrs_list, slot, hty, ⟨_, hob, rfl⟩, fun z hz => by cases hz; exact ⟨_, hob, rfl⟩, ?_⟩
  refine Calls.callWith_builtin (hplain env) ?_
  rw [ZQ (he env)]
  refine Calls.evalArgs_plain ?_
  rw [<- ZQ (he env)]
  refine (hb.sim pos).use D1 k1 fun l us H2 W2 s2 k2 x2 D2 v2 => ?_
  obtain ⟨e3, k2⟩ := kd_t k2
  have hq2 := x2.le.ix _ _ hq
  obtain ⟨ob2, hob2, r⟩ := D2.R.obj _ _ hq2
  obtain ⟨vs, n, rfl, hvs⟩ := r.at e3
  refine wpAny_mono (hf hob2 hvs v2.1 k2 fun x v hv e => Yi D2.R hv e) (fun v s3 p => ?_) noe
  obtain ⟨l', vs', n', h', rfl, hk, hs, ho, hv⟩ := p
  exact ⟨aN, _, W2, hk, (x1.trans x2).trans (.same hs ⟨_, ho⟩ (.inr (List.mem_of_getElem? hq2)) (.of (Nat.le_refl _))), D2.R.upd (s' := { s2 with heap := h' }) hq2 hs ho ⟨vs', n', rfl, hv⟩ (Nat.le_refl _), rfl⟩
theorem YH : LmOk c "list.append" Yn := fun {A W s a vs n l args us kk} ho hvs hus hf _ => by
  obtain ⟨x, rfl, hf⟩ := XP hf
  obtain ⟨hsh, hf⟩ := ZG hf
  obtain ⟨v, t, rfl, hv, rfl⟩ := hus
  refine wpAny_list_append_plain ⟨n, ho⟩ (fun h' hpl hsb => ?_) (by rw [List.size_toArray, hvs.len]; exact ZZ hsh)
  obtain ⟨n', hn'⟩ := hpl
  exact ⟨_, vs ++ [v], n', h', rfl, hf, hsb, by rw [hn', List.push_toArray]; rfl, hvs.append ⟨v, [], rfl, hv, rfl⟩⟩
theorem VRs.ins {x : AV} {v : Value} (hv : VR c W x v) {i : Nat} : ∀ {l : List AV} {vs : List Value}, VRs c W l vs -> VRs c W (insL i x l) (vs.take i ++ v :: vs.drop i) := by
  induction i with
  | zero => exact fun {l vs} h => ⟨v, vs, rfl, hv, h⟩
  | succ i ih =>
    intro l vs h
    cases l with
    | nil => cases h; exact ⟨v, [], rfl, hv, rfl⟩
    | cons y l => obtain ⟨u, t, rfl, hu, ht⟩ := h; exact ⟨u, _, rfl, hu, ih ht⟩
theorem zM1 {α : Type} (l : List α) (i : Nat) (x : α) : l.take (min i l.length) ++ x :: l.drop (min i l.length) = (l.take i ++ x :: l.drop i) := by
  by_cases h : i <= l.length
  · rw [Nat.min_eq_left h]
  · have h := Nat.le_of_lt (Nat.not_le.mp h)
    rw [Nat.min_eq_right h, List.take_of_length_le (Nat.le_refl _), List.take_of_length_le h, List.drop_of_length_le (Nat.le_refl _), List.drop_of_length_le h]
theorem zh9 : LmOk c "list.insert" Jo := fun {A W s a vs n l args us kk} ho hvs hus hf _ => by
  obtain ⟨i, x, rfl, hf⟩ := Vz hf
  obtain ⟨e, hf⟩ := kd_t hf
  obtain ⟨k, hk, hf⟩ := ZO hf
  obtain ⟨h1, hf⟩ := gd_t hf
  obtain ⟨hsh, hf⟩ := ZG hf
  have h1 : k < 1000000 := Nat.blt_eq.mp h1
  obtain ⟨w, t, rfl, hw, v, t2, rfl, hv, rfl⟩ := hus
  obtain ⟨u, rfl⟩ := hw.at e
  refine call_meets PySem.F.slot_list_insert ⟨_, ho, rfl⟩ PySem.F.entry_list_insert (PySem.F.args_list_insert_3 _ _ _) (PySem.AutoSeq1.list_insert_list_int_val_1 a _ n i.i u v (by rw [hk]; simp [Builtin.List.listFitsIndex]; omega) (by rw [List.size_toArray, hvs.len]; exact ZZ hsh)) ⟨ho, ?_⟩
  refine ⟨_, vs.take k ++ v :: vs.drop k, n + 1, _, rfl, hf, Heap.SameBut.update .., ?_, hvs.ins hv⟩
  rw [Heap.get?_update_self _ ho (by simp [Obj.mapSeq, Zx, Obj.isFreed])]
  have e : (vs.toArray.extract 0 (min k vs.toArray.size)).push v ++ vs.toArray.extract (min k vs.toArray.size) = (vs.take k ++ v :: vs.drop k).toArray := by
    apply Array.toList_inj.mp
    rw [<- zM1]
    simp
    rw [List.take_of_length_le]
    simp
  have e2 : Obj.mapSeq (fun xs => (xs.extract 0 (if i.i < 0 then (i.i + (xs.size : Int)).toNat else min i.i.toNat xs.size)).push v ++ xs.extract (if i.i < 0 then (i.i + (xs.size : Int)).toNat else min i.i.toNat xs.size)) (Zx vs n) = Zx (vs.take k ++ v :: vs.drop k) (n + 1) := by
    have hne : ((vs.take k ++ v :: vs.drop k).toArray.size == vs.toArray.size) = false := by
      simp; omega
    rw [hk]
    simp only [Zx, Obj.mapSeq, Int.not_lt.mpr (Int.natCast_nonneg k), if_false, Int.toNat_natCast]
    rw [e, hne]; rfl
  exact congrArg some e2
theorem zi0 : LmOk c "list.extend" Vx := fun {A W s a vs n l args us kk} ho hvs hus hf hl => by
  obtain ⟨x, rfl, hf⟩ := XP hf
  obtain ⟨e, hf⟩ := kd_t hf
  obtain ⟨h1, hf⟩ := ZG hf
  obtain ⟨h2, hf⟩ := ZG hf
  obtain ⟨w, t, rfl, hw, rfl⟩ := hus
  obtain ⟨b, ws, n2, rfl, hob, hws⟩ := hl x w hw e
  have hz : vs.toArray.size + ws.toArray.size <= sizeLine := by rw [List.size_toArray, List.size_toArray, hvs.len, hws.len]; exact XH h1 h2
  refine call_meets PySem.F.slot_list_extend ⟨_, ho, rfl⟩ PySem.F.entry_list_extend (PySem.F.args_list_extend_2 _ _) (PySem.AutoSeq1.list_extend_list_list_0 a _ n b _ n2 (extend_door hz) (by rw [List.size_toArray, hvs.len]; exact ZZ h1) (Nat.le_succ_of_le hz)) ⟨ho, hob, ?_⟩
  refine ⟨_, vs ++ ws, if (vs.toArray ++ ws.toArray).size == vs.toArray.size then n else n + 1, _, rfl, hf, Heap.SameBut.update .., ?_, hvs.append hws⟩
  rw [Heap.get?_update_self _ ho (by simp [Obj.mapSeq, Zx, Obj.isFreed])]
  simp [Obj.mapSeq, Zx]
theorem VRs.reverse {l : List AV} : ∀ {vs : List Value}, VRs c W l vs -> VRs c W l.reverse vs.reverse := by
  induction l with
  | nil => intro vs h; cases h; rfl
  | cons y l ih =>
    rintro vs ⟨u, t, rfl, hu, ht⟩
    rw [List.reverse_cons, List.reverse_cons, <- ZM]
    exact (ih ht).append ⟨u, [], rfl, hu, rfl⟩
theorem yb4 (l : List AV) : ∀ acc, revL l acc = l.reverse ++ acc := by
  induction l with
  | nil => intro acc; rfl
  | cons x l ih => intro acc; rw [List.reverse_cons, List.append_assoc]; exact ih _
theorem VRs.take {n : Nat} : ∀ {l : List AV} {vs : List Value}, VRs c W l vs -> VRs c W (takL n l) (vs.take n) := by
  induction n with
  | zero => intro l vs _; exact List.take_zero
  | succ n ih =>
    intro l vs h
    cases l with
    | nil => cases h; rfl
    | cons y l => obtain ⟨u, t, rfl, hu, ht⟩ := h; exact ⟨u, _, rfl, hu, ih ht⟩
theorem zb4 {value slice : PySem.Expr} {pos : Pos} {W₀ : Wd} {s₀ : Shared} {k : AV -> AH -> Bool} {q : Addr} {vs vs' : List Value} {l' : List AV} {m : Nat} {so : Obj} {x y z : Value} (X : Ext [] W₀ W s₀ s) (R : Rel c W H s) (ho : s.heap.get? q = some (Zx vs m)) (hsz : vs.length < 100000)
    (hsub : ∀ o i, ∃ l, subscripted slice false o i = operate l (getItem o i)) (hso : so = { cls := .type "slice", data := .fields #[x, y, z] })
    (get : ∀ {Q : Value -> Shared -> Prop} {s3 : Shared}, s3.heap.IsList q vs.toArray -> s3.heap.get? s.heap.objs.size = some so -> Q (.ref s3.heap.objs.size) { s3 with heap := s3.heap.push (Zx vs' 0) } -> wpAny c.M A (getItem (.ref q) (.ref s.heap.objs.size)) Q NoE s3)
    (hv : VRs c W l' vs') (hk : mkL false l' H k = true) : wpAny c.M A (standAt pos >>= fun _ => getitemInPython (.ref q) >>= fun b => subscripted slice b (.ref q) (.ref s.heap.objs.size) >>= fun r => letTemporaryGo value (.ref q) r >>= fun _ => pure r) (PE c W₀ s₀ k) NoE { s with heap := s.heap.push so } := by
  have ho3 : ({ s with heap := s.heap.push so } : Shared).heap.get? q = some (Zx vs m) := ZH so ho
  refine wpAny_bind (wpAny_standAt (wpAny_bind (wpAny_mono (YI ⟨_, ho3, rfl⟩ PySem.slot_list_getitem.lookup) (fun b s' hb => ?_) noe)))
  obtain ⟨rfl, rfl⟩ := hb
  obtain ⟨l, e⟩ := hsub (.ref q) (.ref s.heap.objs.size)
  rw [e]
  exact wpAny_bind (wpAny_operating (get (ZX ho3) (Heap.get?_push_size _ (by rw [hso]; rfl)) (wpAny_bind (wpAny_letTemporaryGo (wpAny_pure (.pushL (X.trans (.push so)) (R.push so) hv hk rfl))))))
theorem zl3 {value : PySem.Expr} {n : Nat} {p p1 p2 pos : Pos} {a : CE} (ha : SimE c d sc Γ value a) : SimE c d sc Γ (.Subscript value (.Slice none none (some (.UnaryOp .USub (.Constant (.int 1) n p1) p2)) p) pos) (revC a) := fun A env W s H k D hk => by
  show wpAny _ _ (eval _ _) _ _ _
  rw [eval_Subscript]
  refine wpAny_bind (ha.use D hk fun x u H1 W1 s1 k1 x1 D1 v1 => ?_)
  obtain ⟨l, q, vs, m, rfl, ho, hvs, hsh, k1⟩ := ze5 D1.R v1 k1
  rw [yb4, List.append_nil] at k1
  refine wpAny_bind (wpAny_holding (wpAny_Slice (wpAny_pure (wpAny_pure ?_))))
  rw [evalPart_some]
  show wpAny _ _ (eval (.Constant (.int 1) n p1) env >>= fun v => standAt p2 >>= fun _ => holding [v] (unaryOp .USub v)) _ _ _
  refine wpAny_bind (wpAny_Constant_int (wpAny_bind (wpAny_standAt (wpAny_holding (PySem.P.neg_int ?_)))))
  have x2 : Ext [] W1 W1 s1 { s1 with toks := s1.toks + 1 + 1 } := .grow (fun _ _ e => e) (.of (Nat.le_add_right _ 2))
  refine zb4 (s := { s1 with toks := s1.toks + 1 + 1 }) (vs' := vs.reverse) (x1.trans x2) (D1.R.tick (Nat.le_add_right _ 2)) ho hsh (fun _ _ => ⟨_, rfl⟩) rfl (fun hl hso q => ?_) hvs.reverse k1
  refine wpAny_getItem_list_slice hl ⟨_, hso, rfl, rfl⟩ .none .none (.int (-1) _) (by simp) ?_ (by rw [List.size_toArray]; exact ZZ hsh)
  rw [krv_pick]
  simpa [Zx] using q
theorem yj8 {value upper : PySem.Expr} {p pos : Pos} {a b : CE} (ha : SimE c d sc Γ value a) (hb : SimE c d sc Γ upper b) : SimE c d sc Γ (.Subscript value (.Slice none (some upper) none p) pos) (upC a b) := fun A env W s H k D hk => by
  show wpAny _ _ (eval _ _) _ _ _
  rw [eval_Subscript]
  refine wpAny_bind (ha.use D hk fun x u H1 W1 s1 k1 x1 D1 v1 => wpAny_bind (wpAny_holding (wpAny_Slice (wpAny_pure ?_))))
  rw [evalPart_some]
  refine hb.use D1 k1 fun y w H2 W2 s2 k2 x2 D2 v2 => wpAny_pure ?_
  obtain ⟨l, q, vs, m, rfl, ho, hvs, hsh, k2⟩ := ze5 D2.R (v1.ext x2) k2
  obtain ⟨e, k2⟩ := kd_t k2
  obtain ⟨t, rfl⟩ := v2.at e
  obtain ⟨i, hi, k2⟩ := ZO k2
  rw [hi]
  refine zb4 (vs' := vs.take i) (x1.trans x2) D2.R ho hsh (fun _ _ => ⟨_, rfl⟩) rfl (fun hl hso q => ?_) hvs.take k2
  refine wpAny_getItem_list_slice hl ⟨_, hso, rfl, rfl⟩ .none (.int i _) .none (by simp) ?_ (by rw [List.size_toArray]; exact ZZ hsh)
  rw [slicePick_upto']
  simpa [Zx] using q
end
end Mine
end
section
namespace Mine
open PySem PySem.W PySem.Calls PyProof.Rows
section
variable {c : Cfg} {d : Nat} {sc : Sc} {Γ : Ctx} {W : Wd} {s : Shared} {H : AH} {A : Around} {env : Env}
theorem Rel.in (S : Stat c) (R : Rel c W H s) : c.K.In s.heap := fun a o e => (R.st a o (S.K a o e)).1
theorem Rel.top (S : Stat c) (R : Rel c W H s) : TopRead c.prog c.loose c.mg c.mb s.heap := S.T s.heap fun a o e => (R.st a o e).1
theorem Xj {x : Str} {pos : Pos} {v : Value} {Q : Value -> Shared -> Prop} (S : Stat c) (D : Rdy c d sc Γ A env W s H) (hx : sc.lookup x = some .globalImplicit) (e : nsIn c.K mainGlobals x = some (some v)) (h : Q v s) (hd : (x == ("__debug__" : Str)) = false) : wpAny c.M A (eval (.Name x pos) env) Q NoE s :=
  Name_function_global D.F.kind (YU D.hs hx) (loadGlobal_global (by rw [D.F.glob]; exact (D.R.top S).g) (mg_of (D.R.in S) (D.R.top S).g e) h) hd
theorem zr3 {x : Str} {pos : Pos} {v : Value} {Q : Value -> Shared -> Prop} (S : Stat c) (D : Rdy c d sc Γ A env W s H) (hx : sc.lookup x = some .globalImplicit) (e : nsIn c.K mainGlobals x = some none) (hv : bootBuiltins x = some v) (hn : x ≠ "__name__") (h : Q v s) (hd : (x == ("__debug__" : Str)) = false) : wpAny c.M A (eval (.Name x pos) env) Q NoE s :=
  Name_function_global D.F.kind (YU D.hs hx) (loadGlobal_builtin (by rw [D.F.glob]; exact (D.R.top S).g) (mg_none_of (D.R.in S) (D.R.top S).g e) (by rw [D.F.blt]; exact (D.R.top S).b) (((D.R.top S).builtins x hn).trans hv) h) hd
structure FnO (c : Cfg) (f : Nat) (fd : FuncData) : Prop where
  ob : ∃ o, c.K.lookup (c.fa f) = some o /\ o.data = .func fd
  cd : codeIn c.K fd.code fd.qualname = true
  glob : fd.globals = mainGlobals
  clo : fd.closure = []
  blt : fd.builtins = builtinsNs
  co : fd.scope.isCoroutine = false
  gen : fd.scope.isGenerator = false
  kd : fd.scope.kind = .function
  src : fd.scope.names = c.ps -> fd.code = c.pc /\ fd.qualname ++ ".<locals>." = c.pq
structure FnAt (c : Cfg) (f : Nat) (fd : FuncData) : Prop extends FnO c f fd where
  ns : nsIn c.K mainGlobals fd.name = some (some (.ref (c.fa f)))
theorem zT0 {kindOf : Str -> Option NameKind} {x : Str} {binds : List (Str × Value)} : ∀ {m : Str -> Option Value}, (∀ p ∈ binds, p.1 ≠ x) -> bindL kindOf binds m x = m x := by
  induction binds with
  | nil => exact fun _ => rfl
  | cons p r ih =>
    intro m h
    unfold bindL
    rw [ih fun p hp => h p (List.mem_cons_of_mem _ hp)]
    split
    · exact if_neg (Ne.symm (h _ (List.mem_cons_self ..)))
    · rfl
theorem zT1 {kindOf : Str -> Option NameKind} {x : Str} {binds : List (Str × Value)} : ∀ {m : Str -> Option Value}, (∀ p ∈ binds, p.1 ≠ x) -> bindC kindOf binds m x = m x := by
  induction binds with
  | nil => exact fun _ => rfl
  | cons p r ih =>
    intro m h
    unfold bindC
    rw [ih fun p hp => h p (List.mem_cons_of_mem _ hp)]
    split
    · rfl
    · exact if_neg (Ne.symm (h _ (List.mem_cons_self ..)))
theorem zt2 {kindOf : Str -> Option NameKind} {x : Str} {av : AV} {names : List Str} : ∀ {avs : List AV} {vals : List Value} {m cm : Str -> Option Value}, names.Nodup -> VRs c W avs vals -> (names.zip avs).lookup x = some av ->
    ∃ v, VR c W av v /\ x ∈ names /\ (kindOf x = some .local -> bindL kindOf (names.zip vals) m x = some v) /\ (kindOf x ≠ some .local -> bindC kindOf (names.zip vals) cm x = some v) := by
  induction names with
  | nil => intro avs vals m cm _ _ e; cases e
  | cons n names ih =>
    intro avs vals m cm hn r e
    cases avs with
    | nil => cases e
    | cons a avs =>
      obtain ⟨v, t, rfl, hv, ht⟩ := r
      rw [List.nodup_cons] at hn
      rcases ZE e with ⟨rfl, rfl⟩ | ⟨_, e⟩
      · have hno : ∀ p ∈ names.zip t, p.1 ≠ x := fun p hp q => hn.1 (q ▸ (List.of_mem_zip hp).1)
        refine ⟨v, hv, List.mem_cons_self .., fun hk => ?_, fun hk => ?_⟩
        · rw [List.zip_cons_cons, bindL, zT0 hno, if_pos hk]; exact if_pos rfl
        · rw [List.zip_cons_cons, bindC, zT1 hno, if_neg hk]; exact if_pos rfl
      · rw [List.zip_cons_cons]
        unfold bindL bindC
        obtain ⟨v, h1, h2, h3⟩ := ih hn.2 ht e
        exact ⟨v, h1, List.mem_cons_of_mem _ h2, h3⟩
inductive PC (c : Cfg) (W : Wd) (s : Shared) (k : AV -> AH -> Bool) (r : Result) (s' : Shared) : Prop
  | mk (v : Value) (e : r = .ok (.ret v)) (p : PE c W s k v s') : PC c W s k r s'
structure Vq (scope : Scope) (names : List Str) : Prop where
  nd : zb3 names = true
  st : ∀ x ∈ names, Zr scope.names x = true
  cn : zb3 ((cellsFrom 0 scope.names []).map (·.1)) = true
theorem JM (names : List (Str × NameKind)) (h : Heap) : yt5 (pushCells (h.push { cls := .type "frame", data := .dict #[] }) names) (h.objs.size + 1) names [] (cellsFrom (h.objs.size + 1) names []) := by
  have := zb8 names (h.push { cls := .type "frame", data := .dict #[] }) [] (fun _ h => nomatch h) List.Pairwise.nil
  rwa [Heap.size_push] at this
theorem zs8 {fd : FuncData} {names : List Str} {vals : List Value} (N : Vq fd.scope names) (x : Str × Value) (hx : x ∈ names.zip vals) :
    fd.scope.names.lookup x.1 = some .local \/ (fd.scope.names.lookup x.1 = some .cell /\ ((cellsFrom (s.heap.objs.size + 1) fd.scope.names []).lookup x.1).isSome = true) :=
  (YC (N.st x.1 (List.of_mem_zip hx).1)).imp id fun h => ⟨h, by obtain ⟨a, ha⟩ := (JM fd.scope.names s.heap).yes x.1 (.inr (mem_of_lookup h)); rw [ha]; rfl⟩
theorem zs7 {f : Nat} {fd : FuncData} {s' : Shared} {names : List Str} {avs : List AV} {vals : List Value} (At : FnO c f fd) (R : Rel c W H s) (hv : VRs c W avs vals) (N : Vq fd.scope names)
    (he : env = newEnv fd.scope s.heap.objs.size mainGlobals (cellsFrom (s.heap.objs.size + 1) fd.scope.names []) (fd.qualname ++ Str.ofString ".<locals>.") (some (c.fa f)) fd.code none builtinsNs)
    (y : InCallC s env.locals (bindL env.kindOf (names.zip vals) fun _ => none) env.cells (bindC env.kindOf (names.zip vals) fun _ => none) s') (le : s.toks <= s'.toks) :
    FrR c W s' env (names.zip avs) /\ Rel c W H s' /\ ∀ {W2 s2}, Ext (ownA env) W W2 s' s2 -> Ext [] W W2 s s2 := by
  have hsc : env.scope.names = fd.scope.names := by rw [he]; rfl
  have hL : env.locals = s.heap.objs.size := by rw [he]; rfl
  have hcs : env.cells = cellsFrom (s.heap.objs.size + 1) fd.scope.names [] := by rw [he]; rfl
  obtain ⟨h₁, tk, rfl, hk₁⟩ := y.done
  have Z := JM fd.scope.names s.heap
  rw [<- hcs] at Z
  obtain ⟨n0, f0⟩ := YA R
  have ge : ∀ a ∈ ownA env, s.heap.get? a = none := fun a h => by
    rcases List.mem_cons.mp h with rfl | h
    · rw [hL]; exact n0
    · obtain ⟨p, hp, rfl⟩ := List.mem_map.mp h
      exact Ya (hL ▸ Nat.le_of_lt (y.above p.1 p.2 hp))
  have cellOf : ∀ {x}, env.kindOf x = some .cell -> ∃ a, env.cells.lookup x = some a := fun h => Z.yes _ (.inr (mem_of_lookup (hsc ▸ h : fd.scope.names.lookup _ = _)))
  refine ⟨⟨by rw [he]; exact At.kd, by rw [he]; rfl, by rw [he]; rfl, hL ▸ f0, ⟨_, y.toInCall.ns, fun x av h1 h2 => ?_⟩, fun x av h1 h2 => ?_, fun x h1 => cellOf h1, fun p hp => ?_, y.apart, fun h1 _ => ?_⟩, R.grow hk₁ le, fun {W2 s2} X => ?_⟩
  · obtain ⟨v, h3, _, h4, _⟩ := zt2 (m := fun _ => none) (cm := fun _ => none) (kindOf := env.kindOf) (Yf N.nd) hv h1
    exact ⟨v, h4 h2, h3⟩
  · obtain ⟨v, h3, hm, _, h4⟩ := zt2 (m := fun _ => none) (cm := fun _ => none) (kindOf := env.kindOf) (Yf N.nd) hv h1
    have hkx : env.kindOf x = some .cell := (YC (N.st x hm)).elim (fun h => absurd (YU hsc h) h2) fun h => YU hsc h
    obtain ⟨a, ha⟩ := cellOf hkx
    exact ⟨.inl hkx, a, v, ha, h4 h2 ▸ y.cell x a ha, h3⟩
  · have f := R.free (ge p.2 (List.mem_cons_of_mem _ (List.mem_map_of_mem hp)))
    exact ⟨f.r, f.m, fun _ => f.b, _, y.cell _ _ (lookup_of_mem_nodup (by rw [hcs]; exact cellsFrom_names fd.scope.names 0 (s.heap.objs.size + 1) [] [] rfl ▸ Yf N.cn) hp)⟩
  · have h2 := At.src (hsc ▸ h1)
    rw [he]
    exact h2
  · exact Ext.fresh (.grow hk₁ (.of le)) X ge
theorem zI6 {f : Nat} {fd : FuncData} {body : List Stmt} {code : CS Unit} {g : Unit -> Ctx} {k : AV -> AH -> Bool} {args : Args} {names : List Str} {avs : List AV} {vals : List Value} (S : Stat c) (At : FnO c f fd) (hbody : fd.body = .stmts body) (hsim : SimS c d fd.scope.names (names.zip avs) body g code)
    (hA : AOk (d + 1) A) (R : Rel c W H s) (hv : VRs c W avs vals) (hbind : BindsTo s fd args (names.zip vals)) (N : Vq fd.scope names) (hk : code H (fun _ H1 => k aN H1) k = true) : codeAny c.M A (.call (.ref (c.fa f)) args) (PC c W s k) s := by
  obtain ⟨o, ho, hd⟩ := At.ob
  have X := R.in S
  have T := R.top S
  refine codeAny_call_function (Nat.lt_of_le_of_lt (Nat.le_add_right A.depth (d + 1)) hA.dp) (X _ _ ho) hd At.co At.gen hbody (codeRec_of X At.cd) (hbind _ _ _ _ ?_)
  rw [At.clo, At.blt, At.glob]
  refine ZP (wpAny_newFunctionEnv_cells At.kd (zs8 N) fun env he s' y le => ⟨T.nolimit.keeps y.toInCall.keep, codeAny_func ?_⟩)
  obtain ⟨F, R1, hext⟩ := zs7 At R hv N he y le
  refine wpAny_mono (hsim (A.deeper env) env W s' H _ k ⟨hA.deeper, by rw [he]; rfl, F, R1⟩ hk) (fun fl s2 p => ?_) noe
  cases p with
  | next _ H2 W2 h X2 R2 _ => exact ⟨.none, rfl, aN, H2, W2, h, hext X2, R2, rfl⟩
  | ret x H2 W2 h X2 R2 r => exact ⟨_, rfl, x, H2, W2, h, hext X2, R2, r⟩
noncomputable def zi8 (i : Nat) : Option Stmt := nth PySem.Challenge.pw_xr0018_01.main.body i
noncomputable def Ye (i : Nat) : List Stmt := match zi8 i with
  | some (.FunctionDef _ _ body ..) => body
  | _ => []
noncomputable def zG5 (i : Nat) : Arguments := match zi8 i with
  | some (.FunctionDef _ args ..) => args
  | _ => ⟨[], [], none, [], [], none, []⟩
noncomputable def zG4 (i : Nat) : Str := match zi8 i with
  | some (.FunctionDef n ..) => n
  | _ => ""
noncomputable def Zv (i : Nat) : Scope := match zi8 i with
  | some (.FunctionDef _ _ _ _ _ _ sc ..) => sc
  | _ => default
structure Def (c : Cfg) (i : Nat) (fd : FuncData) : Prop where
  at' : FnAt c i fd
  name : fd.name = zG4 i
  body : fd.body = .stmts (Ye i)
  scope : fd.scope = Zv i
  params : fd.params = zG5 i
def FnC (c : Cfg) (d : Nat) (f : Nat) (fd : FuncData) (names : List Str) (code : List AV -> CE) : Prop :=
  ∀ {A W H s k args avs vals}, AOk d A -> Rel c W H s -> VRs c W avs vals -> BindsTo s fd args (names.zip vals) -> code avs H k = true -> codeAny c.M A (.call (.ref (c.fa f)) args) (PC c W s k) s
theorem Yd {f : Nat} {fd : FuncData} {names : List Str} {code : List AV -> CS Unit} {g : List AV -> Unit -> Ctx} (S : Stat c) (D : Def c f fd) (hsim : ∀ avs, SimS c d (Zv f).names (names.zip avs) (Ye f) (g avs) (code avs)) (N : Vq (Zv f) names) : FnC c (d + 1) f fd names (Zn code) :=
  fun hA R hv hb hk => zI6 S D.at'.toFnO D.body (by rw [D.scope]; exact hsim _) hA R hv hb (by rw [D.scope]; exact N) hk
def ZA (fd : FuncData) (names : List Str) : Prop := ∀ (s : Shared) (vals : List Value), vals.length = names.length -> BindsTo s fd ⟨vals, []⟩ (names.zip vals)
theorem FnC.pe {f e : Nat} {fd : FuncData} {names : List Str} {code : List AV -> CE} {args : Args} {avs : List AV} {vals : List Value} {W0 : Wd} {s0 : Shared} {k : AV -> AH -> Bool} (hC : FnC c e f fd names code) (hA : AOk d A) (hle : e <= d) (R : Rel c W H s) (hv : VRs c W avs vals) (hb : BindsTo s fd args (names.zip vals)) (x : Ext [] W0 W s0 s) (hk : code avs H k = true)
    {Q : Value -> Shared -> Prop} (q : ∀ v s', PE c W0 s0 k v s' -> Q v s') : codeAny c.M A (.call (.ref (c.fa f)) args) (fun r s' => match r with | .ok (.ret v) => Q v s' | .ok _ => False | .error e => NoE e s') s :=
  codeAny_mono (hC (hA.le hle) R hv hb hk) fun r s' p => p.rec fun v e p2 => by subst e; exact q v s' (PG.trans p2 x)
theorem Zp {f e : Nat} {fd : FuncData} {names : List Str} {code : List AV -> CE} {x : Str} {px pos : Pos} {e1 : PySem.Expr} {es : List PySem.Expr} {b : CF} (S : Stat c) (D : Def c f fd) (hC : FnC c e f fd names code) (hle : e <= d)
    (hx : fd.name = x) (hsc : sc.lookup x = some .globalImplicit) (hb : SimL c d sc Γ (e1 :: es) b) (hbind : ZA fd names) (hn : names.length = (e1 :: es).length) (hd : (x == ("__debug__" : Str)) = false) (he : ∀ env, starEach (e1 :: es) env = (false, eval e1 env) :: starEach es env := by intro _; rfl) :
    SimE c d sc Γ (.Call (.Name x px) (e1 :: es) [] pos) (ZC code b) := fun A env W s H k Z hk => by
  refine wpAny_Call_Name_kw (Xj S Z hsc (hx ▸ D.at'.ns) ?_ hd)
  obtain ⟨o, ho, hdat⟩ := D.at'.ob
  refine callWith_function_kw (o := o) (fd := fd) ?_
  show wpAny _ _ (evalArgs _ true (backTo pos (starEach (e1 :: es) env)) []) _ _ _
  rw [ZQ (he env)]
  refine Calls.evalArgs_plain ?_
  rw [<- ZQ (he env)]
  exact (hb.sim pos).use Z hk fun l us H2 W2 s2 k2 x2 D2 v2 => ⟨⟨(D2.R.in S) _ _ ho, hdat⟩, wpAny_call (hC.pe Z.hA hle D2.R v2.1 (hbind s2 us (v2.2.trans hn.symm)) x2 k2 fun _ _ p => p)⟩
theorem Yv {f e n : Nat} {fd : FuncData} {names : List Str} {code : List AV -> CE} {df : List AV} {x y : Str} {px pos p : Pos} {e1 ev : PySem.Expr} {es : List PySem.Expr} {b : CF} {a : CE} (S : Stat c) (D : Def c f fd) (hC : FnC c e f fd names code) (hle : e <= d)
    (hx : fd.name = x) (hsc : sc.lookup x = some .globalImplicit) (hb : SimL c d sc Γ (e1 :: es) b) (ha : SimE c d sc Γ ev a)
    (hbind : ∀ {W H} {s : Shared} {vs : List Value} {v : Value}, Rel c W H s -> vs.length = n -> ∃ dvs, BindsTo s fd ⟨vs, [(y, v)]⟩ (names.zip (vs ++ (dvs ++ [v]))) /\ VRs c W df dvs) (hn : n = (e1 :: es).length) (hd : (x == ("__debug__" : Str)) = false)
    (hall : ∀ env, (backToKw pos (keywordEach [⟨some y, ev, p⟩] env)).all (·.1.isSome) = true := by intro _; rfl)
    (hkz : ∀ env (v : Value), ((backToKw pos (keywordEach [⟨some y, ev, p⟩] env)).filterMap (·.1)).zip [v] = [(y, v)] := by intro _ _; rfl)
    (he : ∀ env, starEach (e1 :: es) env = (false, eval e1 env) :: starEach es env := by intro _; rfl) : SimE c d sc Γ (.Call (.Name x px) (e1 :: es) [⟨some y, ev, p⟩] pos) (kwC code df b a) := fun A env W s H k Z hk => by
  refine wpAny_Call_Name_kw (Xj S Z hsc (hx ▸ D.at'.ns) ?_ hd)
  obtain ⟨o, ho, hdat⟩ := D.at'.ob
  refine callWith_function_kw (o := o) (fd := fd) (evalArgs_kw2 (hall env) ((hb.sim pos).use Z hk fun l us H2 W2 s2 k2 x2 D2 v2 => kwAll_cons (ha.use D2 k2 fun av v H3 W3 s3 k3 x3 D3 v3 => kwAll_nil ?_)) (he env))
  rw [hkz]
  obtain ⟨dvs, hbd, hdv⟩ := hbind (v := v) D3.R (v2.2.trans hn.symm)
  exact ⟨⟨(D3.R.in S) _ _ ho, hdat⟩, wpAny_call (hC.pe Z.hA hle D3.R ((v2.1.ext x3).append (hdv.append (show VRs c W3 [av] [v] from ⟨v, [], rfl, v3, rfl⟩))) hbd (x2.trans x3) k3 fun _ _ p => p)⟩
theorem VI {f : Nat} {fd : FuncData} {x : Str} {pos : Pos} (S : Stat c) (D : Def c f fd) (hx : fd.name = x) (hsc : sc.lookup x = some .globalImplicit) (hd : (x == ("__debug__" : Str)) = false) : SimE c d sc Γ (.Name x pos) (litC (aF f)) :=
  fun _ _ _ _ _ _ Z hk => Xj S Z hsc (hx ▸ D.at'.ns) (.now Z.R hk rfl) hd
end
section
variable {c : Cfg} {d : Nat} {sc : Sc} {Γ : Ctx} {W : Wd} {s : Shared} {H : AH} {A : Around} {env : Env} {k : AV -> AH -> Bool}
def BiOk (c : Cfg) (d : Nat) (v : Value) (f : AH -> List AV -> (AV -> AH -> Bool) -> Bool) : Prop := ∀ {A W H s args us k}, AOk d A -> Rel c W H s -> VRs c W args us -> f H args k = true -> wpAny c.M A (call v us) (PE c W s k) NoE s
theorem ZF {f : AH -> List AV -> (AV -> AH -> Bool) -> Bool} {v : Value} {x : Str} {px pos : Pos} {e1 : PySem.Expr} {es : List PySem.Expr} {b : CF} (S : Stat c) (hf : BiOk c d v f) (hv : (∃ id, v = .builtin id) \/ ∃ T, v = .type T) (hx : bootBuiltins x = some v) (hno : nsIn c.K mainGlobals x = some none) (hsc : sc.lookup x = some .globalImplicit) (hb : SimL c d sc Γ (e1 :: es) b)
    (hd : (x == ("__debug__" : Str)) = false) (hn : x ≠ "__name__") (he : ∀ env, starEach (e1 :: es) env = (false, eval e1 env) :: starEach es env := by intro _; rfl) (hplain : ∀ env, (backTo pos (starEach (e1 :: es) env)).any (·.1) = false := by intro _; rfl) :
    SimE c d sc Γ (.Call (.Name x px) (e1 :: es) [] pos) (biC f b) := fun A env W s H k D hk => by
  refine wpAny_Call_Name_kw (zr3 S D hsc hno hx hn ?_ hd)
  have main : wpAny c.M A (evs (e1 :: es) pos env) (fun us s2 => wpAny c.M A (call v us) (PE c W s k) NoE s2) NoE s := (hb.sim pos).use D hk fun _ _ _ _ _ k2 x2 D2 v2 => wpAny_mono (hf D2.hA D2.R v2.1 k2) (fun _ _ p => p.trans x2) noe
  show wpAny c.M A (callWith pos v [] (backTo pos (starEach (e1 :: es) env)) []) _ _ _
  have hbe := ZQ (pos := pos) (he env)
  rcases hv with ⟨id, rfl⟩ | ⟨T, rfl⟩
  · refine Calls.callWith_builtin (hplain env) ?_
    rw [hbe]
    refine Calls.evalArgs_plain ?_
    rw [<- hbe]
    exact main
  · refine PyProof.Rows.callWith_type (hplain env) ?_
    rw [hbe]
    refine Calls.evalArgs_plain ?_
    rw [<- hbe]
    exact main
theorem Vp {x : AV} {v : Value} {kk : List Nat -> Bool} (h : XT x kk = true) (hv : VR c W x v) : kk x.s = true /\ ∃ t, v = .str (txt x.s) t := (ZS h).elim (fun h => ⟨h.2, hv.at h.1⟩) fun h => ⟨(kd_t h).2, (hv.at (kd_t h).1).imp fun _ h => h.1⟩
def zL2 (c : Cfg) (d : Nat) : Prop := ∀ {A W H s a i k}, AOk d A -> Rel c W H s -> W.ρ[i]? = some a -> (hget H i).t = 3 -> (hget H (hget H i).d).t = 4 -> (hget H 0).t = 5 -> (hget H 0).d = 0 -> zt6 (hget H i).l (fun n => gd (Nat.blt n (nat_lit 100000)) (k (aZ (.ofNat n)) H)) = true -> wpAny c.M A (call (.builtin "len") [.ref a]) (PE c W s k) NoE s
theorem l63 {n : Nat} (h : n < 100000) : (n : Int) < 2 ^ 63 := by omega
theorem zI9 (S : Stat c) (hacc : zL2 c d) : BiOk c d (.builtin "len") lenF := fun {A W H s args us k} hA R hus hk => by
  obtain ⟨x, rfl, hk⟩ := XP hk
  obtain ⟨u, t, rfl, hu, rfl⟩ := hus
  have fin : ∀ {m n : Nat}, n = m -> k (aI (.ofNat m)) H = true -> PE c W s k (.int (n : Int) (s.toks + 1)) { s with toks := s.toks + 2 } := fun e h => e ▸ .int R h
  rcases ZS hk with ⟨e, hk⟩ | hk
  · obtain ⟨a, vs, n, rfl, ho, hvs⟩ := Yi R hu e
    obtain ⟨hs, hk⟩ := ZG hk
    have hl : vs.toArray.size = lenN x.l := (List.size_toArray ..).trans (hvs.len.trans (Zw _).symm)
    exact call_len_list (ZX ho) (by rw [hl, Zw]; exact l63 hs) (fin hl hk)
  rcases ZS hk with ⟨e, hk⟩ | hk
  · rcases ZS hk with ⟨e2, hk⟩ | hk
    · obtain ⟨a, o, rfl, _, ho, vs, n, rfl, hvs⟩ := Yp R hu e e2
      obtain ⟨hs, hk⟩ := ZG hk
      have hl : vs.toArray.size = lenN (hget H x.m).l := (List.size_toArray ..).trans (hvs.len.trans (Zw _).symm)
      exact call_len_list (ZX ho) (by rw [hl, Zw]; exact l63 hs) (fin hl hk)
    rcases ZS hk with ⟨e2, hk⟩ | hk
    · obtain ⟨a, o, rfl, ha, ho, vs, hd, hvs, hl⟩ := Yp R hu e e2
      obtain ⟨hs, hk⟩ := ZG hk
      have hz := Vy (hvs.len.trans hl.symm)
      exact call_len_dict (zd8 S R ha) (Heap.dictOf_iff.mpr ⟨_, ho, hd.of⟩) (by rw [hz]; exact l63 hs) (fin (hz.trans (Zw _).symm) hk)
    · obtain ⟨e2, hk⟩ := kd_t hk
      obtain ⟨e3, hk⟩ := kd_t hk
      obtain ⟨e4, hk⟩ := kd_t hk
      obtain ⟨e5, hk⟩ := kd_t hk
      obtain ⟨a, rfl, ha⟩ := hu.at e
      exact hacc hA R ha e2 e3 e4 e5 hk
  rcases ZS hk with ⟨e, hk⟩ | hk
  · obtain ⟨a, vs, n, rfl, ho, hvs⟩ := XI R hu e
    obtain ⟨hs, hk⟩ := ZG hk
    have hl : vs.toArray.size = lenN x.l := (List.size_toArray ..).trans (hvs.len.trans (Zw _).symm)
    exact len_tuple ⟨_, ho, rfl, n, rfl⟩ (by rw [hl, Zw]; exact l63 hs) (fin hl hk)
  · obtain ⟨e, hk⟩ := kd_t hk
    obtain ⟨hs, hk⟩ := ZG hk
    obtain ⟨t, rfl⟩ := hu.at e
    have hl : Str.length (txt x.s) = lenN x.s := (List.size_toArray ..).trans (Zw _).symm
    exact PySem.P.len_str (by rw [hl, Zw]; exact Int.not_le.mpr (l63 hs)) (fin hl hk)
theorem yd2 (a b : Int) : (if b > a then b else a) = maxI a b := by
  unfold maxI
  cases h : ltB a b with
  | true => exact if_pos (ltB_iff.mp h)
  | false => exact if_neg (zD9 h)
theorem zX7 : BiOk c d (.builtin "max") maxF := fun {A W H s args us k} hA R hus hk => by
  obtain ⟨x, y, rfl, hk⟩ := Vz hk
  obtain ⟨u, r, rfl, hu, v, r2, rfl, hv, rfl⟩ := hus
  obtain ⟨e, hk⟩ := kd_t hk
  obtain ⟨e2, hk⟩ := kd_t hk
  obtain ⟨t, rfl⟩ := hu.at e
  obtain ⟨t2, rfl⟩ := hv.at e2
  rw [<- yd2] at hk
  refine ZP (max_two_ints hA.hd fun h' tk hg le => .more R hk ?_ le hg)
  by_cases q : y.i > x.i
  · rw [if_pos q, if_pos q]; exact ⟨t2, rfl⟩
  · rw [if_neg q, if_neg q]; exact ⟨t, rfl⟩
theorem JC {a b st : Int} {t u x : Tok} {tk : Nat} (R : Rel c W H s) (hk : k (aG a b st) H = true) (le : s.toks <= tk) : PE c W s k (.ref s.heap.objs.size) { s with heap := s.heap.push (zq7 a b st t u x), toks := tk } :=
  .pushF (s := { s with toks := tk }) (x := aG a b st) (ob := zq7 a b st t u x) (.grow (fun _ _ e => e) (.of le)) (R.tick le) (.inr (.inr rfl)) ⟨a, b, st, t, u, x, rfl, rfl⟩ rfl hk rfl
theorem ZL : BiOk c d (.type "range") Yc := fun {A W H s args us k} hA R hus hk => by
  obtain ⟨x, r, rfl, hk⟩ := JK hk
  obtain ⟨u, us, rfl, hu, hus⟩ := hus
  obtain ⟨e, hk⟩ := kd_t hk
  obtain ⟨t, rfl⟩ := hu.at e
  cases r with
  | nil => cases hus; exact call_range_1 (JC R hk (Nat.le_add_right s.toks 2))
  | cons y r =>
    obtain ⟨u, us, rfl, hu, hus⟩ := hus
    obtain ⟨e, hk⟩ := kd_t hk
    obtain ⟨t2, rfl⟩ := hu.at e
    cases r with
    | nil => cases hus; exact call_range_2 (JC R hk (Nat.le_add_right _ _))
    | cons z r =>
      obtain ⟨u, us, rfl, hu, hus⟩ := hus
      obtain ⟨rfl, hk⟩ := zR1 hk
      cases hus
      obtain ⟨e, hk⟩ := kd_t hk
      obtain ⟨hs, hk⟩ := Jy hk
      obtain ⟨t3, rfl⟩ := hu.at e
      rcases YR hk with ⟨_, h⟩ | ⟨h0, hk⟩
      · cases h
      · exact call_range_3 (zH1 h0) (JC R hk (Nat.le_refl _)) (.inl (PyProof.noPylong_small hs))
def YW (c : Cfg) : Prop := ∀ k, (c.hn k).length < 100000
theorem XV (a b : List Nat) : txt a ++ txt b = txt (app a b) := by rw [ZM]; exact congrArg Str.mk (List.append_toArray ..)
theorem zs9 (x : Str) : txt [46] ++ x = XY x := by unfold XY txt; exact congrArg Str.mk (by simp)
theorem ZN (a : List Nat) : (txt a).length = a.length := List.size_toArray ..
theorem yc4 (hh : YW c) : zp4 c d .Add ys8 := fun {A W s H x y u v k} hA R hu hv hk => by
  obtain ⟨hk, t, rfl⟩ := Vp hk hu
  rcases ZS hk with ⟨e, hk⟩ | hk
  · obtain ⟨he, hk⟩ := gd_t hk
    obtain rfl := hv.at e
    rw [YL.mp he]
    exact ZP (PyProof.Rows.add_str (fun t' tk le => .tok R hk ⟨t', by rw [zs9]; rfl⟩ le) (XH (by decide) (hh _)))
  · obtain ⟨hk, t2, rfl⟩ := Vp hk hv
    obtain ⟨h1, hk⟩ := ZG hk
    obtain ⟨h2, hk⟩ := ZG hk
    exact ZP (PyProof.Rows.add_str (fun t' tk le => .tok R hk ⟨t', by rw [XV]; rfl⟩ le) (XH (ZN _ ▸ h1) (ZN _ ▸ h2)))
theorem ZI (hh : YW c) : zp4 c d .Add ZW := fun {A W s H x y u v k} hA R hu hv hk => by
  rcases ZS hk with ⟨e, hk⟩ | hk
  · obtain ⟨e2, hk⟩ := kd_t hk
    obtain ⟨t, rfl⟩ := hu.at e
    obtain ⟨t2, rfl⟩ := hv.at e2
    exact P.add_int (.int R (VU _ _ ▸ hk))
  rcases ZS hk with ⟨e, hk⟩ | hk
  · obtain ⟨e2, hk⟩ := kd_t hk
    obtain ⟨t, rfl⟩ := hu.at e
    obtain ⟨t2, rfl⟩ := hv.at e2
    exact P.add_int (.tok R hk ⟨_, by rw [Int.add_assoc]; show _ = Value.int (c.sz + addI x.i y.i) _; rw [VU]⟩ (Nat.le_succ _))
  rcases ZS hk with ⟨e, hk⟩ | hk
  · exact zC6 hA R hu hv hk
  rcases ZS hk with ⟨e, hk⟩ | hk
  · exact zC6 hA R hu hv hk
  · exact yc4 hh hA R hu hv hk
theorem zP0 (n : Nat) : repL n ([] : List Nat) = [] := by
  induction n with
  | zero => rfl
  | succ n ih => exact ih
theorem yc9 (l : List Nat) (n : Nat) : Txt.mul (txt l) (n : Int) = txt (repL n l) := by
  unfold Txt.mul
  by_cases hn : (n : Int) < 1
  · rw [if_pos hn, Nat.lt_one_iff.mp (Int.ofNat_lt.mp hn)]; rfl
  · rw [if_neg hn]
    by_cases hc : ((n : Int) == 1 || Str.length (txt l) == 0) = true
    · rw [if_pos hc]
      rcases Bool.or_eq_true_iff.mp hc with h | h
      · rw [Int.ofNat_inj.mp (beq_iff_eq.mp h : (n : Int) = ((1 : Nat) : Int))]
        exact congrArg txt ((ZM l []).trans (List.append_nil l)).symm
      · have h0 : l = [] := List.eq_nil_of_length_eq_zero ((ZN l).symm.trans (beq_iff_eq.mp h))
        rw [h0, zP0]
    · rw [if_neg hc]
      have rep : ∀ (m : Nat) (acc : Array Nat), List.foldl (fun x1 x2 => x1 ++ x2) acc (List.replicate m l.toArray) = acc ++ (repL m l).toArray := by
        intro m
        induction m with
        | zero => intro acc; exact (Array.append_empty).symm
        | succ m ih => intro acc; rw [List.replicate_succ, List.foldl_cons, ih, Array.append_assoc, show repL (m + 1) l = app l (repL m l) from rfl, ZM, List.append_toArray l]
      exact congrArg Str.mk ((rep n #[]).trans (Array.empty_append ..))
theorem yc3 : zp4 c d .Mult ym1 := fun {A W s H x y u v k} hA R hu hv hk => by
  obtain ⟨e, hk⟩ := kd_t hk
  obtain ⟨e2, hk⟩ := kd_t hk
  obtain ⟨n, hn, hk⟩ := ZO hk
  obtain ⟨h1, hk⟩ := gd_t hk
  obtain ⟨h2, hk⟩ := ZG hk
  have h1 : n < 100 := Nat.blt_eq.mp h1
  obtain ⟨t, rfl⟩ := hu.at e
  obtain ⟨t2, rfl⟩ := hv.at e2
  exact ZP (PySem.SB.mul (PyProof.Rows.mulOk_of 100000 100 (by rw [ZN]; exact Nat.le_of_lt h2) (by rw [hn]; omega) (by rw [hn]; omega) (by decide) (by decide)) fun t' tk le => .tok R hk ⟨t', by rw [hn, yc9]; rfl⟩ le)
theorem zd7 : zp4 c d .Mult zD4 := fun hA R hu hv hk => (ZS hk).elim (fun h => Zz yl4 hA R hu hv h.2) fun h => yc3 hA R hu hv h
theorem zu4 (x : Str) (t t' : Tok) (hx : x.length < 100000) : sliceMade (XY x) t (some (1, t')) none none = .str x := by
  have hl : (XY x).length = x.length + 1 := by simp [Str.length, XY]
  have e1 : slicePicked (XY x) (some (1, t')) none none = Builtin.Str.strSliceIndices (some ((1 : Nat) : Int)) (some (((XY x).length : Nat) : Int)) 1 (XY x).length := by
    unfold slicePicked
    simp only [Option.map_some, Option.map_none, Option.getD_none]
    exact PySem.StrLaws.sliceIdx_none_hi _ _
  unfold sliceMade
  have hne : ((((none : Option (Int × Tok)).map (·.1)).getD 1 == 1 && (slicePicked (XY x) (some (1, t')) none none).length == (XY x).length)) = false := by
    rw [e1, PySem.StrLaws.strSliceIndices_plain (by omega) (Nat.le_refl _)]
    simp [hl]
  rw [hne, e1, PySem.StrLaws.sliced_plain _ (by omega) (Nat.le_refl _)]
  simp only [Bool.false_eq_true, if_false]
  congr 1
  simp [XY, Str.length]
  rw [List.take_of_length_le (by simp)]
theorem zA7 {value : PySem.Expr} {n : Nat} {p1 p pos : Pos} {a : CE} (hh : YW c) (ha : SimE c d sc Γ value a) : SimE c d sc Γ (.Subscript value (.Slice (some (.Constant (.int 1) n p1)) none none p) pos) (oneC a) := fun A env W s H k D hk => by
  show wpAny _ _ (eval _ _) _ _ _
  rw [eval_Subscript]
  refine wpAny_bind (ha.use D hk fun x u H1 W1 s1 k1 x1 D1 v1 => ?_)
  obtain ⟨e, k1⟩ := kd_t k1
  obtain ⟨t, rfl⟩ := v1.at e
  refine wpAny_bind (wpAny_holding (wpAny_Slice ?_))
  rw [evalPart_some]
  refine wpAny_Constant_int (wpAny_pure (wpAny_pure ?_))
  generalize hso : ({ cls := .type "slice", data := .fields #[.int 1 s1.toks, .none, .none] } : Obj) = so
  have g : ∀ a o, s1.heap.get? a = some o -> (s1.heap.push so).get? a = some o := fun _ _ => ZH so
  show wpAny c.M A (standAt pos >>= fun _ => getitemInPython (.str (XY (c.hn x.m)) t) >>= fun b => subscripted (.Slice (some (.Constant (.int 1) n p1)) none none p) b (.str (XY (c.hn x.m)) t) (.ref s1.heap.objs.size) >>= fun r => letTemporaryGo value (.str (XY (c.hn x.m)) t) r >>= fun _ => pure r) (PE c W s k) NoE { s1 with heap := s1.heap.push so, toks := s1.toks + 1 }
  refine wpAny_bind (wpAny_standAt (wpAny_bind (wpAny_mono (YI (typeIs_str _ _ t) PySem.F.slot_str_getitem.lookup) (fun b s' hb => ?_) noe)))
  obtain ⟨rfl, rfl⟩ := hb
  refine wpAny_bind (wpAny_operating ?_)
  refine wpAny_getItem_str_slice (l := some (1, s1.toks)) (u := none) (st := none) ⟨_, Heap.get?_push_size _ (hso ▸ rfl), hso ▸ rfl, hso ▸ rfl⟩ rfl ?_
  rw [zu4 (c.hn x.m) t s1.toks (hh _)]
  refine ⟨ZZ (hh _), wpAny_bind (wpAny_letTemporaryGo (wpAny_pure (PG.trans (show PE c W1 s1 k (.str (c.hn x.m) (s1.toks + 1)) { s1 with heap := s1.heap.push so, toks := s1.toks + 2 } from .more D1.R k1 ⟨_, rfl, ?_, ?_⟩ (Nat.le_add_right _ 2) g) x1)))⟩
  · exact Nat.ne_of_gt (Nat.lt_succ_of_lt (Nat.lt_of_lt_of_le D1.R.tok.1 (Nat.le_trans D1.R.tok.2.1 D1.R.tok.2.2)))
  · exact Nat.le_succ_of_le (Nat.le_trans D1.R.tok.2.1 D1.R.tok.2.2)
noncomputable def za6 (a : CE) : CE := fun H k => a H fun v H1 => kd v.t 4 (k (aUp v.m) H1)
theorem zg8 {o : PySem.Expr} {apos pos : Pos} {a : CE} (hh : YW c) (ha : SimE c d sc Γ o a) (hbase : ∀ env, attributeBase o "upper" env (eval o env) = eval o env := by intro _; rfl) (hline : (apos.endLine == pos.line) = true := by rfl) :
    SimE c d sc Γ (.Call (.Attribute o "upper" apos) [] [] pos) (za6 a) := fun A env W s H k D hk => by
  refine wpAny_Call_method0_late (hbase env) hline (ha.use D hk fun x u H1 W1 s1 k1 x1 D1 v1 => ?_)
  obtain ⟨e, k1⟩ := kd_t k1
  obtain rfl := v1.at e
  refine ⟨"str", "str.upper", PySem.F.plainAttrs_str, PySem.F.slot_str_upper, PySem.F.type_str_upper, typeIs_str _ _ _, fun _ h => (nomatch h), Calls.callWith_builtin rfl ?_⟩
  show wpAny c.M A (evalArgs (.builtin "str.upper") true [] []) (fun a s₁ => wpAny c.M A (call (.builtin "str.upper") ([.str (c.hn x.m) (c.ht x.m)] ++ a.pos) a.kw) (PE c W s k) NoE s₁) NoE s1
  exact PyProof.Rows.evalArgs_nil3 (PyProof.Rows.SCL.upper (by have := hh x.m; omega) fun _ => PG.trans (.tok D1.R k1 ⟨_, rfl⟩ (Nat.le_succ _)) x1)
theorem ye9 {l : List AV} : ∀ {vs : List Value} {kk : List Nat -> Bool}, yf0 l kk = true -> VRs c W l vs -> ∃ ss : List (List Nat), CarriedAll vs ((ss.map txt).map PyData.str) /\ (∀ x ∈ ss, x.length <= 15) /\ kk ss.flatten = true /\ ss.length = l.length := by
  induction l with
  | nil => intro vs kk h hv; cases hv; exact ⟨[], .nil, fun _ h => (nomatch h), h, rfl⟩
  | cons x l ih =>
    intro vs kk h hv
    obtain ⟨v, t, rfl, h1, h2⟩ := hv
    obtain ⟨h, tk, rfl⟩ := Vp (show XT x (fun a => gd (Nat.ble (lenN a) (nat_lit 15)) (yf0 l fun n => kk (app a n))) = true from h) h1
    obtain ⟨hb, h⟩ := gd_t h
    obtain ⟨ss, g1, g2, g3, g4⟩ := ih h h2
    refine ⟨x.s :: ss, .cons (.str _ _) g1, fun y hy => ?_, by rw [ZM] at g3; exact g3, congrArg Nat.succ g4⟩
    rcases List.mem_cons.mp hy with rfl | hy
    · exact Zw x.s ▸ Nat.le_of_ble_eq_true hb
    · exact g2 y hy
theorem VQ (ss : List (List Nat)) : Str.join ⟨#[]⟩ (ss.map txt) = txt ss.flatten := by
  induction ss with
  | nil => rfl
  | cons x r ih =>
    cases r with
    | nil => exact congrArg txt (List.append_nil x).symm
    | cons y r =>
      show txt x ++ ⟨#[]⟩ ++ Str.join ⟨#[]⟩ ((y :: r).map txt) = _
      rw [ih, show txt x ++ ⟨#[]⟩ = txt x from congrArg Str.mk Array.append_empty, XV, ZM]
      rfl
theorem zq0 {n : Nat} {p1 apos pos : Pos} {e : PySem.Expr} {b : CF} (hb : SimL c d sc Γ [e] b)
    (hbase : ∀ env, attributeBase (.Constant (.str (Str.ofString "")) n p1) "join" env (eval (.Constant (.str (Str.ofString "")) n p1) env) = eval (.Constant (.str (Str.ofString "")) n p1) env := by intro _; rfl)
    (hfew : ∀ env, ((backTo pos (starEach [e] env)).all (fun x => !x.1) && (backToKw pos (keywordEach [] env)).all (fun x => x.1.isSome) && decide ([e].length + ([] : List Keyword).length + (if ([] : List Keyword).isEmpty then 0 else 1) < 30)) = true := by intro _; rfl)
    (hline : (apos.endLine == pos.line) = true := by rfl) (he : ∀ env, starEach [e] env = (false, eval e env) :: starEach [] env := by intro _; rfl) (hplain : ∀ env, (backTo pos (starEach [e] env)).any (·.1) = false := by intro _; rfl) :
    SimE c d sc Γ (.Call (.Attribute (.Constant (.str (Str.ofString "")) n p1) "join" apos) [e] [] pos) (zQ5 b) := fun A env W s H k D hk => by
  refine wpAny_Call_method_late (hbase env) (hfew env) hline rfl (Calls.Constant_str ?_)
  refine ⟨"str", "str.join", PySem.F.plainAttrs_str, PySem.F.slot_str_join, PySem.F.type_str_join, typeIs_str _ _ _, fun _ h => (nomatch h), Calls.callWith_builtin (hplain env) ?_⟩
  rw [ZQ (he env)]
  refine Calls.evalArgs_plain ?_
  rw [<- ZQ (he env)]
  have x0 : Ext [] W W s { s with toks := s.toks + 1 } := .grow (fun _ _ e => e) (.of (Nat.le_succ _))
  refine (hb.sim pos).use ⟨D.hA, D.hs, D.F.ext x0, D.R.tick (Nat.le_succ _)⟩ hk fun l us H2 W2 s2 k2 x2 D2 v2 => ?_
  obtain ⟨x, rfl, k2⟩ := XP k2
  obtain ⟨e1, k2⟩ := kd_t k2
  obtain ⟨hs, k2⟩ := ZG k2
  obtain ⟨v, t, rfl, hv, rfl⟩ := v2.1
  obtain ⟨a, vs, nn, rfl, ho, hvs⟩ := Yi D2.R hv e1
  obtain ⟨ss, g1, g2, g3, g4⟩ := ye9 k2 hvs
  refine ZP (PyProof.Rows.join_madeW (l := ss) (g := txt) 15 (ZX ho) (by simpa using g1) (fun x hx => (ZN x).symm ▸ g2 x hx) (by omega) (by decide) fun t' tk le => PG.trans (.tok D2.R g3 ⟨t', ?_⟩ le) (x0.trans x2))
  show Value.str (Builtin.Str.glued _ _) t' = _
  rw [PySem.StrLaws.glued_eq_join, show Str.ofString "" = ⟨#[]⟩ by decide +kernel, VQ]
  rfl
end
end Mine
end
section
namespace Mine
open PySem PySem.W PySem.Calls PyProof.Rows PySem.SeqAt
theorem VE {α : Type} {p : α -> Bool} {l : List α} (h : allL p l = true) : ∀ x ∈ l, p x = true := by
  induction l with
  | nil => exact fun _ h => nomatch h
  | cons y l ih =>
    intro x hx
    obtain ⟨h1, h2⟩ := gd_t (show gd (p y) (allL p l) = true from h)
    rcases List.mem_cons.mp hx with rfl | hx
    · exact h1
    · exact ih h2 x hx
theorem zt3 {l : List Nat} (h : Ys l = true) : PyData.strOk (txt l) = true := by
  unfold PyData.strOk txt
  simp only [List.all_toArray, List.all_eq_true, decide_eq_true_eq]
  intro x hx
  have : x < 128 := Nat.blt_eq.mp (VE h x hx)
  omega
inductive EqD (h : Heap) (n : Nat) (u v : Value) (b : Bool) : Prop
  | mk (dx dy : PyData) (as bs : List Addr) (r1 : Reads h u dx as) (r2 : Reads h v dy bs) (l1 : dx.canLay0 = true) (l2 : dy.canLay0 = true) (d1 : dx.depth <= n) (d2 : dy.depth <= n) (m : noMix dx dy = true) (e : Spec.same dx dy = b) : EqD h n u v b
inductive EqDs (h : Heap) (n : Nat) (us vs : List Value) (b : Bool) : Prop
  | mk (dx dy : List PyData) (as bs : List Addr) (r1 : ReadsAll h us dx as) (r2 : ReadsAll h vs dy bs) (l1 : PyData.canLayAll0 dx = true) (l2 : PyData.canLayAll0 dy = true) (d1 : PyData.depthAll dx <= n) (d2 : PyData.depthAll dy <= n) (m : noMixAll dx dy = true) (e : Spec.sameAll dx dy = b) : EqDs h n us vs b
section
variable {c : Cfg} {d : Nat} {sc : Sc} {Γ : Ctx} {W : Wd} {s : Shared} {H : AH} {A : Around}
theorem zi5 {h : Heap} {n : Nat} {l : List AV} : ∀ {vs : List Value}, allL isIB l = true -> VRs c W l vs -> ∃ ds as, ReadsAll h vs ds as /\ PyData.canLayAll0 ds = true /\ PyData.depthAll ds <= n := by
  induction l with
  | nil => intro vs _ hv; cases hv; exact ⟨[], [], .nil, rfl, Nat.zero_le _⟩
  | cons x l ih =>
    intro vs h hv
    obtain ⟨h1, h2⟩ := gd_t (show gd (isIB x) (allL isIB l) = true from h)
    obtain ⟨v, t, rfl, hv, ht⟩ := hv
    obtain ⟨tk, rfl⟩ := hv.at (Nat.eq_of_beq_eq_true h1)
    obtain ⟨ds, as, r, l1, d1⟩ := ih h2 ht
    exact ⟨.int x.i :: ds, _, .cons (.int _ _) r, by simp [PyData.canLayAll0, PyData.canLay0, l1], by simp only [PyData.depthAll, PyData.depth]; exact Nat.max_le.mpr ⟨Nat.zero_le _, d1⟩⟩
theorem zW9 {f : AV -> AV -> (Bool -> Bool) -> Bool} {n : Nat} (hf : ∀ {x y u v kk}, f x y kk = true -> VR c W x u -> VR c W y v -> ∃ b, kk b = true /\ EqD s.heap n u v b) {l : List AV} : ∀ {m : List AV} {us vs : List Value} {kk : Bool -> Bool}, eqLs f l m kk = true -> VRs c W l us -> VRs c W m vs -> ∃ b, kk b = true /\ EqDs s.heap n us vs b := by
  induction l with
  | nil =>
    intro m us vs kk h hu hv
    cases hu
    cases m with
    | nil => cases hv; exact ⟨true, h, [], [], [], [], .nil, .nil, rfl, rfl, Nat.zero_le _, Nat.zero_le _, rfl, rfl⟩
    | cons y r =>
      obtain ⟨h1, h⟩ := gd_t h
      obtain ⟨ds, as, q, l1, d1⟩ := zi5 (h := s.heap) (n := n) h1 hv
      cases q with
      | nil => obtain ⟨_, _, e, _⟩ := hv; cases e
      | cons q1 q2 => exact ⟨false, h, [], _, [], _, .nil, .cons q1 q2, rfl, l1, Nat.zero_le _, d1, rfl, rfl⟩
  | cons x l ih =>
    intro m us vs kk h hu hv
    cases m with
    | nil =>
      cases hv
      obtain ⟨h1, h⟩ := gd_t h
      obtain ⟨ds, as, q, l1, d1⟩ := zi5 (h := s.heap) (n := n) h1 hu
      cases q with
      | nil => obtain ⟨_, _, e, _⟩ := hu; cases e
      | cons q1 q2 => exact ⟨false, h, _, [], _, [], .cons q1 q2, .nil, l1, rfl, d1, Nat.zero_le _, rfl, rfl⟩
    | cons y m =>
      obtain ⟨u, us, rfl, hu, hus⟩ := hu
      obtain ⟨v, vs, rfl, hv, hvs⟩ := hv
      obtain ⟨a, h, dx, dy, as, bs, r1, r2, l1, l2, d1, d2, m1, e1⟩ := hf h hu hv
      obtain ⟨b, h, dx', dy', as', bs', r1', r2', l1', l2', d1', d2', m1', e1'⟩ := ih h hus hvs
      refine ⟨sel a b false, h, dx :: dx', dy :: dy', _, _, .cons r1 r1', .cons r2 r2', by simp only [PyData.canLayAll0, l1, l1']; rfl, by simp only [PyData.canLayAll0, l2, l2']; rfl, by simp only [PyData.depthAll]; exact Nat.max_le.mpr ⟨d1, d1'⟩,
        by simp only [PyData.depthAll]; exact Nat.max_le.mpr ⟨d2, d2'⟩, by simp only [noMixAll, m1, m1']; rfl, by simp only [Spec.sameAll, e1, e1']; cases a <;> rfl⟩
theorem zr9 {x : AV} {v : Value} {kk : List AV -> Bool} (R : Rel c W H s) (hv : VR c W x v) (h : zF4 H x kk = true) : ∃ l a vs n, v = .ref a /\ s.heap.get? a = some (Zx vs n) /\ VRs c W l vs /\ kk l = true := by
  rcases ZS h with ⟨e, h⟩ | h
  · obtain ⟨a, vs, n, rfl, ho, hvs⟩ := Yi R hv e
    exact ⟨_, a, vs, n, rfl, ho, hvs, h⟩
  · obtain ⟨e, h⟩ := kd_t h
    obtain ⟨e2, h⟩ := kd_t h
    obtain ⟨a, o, rfl, _, ho, vs, n, rfl, hvs⟩ := Yp R hv e e2
    exact ⟨_, a, vs, n, rfl, ho, hvs, h⟩
theorem zz8 (a b : List Nat) : ((txt a) == (txt b)) = eqL a b := by
  rw [Bool.eq_iff_iff, YL, beq_iff_eq]
  exact ⟨fun h => by simpa [txt] using h, fun h => h ▸ rfl⟩
theorem yM9 (R : Rel c W H s) (n : Nat) : ∀ {x y : AV} {u v : Value} {kk : Bool -> Bool}, eqX H n x y kk = true -> VR c W x u -> VR c W y v -> ∃ b, kk b = true /\ EqD s.heap n u v b := by
  induction n with
  | zero => intro x y u v kk h; cases h
  | succ n ih =>
    intro x y u v kk h hu hv
    have it : ∀ {i j t t'}, EqD s.heap (n + 1) (.int i t) (.int j t') (i == j) := fun {i j t t'} => ⟨.int i, .int j, _, _, .int _ _, .int _ _, rfl, rfl, Nat.zero_le _, Nat.zero_le _, rfl, rfl⟩
    have tx : XT y (fun b => gd (Ys x.s) (gd (Ys b) (kk (eqL x.s b)))) = true -> (∃ t, u = .str (txt x.s) t) -> ∃ b, kk b = true /\ EqD s.heap (n + 1) u v b := fun h hu => by
      obtain ⟨h, t', rfl⟩ := Vp h hv
      obtain ⟨t, rfl⟩ := hu
      obtain ⟨h1, h⟩ := gd_t h
      obtain ⟨h2, h⟩ := gd_t h
      exact ⟨_, h, .str (txt x.s), .str (txt y.s), _, _, .str _ _, .str _ _, by simp only [PyData.canLay0, zt3 h1], by simp only [PyData.canLay0, zt3 h2], Nat.zero_le _, Nat.zero_le _, rfl, zz8 _ _⟩
    rcases ZS h with ⟨e, h⟩ | h
    · obtain ⟨e2, h⟩ := kd_t h
      obtain ⟨t, rfl⟩ := hu.at e
      obtain ⟨t', rfl⟩ := hv.at e2
      exact ⟨_, h, zJ1 _ _ ▸ it⟩
    rcases ZS h with ⟨e, h⟩ | h
    · obtain ⟨e2, h⟩ := kd_t h
      obtain ⟨a, us, k, rfl, ho, hus⟩ := XI R hu e
      obtain ⟨b, vs, k', rfl, ho', hvs⟩ := XI R hv e2
      obtain ⟨r, h, dx, dy, as, bs, r1, r2, l1, l2, d1, d2, m1, e1⟩ := zW9 ih h hus hvs
      exact ⟨r, h, .tuple dx, .tuple dy, _, _, .tuple ho rfl rfl r1, .tuple ho' rfl rfl r2, by simp only [PyData.canLay0, l1], by simp only [PyData.canLay0, l2], by simp only [PyData.depth]; omega, by simp only [PyData.depth]; omega, by simp only [noMix, m1], by simp only [Spec.same, e1]⟩
    rcases ZS h with ⟨e, h⟩ | h
    · obtain ⟨e2, h⟩ := kd_t h
      obtain ⟨t, rfl⟩ := hu.at e
      obtain ⟨t', rfl⟩ := hv.at e2
      have q : (c.sz + x.i == c.sz + y.i) = eqB x.i y.i := by rw [Bool.eq_iff_iff, eqB_iff, beq_iff_eq]; exact ⟨Int.add_left_cancel, fun h => h ▸ rfl⟩
      exact ⟨_, h, q ▸ it⟩
    rcases ZS h with ⟨e, h⟩ | h
    · exact tx h (hu.at e)
    rcases ZS h with ⟨e, h⟩ | h
    · exact tx h ((hu.at e).imp fun _ h => h.1)
    · obtain ⟨l, a, us, k, rfl, ho, hus, h⟩ := zr9 R hu h
      obtain ⟨m, b, vs, k', rfl, ho', hvs, h⟩ := zr9 R hv h
      obtain ⟨r, h, dx, dy, as, bs, r1, r2, l1, l2, d1, d2, m1, e1⟩ := zW9 ih h hus hvs
      exact ⟨r, h, .list dx, .list dy, _, _, .list ho rfl rfl r1, .list ho' rfl rfl r2, by simp only [PyData.canLay0, l1], by simp only [PyData.canLay0, l2], by simp only [PyData.depth]; omega, by simp only [PyData.depth]; omega, by simp only [noMix, m1], by simp only [Spec.same, e1]⟩
theorem EqD.sh {n : Nat} {dx : PyData} (h : n <= 64) (l : dx.canLay0 = true) (d1 : dx.depth <= n) : shaped dx = true := by unfold shaped; rw [l]; exact decide_eq_true (Nat.le_trans d1 h)
theorem Js {x : AV} {v : Value} {kk : Nat -> Bool} (h : Ja x kk = true) (hv : VR c W x v) : kk x.m = true /\ ∃ t, v = .str (c.hn x.m) t := (ZS h).elim (fun h => ⟨h.2, _, hv.at h.1⟩) fun h => ⟨(kd_t h).2, (hv.at (kd_t h).1).imp fun _ h => h.1⟩
theorem yr5 (S : Stat c) (a b : Nat) : (c.hn a == c.hn b) = Nat.beq a b := by
  rw [Bool.eq_iff_iff, beq_iff_eq]
  exact ⟨fun h => S.hinj _ _ h ▸ Nat.beq_refl a, fun h => Nat.eq_of_beq_eq_true h ▸ rfl⟩
theorem zX0 (S : Stat c) (h7 : 7 <= d) {op : CmpOp} {g : Bool -> Bool} (hi : ∀ {A s x y t u} {Q : Value -> Shared -> Prop}, Q (.bool (g (x == y))) s -> wpAny c.M A (compareOp op (.int x t) (.int y u)) Q NoE s)
    (hs : ∀ {A s x y t u} {Q : Value -> Shared -> Prop}, Q (.bool (g (x == y))) s -> wpAny c.M A (compareOp op (.str x t) (.str y u)) Q NoE s)
    (hd : ∀ {A s a b da db as bs} {Q : Value -> Shared -> Prop}, Reads s.heap a da as -> Reads s.heap b db bs -> shaped da = true -> shaped db = true -> A.units + 64 < cLine -> noMix da db = true -> Q (.bool (g (Spec.same da db))) s -> wpAny c.M A (compareOp op a b) Q NoE s) : Jj c d op (eqG g) := fun {A W s H x y u v k} hA R hu hv hk => by
  have ho : Ja y (fun b => k (g (Nat.beq x.m b)) H) = true -> (∃ t, u = .str (c.hn x.m) t) -> wpAny c.M A (compareOp op u v) (fun r s' => ∃ z, r = .bool z /\ PT c W s k z s') NoE s := fun h hu => by
    obtain ⟨h, t', rfl⟩ := Js h hv
    obtain ⟨t, rfl⟩ := hu
    exact hs ⟨_, rfl, .now R h (congrArg g (yr5 S _ _))⟩
  rcases ZS hk with ⟨e, hk⟩ | hk
  · obtain ⟨e2, hk⟩ := kd_t hk
    obtain ⟨t, rfl⟩ := hu.at e
    obtain ⟨t', rfl⟩ := hv.at e2
    exact hi ⟨_, rfl, .now R hk (congrArg g (zJ1 _ _))⟩
  rcases ZS hk with ⟨e, hk⟩ | hk
  · exact ho hk ⟨_, hu.at e⟩
  rcases ZS hk with ⟨e, hk⟩ | hk
  · exact ho hk ((hu.at e).imp fun _ h => h.1)
  rcases ZS hk with ⟨e, hk⟩ | hk
  · obtain ⟨hk, t', rfl⟩ := Vp hk hv
    obtain ⟨t, rfl⟩ := hu.at e
    exact hs ⟨_, rfl, .now R hk (congrArg g (zz8 _ _))⟩
  · obtain ⟨b, hk, dx, dy, as, bs, r1, r2, l1, l2, d1, d2, m1, rfl⟩ := yM9 R 5 hk hu hv
    exact hd r1 r2 (EqD.sh (by decide) l1 d1) (EqD.sh (by decide) l2 d2) (Nat.lt_of_le_of_lt (Nat.add_le_add_left (Nat.le_trans (by decide : 64 <= 10 * 7) (Nat.mul_le_mul_left 10 h7)) _) hA.un) m1 ⟨_, rfl, .now R hk rfl⟩
theorem zm6 (b : Bool) : notB b = !b := by cases b <;> rfl
theorem Xe (S : Stat c) (h7 : 7 <= d) : Jj c d .Eq eqK := zX0 S h7 (fun q => P.eq_int q) (fun q => PyProof.Rows.eq_str q) fun r1 r2 h1 h2 hu m q => eq_dataH_same r1 r2 h1 h2 hu m q
theorem zC4 (S : Stat c) (h7 : 7 <= d) : Jj c d .NotEq neK := zX0 S h7 (fun q => P.ne_int (by rw [bne, <- zm6]; exact q)) (fun q => PyProof.Rows.ne_str (by rw [bne, <- zm6]; exact q)) fun r1 r2 h1 h2 hu m q => ne_dataH_same r1 r2 h1 h2 hu m (by rw [<- zm6]; exact q)
theorem JE : Jj c d .Lt ltK := fun {A W s H x y u v k} hA R hu hv hk => by
  rcases ZS hk with ⟨e, hk⟩ | hk
  · obtain ⟨e2, hk⟩ := kd_t hk
    obtain ⟨t, rfl⟩ := hu.at e
    obtain ⟨t', rfl⟩ := hv.at e2
    exact P.lt_int ⟨_, b_eq ltB_iff ▸ rfl, .now R hk rfl⟩
  · obtain ⟨e, hk⟩ := kd_t hk
    obtain ⟨e2, hk⟩ := kd_t hk
    obtain rfl := hu.at e
    obtain rfl := hv.at e2
    refine lt_bool ⟨_, rfl, .now R hk ?_⟩
    cases x.b <;> cases y.b <;> rfl
end
end Mine
end
section
namespace Mine
open PySem PySem.W PyProof.Rows
section
variable {c : Cfg} {d : Nat} {sc : Sc} {Γ : Ctx} {W : Wd} {s : Shared} {H : AH} {A : Around}
theorem yb3 {α : Type} {cmp : Nat -> Nat -> (Bool -> Shared -> Prop) -> Shared -> Prop} {q : Nat -> Nat -> (Bool -> Bool) -> Bool} {s : Shared} (hc : ∀ i j kk, q i j kk = true -> ∃ b, kk b = true /\ ∀ C : Bool -> Shared -> Prop, C b s -> cmp i j C s) {t : KasT α} :
    ∀ {k : α -> Bool}, runT q t k = true -> ∃ a, k a = true /\ ∀ {Q : α -> Shared -> Prop}, Q a s -> t.kasWp cmp Q s := by
  induction t with
  | ret a => exact fun h => ⟨a, h, fun q => q⟩
  | ask i j k ih =>
    intro kk h
    obtain ⟨b, h, hq⟩ := hc i j _ h
    obtain ⟨a, h1, h2⟩ := ih b h
    exact ⟨a, h1, fun q => hq _ (h2 q)⟩
theorem zQ9 {x : AV} (h : Vm x = true) : x.t = 12 /\ ∃ a b, x.l = [a, b] /\ a.t = 2 /\ b.t = 2 := by
  obtain ⟨h1, h2⟩ := gd_t h
  obtain ⟨a, b, e, h3⟩ := Vz h2
  exact ⟨Nat.eq_of_beq_eq_true h1, a, b, e, Nat.eq_of_beq_eq_true (gd_t h3).1, Nat.eq_of_beq_eq_true (gd_t h3).2⟩
theorem zn9 {vs : List Value} {i : Nat} {v : Value} (h : vs[i]? = some v) : vs.getD i Value.none = v := by simp [List.getD, h]
noncomputable def kS (m : Bool) : SortKind := sel m oneType' (tuples' (Value.type "int" != Value.type "tuple"))
def JV (h₀ h : Heap) : Prop := ∀ (a : Addr) (o : Obj), h₀.get? a = some o -> h.get? a = some o
def zy1 (c : Cfg) (W : Wd) (h₀ : Heap) : Prop := ∀ x v, VR c W x v -> x.t = 12 -> ∃ a vs n, v = .ref a /\ h₀.get? a = some (YX vs n) /\ VRs c W x.l vs
theorem yd3 {a b x y : Int} {t1 t2 t3 t4 : Tok} {p q : Addr} {n m : Nat} {C : Bool -> Shared -> Prop} {E : Value -> Shared -> Prop} (hp : s.heap.get? p = some (YX [.int a t1, .int b t2] n))
    (hq : s.heap.get? q = some (YX [.int x t3, .int y t4] m)) (hC : C (sel (ltB a x) true (sel (eqB a x) (ltB b y) false)) s) : wpAny (model c.prog c.w) A (keyLt' (tuples' true) (.ref p) (.ref q)) C E s := by
  refine kat_lt hp rfl hq rfl ?_
  show KatLex c.prog c.w A true _ C [(.int a t1, .int x t3), (.int b t2, .int y t4)] 0 s
  have irr : ∀ a : Int, ltB a a = false := fun a => by cases h : ltB a a; rfl; exact absurd (ltB_iff.mp h) (Int.lt_irrefl a)
  refine kat_cons (wpAny_eqBool_int (kat_go (fun e1 => ?_) fun e1 => ?_))
  · have e1 : a = x := by simpa using e1
    subst e1
    rw [irr, eqB_iff.mpr rfl] at hC
    refine kat_yes (kat_cons (wpAny_eqBool_int (kat_go (fun e2 => ?_) fun e2 => ?_)))
    · have e2 : b = y := by simpa using e2
      subst e2
      have hC : C (ltB b b) s := hC
      rw [irr] at hC
      exact kat_yes (kat_nil hC)
    · refine kat_no (kat_one _ _ (P.lt_int ?_))
      show W.BoolBack C (.bool (decide (b < y))) s
      rw [b_eq ltB_iff]
      exact hC
  · have e1 : ¬ a = x := by simpa using e1
    refine kat_no ?_
    show wpAny _ _ (oneLt' true (.int a t1) (.int x t3)) _ _ _
    refine oneLt_int ?_
    have e2 : eqB a x = false := by cases h : eqB a x; rfl; exact absurd (eqB_iff.mp h) e1
    rw [b_eq ltB_iff]
    rw [e2] at hC
    cases h : ltB a x <;> (rw [h] at hC; exact hC)
theorem zm3 {h₀ : Heap} {l : List AV} {x : AV} {v : Value} (hT : zy1 c W h₀) (hp : allL Vm l = true) (hx : x ∈ l) (hv : VR c W x v) : ∃ a b t1 t2 p n, x.l = [a, b] /\ v = .ref p /\ h₀.get? p = some (YX [.int a.i t1, .int b.i t2] n) := by
  obtain ⟨e, a, b, e2, ha, hb⟩ := zQ9 (VE hp x hx)
  obtain ⟨p, vs, n, rfl, ho, hvs⟩ := hT x v hv e
  rw [e2] at hvs
  obtain ⟨u1, r1, rfl, h1, u2, r2, rfl, h2, rfl⟩ := hvs
  obtain ⟨t1, rfl⟩ := h1.at ha
  obtain ⟨t2, rfl⟩ := h2.at hb
  exact ⟨a, b, t1, t2, p, n, e2, rfl, ho⟩
def zK8 (m : Bool) (l : List AV) : Prop := allL (sel m isIB Vm) l = true
theorem ye8 {l : List AV} {k : Bool -> Bool} (h : yn1 l k = true) : ∃ m, zK8 m l /\ k m = true := (YR h).elim (fun h => ⟨true, h⟩) fun h => ⟨false, (gd_t h.2).1, (gd_t h.2).2⟩
theorem ys1 {h₀ : Heap} {l : List AV} {vs : List Value} {m : Bool} (hT : zy1 c W h₀) (hv : VRs c W l vs) (hk : JV h₀ s.heap) (hd : zK8 m l) (i j : Nat) (kk : Bool -> Bool) (h : askS m l i j kk = true) : ∃ b, kk b = true /\ ∀ C : Bool -> Shared -> Prop, C b s -> kas_ask c.prog c.w A (kS m) vs i j C s := by
  obtain ⟨x, hx, h⟩ := oB_t h
  obtain ⟨y, hy, h⟩ := oB_t h
  rw [JF] at hx hy
  obtain ⟨u, hu, vu⟩ := hv.get hx
  obtain ⟨v, hv', vv⟩ := hv.get hy
  have mx := List.mem_of_getElem? hx
  have my := List.mem_of_getElem? hy
  unfold kas_ask
  rw [zn9 hu, zn9 hv']
  cases m with
  | true =>
    obtain ⟨t, rfl⟩ := vu.at (Nat.eq_of_beq_eq_true (VE hd x mx))
    obtain ⟨t', rfl⟩ := vv.at (Nat.eq_of_beq_eq_true (VE hd y my))
    exact ⟨_, h, fun C hC => kat_lt_int (by rw [b_eq ltB_iff]; exact hC)⟩
  | false =>
    obtain ⟨a, b, t1, t2, p, n, e1, rfl, ho⟩ := zm3 hT hd mx vu
    obtain ⟨a', b', t3, t4, q, n', e2, rfl, ho'⟩ := zm3 hT hd my vv
    have h : ltP x y kk = true := h
    unfold ltP at h
    rw [e1, e2] at h
    exact ⟨_, h, fun C hC => yd3 (hk _ _ ho) (hk _ _ ho') hC⟩
theorem yf7 {l : List AV} : ∀ {vs : List Value}, allL isIB l = true -> VRs c W l vs -> ∃ ns, IntsAre vs ns := by
  induction l with
  | nil => intro vs _ r; cases r; exact ⟨[], .nil⟩
  | cons x l ih =>
    intro vs hi r
    obtain ⟨h1, h2⟩ := gd_t (show gd (isIB x) (allL isIB l) = true from hi)
    obtain ⟨v, t, rfl, hv, ht⟩ := r
    obtain ⟨tk, rfl⟩ := hv.at (Nat.eq_of_beq_eq_true h1)
    obtain ⟨ns, hn⟩ := ih h2 ht
    exact ⟨_, .cons x.i tk hn⟩
theorem zY7 {h₀ h : Heap} (hT : zy1 c W h₀) (hk : JV h₀ h) {l : List AV} : ∀ {vs : List Value}, allL Vm l = true -> VRs c W l vs -> ∃ fs, KatTups h vs fs /\ fs.length = vs.length /\ ∀ v ∈ fs, ∃ a t, v = Value.int a t := by
  induction l with
  | nil => intro vs _ r; cases r; exact ⟨[], KatTups.nil, rfl, fun _ h => nomatch h⟩
  | cons x l ih =>
    intro vs hi r
    have h2 := (gd_t (show gd (Vm x) (allL Vm l) = true from hi)).2
    obtain ⟨v, t, rfl, hv, ht⟩ := r
    obtain ⟨a, b, t1, t2, p, n, _, rfl, ho⟩ := zm3 hT hi (List.mem_cons_self ..) hv
    obtain ⟨fs, g1, g2, g3⟩ := ih h2 ht
    refine ⟨.int a.i t1 :: fs, KatTups.cons (hk _ _ ho) rfl rfl rfl g1, congrArg Nat.succ g2, fun v hv => ?_⟩
    rcases List.mem_cons.mp hv with rfl | hv
    · exact ⟨a.i, t1, rfl⟩
    · exact g3 v hv
theorem ye7 {h₀ : Heap} {l : List AV} {vs : List Value} {m : Bool} {Q : SortKind -> Shared -> Prop} {E : Value -> Shared -> Prop} (hT : zy1 c W h₀) (hv : VRs c W l vs) (hk : JV h₀ s.heap) (hd : zK8 m l) (h2 : 2 <= vs.length) (hQ : Q (kS m) s) : wpAny (model c.prog c.w) A (keyKind' vs.toArray) Q E s := by
  cases m with
  | true =>
    obtain ⟨ns, hn⟩ := yf7 hd hv
    match vs, h2 with
    | v₁ :: v₂ :: rest, _ =>
      rw [keyKind_ints hn]
      exact wpAny_pure hQ
  | false =>
    obtain ⟨fs, h1, h3, h4⟩ := zY7 hT hk hd hv
    refine kat_kind (T := .type "int") h1 (Nat.lt_of_lt_of_le (by decide) (h3 ▸ h2)) (fun v hv => ?_) rfl hQ
    obtain ⟨a, t, rfl⟩ := h4 v hv
    exact .now
theorem yc0 {l : List AV} {vs : List Value} (hv : VRs c W l vs) {is : List Nat} : ∀ {kk : List AV -> Bool}, yc1 l is kk = true -> ∃ out, kk out = true /\ VRs c W out (is.map fun i => vs.getD i Value.none) := by
  induction is with
  | nil => exact fun h => ⟨[], h, rfl⟩
  | cons i r ih =>
    intro kk h
    obtain ⟨x, hx, h⟩ := oB_t (show oB (nth l i) (fun x => yc1 l r fun r => kk (x :: r)) = true from h)
    obtain ⟨u, hu, vu⟩ := hv.get (JF l i ▸ hx)
    obtain ⟨out, h1, h2⟩ := ih h
    exact ⟨x :: out, h1, _, _, rfl, (by show VR c W x (vs.getD i Value.none); rw [zn9 hu]; exact vu), h2⟩
theorem JG {n : Nat} (h : n < 64) : n <= sizeLine := Nat.le_trans (Nat.le_of_lt h) (by rw [sizeLine_eq]; decide)
theorem ze2 {h₀ : Heap} {l : List AV} {vs : List Value} {a : Addr} {n : Nat} {kk : List AV -> Bool} {P : PySem.Fin -> Shared -> Prop} {E : Value -> Shared -> Prop} (ho : s.heap.get? a = some (seqObj "list" vs.toArray n)) (hT : zy1 c W h₀)
    (hv : VRs c W l vs) (hk : JV h₀ s.heap) (ha0 : h₀.get? a = none) (hs : zg7 l kk = true) (h : ∀ out outv, kk out = true -> VRs c W out outv -> outv.length < 64 -> P (.done (.ret .none)) { s with heap := sortedHeap s.heap a vs outv.toArray }) :
    wpAny (model c.prog c.w) A (Builtin.«list.sort» ⟨[.ref a], []⟩) P E s := by
  have hlen := hv.len
  obtain ⟨h64, hs⟩ := gd_t hs
  have h64 : vs.length < 64 := hlen ▸ Zw l ▸ Nat.blt_eq.mp h64
  rw [list_sort_plain]
  have ha : a < s.heap.objs.size := Heap.lt_size ho
  refine wpAny_bind (listItems_at ho rfl ?_)
  refine wpAny_bind (listUpdate_at ho rfl ?_ (JG h64) (Nat.zero_le _))
  obtain ⟨e1, ho1⟩ : ∃ e1, (s.heap.update a (Obj.mapSeq fun _ => #[])).get? a = some (seqObj "list" #[] e1) := ⟨_, get?_update_seq ho (fun _ => #[])⟩
  refine wpAny_bind (seqEpoch_at ho1 rfl ?_)
  refine wpAny_bind (wpAny_newTuple ?_ (JG h64))
  refine wpAny_bind (wpAny_newList ?_ (Nat.zero_le _))
  refine wpAny_holding ?_
  have ho6 : (((s.heap.update a (Obj.mapSeq fun _ => #[])).push (seqObj "tuple" vs.toArray 0)).push (seqObj "list" #[] 0)).get? a = some (seqObj "list" #[] e1) := ZH (s := { s with heap := (s.heap.update a (Obj.mapSeq fun _ => #[])).push (seqObj "tuple" vs.toArray 0) }) _ (ZH (s := { s with heap := s.heap.update a (Obj.mapSeq fun _ => #[]) }) _ ho1)
  have st : JV h₀ ((s.heap.update a (Obj.mapSeq fun _ => #[])).push (seqObj "tuple" vs.toArray 0)|>.push (seqObj "list" #[] 0)) := fun b o e => by
    refine Heap.get?_push_of_some _ (Heap.get?_push_of_some _ ?_)
    rw [Heap.get?_update_ne _ _ _ _ (fun q => Yy ha0 (q ▸ e))]
    exact hk b o e
  show wpAny (model c.prog c.w) A _ P E { s with heap := ((s.heap.update a (Obj.mapSeq fun _ => #[])).push (seqObj "tuple" vs.toArray 0)).push (seqObj "list" #[] 0) }
  generalize hh6 : ((s.heap.update a (Obj.mapSeq fun _ => #[])).push (seqObj "tuple" vs.toArray 0)).push (seqObj "list" #[] 0) = h6 at ho6 st ⊢
  dsimp only
  by_cases h2 : vs.toArray.size < 2
  · rw [if_pos h2, if_pos h2]
    rw [List.size_toArray] at h2
    rw [Nat.blt_eq.mpr (show lenN l < 2 from (Zw l).symm ▸ hlen ▸ h2)] at hs
    refine wpAny_bind (wpAny_pure ?_)
    rw [StateT.run_pure]
    refine wpAny_bind (wpAny_pure ?_)
    dsimp only
    refine wpAny_bind (seqEpoch_at ho6 rfl ?_)
    have e : (arrOf (SortSt.mk' general' (vs.toArray.zip vs.toArray) #[] 7 none)).map (·.2) = vs.toArray := by
      show (vs.toArray.zip vs.toArray).map (·.2) = _
      apply Array.toList_inj.mp
      simp [List.map_snd_zip]
    refine wpAny_bind (listUpdate_at ho6 rfl ?_ (Nat.zero_le _) (by rw [e]; exact Nat.le_succ_of_le (JG h64)))
    simp only [bne_self_eq_false, Bool.false_eq_true, if_false]
    refine wpAny_pure ?_
    rw [e]
    subst hh6
    exact h l vs hs hv h64
  · rw [if_neg h2, if_neg h2]
    rw [List.size_toArray] at h2
    rcases YR hs with ⟨hb, _⟩ | ⟨_, hs⟩
    · exact absurd (hlen.symm ▸ Zw l ▸ Nat.blt_eq.mp hb) h2
    · obtain ⟨m, hkd, hs⟩ := ye8 hs
      obtain ⟨p, hp, run⟩ := yb3 (cmp := kas_ask c.prog c.w A (kS m) vs) (s := { s with heap := h6 }) (fun i j kk hq => ys1 hT hv st hkd i j kk hq) hs
      have run := run (Q := fun p' s' => p' = p /\ s' = { s with heap := h6 }) ⟨rfl, rfl⟩
      refine wpAny_bind (ye7 hT hv st hkd (Nat.not_lt.mp h2) ?_)
      rw [Zw, <- hlen] at run
      refine wpAny_bind (wpAny_mono (kat_run (E := E) (Q := fun st' s' => p.size = vs.length /\ arrOf st' = p.map (kas_item (vs.toArray.zip vs.toArray)) /\ failedOf st' = none /\ s' = { s with heap := h6 })
        rfl (Nat.not_lt.mp h2) h64 (fun p' st' s' a1 a2 a3 ⟨e1, e2⟩ => by subst e1; exact ⟨a1, a2, a3, e2⟩) run) ?_ fun _ _ e => e)
      rintro ⟨⟨⟩, st'⟩ s' ⟨hp1, har, hf, rfl⟩
      dsimp only
      have hsz : (List.toArray (p.toList.map fun i => vs.getD i Value.none)).size = vs.length := by rw [List.size_toArray, List.length_map, Array.length_toList, hp1]
      rw [kat_snds rfl har]
      refine wpAny_bind (seqEpoch_at ho6 rfl ?_)
      refine wpAny_bind (listUpdate_at ho6 rfl ?_ (Nat.zero_le _) (Nat.le_trans (Nat.le_of_eq hsz) (Nat.le_succ_of_le (JG h64))))
      rw [hf]
      simp only [bne_self_eq_false, Bool.false_eq_true, if_false]
      subst hh6
      obtain ⟨out, ho1, ho2⟩ := yc0 hv hp
      exact wpAny_pure (h out _ ho1 ho2 (by rw [<- List.size_toArray, hsz]; exact h64))
inductive zY0 (c : Cfg) (W : Wd) (s : Shared) (kk : List AV -> Bool) (r : Value) : Shared -> Prop
  | mk (h' : Heap) (tk : Nat) (L : Addr) (out : List AV) (outv : List Value) (n : Nat) (e : r = .ref L) (st : JV s.heap h') (f : s.heap.get? L = none) (o : h'.get? L = some (Zx outv n)) (h : kk out = true) (v : VRs c W out outv) : zY0 c W s kk r { s with heap := h', toks := tk }
theorem zl2 {v : Value} {l : List AV} {kk : List AV -> Bool} {E : Value -> Shared -> Prop} (hT : zy1 c W s.heap)
    (hcol : ∀ {A' : Around} {Q : List Value -> Shared -> Prop}, A'.handled = A.handled -> (∀ h' tk vs, JV s.heap h' -> VRs c W l vs -> Q vs { s with heap := h', toks := tk }) -> wpAny c.M A' (collect v) Q E s) (hs : zg7 l kk = true) : wpAny c.M A (call (.builtin "sorted") [v]) (zY0 c W s kk) E s := by
  refine Calls.call_function_entry kind_sorted plain_sorted entry_sorted (args_sorted1 _) ?_
  unfold Builtin.«sorted»
  refine wpAny_bind (m := checkCount "sorted" 1 1 _) (wpAny_pure ?_)
  refine wpAny_bind (hcol (A' := A.in1) rfl fun h' tk vs hk hvs => ?_)
  have h64 : vs.length < 64 := hvs.len ▸ Zw l ▸ Nat.blt_eq.mp (gd_t hs).1
  refine wpAny_bind (wpAny_newList ?_ (JG h64))
  have ha : s.heap.get? h'.objs.size = none := Yt (h' := h') (fun a o e => ⟨o, hk a o e⟩) (Ya (Nat.le_refl _))
  have hoL : (h'.push (seqObj "list" vs.toArray 0)).get? h'.objs.size = some (seqObj "list" vs.toArray 0) := Heap.get?_push_size _ rfl
  have hk1 : JV s.heap (h'.push (seqObj "list" vs.toArray 0)) := fun b o e => Heap.get?_push_of_some _ (hk b o e)
  show wpAny _ _ _ _ _ { s with heap := h'.push (seqObj "list" vs.toArray 0), toks := tk }
  refine wpAny_bind (wpAny_holding (wpAny_call_entry slot_list_sort ⟨_, hoL, rfl⟩ entry_list_sort
    (ze2 (c := c) (s := { s with heap := h'.push (seqObj "list" vs.toArray 0), toks := tk }) hoL hT hvs hk1 ha hs fun out outv hkk hv h64 => ⟨_, rfl, ?_⟩) (args_list_sort _)))
  obtain ⟨m, hm⟩ : ∃ m, (sortedHeap (h'.push (seqObj "list" vs.toArray 0)) h'.objs.size vs outv.toArray).get? h'.objs.size = some (Zx outv m) := by
    obtain ⟨e1, he⟩ : ∃ e1, ((h'.push (seqObj "list" vs.toArray 0)).update h'.objs.size (Obj.mapSeq fun _ => #[])).get? h'.objs.size = some (seqObj "list" #[] e1) := ⟨_, get?_update_seq hoL fun _ => #[]⟩
    exact ⟨_, get?_update_seq (Heap.get?_push_of_some _ (Heap.get?_push_of_some _ he)) fun _ => outv.toArray⟩
  refine wpAny_pure ⟨_, rfl, _, tk, h'.objs.size, out, outv, m, rfl, fun b o e => ?_, ha, hm, hkk, hv⟩
  have hne : b ≠ h'.objs.size := fun q => Yy ha (q ▸ e)
  unfold sortedHeap
  rw [Heap.get?_update_ne _ _ _ _ hne]
  refine Heap.get?_push_of_some _ (Heap.get?_push_of_some _ ?_)
  rw [Heap.get?_update_ne _ _ _ _ hne]
  exact hk1 b o e
theorem zQ3 {vs : List Value} {ks : List Nat} (hl : vs.length = ks.length) (acc : List Value) (hz : acc.length = ks.length) (h : ∀ (j : Nat) (v : Value), acc[j]? = some v -> ∃ k x, (ze3 ks vs)[j]? = some (k, x) /\ (intKind c.prog c.w).is k v = true) : VRs c W (Yu ks) acc := by
  induction ks generalizing vs acc with
  | nil => exact List.eq_nil_of_length_eq_zero hz
  | cons n ks ih =>
    cases vs with
    | nil => cases hl
    | cons v vs =>
      cases acc with
      | nil => cases hz
      | cons a acc =>
        obtain ⟨k, x, e1, e2⟩ := h 0 a rfl
        cases e1
        obtain ⟨t, rfl⟩ := Value.isInt_shape e2
        exact ⟨_, acc, rfl, ⟨t, rfl⟩, ih (Nat.succ.inj hl) acc (Nat.succ.inj hz) fun j v h' => h (j + 1) v h'⟩
theorem zo3 (S : Stat c) {x : AV} {v : Value} {kk : List AV -> Bool} {E : Value -> Shared -> Prop} (hh : A.handled = none) (R : Rel c W H s) (hv : VR c W x v) (hl : colK H x (fun l => zg7 l kk) = true) : ∃ l, zg7 l kk = true /\ ∀ {A' : Around} {Q : List Value -> Shared -> Prop}, A'.handled = A.handled ->
    (∀ h' tk vs, JV s.heap h' -> VRs c W l vs -> Q vs { s with heap := h', toks := tk }) -> wpAny c.M A' (collect v) Q E s := by
  have seq : ∀ {l : List AV} {a : Addr} {vs : List Value} {n : Nat}, zg7 l kk = true -> s.heap.get? a = some (Zx vs n) -> VRs c W l vs -> ∃ l, zg7 l kk = true /\ ∀ {A' : Around} {Q : List Value -> Shared -> Prop}, A'.handled = A.handled ->
    (∀ h' tk vs, JV s.heap h' -> VRs c W l vs -> Q vs { s with heap := h', toks := tk }) -> wpAny c.M A' (collect (.ref a)) Q E s := by
    intro l a vs n hs ho hvs
    refine ⟨l, hs, fun {A' Q} _ h => collect_list (ZX ho) (h _ s.toks vs (fun b o e => ?_) hvs) (by rw [hvs.len, <- Zw]; exact JG (Nat.blt_eq.mp (gd_t hs).1))⟩
    rw [Heap.get?_update_ne _ _ _ _ (Nat.ne_of_lt (Heap.lt_size e))]
    exact ZH _ e
  rcases ZS hl with ⟨e, hs⟩ | hl
  · obtain ⟨a, vs, n, rfl, ho, hvs⟩ := Yi R hv e
    exact seq hs ho hvs
  · obtain ⟨e, hl⟩ := kd_t hl
    rcases ZS hl with ⟨e2, hs⟩ | hl
    · obtain ⟨a, o, rfl, _, ho, vs, n, rfl, hvs⟩ := Yp R hv e e2
      exact seq hs ho hvs
    · obtain ⟨e2, hs⟩ := kd_t hl
      obtain ⟨a, o, rfl, ha, ho, vs, hd, hvs, hl⟩ := Yp R hv e e2
      obtain ⟨ep, hat⟩ := KdkAt.of hd.of
      have hz := Vy (hvs.len.trans hl.symm)
      have h64 : (hget H x.m).ks.length < 64 := by
        have e : ∀ l : List Nat, (Yu l).length = l.length := fun l => by
          induction l with
          | nil => rfl
          | cons x l ih => exact congrArg Nat.succ ih
        exact e _ ▸ Zw _ ▸ Nat.blt_eq.mp (gd_t hs).1
      refine ⟨_, hs, fun {A' Q} hA h => kdu_collect (kdl_dict (knd := intKind c.prog c.w) (zd8 S R ha)) (hA.trans hh) (hat.dictAt ho) (by rw [hz]; exact JG h64) fun h' tk acc hk hacc => h h' tk acc.toList hk (zQ3 (hvs.len.trans hl.symm) _ ?_ fun j v h2 => ?_)⟩
      · rw [Array.length_toList, hacc.1, hz]
      · exact hacc.2 j v (by rw [<- Array.getElem?_toList]; exact h2)
theorem zp8 {px pos : Pos} {e1 : PySem.Expr} {b : CF} (S : Stat c) (hno : nsIn c.K mainGlobals "sorted" = some none) (hsc : sc.lookup ("sorted" : Str) = some .globalImplicit) (hb : SimL c d sc Γ [e1] b)
    (he : ∀ env, starEach [e1] env = (false, eval e1 env) :: starEach [] env := by intro _; rfl) (hplain : ∀ env, (backTo pos (starEach [e1] env)).any (·.1) = false := by intro _; rfl) : SimE c d sc Γ (.Call (.Name "sorted" px) [e1] [] pos) (srtC b) :=
  ZF (f := fun H l k => is1 l fun x => colK H x fun m => zg7 m fun r => mkL false r H k) S (fun {A W H s args us k} hA R hus hk => by
    obtain ⟨x, rfl, hk⟩ := XP hk
    obtain ⟨v, t, rfl, hv, rfl⟩ := hus
    obtain ⟨l, hs, hcol⟩ := zo3 (E := NoE) S hA.hd R hv hk
    refine ZP (wpAny_mono (zl2 (fun x v h e => XI R h e) hcol hs) (fun r s3 p le => ?_) fun _ _ h => h)
    obtain ⟨h', tk, L, out, outv, n, rfl, hst, hL, hoL, hk, hv⟩ := p
    exact Laid.pe (.list (.grow hst (.of le)) (R.grow hst le) hL (R.free hL) hoL hv hk)) (.inl ⟨_, rfl⟩) (by rfl) hno hsc hb (by decide) (by decide) he hplain
end
end Mine
end
section
namespace Mine
open PySem PySem.W PySem.Calls PyProof.Rows Builtin
structure AccF (c : Cfg) : Prop where
  sub : subIn c.K (.ref c.cA) (.type "list") = some true
  noseq : noSeq c.K c.cA = true
  get : findIn c.K (.ref c.cA) "__getitem__" = some (some (.builtin "list.__getitem__"))
  iter : findIn c.K (.ref c.cA) "__iter__" = some (some (.builtin "list.__iter__"))
section
variable {c : Cfg} {d : Nat} {sc : Sc} {Γ : Ctx} {W : Wd} {s : Shared} {H : AH} {A : Around} {E : Value -> Shared -> Prop} {M : Model} {h : Heap} {a dx : Addr} {vs : List Value} {n : Nat}
theorem yh6 {i owner n : String} {self : Value} {rest : List Value} {kw : List (Str × Value)} {Q : Unit -> Shared -> Prop} (hk : builtinKind i = some .slot \/ builtinKind i = some .method) (hs : splitId i = some (owner, n)) (hi : Looks M s.heap (isInstance self (.type owner)) true) (ha : argsOk i ⟨self :: rest, kw⟩) (q : Q () s) :
    wpAny M A (checkBuiltinCall i ⟨self :: rest, kw⟩) Q E s := by
  rcases hk with hk | hk
  all_goals
    simp only [checkBuiltinCall, hk, hs]
    refine wpAny_bind (hi.here ?_)
    simp only [Bool.not_true, Bool.false_eq_true, if_false]
    cases hsig : Manifest.signature? i with
    | none => exact wpAny_pure q
    | some sig =>
      simp only [argsOk, hsig] at ha
      have h2 : Bind.checkArgs i sig ⟨self :: rest, kw⟩ = pure () := ha
      show wpAny M A (Bind.checkArgs i sig ⟨self :: rest, kw⟩) Q E s
      rw [h2]; exact wpAny_pure q
theorem Xu (ho : h.get? a = some (ZB c.cA dx vs n)) : Looks M h (typeOf (.ref a)) (.ref c.cA) := (Looks.ld ho).andThen .now
theorem zt5 (X : c.K.In h) (AF : AccF c) (ho : h.get? a = some (ZB c.cA dx vs n)) : Looks M h (isInstance (.ref a) (.type "list")) true := (Xu ho).andThen (looks_subIn X AF.sub)
theorem Xn {id m : String} {b : Builtin} {rest : List Value} {Q : Value -> Shared -> Prop} (X : c.K.In s.heap) (AF : AccF c) (ho : s.heap.get? a = some (ZB c.cA dx vs n)) (hp : plainId id = true) (hk : builtinKind id = some .slot \/ builtinKind id = some .method)
    (hs : splitId id = some ("list", m)) (hb : entryFor table id = some b) (ha : argsOk id ⟨.ref a :: rest, []⟩) (hc : wpAny c.M A.in1 (b ⟨.ref a :: rest, []⟩) (fun fin s' => ∃ v, fin = .done (.ret v) /\ Q v s') E s) : wpAny c.M A (call (.builtin id) (.ref a :: rest)) Q E s := by
  refine wpAny_call (codeAny_call_builtin hp hb (yh6 hk hs (zt5 X AF ho) ha (wpAny_mono hc (fun fin s' h' => ?_) fun _ _ h' => h')))
  obtain ⟨v, rfl, hv⟩ := h'; exact hv
theorem YF {name : Str} {r : Option Value} {Q : Option Value -> Shared -> Prop} (X : c.K.In s.heap) (ho : s.heap.get? a = some (ZB c.cA dx vs n)) (hf : findIn c.K (.ref c.cA) name = some r) (hq : Q r s) : wpAny c.M A (specialOf (.ref a) name) Q E s := ((Xu ho).andThen (looks_findIn X hf)).here hq
theorem zp2 (S : Stat c) (AF : AccF c) : zL4 c d := fun {A W H s a dx vs n k t x j Q} hA R ho P hx hQ => by
  have X := R.in S
  have b1 := P.b1
  have b2 := P.b2
  have hlt := P.lt
  refine ⟨?_, ?_⟩
  · unfold getitemInPython
    exact wpAny_bind (YF X ho AF.get (wpAny_pure ⟨rfl, rfl⟩))
  · unfold getItem sequenceKey
    refine wpAny_holding (wpAny_bind (wpAny_bind ((Xu ho).here ?_)))
    refine wpAny_bind ((anyM_none X AF.noseq).here ?_)
    rw [if_pos (show (!false) = true from rfl)]
    refine wpAny_pure (wpAny_bind ?_)
    unfold callSpecial?
    refine wpAny_bind (YF X ho AF.get ?_)
    dsimp only
    refine wpAny_holding (wpAny_bind ?_)
    rw [slot_list_getitem.bind]
    refine wpAny_pure (wpAny_bind (wpAny_mono (Xn (m := "__getitem__") (Q := fun v s' => v = x /\ s' = s) X AF ho slot_list_getitem.plain (.inr (by decide +kernel)) (by decide +kernel) entry_list_getitem (args_list_getitem _ _) ?_) (fun v s' h => ?_) fun _ _ h => h))
    · have hsz : vs.toArray.size = vs.length := List.size_toArray
      show wpAny _ _ (Builtin.List.listSubscript? (.int k t) >>= _) _ _ s
      rcases P.cs with ⟨h0, rfl⟩ | ⟨h0, h1, rfl⟩
      · refine wpAny_bind (wpAny_listSubscript_int (fitsIndex_of h0 (by omega)) ?_)
        obtain ⟨j, rfl⟩ := Int.eq_ofNat_of_zero_le h0
        have hx' : vs.toArray[j]? = some x := by rw [List.getElem?_toArray]; exact hx
        show wpAny _ _ ((seqItemAt a j >>= fun r => pure (r.map (j, ·))) >>= _) _ _ s
        refine wpAny_bind (wpAny_bind (wpAny_seqItemAt ho rfl (wpAny_pure ?_)))
        rw [hx']
        first
          | exact wpAny_bind (wpAny_pure (wpAny_pure ⟨x, rfl, rfl, rfl⟩))
          | exact wpAny_pure ⟨x, rfl, wpAny_pure ⟨rfl, rfl⟩⟩
      · refine wpAny_bind (wpAny_listSubscript_int (fitsIndex_neg h0 (by omega)) ?_)
        have hidx := seqIndex_neg (n := vs.toArray.size) h0 (by rw [hsz]; exact h1)
        have hx' : vs.toArray[(k + (vs.toArray.size : Nat)).toNat]? = some x := by rw [hsz, List.getElem?_toArray]; exact hx
        obtain ⟨j, rfl⟩ : ∃ j : Nat, k = Int.negSucc j := by
          cases k with
          | ofNat n => exact absurd h0 (Int.not_lt.mpr (Int.natCast_nonneg n))
          | negSucc n => exact ⟨n, rfl⟩
        show wpAny _ _ ((Builtin.List.listItems (.ref a) >>= fun xs => pure ((seqIndex? (Int.negSucc j) xs.size).bind fun i => xs[i]?.map (i, ·))) >>= _) _ _ s
        refine wpAny_bind (wpAny_bind ?_)
        show wpAny _ _ (seqItems? (.ref a) >>= _) _ _ s
        refine wpAny_bind (wpAny_seqItems ho rfl (wpAny_pure (wpAny_pure ?_)))
        rw [hidx, Option.bind_some, hx', Option.map_some]
        first
          | exact wpAny_bind (wpAny_pure (wpAny_pure ⟨x, rfl, rfl, rfl⟩))
          | exact wpAny_pure ⟨x, rfl, wpAny_pure ⟨rfl, rfl⟩⟩
    · obtain ⟨rfl, rfl⟩ := h
      exact wpAny_pure (wpAny_pure hQ)
theorem zx5 {self : Value} {name : Str} {id : String} {refuse : Sem Value} {Q : Option Value -> Shared -> Prop} (hl : Looks M s.heap (specialOf self name) (some (.builtin id))) (hb : ∀ self, bindSpecial (.builtin id) self = pure (.builtin id, [self]))
    (hc : wpAny M A (call (.builtin id) [self]) (fun v => Q (some v)) E s) : wpAny M A (callSpecialIfBoundUnlessNone? self name refuse) Q E s := by
  simp only [callSpecialIfBoundUnlessNone?, bindSpecialIfBound?]
  refine wpAny_holding (wpAny_bind (wpAny_bind (hl.here ?_)))
  simp only [hb]
  refine wpAny_bind (wpAny_askSetting (wpAny_ite ?_))
  have fin : wpAny M A (if (Value.builtin id == Value.none) = true then (refuse >>= fun v => pure (some v)) else (call (.builtin id) [self] >>= fun v => pure (some v))) Q E s := by
    simp only [builtin_beq_none, Bool.false_eq_true, if_false]
    exact wpAny_bind (wpAny_mono hc (fun v s' h' => wpAny_pure h') fun _ _ h' => h')
  split
  · exact wpAny_bind (wpAny_pure (wpAny_pure fin))
  · exact wpAny_tryCatch (wpAny_bind (wpAny_pure (wpAny_pure fin)))
theorem zj7 {Q : Value -> Shared -> Prop} (X : c.K.In s.heap) (AF : AccF c) (ho : s.heap.get? a = some (ZB c.cA dx vs n)) (h : Q (.ref s.heap.objs.size) { s with heap := s.heap.push { cls := .type "list_iterator", data := .fields #[.ref a, .int 0 0] } }) : wpAny c.M A (pyIter (.ref a)) Q E s := by
  unfold pyIter
  refine wpAny_bind (YF X ho AF.iter ?_)
  show wpAny _ _ (callSpecialIfBoundUnlessNone? (.ref a) "__iter__" _ >>= _) _ _ s
  refine wpAny_bind (zx5 ((Xu ho).andThen (looks_findIn X AF.iter)) slot_list_iter.bind (wpAny_mono (Xn (m := "__iter__") (Q := fun v s' => v = .ref s.heap.objs.size /\ s' = { s with heap := s.heap.push { cls := .type "list_iterator", data := .fields #[.ref a, .int 0 0] } }) X AF ho slot_list_iter.plain (.inl (by decide +kernel)) (by decide +kernel) entry_list_iter (args_list_iter _) ?_) (fun v s' h => ?_) fun _ _ h => h))
  · show wpAny _ _ (do ret (<- newFields "list_iterator" [.ref a, rawInt 0])) _ _ s
    exact wpAny_bind (wpAny_newObj_type (wpAny_pure ⟨_, rfl, rfl, rfl⟩))
  · obtain ⟨rfl, rfl⟩ := h
    exact wpAny_bind (wpAny_specialOf (T := "list_iterator") ⟨_, Heap.get?_push_size _ rfl, rfl⟩ slot_listiter_next.lookup (wpAny_pure (by assumption)))
theorem zf4 (S : Stat c) (AF : AccF c) : zL3 c d := fun {A W H s a dx vs n} hA R ho => zj7 (R.in S) AF ho ⟨_, rfl, .push _, R.push _, (YA R).1, _, Heap.get?_push_size _ rfl, rfl, rfl⟩
end
noncomputable def zo5 : List Stmt := match zi8 14 with
  | some (.ClassDef _ _ _ body ..) => body
  | _ => []
noncomputable def VO (i : Nat) : List Stmt := match nth zo5 i with
  | some (.FunctionDef _ _ body ..) => body
  | _ => []
noncomputable def zh7 (i : Nat) : Arguments := match nth zo5 i with
  | some (.FunctionDef _ args ..) => args
  | _ => ⟨[], [], none, [], [], none, []⟩
noncomputable def Yk (i : Nat) : Scope := match nth zo5 i with
  | some (.FunctionDef _ _ _ _ _ _ sc ..) => sc
  | _ => default
structure AccG (c : Cfg) : Prop extends AccF c where
  ga : findIn c.K (.ref c.cA) "__getattribute__" = some (some (.builtin "list.__getattribute__"))
  gx : findIn c.K (.ref c.cA) "__getattr__" = some none
  cls : ∃ cd, clsIn c.K c.cA = some cd /\ cd.hasDict = true
structure yi7 (c : Cfg) (f : Nat) (fd : FuncData) (name : Str) : Prop where
  find : findIn c.K (.ref c.cA) name = some (some (.ref (c.fa f)))
  isF : typeIn c.K (.ref (c.fa f)) = some (.type "function")
  ob : ∃ o, c.K.lookup (c.fa f) = some o /\ o.data = .func fd
structure VH (c : Cfg) (i f : Nat) (fd : FuncData) (name : Str) : Prop where
  at' : FnO c f fd
  find : findIn c.K (.ref c.cA) name = some (some (.ref (c.fa f)))
  isF : typeIn c.K (.ref (c.fa f)) = some (.type "function")
  body : fd.body = .stmts (VO i)
  scope : fd.scope = Yk i
  params : fd.params = zh7 i
section
variable {c : Cfg} {d : Nat} {sc : Sc} {Γ : Ctx} {W : Wd} {s : Shared} {H : AH} {A : Around} {E : Value -> Shared -> Prop}
theorem zh8 {name : Str} {hsh : Int} {t : Tok} {v : Value} {n : Nat} (hn : (Str.ofString "_initial_size" == name) = false) : lookIn name (Vn hsh t v n) = some none := by
  have : (Value.str (Str.ofString "_initial_size") t).isStr name = false := hn
  unfold lookIn Vn
  simp only [List.find?_cons, List.find?_nil, this]
  rfl
inductive zp5 (c : Cfg) (W : Wd) (s : Shared) (r e : Nat) (l : List AV) (q : Addr) : Prop
  | mk (vs : List Value) (n : Nat) (dx : Addr) (hsh : Int) (t u : Tok) (k : Nat) (h2 : W.ρ[e]? = some dx) (h3 : s.heap.get? q = some (ZB c.cA dx vs n)) (h4 : VRs c W l vs) (h5 : s.heap.get? dx = some (Vn hsh t (.int c.sz u) k))
      (h6 : InstAt s.heap q (ZB c.cA dx vs n) c.cA (some (Vn hsh t (.int c.sz u) k))) : zp5 c W s r e l q
theorem zf5 (R : Rel c W H s) {r : Nat} {q : Addr} (hq : W.ρ[r]? = some q) (hr : (hget H r).t = 3) (he : (hget H (hget H r).d).t = 4) : zp5 c W s r (hget H r).d (hget H r).l q := by
  obtain ⟨ob, ho, z⟩ := R.obj _ _ hq
  obtain ⟨vs, n, dx, rfl, hd, hv⟩ := z.at hr
  obtain ⟨od, hod, z⟩ := R.obj _ _ hd
  obtain ⟨hsh, t, u, k, rfl⟩ := z.at he
  exact ⟨vs, n, dx, hsh, t, u, k, hd, ho, hv, hod, ⟨ho, rfl, rfl, hod⟩⟩
theorem zc0 {a : Addr} {ox : Obj} {od : Obj} {name : Str} {f : Value} {t : Value} {pl : Sem Bool} {Q : Value × List Value -> Shared -> Prop} (X : c.K.In s.heap) (G : AccG c) (I : InstAt s.heap a ox c.cA (some od)) (hf : findIn c.K (.ref c.cA) name = some (some f)) (ht : typeIn c.K f = some t)
    (htt : (t != .type "function" && t != .type "method_descriptor" && t != .type "wrapper_descriptor") = false) (hs : lookIn name od = some none) (h : Q (f, [.ref a]) s) : wpAny c.M A (getMethod (.ref a) name pl) Q E s := by
  have hcan := canon_list_getattribute
  unfold getMethod specialOf
  refine wpAny_bind (wpAny_bind (I.type.here ((looks_findIn X G.ga).here ?_)))
  dsimp only
  rw [hcan, if_neg (by decide)]
  refine wpAny_bind (wpAny_bind (I.type.here ((looks_findIn X G.gx).here ?_)))
  refine wpAny_bind (wpAny_bind (I.type.here ((looks_findIn X hf).here (wpAny_bind ((looks_typeIn X ht).here ?_)))))
  rw [htt, if_neg (by decide)]
  refine wpAny_bind (wpAny_loadPart I.at_ ?_)
  have hd := I.dict
  cases e : ox.dict with
  | none => exact wpAny_bind (wpAny_rule (wpAny_pure h))
  | some dx =>
    rw [e] at hd
    refine wpAny_bind (wpAny_bind (wpAny_loadPart hd ?_))
    rw [nsLook_of hs]
    exact wpAny_pure (wpAny_bind (wpAny_rule (wpAny_pure h)))
theorem Yg {M : Model} {f : Value} {args : List (Bool × Sem Value)} {Q : Args -> Shared -> Prop} (ha : args = [] \/ ∃ x r, args = (false, x) :: r) (h : wpAny M A (spliced args) (fun vs s' => Q ⟨vs, []⟩ s') E s) : wpAny M A (evalArgs f true args []) Q E s := by
  rcases ha with rfl | ⟨x, r, rfl⟩
  · unfold evalArgs
    show wpAny M A (spliced [] >>= _) Q E s
    refine wpAny_bind (wpAny_mono h (fun vs s' h' => wpAny_holding ?_) fun _ _ x => x)
    exact wpAny_bind (wpAny_pure (wpAny_bind (wpAny_pure (wpAny_pure h'))))
  · exact Calls.evalArgs_plain h
theorem zj0 {o : PySem.Expr} {es : List PySem.Expr} {name : Str} {apos pos : Pos} {env : Env} {Q : Value -> Shared -> Prop} (hbase : attributeBase o name env (eval o env) = eval o env)
    (hfew : methodCallForm (es.length + ([] : List Keyword).length) (backTo pos (starEach es env)) (backToKw pos (keywordEach [] env)) = true) (hline : (apos.endLine == pos.line) = true)
    (h : wpAny c.M A (eval o env) (fun ov s₁ => ∀ pl, wpAny c.M A (getMethod ov name pl) (fun p s₂ => wpAny c.M A (callWith pos p.1 p.2 (backTo pos (starEach es env)) []) Q E s₂) E s₁) E s) : wpAny c.M A (eval (.Call (.Attribute o name apos) es [] pos) env) Q E s := by
  rw [arm_eval_Call, hbase]
  refine wpAny_bind (wpAny_mono h (fun ov s₁ h₁ => ?_) fun _ _ e => e)
  refine wpAny_bind (wpAny_standAt ?_)
  have hpos : methodCallPos true o env apos pos = pure pos := by unfold methodCallPos; simp [hline]
  unfold methodCall
  rw [hfew]
  refine wpAny_bind (wpAny_holding (wpAny_mono (h₁ _) (fun p s₂ h₂ => ?_) fun _ _ e => e))
  exact wpAny_bind (wpAny_of_eq hpos h₂)
inductive yt1 (c : Cfg) (W : Wd) (s : Shared) (H : AH) (x : AV) (k : Nat -> Bool) (u : Value) : Prop
  | mk (q : Addr) (e : u = .ref q) (h : k x.m = true) (t : x.t = 11) (hq : W.ρ[x.m]? = some q) (hr : (hget H x.m).t = 3) (he : (hget H (hget H x.m).d).t = 4) (I : zp5 c W s x.m (hget H x.m).d (hget H x.m).l q) : yt1 c W s H x k u
theorem ze1 {x : AV} {k : Nat -> Bool} {u : Value} (R : Rel c W H s) (hu : VR c W x u) (h : zv8 H x k = true) : yt1 c W s H x k u := by
  obtain ⟨e1, h⟩ := kd_t h
  obtain ⟨e2, h⟩ := kd_t h
  obtain ⟨e3, h⟩ := kd_t h
  obtain ⟨q, rfl, hq⟩ := hu.at e1
  exact ⟨q, rfl, h, e1, hq, e2, e3, zf5 R hq e2 e3⟩
theorem VH.l {i f : Nat} {fd : FuncData} {name : Str} (D : VH c i f fd name) : yi7 c f fd name := ⟨D.find, D.isF, D.at'.ob⟩
def Xw (c : Cfg) (fd : FuncData) (names : List Str) : Prop := ∀ (s : Shared), c.K.In s.heap -> ∀ (vals : List Value), vals.length = names.length -> BindsTo s fd ⟨vals, []⟩ (names.zip vals)
theorem ZA.K {fd : FuncData} {names : List Str} (h : ZA fd names) : Xw c fd names := fun s _ => h s
theorem XW {f e : Nat} {fd : FuncData} {names : List Str} {code : List AV -> CE} {name : Str} {o : PySem.Expr} {es : List PySem.Expr} {apos pos : Pos} {a : CE} {b : CF} (S : Stat c) (G : AccG c) (D : yi7 c f fd name) (hC : FnC c e f fd names code) (hle : e <= d) (ha : SimE c d sc Γ o a) (hb : SimL c d sc Γ es b)
    (hbind : Xw c fd names) (hn : names.length = es.length + 1) (hnm : (Str.ofString "_initial_size" == name) = false) (hbase : ∀ env, attributeBase o name env (eval o env) = eval o env := by intro _; rfl)
    (hfew : ∀ env, methodCallForm (es.length + ([] : List Keyword).length) (backTo pos (starEach es env)) (backToKw pos (keywordEach [] env)) = true := by intro _; rfl) (hline : (apos.endLine == pos.line) = true := by rfl)
    (he : ∀ env, backTo pos (starEach es env) = [] \/ ∃ x r, backTo pos (starEach es env) = (false, x) :: r := by intro _; first | exact .inl rfl | exact .inr ⟨_, _, rfl⟩) : SimE c d sc Γ (.Call (.Attribute o name apos) es [] pos) (za0 code a b) := fun A env W s H k Z hk => by
  refine zj0 (hbase env) (hfew env) hline (ha.use Z hk fun x u H1 W1 s1 k1 x1 D1 v1 pl => ?_)
  obtain ⟨q, rfl, k1, t1, hq, _, _, ⟨vs, n, dx, hsh, t, u, kk, hd', hoa, hvs, hod, I⟩⟩ := ze1 D1.R v1 k1
  refine zc0 (D1.R.in S) G I D.find D.isF (by decide +kernel) (zh8 hnm) ?_
  obtain ⟨ob, hob, hdat⟩ := D.ob
  refine callWith_function_kw (o := ob) (fd := fd) (Yg (he env) ?_)
  refine (hb.sim pos).use D1 k1 fun l us H2 W2 s2 k2 x2 D2 v2 => ⟨⟨(D2.R.in S) _ _ hob, hdat⟩, wpAny_call ?_⟩
  exact hC.pe Z.hA hle D2.R (avs := aR x.m :: l) (vals := .ref q :: us) ⟨_, us, rfl, ⟨q, rfl, x2.le.ix _ _ hq⟩, v2.1⟩ (hbind s2 (D2.R.in S) _ ((congrArg Nat.succ v2.2).trans hn.symm)) (x1.trans x2) k2 fun _ _ p => p
theorem zu9 {o e : PySem.Expr} {apos pos : Pos} {a : CE} {b : CF} (S : Stat c) (G : AccG c) (hap : findIn c.K (.ref c.cA) "append" = some (some (.builtin "list.append"))) (ha : SimE c d sc Γ o a) (hb : SimL c d sc Γ [e] b) (hbase : ∀ env, attributeBase o "append" env (eval o env) = eval o env := by intro _; rfl)
    (hfew : ∀ env, methodCallForm ([e].length + ([] : List Keyword).length) (backTo pos (starEach [e] env)) (backToKw pos (keywordEach [] env)) = true := by intro _; rfl) (hline : (apos.endLine == pos.line) = true := by rfl)
    (hplain : ∀ env, (backTo pos (starEach [e] env)).any (·.1) = false := by intro _; rfl)
    (he : ∀ env, backTo pos (starEach [e] env) = [] \/ ∃ x r, backTo pos (starEach [e] env) = (false, x) :: r := by intro _; first | exact .inl rfl | exact .inr ⟨_, _, rfl⟩) : SimE c d sc Γ (.Call (.Attribute o "append" apos) [e] [] pos) (zK3 a b) := fun A env W s H k Z hk => by
  refine zj0 (hbase env) (hfew env) hline (ha.use Z hk fun x u H1 W1 s1 k1 x1 D1 v1 pl => ?_)
  obtain ⟨q, rfl, k1, t1, hq, _, _, ⟨vs0, n0, dx0, hsh0, t0, u0, kk0, _, _, _, _, I⟩⟩ := ze1 D1.R v1 k1
  refine zc0 (t := .type "method_descriptor") (D1.R.in S) G I hap (show pureOf (fastBuiltinType "list.append") = _ by kernel_rfl) (by decide +kernel) (zh8 (by decide +kernel)) ?_
  refine Calls.callWith_builtin (hplain env) (Yg (he env) ((hb.sim pos).use D1 k1 fun l us H2 W2 s2 k2 x2 D2 v2 => ?_))
  obtain ⟨e2, k2⟩ := kd_t k2
  obtain ⟨y, rfl, k2⟩ := XP k2
  obtain ⟨hsh, k2⟩ := ZG k2
  have hq2 := x2.le.ix _ _ hq
  obtain ⟨ob2, hob2, z⟩ := D2.R.obj _ _ hq2
  obtain ⟨vs, n, dx, rfl, hdx, hvs⟩ := z.at e2
  obtain ⟨v, t', rfl, hv, rfl⟩ := v2.1
  rw [<- hvs.len] at hsh
  refine Xn (m := "append") (D2.R.in S) G.toAccF hob2 slot_list_append.plain (.inr (by decide +kernel)) (by decide +kernel) entry_list_append (args_list_append _ _) ?_
  show wpAny _ _ (updateSeq q (·.push v) >>= fun _ => ret .none) _ _ s2
  have hz : (vs.toArray.push v).size <= sizeLine + 1 := by rw [Array.size_push, List.size_toArray]; exact Nat.succ_le_succ (ZZ hsh)
  refine wpAny_bind (wpAny_updateSeq hob2 rfl (wpAny_pure ⟨.none, rfl, ?_⟩) (ZZ hsh) hz)
  have hob3 : (s2.heap.update q (Obj.mapSeq (·.push v))).get? q = some (ZB c.cA dx (vs ++ [v]) (n + 1)) := by
    rw [Heap.get?_update_self _ hob2 rfl]
    simp [Obj.mapSeq, ZB]
  have hsb : Heap.SameBut q s2.heap (s2.heap.update q (Obj.mapSeq (·.push v))) := Heap.SameBut.update ..
  exact ⟨aN, _, W2, k2, (x1.trans x2).trans (.same hsb ⟨_, hob3⟩ (.inr (List.mem_of_getElem? hq2)) (.of (Nat.le_refl _))), D2.R.upd (o' := oA (hget H2 x.m).d (app (hget H2 x.m).l [y])) (s' := { s2 with heap := s2.heap.update q (Obj.mapSeq (·.push v)) }) hq2 hsb hob3 ⟨_, _, dx, rfl, hdx, hvs.append ⟨v, [], rfl, hv, rfl⟩⟩ (Nat.le_refl _), rfl⟩
end
section
variable {c : Cfg} {d : Nat} {sc : Sc} {Γ : Ctx} {W : Wd} {s : Shared} {H : AH} {A : Around} {E : Value -> Shared -> Prop} {a dx sl : Addr} {vs : List Value} {n k : Nat} {t : Tok} {M : Model}
theorem yc8 (k n : Nat) : min (k : Int) (n : Int) = ((min k n : Nat) : Int) := by
  rcases Nat.le_total k n with h | h
  · rw [Nat.min_eq_left h, Int.min_eq_left (Int.ofNat_le.mpr h)]
  · rw [Nat.min_eq_right h, Int.min_eq_right (Int.ofNat_le.mpr h)]
theorem ya8 (n k : Nat) : sliceBounds (some (k : Int)) none none n = (((min k n : Nat) : Int), (n : Int), 1) := by
  show (max 0 (min (if (k : Int) < 0 then (k : Int) + n else k) (n : Int)), (n : Int), (1 : Int)) = _
  rw [if_neg (Int.not_lt.mpr (Int.natCast_nonneg k)), yc8, Int.max_eq_right (Int.natCast_nonneg _)]
noncomputable abbrev XL (k : Nat) (t : Tok) : Obj := { cls := .type "slice", data := .fields #[.int k t, .none, .none] }
theorem zb6 {Q : Value × Value × Value -> Shared -> Prop} (hs : s.heap.get? sl = some (XL k t)) (h : Q (rawPart (some (k : Int)), rawPart none, rawPart none) s) : wpAny M A (Builtin.List.listSliceParts (.ref sl)) Q E s := by
  rw [listSliceParts_eq]
  have hstep : ¬ ((rawPart none == rawInt 0) = true) := Bool.false_ne_true
  refine wpAny_bind (wpAny_field hs rfl (x := .none) rfl (wpAny_bind (wpAny_listPart .none ?_)))
  rw [if_neg hstep]
  refine wpAny_bind (wpAny_field hs rfl (x := .int k t) rfl (wpAny_bind (wpAny_listPart (.int k t) ?_)))
  exact wpAny_bind (wpAny_field hs rfl (x := .none) rfl (wpAny_bind (wpAny_listPart .none (wpAny_pure h))))
theorem zs6 {Q : Option Int -> Shared -> Prop} (hs : s.heap.get? sl = some (XL k t)) (h : Q none s) : wpAny M A (Builtin.List.listSubscript? (.ref sl)) Q E s := by
  unfold Builtin.List.listSubscript?
  refine wpAny_bind (wpAny_specialOf ⟨_, hs, rfl⟩ slice_no_index ?_)
  simp only [Option.isNone_none, if_true]
  exact wpAny_pure h
theorem zK0 {Q : Value -> Shared -> Prop} (X : c.K.In s.heap) (AF : AccF c) (ho : s.heap.get? a = some (ZB c.cA dx vs n)) (hs : s.heap.get? sl = some (XL k t)) (hsz : vs.length <= sizeLine) (h : Q (.ref s.heap.objs.size) { s with heap := s.heap.push (Zx (vs.drop k) 0) }) :
    wpAny c.M A (getItem (.ref a) (.ref sl)) Q E s := by
  unfold getItem sequenceKey
  refine wpAny_holding (wpAny_bind (wpAny_bind ((Xu ho).here ?_)))
  refine wpAny_bind ((anyM_none X AF.noseq).here ?_)
  rw [if_pos (show (!false) = true from rfl)]
  refine wpAny_pure (wpAny_bind ?_)
  unfold callSpecial?
  refine wpAny_bind (YF X ho AF.get ?_)
  dsimp only
  refine wpAny_holding (wpAny_bind ?_)
  rw [slot_list_getitem.bind]
  refine wpAny_pure (wpAny_bind (wpAny_mono (Xn (m := "__getitem__") (Q := fun v s' => v = .ref s.heap.objs.size /\ s' = { s with heap := s.heap.push (Zx (vs.drop k) 0) }) X AF ho slot_list_getitem.plain (.inr (by decide +kernel)) (by decide +kernel) entry_list_getitem (args_list_getitem _ _) ?_) (fun v s' h => ?_) fun _ _ h => h))
  · show wpAny _ _ (Builtin.List.listSubscript? (.ref sl) >>= _) _ _ s
    refine wpAny_bind (zs6 hs ?_)
    show wpAny _ _ (typeOf (.ref sl) >>= _) _ _ s
    refine wpAny_bind (wpAny_typeOf ⟨_, hs, rfl⟩ ?_)
    rw [if_neg (by decide)]
    refine wpAny_bind (zb6 hs ?_)
    refine wpAny_bind (m := Builtin.List.listItems (.ref a)) ?_
    unfold Builtin.List.listItems
    refine wpAny_bind (wpAny_seqItems ho rfl (wpAny_pure ?_))
    refine wpAny_bind (wpAny_of_eq (sliceIndices_raw (some (k : Int)) none none vs.toArray.size (by simp)) ?_)
    refine wpAny_bind (wpAny_newObj_type (wpAny_pure ⟨_, rfl, rfl, ?_⟩) (Nat.le_trans (slicePick_size_le vs.toArray (some (k : Int)) none none) (by rw [List.size_toArray]; exact hsz)))
    exact congrArg (fun r => ({ s with heap := s.heap.push { cls := .type "list", data := .seq r 0 } } : Shared)) (slicePick_from' vs.toArray k)
  · obtain ⟨rfl, rfl⟩ := h
    exact wpAny_pure (wpAny_pure (by assumption))
theorem VRs.drop {n : Nat} : ∀ {l : List AV} {vs : List Value}, VRs c W l vs -> VRs c W (yq8 n l) (vs.drop n) := by
  induction n with
  | zero => exact fun h => h
  | succ n ih =>
    intro l vs h
    cases l with
    | nil => cases h; rfl
    | cons x l => obtain ⟨v, t, rfl, _, ht⟩ := h; exact ih ht
theorem zN4 {value lower : PySem.Expr} {p pos : Pos} {a b : CE} (S : Stat c) (AF : AccF c) (ha : SimE c d sc Γ value a) (hb : SimE c d sc Γ lower b) : SimE c d sc Γ (.Subscript value (.Slice (some lower) none none p) pos) (yp1 a b) := fun A env W s H k D hk => by
  show wpAny _ _ (eval _ _) _ _ _
  rw [eval_Subscript]
  refine wpAny_bind (ha.use D hk fun x u H1 W1 s1 k1 x1 D1 v1 => ?_)
  obtain ⟨q, rfl, k1, t1, hq, _, _, _⟩ := ze1 D1.R v1 k1
  refine wpAny_bind (wpAny_holding (wpAny_Slice ?_))
  rw [evalPart_some]
  refine hb.use D1 k1 fun y w H2 W2 s2 k2 x2 D2 v2 => wpAny_pure (wpAny_pure ?_)
  obtain ⟨e2, k2⟩ := kd_t k2
  obtain ⟨e3, k2⟩ := kd_t k2
  obtain ⟨t, rfl⟩ := v2.at e3
  obtain ⟨i, hi, k2⟩ := ZO k2
  obtain ⟨hsh, k2⟩ := ZG k2
  obtain ⟨ob, hob, z⟩ := D2.R.obj _ _ (x2.le.ix _ _ hq)
  obtain ⟨vs, n, dx, rfl, hdx, hvs⟩ := z.at e2
  rw [<- hvs.len] at hsh
  rw [hi]
  have ho3 : (s2.heap.push (XL i t)).get? q = some (ZB c.cA dx vs n) := Heap.get?_push_of_some _ hob
  have R3 := D2.R.push (XL i t)
  have hg : wpAny c.M A (getitemInPython (.ref q)) (fun b s' => b = false /\ s' = { s2 with heap := s2.heap.push (XL i t) }) NoE { s2 with heap := s2.heap.push (XL i t) } := by
    unfold getitemInPython
    exact wpAny_bind (YF (R3.in S) ho3 AF.get (wpAny_pure ⟨rfl, rfl⟩))
  refine wpAny_bind (wpAny_standAt (wpAny_bind (wpAny_mono hg (fun b s' hb => ?_) noe)))
  obtain ⟨rfl, rfl⟩ := hb
  refine wpAny_bind (wpAny_operating (zK0 (R3.in S) AF ho3 (Heap.get?_push_size _ rfl) (ZZ hsh) (wpAny_bind (wpAny_letTemporaryGo (wpAny_pure ?_)))))
  exact .pushL ((x1.trans x2).trans (.push _)) R3 hvs.drop k2 rfl
theorem yi6 {q : Addr} {m : Nat} {Q : Unit -> Shared -> Prop} (X : c.K.In s.heap) (AF : AccF c) (hset : findIn c.K (.ref c.cA) "__setitem__" = some (some (.builtin "list.__setitem__"))) (ho : s.heap.get? a = some (ZB c.cA dx vs n))
    (hs : s.heap.get? sl = some (XL k t)) (hsz : vs.length < 100000) (hq : s.heap.get? q = some (Zx [] m)) (hne : a ≠ q) (h : ∀ h' n', h'.get? a = some (ZB c.cA dx (vs.take k) n') -> Heap.SameBut a s.heap h' -> Q () { s with heap := h' }) : wpAny c.M A (setItem (.ref a) (.ref sl) (.ref q)) Q E s := by
  unfold setItem sequenceKey
  refine wpAny_holding (wpAny_bind (wpAny_bind ((Xu ho).here ?_)))
  refine wpAny_bind ((anyM_none X AF.noseq).here ?_)
  rw [if_pos (show (!false) = true from rfl)]
  refine wpAny_pure (wpAny_bind ?_)
  unfold callSpecial?
  refine wpAny_bind (YF X ho hset ?_)
  dsimp only
  refine wpAny_holding (wpAny_bind ?_)
  rw [slot_list_setitem.bind]
  refine wpAny_pure (wpAny_bind (wpAny_mono (Xn (m := "__setitem__") (Q := fun _ s' => Q () s') X AF ho slot_list_setitem.plain (.inl (by decide +kernel)) (by decide +kernel) entry_list_setitem (args_list_setitem _ _ _) ?_) (fun v s' h => wpAny_pure (wpAny_pure h)) fun _ _ h => h))
  show wpAny _ _ (Builtin.List.listSubscript? (.ref sl) >>= _) _ _ s
  refine wpAny_bind (zs6 hs ?_)
  show wpAny _ _ (typeOf (.ref sl) >>= _) _ _ s
  refine wpAny_bind (wpAny_typeOf ⟨_, hs, rfl⟩ ?_)
  rw [if_neg (by decide)]
  refine wpAny_bind (zb6 hs ?_)
  have hsame : Builtin.List.listSameRef (.ref a) (.ref q) = false := by simp [Builtin.List.listSameRef, hne]
  dsimp only
  rw [hsame, if_neg (by decide)]
  refine wpAny_bind (m := Builtin.List.listAllItems (.ref q) _) ?_
  unfold Builtin.List.listAllItems
  refine wpAny_bind (wpAny_typeOf ⟨_, hq, rfl⟩ ?_)
  rw [if_pos (by decide)]
  unfold Builtin.List.listItems
  refine wpAny_bind (m := seqItems? (.ref q)) (wpAny_seqItems hq rfl (wpAny_pure ?_))
  refine wpAny_bind (wpAny_bind (m := seqItems? (.ref a)) (wpAny_seqItems ho rfl (wpAny_pure ?_)))
  refine wpAny_bind (wpAny_of_eq (sliceIndices_raw (some (k : Int)) none none vs.toArray.size (by simp)) ?_)
  rw [ya8 vs.toArray.size k]
  dsimp only
  rw [if_pos (by decide)]
  refine wpAny_bind (wpAny_rule ?_)
  have htl : Builtin.List.listTooLong (vs.toArray.size + (#[] : Array Value).size) = false := decide_eq_false (Nat.not_lt.mpr (ZZ hsz))
  rw [htl, if_neg (by decide)]
  have hc : (vs.toArray.extract 0 ((min k vs.toArray.size : Nat) : Int).toNat ++ (#[] : Array Value) ++ vs.toArray.extract (max ((min k vs.toArray.size : Nat) : Int) ((vs.toArray.size : Nat) : Int)).toNat vs.toArray.size) = (vs.take k).toArray := by
    rw [show (max ((min k vs.toArray.size : Nat) : Int) ((vs.toArray.size : Nat) : Int)).toNat = vs.toArray.size from by rw [Int.max_eq_right (Int.ofNat_le.mpr (Nat.min_le_right ..)), Int.toNat_natCast]]
    simp
  have z : ∀ m : Nat, m <= vs.length -> m <= sizeLine := fun m h => Nat.le_trans h (ZZ hsz)
  unfold Builtin.List.listUpdate
  refine wpAny_bind (wpAny_updateSeq ho rfl ?_ (z _ (Nat.le_of_eq List.size_toArray)) (by rw [hc, List.size_toArray]; exact Nat.le_succ_of_le (z _ (List.length_take_le' ..))))
  refine wpAny_bind (wpAny_letGo ?_)
  refine wpAny_pure ⟨.none, rfl, h _ (if (vs.take k).toArray.size == vs.toArray.size then n else n + 1) ?_ (Heap.SameBut.update ..)⟩
  rw [Heap.get?_update_self _ ho rfl]
  unfold ZB Obj.mapSeq
  dsimp only
  rw [hc]
theorem ya0 {σ : Type} {o lower value : PySem.Expr} {p pos' pos : Pos} {e a b : CE} {x : σ} {g : σ -> Ctx} (S : Stat c) (AF : AccF c) (hset : findIn c.K (.ref c.cA) "__setitem__" = some (some (.builtin "list.__setitem__"))) (he : SimE c d sc Γ value e) (ha : SimE c d sc Γ o a) (hb : SimE c d sc Γ lower b)
    (hg : ∀ y av, (g x).lookup y = some av -> Γ.lookup y = some av) (hs : ∀ env, swapsWith value (some (.Subscript o (.Slice (some lower) none none p) pos')) pos.line env = pure false := by intro _; rfl) : Sim1 c d sc Γ (.Assign [.Subscript o (.Slice (some lower) none none p) pos'] value pos) g (cutC e a b x) := fun A env W s H kn kr D hk => by
  refine wpAny_Assign_Subscript (he.use D hk fun z v H1 W1 s1 k1 x1 D1 v1 => ha.use D1 k1 fun xx u H2 W2 s2 k2 x2 D2 v2 => ?_) (hs env)
  obtain ⟨q, rfl, k2, t2, hq, _, _, _⟩ := ze1 D2.R v2 k2
  refine wpAny_Slice ?_
  rw [evalPart_some]
  refine hb.use D2 k2 fun y w H3 W3 s3 k3 x3 D3 v3 => wpAny_pure (wpAny_pure ?_)
  obtain ⟨e1, k3⟩ := kd_t k3
  obtain ⟨e2, k3⟩ := zR1 k3
  obtain ⟨e3, k3⟩ := kd_t k3
  obtain ⟨e4, k3⟩ := kd_t k3
  obtain ⟨t, rfl⟩ := v3.at e4
  obtain ⟨i, hi, k3⟩ := ZO k3
  obtain ⟨hsh, k3⟩ := ZG k3
  have hq3 := x3.le.ix _ _ hq
  obtain ⟨ob, hob, zz⟩ := D3.R.obj _ _ hq3
  obtain ⟨vs, n, dx, rfl, hdx, hvs⟩ := zz.at e3
  obtain ⟨qv, ws, m, rfl, hov, hws⟩ := Yi D3.R ((v1.ext x2).ext x3) e1
  rw [e2] at hws
  cases hws
  rw [<- hvs.len] at hsh
  rw [hi]
  have R4 := D3.R.push (XL i t)
  refine yi6 (s := { s3 with heap := s3.heap.push (XL i t) }) (R4.in S) AF hset (ZH _ hob) (Heap.get?_push_size _ rfl) hsh (ZH _ hov) (fun e => by rw [e, hov] at hob; cases hob) fun h' n' g1 g2 => ?_
  have X := ((x1.trans (x2.trans x3)).trans (.push (XL i t))).trans (.same (s' := { s3 with heap := h' }) g2 ⟨_, g1⟩ (.inr (List.mem_of_getElem? hq3)) (.of (Nat.le_refl _)))
  exact .next x _ W3 k3 X.any (R4.upd (s' := { s3 with heap := h' }) hq3 g2 g1 ⟨_, n', dx, rfl, hdx, hvs.take⟩ (Nat.le_refl _)) ((D.F.ext X).weak hg)
end
noncomputable def zf6 (K : Frag) (C : Addr) : Bool := match K.lookup C with
  | some ⟨_, _, .cls cd, sl⟩ => !cd.abstract && !cd.hasDel && (sl.toList[4]?).join == some (.builtin "list.__new__") && !cd.mro.isEmpty && cd.mro.contains (.ref C) && cd.mro.contains (.type "list") &&
      specialIn K (.ref C) "__call__" == some (some (.builtin "type.__call__")) && instIn K (.ref C) (.type "type") == some true
  | _ => false
structure zK6 (M : Model) (h : Heap) (C : Addr) : Prop where
  obj : ∃ oc od cd sl, h.get? C = some ⟨oc, od, .cls cd, sl⟩ /\ cd.abstract = false /\ cd.hasDel = false /\ cd.mro.isEmpty = false
  made : Looks M h (Bind.madeBy (.ref C)) (some "list.__new__")
  base : Looks M h (Bind.staticBase (.ref C)) (.ref C)
  self : Looks M h (isSubtype (.ref C) (.ref C)) true
  lst : Looks M h (isSubtype (.ref C) (.type "list")) true
  call : Looks M h (specialOf (.ref C) "__call__") (some (.builtin "type.__call__"))
  typ : Looks M h (isInstance (.ref C) (.type "type")) true
theorem zD6 {K : Frag} {M : Model} {h : Heap} (X : K.In h) {C : Addr} (e : zf6 K C = true) : zK6 M h C := by
  unfold zf6 at e
  split at e
  · rename_i oc od cd sl ho
    refine cps fun P kP => ?_
    simp only [Bool.and_eq_true, Bool.not_eq_true', beq_iff_eq] at e
    obtain ⟨⟨⟨⟨⟨⟨⟨e1, e2⟩, e3⟩, e4⟩, e5⟩, e6⟩, e7⟩, e8⟩ := e
    have hc : clsIn K C = some cd := by unfold clsIn; rw [ho]
    have hm : Looks M h (mroOf (.ref C)) cd.mro := (looks_clsIn X hc).andThen .now
    obtain ⟨c, l, hl⟩ : ∃ c l, cd.mro = c :: l := by cases q : cd.mro with | nil => rw [q] at e4; cases e4 | cons c l => exact ⟨c, l, rfl⟩
    have made : Looks M h (Bind.madeBy (.ref C)) (some "list.__new__") := by
      intro A Q E s k q
      unfold Bind.madeBy
      refine wpAny_bind (hm A _ E s k ?_)
      rw [hl, List.forIn_cons]
      refine wpAny_bind (wpAny_bind (wpAny_bind (wpAny_bind (wpAny_loadPart (k _ _ (X _ _ ho)) (wpAny_pure ?_)))))
      dsimp only
      rw [<- Array.getElem?_toList, e3]
      exact wpAny_pure (wpAny_pure (wpAny_pure q))
    refine kP ?_
    clear kP P
    refine ⟨⟨oc, od, cd, sl, X _ _ ho, e1, e2, e4⟩, made, ?_, looks_mroIn X ?_, looks_mroIn X ?_, looks_specialIn X e7, looks_instIn X e8⟩
    · intro A Q E s k q
      unfold Bind.staticBase
      refine wpAny_bind (hm A _ E s k ?_)
      rw [hl, List.forIn_cons]
      exact wpAny_bind (wpAny_bind (wpAny_bind (made A _ E s k (wpAny_pure (wpAny_pure (wpAny_pure q))))))
    · unfold mroIn; rw [hc, Option.bind_some, if_neg (by rw [e4]; decide), e5]
    · unfold mroIn; rw [hc, Option.bind_some, if_neg (by rw [e4]; decide), e6]
  · cases e
theorem yd5 (C : Addr) (v : Value) : argsOk "list.__new__" ⟨[.ref C, v], []⟩ := by unfold argsOk; kernel_rfl
theorem yd4 : builtinKind "list.__new__" = some .builtinFn := by decide +kernel
theorem zP9 : splitId "list.__new__" = some ("list", "__new__") := by decide +kernel
section
variable {prog : Program} {w : World} {A : Around} {K : Frag} {C : Addr} {R : Result -> Shared -> Prop} {h : Heap} {g : Array GenState} {d : Drawn} {t : Nat} {os : OsState}
theorem yv4 {v : Value} (Y : zK6 (model prog w) h C)
    (hq : R (.ok (.ret (.ref (h.objs.size + 1)))) ⟨(h.push emptyDict).push (ZB C h.objs.size [] 0), g, d, t, os⟩) :
    codeAny (model prog w) A (.call (.builtin "list.__new__") ⟨[.ref C, v], []⟩) R ⟨h, g, d, t, os⟩ := by
  refine cps fun P kP => ?_
  obtain ⟨⟨oc, od, cd, sl, hC, e1, e2, e4⟩, made, base, self, lst, call, typ⟩ := Y
  refine kP ?_
  clear kP P
  refine codeAny_call_builtin_code (Code.quiet_builtin _ (by decide +kernel)) ?_
  simp only [checkBuiltinCall, yd4, zP9]
  have args : ∀ A Q E, Q () (⟨h, g, d, t, os⟩ : Shared) -> wpAny (model prog w) A (match Manifest.signature? "list.__new__" with | some sig => Bind.checkArgs "list.__new__" sig ⟨[.ref C, v], []⟩ | none => pure ()) Q E ⟨h, g, d, t, os⟩ := by
    intro A Q E q
    have := yd5 C v
    unfold argsOk at this
    exact wpAny_of_eq this q
  repeat (first | simp only [bne_self_eq_false, Bool.false_eq_true, if_false] | exact args _ _ _ _ | lk)
  refine codeAny_builtin_stack F.entry_list_new rfl fun p st => ?_
  have hown := owner_list_new
  simp only [hown]
  repeat (first | simp only [e1, e2, Bool.false_eq_true, if_false, Bool.not_true] | lk)
  refine nd_load (Heap.get?_push_of_some _ (Heap.get?_push_of_some _ hC)) ?_
  refine wpAny_pure ?_
  dsimp only
  rw [e2]
  repeat (first | simp only [Bool.false_eq_true, if_false] | lk)
  show R _ _
  rw [Heap.size_push]
  exact hq
theorem ym5 {v : Value} {init : Value} (Y : zK6 (model prog w) h C) (hi : Looks (model prog w) h (typeLookup (.ref C) "__init__") (some init))
    (hb : ∀ self, Looks (model prog w) h (bindSpecial init self) (init, [self]))
    (hq : codeAny (model prog w) (A.under (.builtin "type.__call__" ⟨[.ref C, v], []⟩)) (.call init ⟨[.ref (h.objs.size + 1), v], []⟩) (InitBack (h.objs.size + 1) R) ⟨(h.push emptyDict).push (ZB C h.objs.size [] 0), g, d, t, os⟩) :
    codeAny (model prog w) A (.call (.ref C) ⟨[v], []⟩) R ⟨h, g, d, t, os⟩ := by
  refine cps fun P kP => ?_
  have Y' := Y
  obtain ⟨⟨oc, od, cd, sl, hC, e1, e2, e4⟩, made, base, self, lst, call, typ⟩ := Y
  refine kP ?_
  clear kP P
  refine codeAny_of_tree ?_
  show wpAny _ _ (callAny (.ref C) _) _ _ _
  refine nd_load hC ?_
  show wpAny _ _ (callAny.viaDunder (.ref C) _) _ _ _
  unfold callAny.viaDunder
  refine wpAny_bind (call.at ?_)
  dsimp only
  rw [tc_bind]
  refine wpAny_bind (wpAny_pure (wpAny_bind (wpAny_pure ?_)))
  refine wpAny_pure (a := Fin.again (.call (.builtin "type.__call__") ⟨[.ref C, v], []⟩)) (And.intro rfl ?_)
  refine codeAny_call_builtin_at (Code.quiet_builtin _ (by decide +kernel)) entry_typeCall (check_slot tc_kind tc_split typ (tc_args _ _ _) ?_)
  unfold Builtin.«type.__call__»
  have hm : Looks (model prog w) h (mroOf (.ref C)) cd.mro := ((Looks.ld (part := none) hC).andThen .now).andThen .now
  repeat (first | simp only [e4, Bool.false_eq_true, if_false] | with_reducible refine wpAny_call ?_ | lk)
  refine yv4 Y' ?_
  have k : ∀ b o, h.get? b = some o -> ((h.push emptyDict).push (ZB C h.objs.size [] 0)).get? b = some o := fun b o e => Heap.get?_push_of_some _ (Heap.get?_push_of_some _ e)
  have hx : ((h.push emptyDict).push (ZB C h.objs.size [] 0)).get? (h.objs.size + 1) = some (ZB C h.objs.size [] 0) := by heap_get
  have t1 : Looks (model prog w) ((h.push emptyDict).push (ZB C h.objs.size [] 0)) (typeOf (.ref (h.objs.size + 1))) (.ref C) := (Looks.ld hx).andThen .now
  have s1 := self.keeps k
  have i1 := hi.keeps k
  have b1 := (hb (.ref (h.objs.size + 1))).keeps k
  unfold isInstance callSpecial? specialOf
  repeat (first | with_reducible refine wpAny_call ?_ | lk)
  refine codeAny_mono hq fun r s' z => ?_
  rcases r with e | (v | _ | _ | _) <;> first | exact z | exact z.elim | skip
  obtain ⟨rfl, z⟩ := z
  exact wpAny_pure (wpAny_pure z)
end
end Mine
end
section
namespace Mine
open PySem PySem.W PySem.Calls PyProof.Rows Builtin Builtin.ObjectAttr
structure AccH (c : Cfg) : Prop extends AccG c where
  makes : zf6 c.K c.cA = true
  mro : ∃ cd, clsIn c.K c.cA = some cd /\ cd.hasDict = true /\ cd.mro = [.ref c.cA, .type "list", .type "object"]
  sa : findIn c.K (.ref c.cA) "__setattr__" = some (some (.builtin "object.__setattr__"))
  noSize : findIn c.K (.ref c.cA) "_initial_size" = some none
  obj : subIn c.K (.ref c.cA) (.type "object") = some true
section
variable {c : Cfg} {d : Nat} {sc : Sc} {Γ : Ctx} {A : Around} {E : Value -> Shared -> Prop}
theorem zv3 (self : Value) (C : Addr) : refuseLoop self "__setattr__" [.ref C, .type "list", .type "object"] = pure () := by
  rw [refuseLoop_ref]
  kernel_rfl
theorem zp1 {s : Shared} {a dx : Addr} {vs : List Value} {n : Nat} {v : Value} {Q : Unit -> Shared -> Prop} (X : c.K.In s.heap) (G : AccH c) (hx : s.heap.get? a = some (ZB c.cA dx vs n)) (hd : s.heap.get? dx = some emptyDict)
    (h : ∀ h' hsh t k, Heap.SameBut dx s.heap h' -> h'.get? dx = some (Vn hsh t v k) -> ∀ tk, Q () { s with heap := h', toks := tk }) :
    wpAny c.M A (setAttr (.ref a) "_initial_size" v) Q E s := by
  have SF := PySem.F.store_object
  obtain ⟨cd, hc, hdict, hmro⟩ := G.mro
  obtain ⟨hh, g, dd, t, os⟩ := s
  have LT : Looks c.M hh (typeOf (.ref a)) (.ref c.cA) := Xu hx
  have LS := looks_findIn (M := c.M) X G.sa
  have LN := looks_findIn (M := c.M) X G.noSize
  have LC := looks_clsIn (M := c.M) X hc
  unfold setAttr
  refine wpAny_bind (wpAny_mkText (wpAny_bind ?_))
  unfold callSpecial? specialOf
  refine wpAny_bind (wpAny_bind (LT.at (LS.at ?_)))
  dsimp only
  refine wpAny_holding (wpAny_bind ?_)
  rw [SF.slot.bind]
  refine wpAny_pure (wpAny_bind ?_)
  have sub : Looks c.M hh (isInstance (.ref a) (.type "object")) true := LT.andThen (looks_subIn X G.obj)
  refine wpAny_call (codeAny_call_builtin SF.slot.plain SF.entry (@check_slot c.M _ _ ⟨hh, g, dd, t + 1, os⟩ "object.__setattr__" "object" "__setattr__" (.ref a) [.str "_initial_size" t, v] [] _ SF.kind SF.split sub (SF.args (.ref a) (.str "_initial_size" t) v) ?_))
  have hm : Looks c.M hh (mroOf (.ref c.cA)) cd.mro := LC.andThen .now
  have L3 : Looks c.M hh (storeTaker? none) none := .now
  show wpAny c.M A.in1 (Builtin.«object.__setattr__» ⟨[.ref a, .str "_initial_size" t, v], []⟩) _ _ _
  rw [osa_eq, refuse_eq]
  refine wpAny_bind (wpAny_bind (LT.at (wpAny_bind (hm.at ?_))))
  rw [hmro, zv3]
  refine wpAny_pure (wpAny_bind (LT.at (wpAny_bind (LN.at (wpAny_bind (L3.at ?_))))))
  dsimp only
  refine wpAny_bind (wpAny_pure (wpAny_bind (wpAny_bind (wpAny_loadPart hx (wpAny_bind (LC.at ?_))))))
  rw [hdict]
  refine wpAny_pure (a := some dx) (wpAny_bind (wpAny_pure (wpAny_bind ?_)))
  unfold nsSet
  refine wpAny_bind (wpAny_bind (wpAny_askSetting (wpAny_pure (wpAny_bind (wpAny_mkText (wpAny_bind (wpAny_loadPart hd ?_)))))))
  dsimp only
  rw [aRefKeyMayBeTheName_at]
  rw [if_neg (by decide +kernel)]
  generalize (if (Str.ofString "_initial_size").cps.isEmpty = true then (0 : Int) else reduceHash (c.M.w.params.strHash (Str.ofString "_initial_size").cps)) = hsh
  refine wpAny_updatePart hd ?_
  have hput : Obj.putName (Str.ofString "_initial_size") hsh (.str (Str.ofString "_initial_size") (t + 1)) v emptyDict = Vn hsh (t + 1) v 1 := by kernel_rfl
  have hget : (hh.update dx (Obj.putName (Str.ofString "_initial_size") hsh (.str (Str.ofString "_initial_size") (t + 1)) v)).get? dx = some (Vn hsh (t + 1) v 1) := by
    rw [Heap.get?_update_self _ hd (by rw [hput]; rfl), hput]
  refine wpAny_bind (wpAny_lookBehind hget (pastItsLine_dict (by rw [sizeLine_eq]; show 1 <= _; omega)) ?_)
  exact wpAny_pure (wpAny_pure (wpAny_pure (h _ hsh (t + 1) 1 (Heap.SameBut.update ..) hget _)))
end
noncomputable def XG (id : String) (x : Addr) : Obj := { cls := .type "method-wrapper", data := .fields #[.builtin id, .ref x] }
theorem zL7 : entryFor table "wrapper_descriptor.__get__" = some Builtin.«wrapper_descriptor.__get__» := entryFor_of_tree (by kernel_rfl)
theorem zL6 : plainId "wrapper_descriptor.__get__" = true := by decide +kernel
theorem zY3 : builtinKind "wrapper_descriptor.__get__" = some .slot := by decide +kernel
theorem zL5 : splitId "wrapper_descriptor.__get__" = some ("wrapper_descriptor", "__get__") := by decide +kernel
theorem zY4 (a b d : Value) : argsOk "wrapper_descriptor.__get__" ⟨[a, b, d], []⟩ := by unfold argsOk; kernel_rfl
section
variable {prog : Program} {w : World} {A : Around} {E : Value -> Shared -> Prop} {h : Heap} {g : Array GenState} {d : Drawn} {t : Nat} {os : OsState}
theorem yj0 {id : String} {x C : Addr} {Q : Fin -> Shared -> Prop} (hid : id = "list.__init__" \/ id = "list.__len__") (hi : Looks (model prog w) h (isInstance (.ref x) (.type "list")) true)
    (hq : Q (.done (.ret (.ref h.objs.size))) ⟨h.push (XG id x), g, d, t, os⟩) :
    wpAny (model prog w) A (Builtin.«wrapper_descriptor.__get__» ⟨[.builtin id, .ref x, .ref C], []⟩) Q E ⟨h, g, d, t, os⟩ := by
  unfold Builtin.«wrapper_descriptor.__get__»
  have e1 : ".".intercalate ("list.__init__".cutAt '.').dropLast = "list" := by decide +kernel
  have e2 : ".".intercalate ("list.__len__".cutAt '.').dropLast = "list" := by decide +kernel
  have hi1 : Looks (model prog w) h (isInstance (.ref x) (.type (".".intercalate ("list.__init__".cutAt '.').dropLast))) true := by rw [e1]; exact hi
  have hi2 : Looks (model prog w) h (isInstance (.ref x) (.type (".".intercalate ("list.__len__".cutAt '.').dropLast))) true := by rw [e2]; exact hi
  clear hi
  rcases hid with rfl | rfl
  all_goals
    repeat lk
  all_goals exact hq
theorem zj6 {so D x C : Addr} {l₀ l : List Value} {K : Frag} {name : Str} {tk : Tok} {id : String} {Q : Fin -> Shared -> Prop} (hid : id = "list.__init__" \/ id = "list.__len__")
    (hso : h.get? so = some { cls := .type "super", dict := none, data := .fields #[.ref D, .ref x, .ref C], slots := #[] }) (hno : Looks (model prog w) h (opaqueClassAbove (.ref C)) none)
    (hC : Looks (model prog w) h (mroOf (.ref C)) l₀) (hl : (l₀.dropWhile (· != .ref D)).drop 1 = l) (X : K.In h)
    (hf : alongIn K name l = some (some (.builtin id))) (hi : Looks (model prog w) h (isInstance (.ref x) (.type "list")) true) (hxC : x ≠ C) (hn : (name == ("__class__" : Str)) = false)
    (hq : Q (.done (.ret (.ref h.objs.size))) ⟨h.push (XG id x), g, d, t, os⟩) :
    wpAny (model prog w) A (Builtin.«super.__getattribute__» ⟨[.ref so, .str name tk], []⟩) Q E ⟨h, g, d, t, os⟩ := by
  have hne : (Value.ref x == Value.ref C) = false := by simp [hxC]
  have hdt : ({ cls := .type "super", dict := none, data := .fields #[.ref D, .ref x, .ref C], slots := #[] } : Obj).data = .fields #[.ref D, .ref x, .ref C] := rfl
  have f0 : (#[.ref D, .ref x, .ref C] : Array Value)[0]? = some (.ref D) := rfl
  have f1 : (#[.ref D, .ref x, .ref C] : Array Value)[1]? = some (.ref x) := rfl
  have f2 : (#[.ref D, .ref x, .ref C] : Array Value)[2]? = some (.ref C) := rfl
  have hT : Looks (model prog w) h (typeOf (.builtin id)) (.type "wrapper_descriptor") := by
    refine looks_typeIn X ?_
    rcases hid with rfl | rfl
    · kernel_rfl
    · kernel_rfl
  have hG : Looks (model prog w) h (typeLookup (.type "wrapper_descriptor") "__get__") (some (.builtin "wrapper_descriptor.__get__")) := looks_findIn X (t := .type "wrapper_descriptor") (by kernel_rfl)
  have hI : Looks (model prog w) h (isInstance (.builtin id) (.type "wrapper_descriptor")) true := hT.andThen (looks_subIn X (t := .type "wrapper_descriptor") (by kernel_rfl))
  unfold Builtin.«super.__getattribute__»
  repeat (first
    | (with_reducible refine wpAny_field hso hdt f0 ?_) | (with_reducible refine wpAny_field hso hdt f1 ?_) | (with_reducible refine wpAny_field hso hdt f2 ?_)
    | (with_reducible refine ks_wpAny_notOpaque hno ?_)
    | (with_reducible refine Looks.at hC ?_; rw [hl])
    | (refine ks_forIn_along X (fun _ _ => rfl) rfl ?_ hf)
    | (with_reducible refine Looks.at hT ?_)
    | (with_reducible refine Looks.at hG ?_)
    | (with_reducible refine wpAny_call (codeAny_call_builtin zL6 zL7 (check_slot zY3 zL5 hI (zY4 _ _ _) (yj0 hid hi ?_))))
    | (simp only [hn, hne, Bool.or_false, Bool.false_eq_true, if_false])
    | wp_step
    | dsimp only)
  all_goals exact hq
theorem Jf {so D x C : Addr} {l₀ l : List Value} {K : Frag} {name : Str} {pl : Sem Bool} {id : String} {Q : Value × List Value -> Shared -> Prop} (hid : id = "list.__init__" \/ id = "list.__len__")
    (hso : h.get? so = some { cls := .type "super", dict := none, data := .fields #[.ref D, .ref x, .ref C], slots := #[] }) (hno : Looks (model prog w) h (opaqueClassAbove (.ref C)) none)
    (hC : Looks (model prog w) h (mroOf (.ref C)) l₀) (hl : (l₀.dropWhile (· != .ref D)).drop 1 = l) (X : K.In h)
    (hf : alongIn K name l = some (some (.builtin id))) (hi : Looks (model prog w) h (isInstance (.ref x) (.type "list")) true) (hxC : x ≠ C) (hn : (name == ("__class__" : Str)) = false)
    (hq : Q (.ref h.objs.size, []) ⟨h.push (XG id x), g, d, t + 1, os⟩) :
    wpAny (model prog w) A (getMethod (.ref so) name pl) Q E ⟨h, g, d, t, os⟩ := by
  have hlk := F.ks_slot_super_ga.lookup
  have hcan := F.ks_canon_super_ga
  have hT : ∀ t', (⟨h, g, d, t', os⟩ : Shared).TypeIs (.ref so) "super" := fun _ => ⟨_, hso, rfl⟩
  unfold getMethod
  refine wpAny_bind (wpAny_specialOf (hT _) hlk ?_)
  show wpAny _ _ (if (Manifest.canonical "super.__getattribute__" != "object.__getattribute__") = true then _ else _) _ _ _
  rw [if_pos hcan]
  unfold getAttr getAttrBy
  refine wpAny_bind (wpAny_bind (wpAny_mkText (wpAny_holding (wpAny_bind (wpAny_typeOf (hT _) (wpAny_bind (wpAny_of_eq hlk ?_)))))))
  show wpAny _ _ (getAttrByItsOwn (.ref so) (.str name t) (.type "super") (.builtin "super.__getattribute__") true false) _ _ _
  unfold getAttrByItsOwn hookBefore callGetattribute boundAndCalled
  refine wpAny_bind (wpAny_of_eq (show (if onTheHeap (.type "super") then typeLookup (.type "super") "__getattr__" else pure none) = pure none from rfl) ?_)
  refine wpAny_bind (wpAny_attempt (wpAny_holding ?_))
  show wpAny _ _ (bindSpecial (.builtin "super.__getattribute__") (.ref so) >>= _) _ _ _
  refine wpAny_bind (wpAny_of_eq (F.ks_slot_super_ga.bind _) ?_)
  refine wpAny_mono (Q := fun v s' => v = .ref h.objs.size /\ s' = ⟨h.push (XG id x), g, d, t + 1, os⟩) (E := fun _ _ => False)
    (wpAny_call_entry F.ks_slot_super_ga (hT _) F.ks_entry_super_ga (zj6 hid hso hno hC hl X hf hi hxC hn ⟨_, rfl, rfl, rfl⟩) (F.ks_gaArgs_super _ _)) (fun v s' hv => ?_) fun _ _ z => z.elim
  obtain ⟨rfl, rfl⟩ := hv
  exact wpAny_pure (wpAny_pure hq)
theorem yd8 (x : Value) : argsOk "list.__init__" ⟨[x], []⟩ := by unfold argsOk; kernel_rfl
theorem yd6 (x : Value) : argsOk "list.__len__" ⟨[x], []⟩ := by unfold argsOk; kernel_rfl
theorem zy4 {s : Shared} {b x : Addr} {id : String} {bi : Builtin} {R : Result -> Shared -> Prop} (hb : s.heap.get? b = some (XG id x)) (hk : builtinKind id = some .slot) (ha : argsOk id ⟨[.ref x], []⟩) (he : entryFor table id = some bi) (hp : plainId id = true)
    (h : wpAny (model prog w) A.in1 (bi ⟨[.ref x], []⟩) (fun fin s' => ∃ v, fin = .done (.ret v) /\ R (.ok (.ret v)) s') (fun e s' => R (.error e) s') s) :
    codeAny (model prog w) A (.call (.ref b) ⟨[], []⟩) R s := by
  refine codeAny_of_tree ?_
  show wpAny _ A.in1 (callAny (.ref b) _) _ _ _
  unfold callAny
  refine wpAny_bind (wpAny_load hb ?_)
  have hck : ∀ {Q : Unit -> Shared -> Prop}, Q () s -> wpAny (model prog w) A.in1 (checkBoundCall id ⟨[.ref x], []⟩) Q (fun e s' => R (.error e) s') s := by
    intro Q q
    unfold checkBoundCall
    unfold argsOk at ha
    cases hs : Manifest.signature? id with
    | none => exact wpAny_pure q
    | some sig =>
      rw [hs] at ha
      simp only [hk]
      exact wpAny_of_eq ha q
  show wpAny _ _ (checkBoundCall id ⟨[.ref x], []⟩ >>= fun _ => again (.builtin id ⟨[.ref x], []⟩)) _ _ _
  refine wpAny_bind (hck (wpAny_pure ⟨plainId_quiet hp _, codeAny_builtin he ?_⟩))
  rw [Around.under_plainId hp _]
  refine wpAny_mono h (fun fin s' hh => ?_) fun _ _ z => z
  obtain ⟨v, rfl, hv⟩ := hh
  exact hv
end
structure Jg (c : Cfg) (i f : Nat) (fd : FuncData) (name : Str) (cc : Addr) : Prop where
  ob : ∃ o, c.K.lookup (c.fa f) = some o /\ o.data = .func fd
  cd : codeIn c.K fd.code fd.qualname = true
  glob : fd.globals = mainGlobals
  clo : fd.closure = [(Str.ofString "__class__", cc)]
  cell : ∃ cl cld csl, c.K.lookup cc = some ⟨cl, cld, .cell (some (.ref c.cA)), csl⟩
  blt : fd.builtins = builtinsNs
  find : findIn c.K (.ref c.cA) name = some (some (.ref (c.fa f)))
  isF : typeIn c.K (.ref (c.fa f)) = some (.type "function")
  body : fd.body = .stmts (VO i)
  scope : fd.scope = Yk i
  params : fd.params = zh7 i
  code : ∃ cda ccl cdd vs ccs file tf, fd.code = .ref cda /\ c.K.lookup cda = some ⟨ccl, cdd, .fields vs, ccs⟩ /\ vs[2]? = some (.str file tf) /\ ((c.prog.main.file : Str) == file) = true
structure SupF (c : Cfg) : Prop extends AccH c where
  super : nsIn c.K mainGlobals "super" = some none
  third : nsIn c.K cStatics "thirdparty.any" = some none
  top : (c.prog.main.scope.names.lookup ("super" : Str)).isSome = false
  boot : bootBuiltins "super" = some (.type "super")
  slf : subIn c.K (.ref c.cA) (.ref c.cA) = some true
structure SupS (i : Nat) : Prop where
  ks : (Yk i).names.lookup ("super" : Str) = some .globalImplicit
  kc : (Yk i).names.lookup ("__class__" : Str) = some .free
  ka : (Yk i).names.lookup ("self" : Str) = some .local
  kd : (Yk i).kind = .function
  par : ∃ ar, ((zh7 i).posonlyargs ++ (zh7 i).args).head? = some ar /\ ar.arg = ("self" : Str)
section
variable {c : Cfg} {d : Nat} {sc : Sc} {Γ : Ctx} {A : Around} {E : Value -> Shared -> Prop}
theorem zJ9 {i f : Nat} {fd : FuncData} {name : Str} {cc : Addr} {L : Addr} {body : List Stmt} {p0 p1 : Pos} {attr : Str} {whole : Sem Value} {s : Shared} {m : Str -> Option Value} {x dx : Addr} {vs : List Value} {n : Nat} {Q : Value -> Shared -> Prop}
    (D : Jg c i f fd name cc) (G : SupF c) (Z : SupS i) (X : c.K.In s.heap) (T : TopRead c.prog c.loose c.mg c.mb s.heap) (hn : s.heap.Ns L m) (hm : m "self" = some (.ref x)) (hx : s.heap.get? x = some (ZB c.cA dx vs n)) (hat : (attr == ("__class__" : Str)) = false)
    (h : ∀ h', (∀ b o, s.heap.get? b = some o -> h'.get? b = some o) -> h'.get? s.heap.objs.size = some { cls := .type "super", dict := none, data := .fields #[.ref c.cA, .ref x, .ref c.cA], slots := #[] } -> Q (.ref s.heap.objs.size) { s with heap := h' }) :
    _root_.PySem.wpAt c.M A (.func body (callEnv fd L (c.fa f))) (attributeBase (.Call (.Name "super" p0) [] [] p1) attr (callEnv fd L (c.fa f)) whole) Q E s := by
  refine cps fun P kP => ?_
  obtain ⟨o, ho, hdat⟩ := D.ob
  obtain ⟨cl, cld, csl, hcell⟩ := D.cell
  obtain ⟨cda, ccl, cdd, fs, ccs, file, tf, hco, hcode, hfs, hfile⟩ := D.code
  obtain ⟨ar, hpar, har⟩ := Z.par
  obtain ⟨cd, hcls, hdict, hmro⟩ := G.mro
  have hks : (callEnv fd L (c.fa f)).kindOf "super" = some .globalImplicit := by show fd.scope.names.lookup _ = _; rw [D.scope]; exact Z.ks
  have hkc : (callEnv fd L (c.fa f)).kindOf "__class__" = some .free := by show fd.scope.names.lookup _ = _; rw [D.scope]; exact Z.kc
  have hka : (callEnv fd L (c.fa f)).kindOf ar.arg = some .local := by rw [har]; show fd.scope.names.lookup _ = _; rw [D.scope]; exact Z.ka
  have hkd : (callEnv fd L (c.fa f)).scope.kind = .function := by show fd.scope.kind = _; rw [D.scope]; exact Z.kd
  obtain ⟨hh, g, dd, t, os⟩ := s
  obtain ⟨oD, hD1, hD2⟩ : ∃ oD, hh.get? c.cA = some oD /\ oD.data = .cls cd := by
    unfold clsIn at hcls
    split at hcls
    · rename_i c' d' cd' sl ho
      cases hcls
      exact ⟨_, X _ _ ho, rfl⟩
    · cases hcls
  refine kP ?_
  clear kP P
  refine ks_wpAt_super_base (env := callEnv fd L (c.fa f)) hks hkc hat rfl (X _ _ ho) hdat (by rw [D.params]; exact hpar) hco (X _ _ hcode) rfl hfs hfile G.top ?_
  have T' : TopRead c.prog c.loose c.mg c.mb hh := T
  refine ks_loadName_global hkd hks (loadGlobal_builtin (env := callEnv fd L (c.fa f)) (by show hh.Ns fd.globals c.mg; rw [D.glob]; exact T'.g) (mg_none_of X T'.g G.super) (by show hh.Ns fd.builtins c.mb; rw [D.blt]; exact T'.b) ((T'.builtins _ (by decide +kernel)).trans G.boot) ⟨rfl, ?_⟩)
  refine wpAny_loadName_free hkd hkc (by show fd.closure.lookup _ = _; rw [D.clo]; rfl) ⟨_, X _ _ hcell, rfl⟩ ?_
  refine wpAny_loadName_local hkd hka hn (by rw [har]; exact hm) ?_
  refine ks_wpAny_isType_cls hD1 hD2 ⟨rfl, ?_⟩
  refine ks_wpAny_call_super hD1 hD2 hx rfl (fun c e => by cases e) (looks_subIn X G.slf) (fun h' e k => ?_)
  exact h h' k e
theorem Vh {i f : Nat} {fd : FuncData} {name : Str} {cc : Addr} {L : Addr} {body : List Stmt} {p0 p1 apos pos : Pos} {attr : Str} {s : Shared} {m : Str -> Option Value} {x dx : Addr} {vs : List Value} {n : Nat} {id : String} {bi : Builtin} {Q : Value -> Shared -> Prop}
    (D : Jg c i f fd name cc) (G : SupF c) (Z : SupS i) (X : c.K.In s.heap) (T : TopRead c.prog c.loose c.mg c.mb s.heap) (hn : s.heap.Ns L m) (hm : m "self" = some (.ref x)) (hx : s.heap.get? x = some (ZB c.cA dx vs n))
    (hid : id = "list.__init__" \/ id = "list.__len__") (hf : alongIn c.K attr [.type "list", .type "object"] = some (some (.builtin id))) (hxC : x ≠ c.cA) (hat : (attr == ("__class__" : Str)) = false)
    (hk : builtinKind id = some .slot) (ha : argsOk id ⟨[.ref x], []⟩) (he : entryFor table id = some bi) (hp : plainId id = true)
    (hline : (apos.endLine == pos.line) = true)
    (h : ∀ A' h' tk, (∀ b o, s.heap.get? b = some o -> h'.get? b = some o) -> wpAny c.M A' (bi ⟨[.ref x], []⟩) (fun fin s' => ∃ v, fin = .done (.ret v) /\ Q v s') E { s with heap := h', toks := tk }) :
    _root_.PySem.wpAt c.M A (.func body (callEnv fd L (c.fa f))) (eval (.Call (.Attribute (.Call (.Name "super" p0) [] [] p1) attr apos) [] [] pos) (callEnv fd L (c.fa f))) Q E s := by
  obtain ⟨cd, hcls, hdict, hmro⟩ := G.mro
  have he' : eval (.Call (.Attribute (.Call (.Name "super" p0) [] [] p1) attr apos) [] [] pos) (callEnv fd L (c.fa f)) = (do
      let ov <- attributeBase (.Call (.Name "super" p0) [] [] p1) attr (callEnv fd L (c.fa f)) (eval (.Call (.Name "super" p0) [] [] p1) (callEnv fd L (c.fa f)))
      standAt apos.atName
      let (f', first) <- holding [ov] (getMethod ov attr (do return (<- importBound (.Call (.Name "super" p0) [] [] p1) (callEnv fd L (c.fa f))).getD true))
      callWith pos f' first (backTo pos (starEach [] (callEnv fd L (c.fa f)))) []) := by
    rw [arm_eval_Call]
    have hform : methodCallForm (([] : List PySem.Expr).length + ([] : List Keyword).length) (backTo pos (starEach [] (callEnv fd L (c.fa f)))) (backToKw pos (keywordEach [] (callEnv fd L (c.fa f)))) = true := rfl
    have hpos : methodCallPos true (.Call (.Name "super" p0) [] [] p1) (callEnv fd L (c.fa f)) apos pos = pure pos := by unfold methodCallPos; simp [hline]
    unfold methodCall calleeOf
    rw [hform, hpos]
    rfl
  refine ks_wpAt_MethodCall (zJ9 D G Z X T hn hm hx hat (fun h' k e => ?_)) he'
  have X' : c.K.In h' := X.keeps k
  have hx' := k _ _ hx
  obtain ⟨hh, g, dd, t, os⟩ := s
  refine Jf hid e (looks_opaque X' G.third) (l₀ := cd.mro) (l := [.type "list", .type "object"]) ?_ (by rw [hmro]; simp) X' hf (zt5 X' G.toAccF hx') hxC hat ?_
  · exact fun A Q E s k q => wpAny_bind ((looks_clsIn X' hcls) A _ E s k (wpAny_pure q))
  · have hw : (h'.push (XG id x)).get? h'.objs.size = some (XG id x) := Heap.get?_push_at rfl rfl
    refine callWith_of (P := fun hp => hp.get? h'.objs.size = some (XG id x)) rfl (fun hp e => ⟨.machine, .inr (.inl rfl), (Looks.ld (part := none) e).andThen .now⟩) (Yg (.inl rfl) (spliced_none ⟨hw, wpAny_call (zy4 hw hk ha he hp ?_)⟩))
    refine wpAny_mono (h _ _ (t + 1) fun b o e => Heap.get?_push_of_some _ (k b o e)) (fun fin s' q => q) fun _ _ z => z
end
theorem Jg.l {c : Cfg} {i f : Nat} {fd : FuncData} {name : Str} {cc : Addr} (D : Jg c i f fd name cc) : yi7 c f fd name := ⟨D.find, D.isF, D.ob⟩
inductive yt6 : Prop
  | mk (p0 : Pos) (p1 : Pos) (p2 : Pos) (p3 : Pos) (p4 : Pos) (h0 : VO 8 = [.Return (some (.Call (.Attribute (.Call (.Name "super" p0) [] [] p1) "__len__" p2) [] [] p3)) p4]) (h1 : (p2.endLine == p3.line) = true) : yt6
theorem yO2 : yt6 := by
  with_unfolding_all exact ⟨_, _, _, _, _, rfl, rfl⟩
theorem zZ1 : SupS 8 := ⟨by decide +kernel, by decide +kernel, by decide +kernel, by decide +kernel, by with_unfolding_all exact ⟨_, rfl, rfl⟩⟩
theorem zM3 : SupS 0 := ⟨by decide +kernel, by decide +kernel, by decide +kernel, by decide +kernel, by with_unfolding_all exact ⟨_, rfl, rfl⟩⟩
theorem yN6 : ∀ x ∈ (Yk 8).names, x.2 ≠ .cell := by decide +kernel
theorem yN7 : ∀ x ∈ (Yk 0).names, x.2 ≠ .cell := by decide +kernel
inductive yt9 : Prop
  | mk (p0 : Pos) (p1 : Pos) (p2 : Pos) (p3 : Pos) (p4 : Pos) (p5 : Pos) (q1 : Pos) (q2 : Pos) (q3 : Pos) (q4 : Pos) (h0 : VO 0 = [.Assign [.Attribute (.Name "self" q1) "_initial_size" q2] (.Name "initial_size" q3) q4, .Expr (.Call (.Attribute (.Call (.Name "super" p0) [] [] p1) "__init__" p2) [] [] p3) p4]) (h1 : (p2.endLine == p3.line) = true) (h2 : p5 = p4) : yt9
theorem yO5 : yt9 := by
  with_unfolding_all exact ⟨_, _, _, _, _, _, _, _, _, _, rfl, rfl, rfl⟩
theorem tcw (C : Addr) (v : Value) : (Code.builtin "type.__call__" ⟨[.ref C, v], []⟩).weight = 1 := by kernel_rfl
section
variable {c : Cfg} {d : Nat} {sc : Sc} {Γ : Ctx} {A : Around} {E : Value -> Shared -> Prop}
theorem zX8 {h : Heap} {a dx : Addr} {vs : List Value} {n : Nat} (X : c.K.In h) (G : AccH c) (ho : h.get? a = some (ZB c.cA dx vs n)) : a ≠ c.cA := by
  rintro rfl
  obtain ⟨cd, hcls, _⟩ := G.mro
  unfold clsIn at hcls
  split at hcls
  · rename_i ho'
    have e := X _ _ ho'
    rw [ho] at e
    cases e
  · cases hcls
theorem zS0 {f : Nat} {fd : FuncData} {cc : Addr} (S : Stat c) (D : Jg c 8 f fd "part_count" cc) (G : SupF c) (hal : alongIn c.K "__len__" [.type "list", .type "object"] = some (some (.builtin "list.__len__"))) (hgc : fd.scope.isCoroutine = false) (hgg : fd.scope.isGenerator = false) :
    FnC c d f fd ["self"] cntC := fun {A W H s k args avs vals} hA R hv hb hk => by
  obtain ⟨x, rfl, hk⟩ := XP hk
  obtain ⟨e1, hk⟩ := kd_t hk
  obtain ⟨e2, hk⟩ := kd_t hk
  obtain ⟨hsh, hk⟩ := ZG hk
  obtain ⟨v, t, rfl, hv, rfl⟩ := hv
  obtain ⟨a, ob, rfl, ha, hob, vs, n, dx, rfl, hdx, hvs⟩ := Yp R hv e1 e2
  obtain ⟨o, ho, hdat⟩ := D.ob
  have X := R.in S
  have T := R.top S
  obtain ⟨p0, p1, p2, p3, p4, hbody, hline⟩ := yO2
  rw [Zw, <- hvs.len] at hk
  refine Xa (ks_codeAny_call_defAt (fd := fd) (body := VO 8) (Nat.lt_of_le_of_lt (Nat.le_add_right _ _) hA.dp) (X _ _ ho) hdat T.nolimit (codeRec_of X D.cd) D.body hb (by rw [D.scope]; exact yN6) (fun y hy => ?_) (fun h₀ hns hk₀ => ?_) hgc hgg (by rw [D.scope]; exact zZ1.kd))
  · rcases List.mem_cons.mp hy with rfl | hy
    · rw [D.scope]; exact zZ1.ka
    · cases hy
  · have X0 : c.K.In h₀ := X.keeps hk₀
    have hx0 := hk₀ _ _ hob
    rw [hbody]
    refine ks_wpAt_execs_cons (ks_wpAt_Return_some ?_)
    refine Vh (s := { s with heap := h₀, toks := _ }) D G zZ1 X0 (T.keeps hk₀) hns rfl hx0 (.inr rfl) hal (zX8 X0 G.toAccH hx0) (by decide +kernel) (by decide +kernel) (yd6 _) F.entry_list_len F.slot_list_len.plain hline ?_
    intro A' h' tk hk'
    refine wpAny_bind (m := seqSize a) ?_
    unfold seqSize
    refine wpAny_bind (wpAny_load (hk' _ _ hx0) (wpAny_pure ?_))
    refine wpAny_bind (wpAny_mkInt (wpAny_pure ⟨_, rfl, fun le => ⟨_, rfl, .more R hk (show VR c W (aI (.ofNat vs.length)) (.int _ tk) from ⟨tk, rfl⟩) le fun b o e => hk' _ _ (hk₀ b o e)⟩⟩))
theorem zF5 {f : Nat} {fd : FuncData} {cc : Addr} {s : Shared} {x dx : Addr} {v : Value} {R : Result -> Shared -> Prop} (D : Jg c 0 f fd "__init__" cc) (G : SupF c) (hal : alongIn c.K "__init__" [.type "list", .type "object"] = some (some (.builtin "list.__init__")))
    (hgc : fd.scope.isCoroutine = false) (hgg : fd.scope.isGenerator = false) (X : c.K.In s.heap) (T : TopRead c.prog c.loose c.mg c.mb s.heap) (hroom : A.depth < recursionLimit) (hb : BindsTo s fd ⟨[.ref x, v], []⟩ [("self", .ref x), ("initial_size", v)])
    (hx : s.heap.get? x = some (ZB c.cA dx [] 0)) (hd : s.heap.get? dx = some emptyDict) (hxd : x ≠ dx) (hcd : ∀ b o, c.K.lookup b = some o -> b ≠ x /\ b ≠ dx) (htd : ∀ h' : Heap, (∀ b o, b ≠ x -> b ≠ dx -> s.heap.get? b = some o -> h'.get? b = some o) -> TopRead c.prog c.loose c.mg c.mb h')
    (h : ∀ h' tk n hsh t' k, (∀ b o, b ≠ x -> b ≠ dx -> s.heap.get? b = some o -> h'.get? b = some o) -> h'.get? x = some (ZB c.cA dx [] n) -> h'.get? dx = some (Vn hsh t' v k) -> R (.ok (.ret .none)) { s with heap := h', toks := tk }) :
    codeAny c.M A (.call (.ref (c.fa f)) ⟨[.ref x, v], []⟩) R s := by
  obtain ⟨o, ho, hdat⟩ := D.ob
  obtain ⟨p0, p1, p2, p3, p4, p5, q1, q2, q3, q4, hbody, hline, _⟩ := yO5
  have kd := zM3.kd
  have hki : (Yk 0).names.lookup ("initial_size" : Str) = some .local := by decide +kernel
  refine ks_codeAny_call_defAt (fd := fd) (body := VO 0) hroom (X _ _ ho) hdat T.nolimit (codeRec_of X D.cd) D.body hb (by rw [D.scope]; exact yN7) (fun y hy => ?_) (fun h₀ hns hk₀ => ?_) hgc hgg (by rw [D.scope]; exact kd)
  · simp only [List.mem_cons, List.not_mem_nil, or_false] at hy
    rcases hy with rfl | rfl
    · rw [D.scope]; exact zM3.ka
    · rw [D.scope]; exact hki
  · have X0 : c.K.In h₀ := X.keeps hk₀
    have T0 : TopRead c.prog c.loose c.mg c.mb h₀ := T.keeps hk₀
    have hx0 := hk₀ _ _ hx
    have hd0 := hk₀ _ _ hd
    have hL : ∀ b o, s.heap.get? b = some o -> b ≠ s.heap.objs.size := fun b o e => Nat.ne_of_lt (Heap.lt_size e)
    have hkd : (callEnv fd s.heap.objs.size (c.fa f)).scope.kind = .function := by show fd.scope.kind = _; rw [D.scope]; exact kd
    rw [hbody]
    refine ks_wpAt_execs_cons (ks_wpAt_Assign_Attr (wpAt_of_wpAny ?_))
    refine ldc (fd := fd) (by rw [D.scope]; exact kd) (by show fd.scope.names.lookup _ = _; rw [D.scope]; exact hki) hns (v := v) (by rfl) ?_
    refine ldc (fd := fd) (by rw [D.scope]; exact kd) (by show fd.scope.names.lookup _ = _; rw [D.scope]; exact zM3.ka) hns (v := .ref x) (by rfl) ?_
    refine zp1 (s := { s with heap := h₀, toks := _ }) X0 G.toAccH hx0 hd0 (fun h1 hsh t1 k1 hsb hd1 tk1 => ?_)
    have ex1 : ∀ b o, b ≠ dx -> h₀.get? b = some o -> h1.get? b = some o := fun b o hb e => hsb.extBut b o hb e
    have hx1 := ex1 _ _ hxd hx0
    have hns1 : h1.Ns s.heap.objs.size (fun y => ([("self", Value.ref x), ("initial_size", v)] : List (Str × Value)).reverse.lookup y) := hns.at' fun o e => ex1 _ _ (fun q => hL _ _ hd q.symm) e
    have X1 : c.K.In h1 := fun b o e => ex1 _ _ (hcd _ _ e).2 (X0 _ _ e)
    have T1 : TopRead c.prog c.loose c.mg c.mb h1 := htd h1 fun b o hb1 hb2 e => ex1 _ _ hb2 (hk₀ _ _ e)
    refine ks_wpAt_execs_cons (ks_wpAt_Expr_any ?_ (by unfold interactive; rw [hkd]; rfl) (by rfl))
    refine Vh (s := { s with heap := h1, toks := tk1 }) D G zM3 X1 T1 hns1 rfl hx1 (.inl rfl) hal (zX8 X1 G.toAccH hx1) (by decide +kernel) (by decide +kernel) (yd8 _) F.entry_list_init F.slot_list_init.plain hline ?_
    intro A' h2 tk2 hk2
    have hx2 := hk2 _ _ hx1
    have hd2 := hk2 _ _ hd1
    refine wpAny_bind (m := Builtin.List.listItems (.ref x)) ?_
    unfold Builtin.List.listItems
    refine wpAny_bind (wpAny_seqItems hx2 rfl (wpAny_pure ?_))
    unfold Builtin.List.listUpdate
    refine wpAny_bind (wpAny_updateSeq hx2 rfl ?_ (by rw [sizeLine_eq]; simp) (by rw [sizeLine_eq]; simp))
    refine wpAny_bind (wpAny_letGo (wpAny_pure ⟨.none, rfl, ?_⟩))
    have hx3 : (h2.update x (Obj.mapSeq fun _ => #[])).get? x = some (ZB c.cA dx [] 0) := by
      rw [Heap.get?_update_self _ hx2 rfl]; rfl
    have hs3 : Heap.SameBut x h2 (h2.update x (Obj.mapSeq fun _ => #[])) := Heap.SameBut.update ..
    refine wpAt_of_wpAny (wpAny_execs_nil ?_)
    exact h _ _ 0 hsh t1 k1 (fun b o hb1 hb2 e => hs3.extBut b o hb1 (hk2 _ _ (ex1 _ _ hb2 (hk₀ _ _ e)))) hx3 (hs3.extBut _ _ hxd.symm hd2)
theorem zu8 {f : Nat} {fd : FuncData} {cc : Addr} {x : Str} {px pos : Pos} {e1 : PySem.Expr} {b : CF} (S : Stat c) (D : Jg c 0 f fd "__init__" cc) (G : SupF c) (hal : alongIn c.K "__init__" [.type "list", .type "object"] = some (some (.builtin "list.__init__")))
    (hgc : fd.scope.isCoroutine = false) (hgg : fd.scope.isGenerator = false) (hx : nsIn c.K mainGlobals x = some (some (.ref c.cA))) (hkp : keepIn c.K (.ref c.cA) = true) (hsc : sc.lookup x = some .globalImplicit)
    (hbb : ∀ (s : Shared), c.K.In s.heap -> ∀ (q : Addr) (v : Value), BindsTo s fd ⟨[.ref q, v], []⟩ [("self", .ref q), ("initial_size", v)]) (hb : SimL c (d + 2) sc Γ [e1] b) (hd : (x == ("__debug__" : Str)) = false)
    (he : ∀ env, backTo pos (starEach [e1] env) = [] \/ ∃ x r, backTo pos (starEach [e1] env) = (false, x) :: r := by intro _; first | exact .inl rfl | exact .inr ⟨_, _, rfl⟩)
    (hplain : ∀ env, ((backTo pos (starEach [e1] env)).any (·.1) || ([] : List (Option Str × Sem Value)).any (·.1.isNone)) = false := by intro _; rfl) : SimE c (d + 2) sc Γ (.Call (.Name x px) [e1] [] pos) (zK2 b) := fun A env W s H k Z hk => by
  refine wpAny_Call_Name_kw (Xj S Z hsc hx ?_ hd)
  refine callWith_of (P := fun h => c.K.In h) (hplain env) (fun h X => let ⟨kk, hkk, hl⟩ := looks_keep (M := c.M) hkp X; ⟨kk, by rcases hkk with h | h; exact .inl h; exact .inr (.inl h), hl⟩) (Yg (he env) ?_)
  refine (hb.sim pos).use Z hk fun l us H2 W2 s2 k2 x2 D2 v2 => ?_
  obtain ⟨y, rfl, k2⟩ := XP k2
  obtain ⟨e1, k2⟩ := kd_t k2
  obtain ⟨e2, k2⟩ := gd_t k2
  obtain ⟨v, _, rfl, vy, rfl⟩ := v2.1
  obtain ⟨t, rfl⟩ := vy.at e1
  have X2 : c.K.In s2.heap := D2.R.in S
  have T2 := D2.R.top S
  have R2 := D2.R
  refine ⟨X2, wpAny_call (Xa ?_)⟩
  rw [eqB_iff.mp e2, Int.add_zero]
  obtain ⟨hh, g, dd, tk, os⟩ := s2
  have k1 : ∀ b o, hh.get? b = some o -> ((hh.push emptyDict).push (ZB c.cA hh.objs.size [] 0)).get? b = some o := fun b o e => Heap.get?_push_of_some _ (Heap.get?_push_of_some _ e)
  have hxx : ((hh.push emptyDict).push (ZB c.cA hh.objs.size [] 0)).get? (hh.objs.size + 1) = some (ZB c.cA hh.objs.size [] 0) := by heap_get
  have hdx : ((hh.push emptyDict).push (ZB c.cA hh.objs.size [] 0)).get? hh.objs.size = some emptyDict := Heap.get?_push_of_some _ (Heap.get?_push_at rfl rfl)
  have hne : ∀ b o, hh.get? b = some o -> b ≠ hh.objs.size + 1 /\ b ≠ hh.objs.size := fun b o e => ⟨Nat.ne_of_lt (Nat.lt_succ_of_lt (Heap.lt_size e)), Nat.ne_of_lt (Heap.lt_size e)⟩
  refine ym5 (zD6 X2 G.makes) (looks_findIn X2 D.find) (fun self => bind_fn X2 self D.isF) ?_
  refine zF5 (s := ⟨(hh.push emptyDict).push (ZB c.cA hh.objs.size [] 0), g, dd, tk, os⟩) D G hal hgc hgg (X2.keeps k1) (T2.keeps k1) ?_ (hbb _ (X2.keeps k1) _ _) hxx hdx (Nat.succ_ne_self _) (fun b o e => hne b o (X2 _ _ e)) (fun h' hk' => T2.keeps fun b o e => hk' b o (hne b o e).1 (hne b o e).2 (k1 b o e)) fun h' tk' n hsh t' kk hk' hx' hd' => ⟨rfl, fun le => ?_⟩
  · show A.depth + (Code.builtin "type.__call__" ⟨[.ref c.cA, _], []⟩).weight < _
    rw [tcw]
    exact Nat.lt_of_le_of_lt (Nat.add_le_add_left (Nat.succ_le_succ (Nat.zero_le _)) _) Z.hA.dp
  have kold : ∀ b o, hh.get? b = some o -> h'.get? b = some o := fun b o e => hk' b o (hne b o e).1 (hne b o e).2 (k1 b o e)
  have n1 : hh.get? hh.objs.size = none := Ya (Nat.le_refl _)
  have n2 : hh.get? (hh.objs.size + 1) = none := Ya (Nat.le_succ _)
  obtain ⟨y1, H', W', hk2, X', R', r, f⟩ := Laid.reg (o := oD) (s := ⟨h', g, dd, tk', os⟩) (x2.trans (.grow (s' := ⟨h', g, dd, tk', os⟩) kold (.of le))) (R2.grow kold le) (Yt x2.al n1) (R2.free n1) hd' (fun W' _ _ => (⟨hsh, t', t, kk, rfl⟩ : ORt c W' oD _ 4)) k2
  obtain ⟨e3, hk2⟩ := kd_t hk2
  obtain ⟨_, q, hq⟩ := r.at e3
  cases q
  exact (Laid.reg (o := oA y1.m []) X' R' (Yt x2.al n2) (f _ (Nat.succ_ne_self _) (R2.free n2)) hx' (fun W'' le _ => (⟨[], n, _, rfl, le.ix _ _ hq, rfl⟩ : ORt c W'' (oA y1.m []) _ 3)) hk2).pe
end
end Mine
end
section
namespace Mine
open PySem PySem.W PySem.Calls PyProof.Rows Builtin
def Yj (h : Heap) (l : List (Str × Str)) : List Value -> Prop := List.rec (motive := fun _ => List Value -> Prop) (fun vs => vs = []) (fun p _ ih vs => ∃ T t u n r, vs = .ref T :: r /\ h.get? T = some (YX [.str p.1 t, .str p.2 u] n) /\ ih r) l
section
variable {h h' : Heap} {l : List (Str × Str)}
theorem Yj.but {P : Addr} {oP : Obj} (hP : h.get? P = some oP) (hc : oP.cls = .none) (k : ∀ b o, b ≠ P -> h.get? b = some o -> h'.get? b = some o) : ∀ {vs : List Value}, Yj h l vs -> Yj h' l vs := by
  induction l with
  | nil => exact fun r => r
  | cons p l ih =>
    rintro _ ⟨T, t, u, n, r', e, ho, hr⟩
    refine ⟨T, t, u, n, r', e, k _ _ (fun q => ?_) ho, ih hr⟩
    rw [q, hP] at ho; cases ho; cases hc
theorem Yj.keeps (k : ∀ b o, h.get? b = some o -> h'.get? b = some o) : ∀ {vs : List Value}, Yj h l vs -> Yj h' l vs := by
  induction l with
  | nil => exact fun r => r
  | cons p l ih => rintro _ ⟨T, t, u, n, r', e, ho, hr⟩; exact ⟨T, t, u, n, r', e, k _ _ ho, ih hr⟩
theorem Yj.len : ∀ {vs : List Value}, Yj h l vs -> vs.length = l.length := by
  induction l with
  | nil => intro vs r; cases r; rfl
  | cons p l ih => rintro _ ⟨T, t, u, n, r', rfl, ho, hr⟩; exact congrArg Nat.succ (ih hr)
theorem Yj.get : ∀ {vs : List Value}, Yj h l vs -> ∀ {i : Nat} {p : Str × Str}, l[i]? = some p -> ∃ T t u n, vs[i]? = some (.ref T) /\ h.get? T = some (YX [.str p.1 t, .str p.2 u] n) := by
  induction l with
  | nil => intro vs _ i p e; cases e
  | cons q l ih =>
    rintro _ ⟨T, t, u, n, r', rfl, ho, hr⟩ i p e
    cases i with
    | zero => cases e; exact ⟨T, t, u, n, rfl, ho⟩
    | succ i => exact ih hr e
end
noncomputable def Yx (p : List Nat × List Nat) : Str × Str := (txt p.1, txt p.2)
noncomputable def yd9 (r : List (List Nat × List Nat)) : Nat := List.rec (motive := fun _ => Nat) 0 (fun p _ n => Nat.add (Nat.add (lenN p.1) (lenN p.2)) n) r
theorem zQ0 (r : List (List Nat × List Nat)) : yd9 r = (r.map fun p => p.1.length + p.2.length).sum := by
  induction r with
  | nil => rfl
  | cons p r ih => show lenN p.1 + lenN p.2 + yd9 r = _; rw [ih, Zw, Zw]; rfl
theorem yh9 (r : List (List Nat × List Nat)) : catN r = (r.map fun p => p.1 ++ p.2).flatten := by
  induction r with
  | nil => rfl
  | cons p r ih => show app (app p.1 p.2) (catN r) = _; rw [ih, ZM, ZM]; rfl
theorem zx9 {l : List AV} : ∀ {kk : Nat -> Bool}, zt6 l kk = prsK l fun r => kk (yd9 r) := by
  induction l with
  | nil => intro kk; rfl
  | cons p l ih =>
    intro kk
    show kd p.t 12 (is2 p.l fun x y => XT x fun a => XT y fun b => zt6 l fun n => kk (Nat.add (Nat.add (lenN a) (lenN b)) n)) = _
    simp only [ih]
    rfl
section
variable {c : Cfg} {A : Around} {E : Value -> Shared -> Prop} {W : Wd} {H : AH} {s : Shared}
theorem zC0 (R : Rel c W H s) {l : List AV} : ∀ {vs : List Value} {kk : List (List Nat × List Nat) -> Bool}, prsK l kk = true -> VRs c W l vs -> ∃ prs, Yj s.heap (prs.map Yx) vs /\ kk prs = true := by
  induction l with
  | nil => exact fun hk h => ⟨[], h, hk⟩
  | cons p l ih =>
    rintro _ kk hk ⟨v, r, rfl, hp, hr⟩
    obtain ⟨e, hk⟩ := kd_t (show kd p.t 12 (is2 p.l fun x y => XT x fun a => XT y fun b => prsK l fun n => kk ((a, b) :: n)) = true from hk)
    obtain ⟨x, y, e2, hk⟩ := Vz hk
    obtain ⟨T, vs, n, rfl, ho, hvs⟩ := XI R hp e
    rw [e2] at hvs
    obtain ⟨u1, r1, rfl, h1, u2, r2, rfl, h2, rfl⟩ := hvs
    obtain ⟨hk, t, rfl⟩ := Vp hk h1
    obtain ⟨hk, u, rfl⟩ := Vp hk h2
    obtain ⟨prs, h3, h4⟩ := ih hk hr
    exact ⟨(x.s, y.s) :: prs, ⟨T, t, u, n, r, rfl, ho, h3⟩, h4⟩
def prV (prs : List (Str × Str)) (i : Nat) (vals : Array Value) : Prop := ∃ p t u, prs[i]? = some p /\ vals = #[.str p.1 t, .str p.2 u]
def prL (prs : List (List Nat × List Nat)) (i : Nat) (v : Value) : Prop := ∃ p t, prs[i]? = some p /\ v = .int ((p.1.length + p.2.length : Nat) : Int) t
def prC (prs : List (List Nat × List Nat)) (i : Nat) (v : Value) : Prop := ∃ p t, prs[i]? = some p /\ v = .str (txt (p.1 ++ p.2)) t
def yn6 (i : Int) (v : Value) : Prop := ∃ t, v = .int i t
def yn3 (l : Str) (v : Value) : Prop := ∃ t, v = .str l t
theorem zy6 {I a dx : Addr} {vs : List Value} {n : Nat} {h₀ : Heap} {prs : List (Str × Str)} (hh : A.handled = none) (ho : h₀.get? a = some (ZB c.cA dx vs n)) (hp : Yj h₀ prs vs) (hI : h₀.get? I ≠ some (ZB c.cA dx vs n)) (hIt : ∀ T t u m x y, h₀.get? T = some (YX [.str x t, .str y u] m) -> T ≠ I) (hIl : I < h₀.objs.size) :
    WalksU c.prog c.w A I (List.range h₀.objs.size) [I] prs.length (prV prs)
      (fun i h => h.IsListIter I a i /\ ∀ b o, b ≠ I -> h₀.get? b = some o -> h.get? b = some o) (fun i T h => (h.IsListIter I a (i + 1) /\ ∀ b o, b ≠ I -> h₀.get? b = some o -> h.get? b = some o) /\ T ≠ I) where
  sub := fun b hb => by rw [List.mem_singleton.mp hb]; exact List.mem_range.mpr hIl
  frame := fun i h h' st k => by
    obtain ⟨⟨o, h1, h2⟩, h3⟩ := st
    refine ⟨⟨o, k I (List.mem_range.mpr hIl) o h1, h2⟩, fun b o hb e => ?_⟩
    exact k b (List.mem_range.mpr (Heap.lt_size e)) o (h3 b o hb e)
  item := fun i s Q E hi st hQ => by
    obtain ⟨h1, h3⟩ := st
    have ha : a ≠ I := fun q => hI (q ▸ ho)
    obtain ⟨p, hpi⟩ : ∃ p, prs[i]? = some p := ⟨_, List.getElem?_eq_getElem hi⟩
    obtain ⟨T, t, u, m, hv, hT⟩ := hp.get hpi
    have hTI := hIt _ _ _ _ _ _ hT
    refine XN (c := c) h1 (h3 _ _ ha ho) rfl (x := .ref T) (by simpa using hv) (fun h' g1 g2 => ?_)
    have g3 : ∀ b o, b ≠ I -> s.heap.get? b = some o -> h'.get? b = some o := fun b o hb e => g2.extBut b o hb e
    exact hQ T _ h' s.toks ⟨p, t, u, hpi, rfl⟩ ⟨_, g3 _ _ hTI (h3 _ _ hTI hT), rfl, _, rfl⟩ ⟨⟨g1, fun b o hb e => g3 b o hb (h3 b o hb e)⟩, hTI⟩ (fun b o hb e => g3 b o (fun q => hb (q ▸ List.mem_singleton.mpr rfl)) e)
  go := fun elts k pos i T s Q E st hQ => by
    obtain ⟨⟨h1, h3⟩, hT⟩ := st
    exact wpAny_letOwnedTupleGo_listiter h1 (hQ s.heap ⟨h1, h3⟩ fun _ _ _ e => e)
  apart := fun i T h st hm => st.2 (List.mem_singleton.mp hm)
  done := fun s Q E st hQ => by
    obtain ⟨h1, h3⟩ := st
    have ha : a ≠ I := fun q => hI (q ▸ ho)
    refine Vb (c := c) hh h1 (h3 _ _ ha ho) rfl (by simp [<- hp.len]) (fun h' g => hQ h' s.toks fun b o hb e => g b o (fun q => hb (q ▸ List.mem_singleton.mpr rfl)) e)
  self := fun i s Q E st hQ => wpAny_pyIter_listiter st.1 hQ
end
inductive zL0 (c : Cfg) (A : Around) (s : Shared) (n : Nat) (F : Nat -> Value -> Prop) (q : Addr) (wr : List Addr) (s5 : Shared) : Prop
  | mk (fp : List Addr) (g : Nat) (St : Nat -> Shared -> Prop) (w : WalksS c.prog c.w A.in4 q fp wr (GenOnlyQ g) n F St) (h : St 0 s5) (l : ∀ b ∈ fp, b < s5.heap.objs.size) (m : q ∈ fp) (k : ∀ b ∈ wr, s.heap.objs.size <= b) (ty : ∀ i s', St i s' -> s'.TypeIs (.ref q) "generator") (e : g = s.gens.size) : zL0 c A s n F q wr s5
structure zt9 (c : Cfg) (A : Around) (s : Shared) (P : Addr) (ps : Array Value) (qn : Str) (n : Nat) (F : Nat -> Value -> Prop) (q : Addr) (wr : List Addr) (s5 : Shared) : Prop where
  keep : ∀ b o, b ≠ P -> s.heap.get? b = some o -> s5.heap.get? b = some o
  tab : ∃ ps', s5.heap.get? P = some { cls := .none, data := .fields ps' } /\ TriplesOk ps'.toList /\ ∀ pos v, codeAmong pos ps'.toList = some v -> codeAmong pos ps.toList = some v \/
    ∃ a o vs t, v = .ref a /\ (s.heap.objs.size <= a /\ a ∉ wr) /\ s5.heap.get? a = some o /\ o.cls = .type "code" /\ o.data = .fields vs /\ vs[1]? = some (.str qn t)
  os : s5.os = s.os
  gens : ∃ gs, s5.gens = s.gens.push gs /\ gs.bare = true
  walk : zL0 c A s n F q wr s5
theorem zm2 (n : Nat) : passing (fun _ => true) n 0 = List.range n := by
  unfold passing; rw [List.drop_zero, List.filter_eq_self.mpr fun _ _ => rfl]
theorem zy5 {prog : Program} {w : World} {A : Around} {I : Addr} {fp wr : List Addr} {G : Array GenState -> Array GenState -> Prop} {n : Nat} {P P' : Nat -> Value -> Prop} {St : Nat -> Shared -> Prop}
    (W : WalksS prog w A I fp wr G n P St) (h : ∀ i v, P i v -> P' i v) : WalksS prog w A I fp wr G n P' St where
  sub := W.sub
  grefl := W.grefl
  gtrans := W.gtrans
  frame := W.frame
  item := fun i s Q E hi st hQ => W.item i s Q E hi st fun v s' hP hst hm => hQ v s' (h _ _ hP) hst hm
  done := W.done
  self := W.self
section
variable {c : Cfg} {A : Around} {E : Value -> Shared -> Prop}
theorem Vg {pos : Pos} {cv : Value} {pos' : Pos} {v : Value} : ∀ (l : List Value), TriplesOk l -> codeAmong pos' (l ++ [rawInt pos.line, rawInt pos.col, cv]) = some v -> codeAmong pos' l = some v \/ v = cv := by
  intro l ht h
  fun_induction TriplesOk l with
  | case1 =>
    right
    simp only [List.nil_append, codeAmong, rawInt] at h
    split at h
    · exact (Option.some.inj h).symm
    · cases h
  | case2 i t j u x rest ih =>
    simp only [List.cons_append, codeAmong] at h ⊢
    split
    · rename_i hc; rw [if_pos hc] at h; exact .inl h
    · rename_i hc; rw [if_neg hc] at h; exact ih ht h
  | case3 => exact ht.elim
theorem zK1 {env : Env} {elt iter : PySem.Expr} {xa xb : Str} {pa pb pt : Pos} {kt : Nat} {scope : Scope} {pos : Pos} {F : Nat -> Value -> Prop} {s : Shared} {a dx cd P bm : Addr} {ob : Obj} {vs : List Value} {n : Nat} {prs : List (Str × Str)} {ps : Array Value} {Q : Value -> Shared -> Prop}
    (hh : A.handled = none) (hroom : A.depth < recursionLimit) (hco : scope.isCoroutine = false) (hclos : closureFor scope env = pure []) (hcell : ∀ y ∈ scope.names, y.2 ≠ .cell) (h0 : scope.names.lookup (".0" : Str) = some NameKind.local)
    (hxa : scope.names.lookup xa = some .local) (hxb : scope.names.lookup xb = some .local) (hab : xa ≠ xb) (hkind : scope.kind = .function) (hcode : env.code = .ref cd) (hglob : env.globals = mainGlobals)
    (hself : ∀ {Q : Value -> Shared -> Prop}, Q (.ref a) s -> wpAny c.M A (eval iter env) Q E s) (hfold : ∀ x, genFold iter env x = pure x) (S : Stat c) (AF : AccF c) (X : c.K.In s.heap) (T : s.heap.NoLimit) (B : BMod s.heap mainGlobals c.mg bm ob)
    (CH : CodeHd s.heap cd P) (hP : s.heap.get? P = some { cls := .none, data := .fields ps }) (ht : TriplesOk ps.toList) (ho : s.heap.get? a = some (ZB c.cA dx vs n)) (hp : Yj s.heap prs vs)
    (hPK : ∀ o, c.K.lookup P ≠ some o) (hPg : P ≠ mainGlobals) (hPc : P ≠ cStatics)
    (helt : ∀ (C : Addr) (code : Value) (wr : List Addr) (href : Heap), (∀ b o, b ≠ P -> s.heap.get? b = some o -> b < C /\ b ∉ wr /\ href.get? b = some o) ->
      QuietGenT c.prog c.w (genEnv scope [] C code builtinsNs env) xa xb [] elt (List.range C) wr (prV prs) (fun _ => true) F href)
    (hQ : ∀ q wr s5, zt9 c A s P ps (env.qual ++ "<genexpr>") prs.length F q wr s5 -> Q (.ref q) s5) :
    wpAny c.M A (eval (.GeneratorExp elt [⟨.Tuple [.Name xa pa, .Name xb pb] kt pt, iter, [], 0⟩] scope pos) env) Q E s := by
  have hI : s.heap.get? s.heap.objs.size = none := Ya (Nat.le_refl _)
  have haP : a ≠ P := fun q => by rw [q, hP] at ho; cases ho
  have hPl : P < s.heap.objs.size := Heap.lt_size hP
  have hbP : bm ≠ P := fun q => by have := B.obj; rw [q, hP] at this; have hc := B.cls; rw [<- Option.some.inj this] at hc; cases hc
  have main : ∀ (h₃ : Heap) (tk : Nat) (code : Value), (∀ b o, b ≠ P -> (s.heap.push { cls := .type "list_iterator", data := .fields #[.ref a, .int 0 0] }).get? b = some o -> h₃.get? b = some o) -> s.heap.objs.size < h₃.objs.size ->
      (∃ ps', h₃.get? P = some { cls := .none, data := .fields ps' } /\ TriplesOk ps'.toList /\ ∀ pos v, codeAmong pos ps'.toList = some v -> codeAmong pos ps.toList = some v \/
        ∃ a o vs t, v = .ref a /\ s.heap.objs.size <= a /\ h₃.get? a = some o /\ o.cls = .type "code" /\ o.data = .fields vs /\ vs[1]? = some (.str (env.qual ++ "<genexpr>") t)) ->
      wpAny c.M A (builtinsFor env.globals env.builtins) (fun bi s₄ =>
        ∃ I fp wr n₀ Pt St₀ Mid pz F, (Value.ref s.heap.objs.size) = .ref I /\ (∀ A' : Around, A'.handled = none -> WalksU c.prog c.w A' I fp wr n₀ Pt St₀ Mid) /\ (∀ i vals, Pt i vals -> ∃ va vb, vals = #[va, vb]) /\ St₀ 0 s₄.heap /\ (∀ b ∈ fp, b < s₄.heap.objs.size) /\ s₄.heap.NoLimit /\ cStatics ∉ wr /\
          (∀ href : Heap, (∀ b o, s₄.heap.get? b = some o -> href.get? b = some o) ->
            QuietGenT c.prog c.w (genEnv scope [] s₄.heap.objs.size code bi env) xa xb [] elt (List.range s₄.heap.objs.size) wr Pt pz F href) /\
          (∀ a h₅ tk gs, gs.bare = true -> s₄.heap.objs.size < a -> h₅.objs.size = a + 1 -> (∀ b o, s₄.heap.get? b = some o -> h₅.get? b = some o) ->
            WalksS c.prog c.w A.in4 a (a :: s₄.heap.objs.size :: List.range s₄.heap.objs.size) (s₄.heap.objs.size :: wr) (GenOnlyQ s₄.gens.size) (passing pz n₀ 0).length
              (fun j y => ∃ i, (passing pz n₀ 0)[j]? = some i /\ F i y) (GenAt c.prog c.w A.in4 a s₄.gens.size s₄.heap.objs.size (List.range s₄.heap.objs.size) wr pz n₀ F) ->
            GenAt c.prog c.w A.in4 a s₄.gens.size s₄.heap.objs.size (List.range s₄.heap.objs.size) wr pz n₀ F 0 { s₄ with gens := s₄.gens.push gs, toks := tk, heap := h₅ } ->
            Q (.ref a) { s₄ with gens := s₄.gens.push gs, toks := tk, heap := h₅ })) E { s with heap := h₃, toks := tk } := by
    intro h₃ tk code k3 hsz htab
    have up : ∀ b o, b ≠ P -> s.heap.get? b = some o -> h₃.get? b = some o := fun b o hb e => k3 b o hb (Heap.get?_push_of_some _ e)
    have hit3 : h₃.get? s.heap.objs.size = some { cls := .type "list_iterator", data := .fields #[.ref a, .int 0 0] } := k3 _ _ (Nat.ne_of_gt hPl) (Heap.get?_push_size _ rfl)
    have ho3 := up _ _ haP ho
    have hp3 : Yj h₃ prs vs := hp.but hP rfl up
    have hcs : cStatics < s.heap.objs.size := let ⟨_, hn, _⟩ := T; hn.lt
    have T3 : h₃.NoLimit := by
      obtain ⟨m, hn, hm⟩ := T
      exact ⟨m, hn.at' fun o e => up _ _ hPc.symm e, hm⟩
    have hns3 : h₃.Ns mainGlobals c.mg := B.ns.at' fun o e => up _ _ hPg.symm e
    refine wpAny_builtinsFor (by rw [hglob]; exact hns3) B.name B.ne (up _ _ hbP B.obj) B.cls B.dict B.data ?_
    refine ⟨s.heap.objs.size, List.range h₃.objs.size, [s.heap.objs.size], prs.length, _, _, _, fun _ => true, F, rfl, fun A' hA' => zy6 (h₀ := h₃) hA' ho3 hp3 (by rw [hit3]; simp [ZB]) (fun T t u m x y e q => by rw [q, hit3] at e; have := congrArg (fun o => o.map (·.cls)) e; simp [YX] at this) hsz, (fun i vals hv => let ⟨p, t, u, _, e⟩ := hv; ⟨_, _, e⟩),
      ⟨⟨_, hit3, rfl, rfl⟩, fun _ _ _ e => e⟩, fun b hb => List.mem_range.mp hb, T3, fun hm => by rw [List.mem_singleton.mp hm] at hcs; exact Nat.lt_irrefl _ hcs, fun href hk => helt _ _ _ _ fun b o hb e => ⟨Nat.lt_trans (Heap.lt_size e) hsz, fun hm => ?_, hk _ _ (up b o hb e)⟩, fun q h₅ tk' gs hgb hag hs5 hk5 W hat => ?_⟩
    · rw [List.mem_singleton.mp hm, hI] at e; cases e
    · rw [zm2, List.length_range] at W
      refine hQ q (h₃.objs.size :: [s.heap.objs.size]) _ ⟨fun b o hb e => hk5 b o (up b o hb e), ?_, rfl, ⟨gs, rfl, hgb⟩, ⟨_, _, _, zy5 W fun i y hy => ?_, hat, ?_, List.mem_cons_self .., ?_, fun i s' st => st.1.typeIs, rfl⟩⟩
      · obtain ⟨ps', h1, h2, h3⟩ := htab
        refine ⟨ps', hk5 _ _ h1, h2, fun pos' v hv => ?_⟩
        rcases h3 pos' v hv with h | ⟨a', o', vs', t', e1, e2, e3, e4, e5, e6⟩
        · exact .inl h
        · refine .inr ⟨a', o', vs', t', e1, ⟨e2, fun hm => ?_⟩, hk5 _ _ e3, e4, e5, e6⟩
          rcases List.mem_cons.mp hm with hm | hm
          · exact Nat.lt_irrefl _ (hm ▸ Heap.lt_size e3)
          · rw [List.mem_singleton.mp hm, hit3] at e3
            have := Option.some.inj e3
            rw [<- this] at e4
            simp at e4
      · obtain ⟨i', h1, h2⟩ := hy
        have : i' = i := by
          rw [List.getElem?_range] at h1
          · exact (Option.some.inj h1).symm
          · have := (List.getElem?_eq_some_iff.mp h1).1; simpa using this
        exact this ▸ h2
      · intro b hb
        show b < h₅.objs.size
        rw [hs5]
        rcases List.mem_cons.mp hb with rfl | hb
        · exact Nat.lt_succ_self _
        · rcases List.mem_cons.mp hb with rfl | hb
          · exact Nat.lt_succ_of_lt hag
          · exact Nat.lt_succ_of_lt (Nat.lt_trans (List.mem_range.mp hb) hag)
      · intro b hb
        rcases List.mem_cons.mp hb with rfl | hb
        · exact Nat.le_of_lt hsz
        · rw [List.mem_singleton.mp hb]; exact Nat.le_refl _
  refine wpAny_GeneratorExp_walksQT hh hco hclos hcell h0 hxa hxb hab hkind hroom (hself ?_) hfold
  refine zj7 X AF ho ⟨T.push _, ?_⟩
  have CH2 : CodeHd (s.heap.push { cls := .type "list_iterator", data := .fields #[.ref a, .int 0 0] }) cd P := CH.keeps fun _ _ e => Heap.get?_push_of_some _ e
  have hP2 : (s.heap.push { cls := .type "list_iterator", data := .fields #[.ref a, .int 0 0] }).get? P = some { cls := .none, data := .fields ps } := Heap.get?_push_of_some _ hP
  cases hnf : codeAmong pos ps.toList with
  | some cv =>
    refine wpAny_genexprCode_hit hcode (CH2.code hP2 ht) hnf ?_
    exact main _ _ cv (fun _ _ _ e => e) (by rw [Heap.size_push]; exact Nat.lt_succ_self _) ⟨ps, hP2, ht, fun pos v hv => .inl hv⟩
  | none =>
    refine wpAny_genexprCodeX hcode (CH2.code hP2 ht) (CH2.tab hP2) hnf fun c' h₃ tk₃ hx₃ hge hlt hcode₃ hrec htab₃ hP' => ?_
    refine cps fun PP kP => ?_
    obtain ⟨P', _, _, ⟨oc, vc, hoc, hcc, hdc, _⟩, _⟩ := hP'
    obtain ⟨c2, o2, vs2, t2, e2, g2, d2, f2⟩ := hrec
    have e3 : c' = c2 := by injection e2
    have e4 : oc = o2 := by rw [<- e3, hoc] at g2; exact Option.some.inj g2
    have e5 : vc = vs2 := by rw [<- e4, hdc] at d2; injection d2
    have hge' : s.heap.objs.size + 1 <= c' := by simpa [Heap.size_push] using hge
    refine kP ?_
    clear kP PP
    refine main _ _ _ hx₃ (Nat.lt_of_lt_of_le (Nat.lt_succ_self _) (Nat.le_trans hge' (Nat.le_of_lt hlt))) ⟨_, htab₃.2, ?_, fun pos' v hv => ?_⟩
    · rw [show (ps ++ #[rawInt pos.line, rawInt pos.col, Value.ref c']).toList = ps.toList ++ [rawInt pos.line, rawInt pos.col, .ref c'] from by simp]
      exact TriplesOk_snoc _ _ _ _ ht
    · rw [show (ps ++ #[rawInt pos.line, rawInt pos.col, Value.ref c']).toList = ps.toList ++ [rawInt pos.line, rawInt pos.col, .ref c'] from by simp] at hv
      rcases Vg _ ht hv with h | h
      · exact .inl h
      · exact .inr ⟨c', oc, vc, t2, h, Nat.le_of_succ_le hge', hoc, hcc, hdc, by rw [e5]; exact f2⟩
end
section
variable {prog : Program} {w : World} {A : Around} {R : Result -> Shared -> Prop} {I : Addr} {fp wr : List Addr} {G : Array GenState -> Array GenState -> Prop} {n : Nat} {P : Nat -> Value -> Prop} {St : Nat -> Shared -> Prop}
theorem zM4 (W : WalksS prog w A.in1 I fp wr G n P St) (val acc : Nat -> Int) (hacc : ∀ i, acc (i + 1) = acc i + val i) (hval : ∀ i v, P i v -> ∃ t, v = .int (val i) t) (S : Addr) (hSf : S ∉ fp) :
    ∀ (k i : Nat) (s : Shared) (tA : Tok) (m : Nat) (st : Int), (st = 0 \/ st = 2) -> n - i = k -> i <= n -> St i s -> s.heap.get? S = some (Zx [.int (acc i) tA] m) ->
    (∀ s' t', Moved (S :: wr) G s s' -> R (.ok (.ret (.int (acc n) t'))) s') -> codeAny (model prog w) A (.builtin "sum.loop" ⟨[.ref I, .ref S, rawInt st, rawInt 0], []⟩) R s := by
  have hSw : S ∉ wr := fun h => hSf (W.sub _ h)
  have hsub : ∀ b ∈ wr, b ∈ S :: wr := fun b hb => List.mem_cons_of_mem _ hb
  have upd : ∀ (h : Heap) (v : Value) (m : Nat) (x : Value), h.get? S = some (Zx [x] m) -> (h.update S (Obj.mapSeq fun _ => #[v])).get? S = some (Zx [v] m) := fun h v m x e => by
    rw [Heap.get?_update_self _ e rfl]; rfl
  have oth : ∀ (h : Heap) (f : Obj -> Obj) (b : Addr) (o : Obj), b ≠ S -> h.get? b = some o -> (h.update S f).get? b = some o := fun h f b o hb e => (Heap.get?_update_other _ _ (Ne.symm hb)).trans e
  intro k
  induction k with
  | zero =>
    intro i s tA m st hst2 hk hi hst hS hR
    have hin : i = n := by omega
    subst hin
    refine codeAny_builtin F.entry_sum_loop ?_
    rw [Around.under_plainId F.plain_sum_loop _]
    show wpAny _ A.in1 (seqItems? (.ref S) >>= _) _ _ s
    refine wpAny_bind (wpAny_seqItems hS rfl ?_)
    show wpAny _ A.in1 (tryCatch (pyNext (.ref I)) _ >>= _) _ _ s
    refine wpAny_bind (wpAny_tryCatch (W.done s _ _ hst fun s' hm => ?_))
    exact wpAny_pure (hR s' tA (hm.mono hsub))
  | succ k ih =>
    intro i s tA m st hst2 hk hi hst hS hR
    have hlt : i < n := by omega
    refine codeAny_builtin F.entry_sum_loop ?_
    rw [Around.under_plainId F.plain_sum_loop _]
    show wpAny _ A.in1 (seqItems? (.ref S) >>= _) _ _ s
    refine wpAny_bind (wpAny_seqItems hS rfl ?_)
    show wpAny _ A.in1 (tryCatch (pyNext (.ref I)) _ >>= _) _ _ s
    refine wpAny_bind (wpAny_tryCatch (W.item i s _ _ hlt hst fun v s' hP hst' hm => ?_))
    obtain ⟨t, rfl⟩ := hval i v hP
    have hS' := hm.heap S _ hSw hS
    have next : ∀ (h' : Heap) (tk : Nat) (tB : Tok) (m' : Nat) (st' : Int), (st' = 0 \/ st' = 2) -> s'.toks <= tk -> (∀ b o, b ≠ S -> s'.heap.get? b = some o -> h'.get? b = some o) -> h'.get? S = some (Zx [.int (acc i + val i) tB] m') ->
        codeAny (model prog w) A (.builtin "sum.loop" ⟨[.ref I, .ref S, rawInt st', rawInt 0], []⟩) R { s' with heap := h', toks := tk } := by
      intro h' tk tB m' st' h2 htk hk' hS2
      refine ih (i + 1) _ tB m' st' h2 (by omega) hlt (W.frame _ s' _ _ hst' htk fun b hb o e => hk' b o (fun q => hSf (q ▸ hb)) e) (by rw [hacc]; exact hS2) fun s'' t'' hm'' => ?_
      exact hR s'' t'' (Moved.trans W.gtrans ((hm.mono hsub).then_heap htk fun b o hb e => hk' b o (fun q => hb (q ▸ List.mem_cons_self)) e) hm'')
    rcases hst2 with rfl | rfl
    · show wpAny _ A.in1 (if (_ : Bool) = true then (mkInt (acc i + val i) >>= _) else _) _ _ _
      split
      · refine wpAny_bind (wpAny_mkInt ?_)
        show wpAny _ A.in1 (updateSeq S (fun _ => #[.int (acc i + val i) s'.toks]) >>= _) _ _ _
        refine wpAny_bind (wpAny_updateSeq hS' rfl (wpAny_pure ⟨plainId_quiet F.plain_sum_loop _, next _ _ s'.toks _ 0 (.inl rfl) (Nat.le_succ _) (fun b o hb e => oth _ _ _ _ hb e) (upd _ _ _ _ hS')⟩))
      · refine wpAny_bind (wpAny_rule ?_)
        refine wpAny_bind (wpAny_attempt (wpAny_holding (wpAny_add_int ?_)))
        show wpAny _ A.in1 (updateSeq S (fun _ => #[.int (acc i + val i) s'.toks]) >>= _) _ _ _
        refine wpAny_bind (wpAny_updateSeq hS' rfl ?_)
        have hS₂ := upd _ (.int (acc i + val i) s'.toks) _ _ hS'
        refine wpAny_bind (wpAny_letGo ?_)
        refine wpAny_bind (wpAny_updateSeq hS₂ rfl (wpAny_pure ⟨plainId_quiet F.plain_sum_loop _, next _ _ s'.toks _ 2 (.inr rfl) (Nat.le_succ _) (fun b o hb e => oth _ _ _ _ hb (oth _ _ _ _ hb e)) (upd _ _ _ _ hS₂)⟩))
    · show wpAny _ A.in1 ((holding [Value.int (val i) t] (binaryOp .Add (.int (acc i) tA) (.int (val i) t))).attempt >>= _) _ _ _
      refine wpAny_bind (wpAny_attempt (wpAny_holding (wpAny_add_int ?_)))
      show wpAny _ A.in1 (updateSeq S (fun _ => #[.int (acc i + val i) s'.toks]) >>= _) _ _ _
      refine wpAny_bind (wpAny_updateSeq hS' rfl ?_)
      have hS₂ := upd _ (.int (acc i + val i) s'.toks) _ _ hS'
      refine wpAny_bind (wpAny_letGo ?_)
      refine wpAny_bind (wpAny_updateSeq hS₂ rfl (wpAny_pure ⟨plainId_quiet F.plain_sum_loop _, next _ _ s'.toks _ 2 (.inr rfl) (Nat.le_succ _) (fun b o hb e => oth _ _ _ _ hb (oth _ _ _ _ hb e)) (upd _ _ _ _ hS₂)⟩))
end
theorem zz4 (a b : Value) : argsOk "sum" ⟨[a, b], []⟩ := by unfold argsOk; kernel_rfl
section
variable {prog : Program} {w : World} {A : Around} {E : Value -> Shared -> Prop} {s : Shared}
inductive zX9 (prog : Program) (w : World) (A : Around) (i0 : Int) (Q : Value -> Shared -> Prop) (it : Value) (s₂ : Shared) : Prop
  | mk (I : Addr) (fp wr : List Addr) (G : Array GenState -> Array GenState -> Prop) (n : Nat) (P : Nat -> Value -> Prop) (St : Nat -> Shared -> Prop) (val acc : Nat -> Int) (e : it = .ref I) (W : WalksS prog w A.in1 I fp wr G n P St) (h : St 0 s₂) (l : ∀ b ∈ fp, b < s₂.heap.objs.size)
      (v : ∀ i v, P i v -> ∃ t, v = .int (val i) t) (a : ∀ i, acc (i + 1) = acc i + val i) (a0 : acc 0 = i0) (q : ∀ s' t', Moved wr G s₂ s' -> Q (.int (acc n) t') s') : zX9 prog w A i0 Q it s₂
theorem zI5 {x : Value} {i0 : Int} {t0 : Tok} {Q : Value -> Shared -> Prop}
    (h : wpAny (model prog w) A.in1 (pyIter x) (zX9 prog w A i0 Q) E s) :
    wpAny (model prog w) A (call (.builtin "sum") [x, .int i0 t0]) Q E s := by
  refine call_function_tree F.kind_sum F.plain_sum F.entry_sum (zz4 _ _) ?_
  unfold Builtin.«sum»
  simp only [List.length_cons, List.length_nil]
  rw [if_neg (by decide)]
  refine wpAny_bind (wpAny_of_eq (show Builtin.Builtins.bindParams "sum" ["start"] 0 ⟨[.int i0 t0], []⟩ = pure [some (.int i0 t0)] from rfl) ?_)
  refine wpAny_bind (wpAny_mono h (fun it s₂ h₂ => ?_) fun _ _ e => e)
  obtain ⟨I, fp, wr, G, n, P, St, val, acc, rfl, W, hst, hfp, hval, hacc, h0, hQ⟩ := h₂
  have fin : ∀ (tA : Tok) (tk : Nat) (st : Int), s₂.toks <= tk -> (st = 0 \/ st = 2) -> wpAny (model prog w) A.in1 (do
      for (ty, what, hint) in [("str", "strings", "''"), ("bytes", "bytes", "b''"), ("bytearray", "bytearray", "b''")] do
        if <- isInstance (.int i0 tA) (.type ty) then
          rule "sum.start-refused"; raiseError "TypeError" s!"sum() can't sum {what} [use {hint}.join(seq) instead]"
      again (.builtin "sum.loop" ⟨[.ref I, <- newList [.int i0 tA], rawInt st, rawInt 0], []⟩) : Sem PySem.Fin) (fun fin s' => match fin with
        | .done f => (match f with | .ret v => Q v s' | _ => False)
        | .again c' => c'.quiet = true /\ codeAny (model prog w) A c' (fun r s' => match r with | .ok (.ret v) => Q v s' | .ok _ => False | .error e => E e s') s') E { s₂ with toks := tk } := by
    intro tA tk st htk hst2
    simp only [List.forIn_cons, List.forIn_nil]
    refine wpAny_bind (wpAny_bind (wpAny_bind (wpAny_isInstance (T := "int") (b := false) (typeIs_int _ _ _) PySem.sub_int_str ?_)))
    simp only [Bool.false_eq_true, if_false]
    refine wpAny_pure (wpAny_bind (wpAny_bind (wpAny_isInstance (T := "int") (b := false) (typeIs_int _ _ _) sub_int_bytes ?_)))
    simp only [Bool.false_eq_true, if_false]
    refine wpAny_pure (wpAny_bind (wpAny_bind (wpAny_isInstance (T := "int") (b := false) (typeIs_int _ _ _) sub_int_bytearray ?_)))
    simp only [Bool.false_eq_true, if_false]
    refine wpAny_pure (wpAny_pure ?_)
    refine wpAny_bind (wpAny_newObj_type ?_)
    have hSf : s₂.heap.objs.size ∉ fp := fun hm => Nat.lt_irrefl _ (hfp _ hm)
    refine wpAny_pure ⟨plainId_quiet F.plain_sum_loop _, zM4 W val acc hacc hval s₂.heap.objs.size hSf n 0 _ tA 0 st hst2 rfl (Nat.zero_le _)
      (W.frame 0 s₂ _ _ hst htk fun b _ o e => Heap.get?_push_of_some _ e) (by rw [h0]; exact Heap.get?_push_size _ rfl) fun s' t' hm => ?_⟩
    exact hQ s' t' (hm.drop_new htk)
  dsimp only
  split
  · exact wpAny_bind (wpAny_rule (wpAny_bind (wpAny_mkInt (fin _ _ 0 (Nat.le_succ _) (.inl rfl)))))
  · exact fin t0 s₂.toks 2 (Nat.le_refl _) (.inr rfl)
end
end Mine
end
section
namespace Mine
open PySem PySem.W PySem.Calls PyProof.Rows Builtin Builtin.ObjectAttr
inductive yt8 : Prop
  | mk (p0 : Pos) (p1 : Pos) (p2 : Pos) (p3 : Pos) (p4 : Pos) (p5 : Pos) (p6 : Pos) (p7 : Pos) (p8 : Pos) (p9 : Pos) (p10 : Pos) (p11 : Pos) (p12 : Pos) (p13 : Pos) (p14 : Pos) (p15 : Pos) (p16 : Pos) (kt : Nat) (sc : Scope) (h0 : VO 4 = [.Return (some (.Call (.Name "sum" p0) [.GeneratorExp (.BinOp (.Call (.Name "len" p1) [.Name "fws" p2] [] p3) .Add (.Call (.Name "len" p4) [.Name "part" p5] [] p6) p7)
    [⟨.Tuple [.Name "fws" p8, .Name "part" p9] kt p10, .Name "self" p11, [], 0⟩] sc p12, .Attribute (.Name "self" p13) "_initial_size" p14] [] p15)) p16]) (h1 : sc.names = [((".0" : Str), NameKind.local), (("fws" : Str), NameKind.local), (("part" : Str), NameKind.local), (("len" : Str), NameKind.globalImplicit)]) (h2 : sc.kind = .function) (h3 : sc.isCoroutine = false) : yt8
theorem yO4 : yt8 := by
  with_unfolding_all exact ⟨_, _, _, _, _, _, _, _, _, _, _, _, _, _, _, _, _, _, _, rfl, rfl, rfl, rfl⟩
structure GenF (c : Cfg) (bm : Addr) (ob : Obj) : Prop where
  bmod : ∀ h : Heap, (∀ a o, c.hb a = some o -> h.get? a = some o) -> BMod h mainGlobals c.mg bm ob
structure Jc (c : Cfg) (i f q : Nat) (fd : FuncData) (name : Str) (cd : Addr) : Prop where
  m : VH c i f fd name
  code : fd.code = .ref cd
  hd : codeHdIn c.K cd (c.tp q) = true
  tq : c.tq q = fd.qualname ++ ".<locals>." ++ "<genexpr>"
  tk : c.hb (c.tp q) = none
  ng : c.tp q ≠ mainGlobals
  nc : c.tp q ≠ cStatics
  nb : c.tp q ≠ builtinsNs
section
variable {c : Cfg} {d : Nat} {A : Around} {E : Value -> Shared -> Prop} {W : Wd} {H : AH} {s s' : Shared}
def VW (c : Cfg) (q : Nat) (s s' : Shared) (v : Value) : Prop := ∃ a o vs t, v = .ref a /\ s.heap.get? a = none /\ s'.heap.get? a = some o /\ o.cls = .type "code" /\ o.data = .fields vs /\ vs[1]? = some (.str (c.tq q) t)
theorem Rel.tab {q : Nat} {ps ps' : Array Value} (R : Rel c W H s) (hq : (hget H q).t = 5) (hd : (hget H q).d = q) (ha : W.ρ[q]? = some (c.tp q)) (k : ∀ b o, b ≠ c.tp q -> s.heap.get? b = some o -> s'.heap.get? b = some o)
    (hps : s.heap.get? (c.tp q) = some { cls := .none, data := .fields ps }) (ho : s'.heap.get? (c.tp q) = some { cls := .none, data := .fields ps' }) (ht : TriplesOk ps'.toList)
    (hc : ∀ pos v, codeAmong pos ps'.toList = some v -> codeAmong pos ps.toList = some v \/ VW c q s s' v) (g : GK s s') : ∃ W', Ext [] W W' s s' /\ Rel c W' H s' := by
  obtain ⟨ob, hob, z⟩ := R.obj _ _ ha
  obtain ⟨_, ps0, rfl, _, hc0⟩ := z.at hq
  rw [hd] at hc0
  cases hps.symm.trans hob
  have hm : c.tp q ∈ W.ρ := List.mem_of_getElem? ha
  have kk : ∀ b o, b ∉ W.ρ -> s.heap.get? b = some o -> s'.heap.get? b = some o := fun b o h => k b o fun e => h (e ▸ hm)
  haveI := Classical.propDecidable
  have nw : ∀ {a x}, W.μ a = some x -> ¬ VW c q s s' (.ref a) := fun {a x} h ⟨_, _, _, _, e, e2, _⟩ => by
    cases e
    obtain ⟨_, _, h2, _⟩ := R.frz _ _ h
    exact Yy e2 h2
  have le : Le W { W with μ := fun a => if VW c q s s' (.ref a) then some (aK q) else W.μ a } := ⟨fun _ _ h => h, fun a y h => (if_neg (nw h)).trans h, Nat.le_refl _, fun _ _ h => h⟩
  refine ⟨{ W with μ := fun a => if VW c q s s' (.ref a) then some (aK q) else W.μ a }, ⟨le, fun _ => .inl, fun a x h => ?_, fun b o h1 _ => kk b o h1, fun b o e => ?_, g⟩, R.cnt, R.sm, R.nd, ⟨R.hts.ok, R.hts.inj, R.hts.out⟩, fun i a hi => ?_, fun a x h => ?_, fun a o e => ⟨kk a o (R.st a o e).2 (R.st a o e).1, (R.st a o e).2⟩, R.tok.1, R.tok.2.1, Nat.le_trans R.tok.2.2 g.tk⟩
  · by_cases n : VW c q s s' (.ref a)
    · obtain ⟨_, _, _, _, e, e2, _⟩ := n
      cases e
      exact .inr e2
    · exact .inl ((if_neg n).symm.trans h)
  · by_cases hb : b = c.tp q
    · exact ⟨_, hb ▸ ho⟩
    · exact ⟨o, k b o hb e⟩
  · by_cases hb : a = c.tp q
    · subst hb
      have e : i = q := zh5 R.nd hi ha
      subst e
      refine ⟨_, ho, ?_⟩
      unfold OR
      rw [hq]
      refine ⟨by rw [hd]; exact ha, ps', rfl, ht, fun pos v hv => ?_⟩
      rw [hd]
      rcases hc pos v hv with h | n
      · obtain ⟨a, e, h⟩ := hc0 pos v h
        exact ⟨a, e, le.mu _ _ h⟩
      · have n' := n
        obtain ⟨a, _, _, _, rfl, _⟩ := n'
        exact ⟨a, rfl, if_pos n⟩
    · obtain ⟨o, h1, h2⟩ := R.obj i a hi
      exact ⟨o, k a o hb h1, h2.le le⟩
  · by_cases n : VW c q s s' (.ref a)
    · cases (if_pos n).symm.trans h
      obtain ⟨_, o, vs, t, e, e2, e3, e4, e5, e6⟩ := n
      cases e
      exact ⟨fun hm => (R.live hm).elim fun _ h => Yy e2 h, o, e3, vs, t, e4, e5, e6⟩
    · obtain ⟨h1, o, h2, h3⟩ := R.frz a x ((if_neg n).symm.trans h)
      exact ⟨h1, o, kk a o h1 h2, h3.le le⟩
end
theorem Keeps.refl' (s : Shared) : Keeps s s := ⟨s.heap, s.toks, rfl, fun _ _ e => e⟩
section
variable {c : Cfg} {d : Nat} {A : Around} {E : Value -> Shared -> Prop}
theorem zJ5 {env : Env} {s : Shared} {x : Str} {pos : Pos} {v : Value} {Q : Value -> Shared -> Prop} (hk : env.scope.kind = .function) (hx : env.kindOf x = some .globalImplicit) (hg : s.heap.Ns env.globals c.mg) (hm : c.mg x = none) (hb : s.heap.Ns env.builtins c.mb) (hv : c.mb x = some v)
    (h : Q v s) (hd : (x == ("__debug__" : Str)) = false) : wpAny c.M A (eval (.Name x pos) env) Q E s :=
  Name_function_global hk hx (loadGlobal_builtin hg hm hb hv h) hd
theorem zJ4 {env : Env} {s : Shared} {x : Str} {px p1 p2 : Pos} {m : Str -> Option Value} {y : Str} {t : Tok} {Q : Value -> Shared -> Prop} (hk : env.scope.kind = .function) (hl : env.kindOf "len" = some .globalImplicit) (hg : s.heap.Ns env.globals c.mg) (hm : c.mg "len" = none) (hb : s.heap.Ns env.builtins c.mb) (hv : c.mb "len" = some (.builtin "len"))
    (hx : env.kindOf x = some .local) (hn : s.heap.Ns env.locals m) (hmx : m x = some (.str y t)) (hy : y.length < 100000) (hd : (x == ("__debug__" : Str)) = false) (h : Q (.int y.length (s.toks + 1)) { s with toks := s.toks + 1 + 1 }) :
    wpAny c.M A (eval (.Call (.Name "len" p1) [.Name x px] [] p2) env) Q E s := by
  refine wpAny_Call_Name_kw (zJ5 hk hl hg hm hb hv ?_ (by decide +kernel))
  refine Calls.callWith_builtin (by rfl) ?_
  refine Yg (.inr ⟨_, _, rfl⟩) ?_
  refine spliced_more (wpAny_Name (wpAny_loadName_local hk hx hn hmx ?_) hd) (by rfl)
  refine spliced_none ?_
  exact PySem.P.len_str (by omega) h
theorem ye2 {sc : Scope} {env : Env} {C bm : Addr} {code : Value} {wr : List Addr} {href : Heap} {prs : List (List Nat × List Nat)} {p1 p2 p3 p4 p5 p6 p7 : Pos} (hsc : sc.names = [((".0" : Str), NameKind.local), (("fws" : Str), NameKind.local), (("part" : Str), NameKind.local), (("len" : Str), NameKind.globalImplicit)]) (hk : sc.kind = .function) (hgl : env.globals = mainGlobals)
    (hm : c.mg "len" = none) (hv : c.mb "len" = some (.builtin "len")) (hsh : ∀ p ∈ prs, p.1.length < 100000 /\ p.2.length < 100000) (hg : ∀ h : Heap, (∀ b ∈ List.range C, b ∉ wr -> ∀ o, href.get? b = some o -> h.get? b = some o) -> h.Ns mainGlobals c.mg /\ h.Ns builtinsNs c.mb) :
    QuietGenT c.prog c.w (genEnv sc [] C code builtinsNs env) "fws" "part" [] (.BinOp (.Call (.Name "len" p1) [.Name "fws" p2] [] p3) .Add (.Call (.Name "len" p4) [.Name "part" p5] [] p6) p7) (List.range C) wr (prV (prs.map Yx)) (fun _ => true)
      (prL prs) href where
  tests := fun A' E' i va vb s₂ m₂ _ _ _ _ _ _ => wpAny_pure ⟨rfl, Keeps.refl' _⟩
  elt := fun A' E' i va vb s₂ m₂ _ hP _ hn ha hb hk' => by
    obtain ⟨p, t, u, hp, hv'⟩ := hP
    rw [List.getElem?_map] at hp
    obtain ⟨q, hq, rfl⟩ := Option.map_eq_some_iff.mp hp
    have e1 : va = .str (Yx q).1 t := by have := congrArg (fun a => a[0]?) hv'; simpa using this
    have e2 : vb = .str (Yx q).2 u := by have := congrArg (fun a => a[1]?) hv'; simpa using this
    subst e1; subst e2
    obtain ⟨l1, l2⟩ := hsh q (List.mem_of_getElem? hq)
    obtain ⟨g1, g2⟩ := hg _ hk'
    have kn : ∀ x, (genEnv sc [] C code builtinsNs env).kindOf x = sc.names.lookup x := fun _ => rfl
    have hk0 : (genEnv sc [] C code builtinsNs env).scope.kind = .function := hk
    refine wpAny_BinOp (zJ4 hk0 (by rw [kn, hsc]; decide +kernel) (by show s₂.heap.Ns env.globals _; rw [hgl]; exact g1) hm g2 hv (by rw [kn, hsc]; decide +kernel) hn ha (by rw [show (Yx q).1 = txt q.1 from rfl, ZN]; exact l1) (by decide +kernel) ?_)
    refine zJ4 hk0 (by rw [kn, hsc]; decide +kernel) (by show s₂.heap.Ns env.globals _; rw [hgl]; exact g1) hm g2 hv (by rw [kn, hsc]; decide +kernel) hn hb (by rw [show (Yx q).2 = txt q.2 from rfl, ZN]; exact l2) (by decide +kernel) ?_
    exact P.add_int ⟨⟨q, s₂.toks + 1 + 1 + 1 + 1, hq, by rw [show (Yx q).1 = txt q.1 from rfl, show (Yx q).2 = txt q.2 from rfl, ZN, ZN]; rfl⟩, ⟨s₂.heap, _, rfl, fun _ _ e => e⟩⟩
end
section
variable {c : Cfg} {d : Nat} {A : Around} {E : Value -> Shared -> Prop} {W : Wd} {H : AH}
inductive Gave (c : Cfg) (W : Wd) (H : AH) (s : Shared) (P : Value -> Prop) (r : Result) (s' : Shared) : Prop
  | mk (v : Value) (W' : Wd) (e : r = .ok (.ret v)) (h : P v) (X : Ext [] W W' s s') (R : Rel c W' H s') : Gave c W H s P r s'
theorem zF9 {s s5 s' : Shared} {q : Nat} {ps : Array Value} {n g : Nat} {F : Nat -> Value -> Prop} {gq : Addr} {h₀ : Heap} {tk : Nat} {wr : List Addr} (R : Rel c W H s) (hq : (hget H q).t = 5) (hd : (hget H q).d = q) (ha : W.ρ[q]? = some (c.tp q)) (hps : s.heap.get? (c.tp q) = some { cls := .none, data := .fields ps }) (k0 : ∀ b o, s.heap.get? b = some o -> h₀.get? b = some o) (hsz : s.heap.objs.size <= h₀.objs.size)
    (GR : zt9 c A { s with heap := h₀, toks := tk } (c.tp q) ps (c.tq q) n F gq wr s5) (hwr : ∀ b ∈ wr, h₀.objs.size <= b) (M : Moved wr (GenOnlyQ g) s5 s') {k : Nat} (le : s.toks <= k) : ∃ W', Ext [] W W' s { s' with toks := k } /\ Rel c W' H { s' with toks := k } := by
  have lt : ∀ b o, s.heap.get? b = some o -> b ∉ wr := fun b o e hb => Nat.lt_irrefl _ (Nat.lt_of_lt_of_le (Heap.lt_size e) (Nat.le_trans hsz (hwr b hb)))
  obtain ⟨ps', h1, h2, h3⟩ := GR.tab
  refine R.tab (s' := { s' with toks := k }) hq hd ha (fun b o hb e => M.heap b o (lt b o e) (GR.keep b o hb (k0 _ _ e))) hps (M.heap _ _ (lt _ _ hps) h1) h2 (fun pos v hv => ?_) ⟨M.os.trans GR.os, fun hb => ?_, le⟩
  · rcases h3 pos v hv with h | ⟨a, o, vs, t, e1, e2, e3, e4, e5, e6⟩
    · exact .inl h
    · exact .inr ⟨a, o, vs, t, e1, Ya (Nat.le_trans hsz e2.1), M.heap _ _ e2.2 e3, e4, e5, e6⟩
  · obtain ⟨gs, hgs, hbare⟩ := GR.gens
    refine M.gens.bare fun y hy => ?_
    rw [hgs] at hy
    rcases Array.mem_push.mp hy with hy | rfl
    · exact hb y hy
    · exact hbare
theorem zT6 {s : Shared} {a dx : Addr} {vs : List Value} {n : Nat} {hsh : Int} {t : Tok} {v : Value} {k : Nat} {Q : Value -> Shared -> Prop} (X : c.K.In s.heap) (G : AccH c) (ho : s.heap.get? a = some (ZB c.cA dx vs n)) (hd : s.heap.get? dx = some (Vn hsh t v k)) (hv : handedIn v = true)
    (h : Q v { s with toks := s.toks + 1 }) : wpAny c.M A (getAttr (.ref a) "_initial_size" true) Q E s := by
  obtain ⟨cd, hc, hdict, hmro⟩ := G.mro
  have I : InstAt s.heap a (ZB c.cA dx vs n) c.cA (some (Vn hsh t v k)) := ⟨ho, rfl, rfl, hd⟩
  have L0 := I.type (M := c.M)
  have L1 := looks_findIn (M := c.M) X G.ga
  have L2 := looks_findIn (M := c.M) X G.gx
  have hf : findObj c.K c.cA (some (Vn hsh t v k)) "_initial_size" = some (.value v) := by
    unfold findObj
    rw [hc, G.noSize]
    have hl : lookIn "_initial_size" (Vn hsh t v k) = some (some v) := by
      unfold lookIn Vn
      have : (Value.str (Str.ofString "_initial_size") t).isStr "_initial_size" = true := by show (Str.ofString "_initial_size" == _) = true; simp
      simp only [List.find?_cons, this]
    simp only [Option.bind_some, W.ownOf, hdict, if_true, hl]
  have L3 := looks_find (M := c.M) X I hf
  obtain ⟨hh, gg, dd, tt, os⟩ := s
  unfold getAttr getAttrBy
  refine wpAny_bind (wpAny_mkText (wpAny_holding (wpAny_bind (L0.at (wpAny_bind (L1.at ?_))))))
  show wpAny _ _ (getAttrByItsOwn (.ref a) (.str "_initial_size" tt) (.ref c.cA) (.builtin "list.__getattribute__") true true) _ _ _
  unfold getAttrByItsOwn hookBefore callGetattribute boundAndCalled
  refine wpAny_bind (L2.at ?_)
  refine wpAny_bind (wpAny_attempt (wpAny_holding ?_))
  show wpAny _ _ (bindSpecial (.builtin "list.__getattribute__") (.ref a) >>= _) _ _ _
  refine wpAny_bind (wpAny_of_eq (PySem.F.slot_list_getattribute.bind _) ?_)
  refine wpAny_mono (Xn (m := "__getattribute__") (Q := fun u s' => u = v /\ s' = ⟨hh, gg, dd, tt + 1, os⟩) (E := fun _ _ => False) (s := ⟨hh, gg, dd, tt + 1, os⟩) X G.toAccF ho PySem.F.slot_list_getattribute.plain (.inl (by decide +kernel)) (by decide +kernel) PySem.F.entry_list_ga (PySem.F.args_list_getattribute_2 _ _) ?_) (fun u s' hu => ?_) fun _ _ z => z.elim
  · show wpAny _ _ (typeOf (.ref a) >>= fun tp => _) _ _ _
    refine wpAny_bind (L0.at (wpAny_bind (L3.at ?_)))
    exact wpAny_pure ⟨v, rfl, rfl, rfl⟩
  · obtain ⟨rfl, rfl⟩ := hu
    show wpAny _ _ (handedOut u) _ _ _
    rw [handedOut_of hv]; exact wpAny_pure h
end
section
variable {c : Cfg} {d : Nat} {A : Around} {E : Value -> Shared -> Prop} {W : Wd} {H : AH}
theorem yi4 {prs : List (List Nat × List Nat)} : ((prs.map fun p => p.1.length + p.2.length).take prs.length).sum = (prs.map fun p => p.1.length + p.2.length).sum := by
  rw [List.take_of_length_le (by simp)]
theorem zM0 (l : List Nat) (i : Nat) : ((l.take (i + 1)).sum : Int) = (l.take i).sum + ((l[i]?.getD 0 : Nat) : Int) := by
  induction l generalizing i with
  | nil => simp
  | cons x l ih =>
    cases i with
    | zero => simp
    | succ i => simp only [List.take_succ_cons, List.sum_cons, List.getElem?_cons_succ]; have := ih i; push_cast at this ⊢; omega
theorem VP : ∀ {l : List Nat} {x : Nat}, x ∈ l -> x <= l.sum
  | y :: l, x, h => by
    rcases List.mem_cons.mp h with rfl | h
    · simp
    · have := VP h; simp only [List.sum_cons]; omega
structure zy2 (c : Cfg) (W : Wd) (H : AH) (s : Shared) (q : Nat) : Prop where
  a : W.ρ[q]? = some (c.tp q)
  t : (hget H q).t = 5
  d : (hget H q).d = q
  o : ∃ ps, s.heap.get? (c.tp q) = some { cls := .none, data := .fields ps } /\ TriplesOk ps.toList
theorem zg0 {s : Shared} {q : Nat} (R : Rel c W H s) (ht : (hget H q).t = 5) (hd : (hget H q).d = q) (hq : q < W.ρ.length) : zy2 c W H s q := by
  obtain ⟨ob, hob, z⟩ := R.obj q _ (List.getElem?_eq_getElem hq)
  obtain ⟨h, ps, rfl, h2, _⟩ := z.at ht
  rw [hd, List.getElem?_eq_getElem hq] at h
  rw [Option.some.inj h] at hob
  exact ⟨by rw [List.getElem?_eq_getElem hq]; exact h, ht, hd, ps, hob, h2⟩
theorem ye0 {f : Nat} {fd : FuncData} {cd bm : Addr} {ob : Obj} {s : Shared} {a dx : Addr} {vs : List Value} {nn kk : Nat} {hs0 : Int} {tk0 u : Tok} {prs : List (List Nat × List Nat)} (S : Stat c) (D : Jc c 4 f 0 fd "__len__" cd) (G : AccH c) (GF : GenF c bm ob)
    (hlen : nsIn c.K mainGlobals "len" = some none) (hsum : nsIn c.K mainGlobals "sum" = some none) (blen : bootBuiltins "len" = some (.builtin "len")) (bsum : bootBuiltins "sum" = some (.builtin "sum")) (hb : ∀ (s : Shared) (q : Addr), BindsTo s fd ⟨[.ref q], []⟩ [("self", .ref q)]) (hh : A.handled = none) (hroom : A.depth + 1 < recursionLimit) (R : Rel c W H s)
    (hoa : s.heap.get? a = some (ZB c.cA dx vs nn)) (hod : s.heap.get? dx = some (Vn hs0 tk0 (.int c.sz u) kk)) (ht : zy2 c W H s 0) (hp : Yj s.heap (prs.map Yx) vs) (hsh : (prs.map fun p => p.1.length + p.2.length).sum < 100000) :
    codeAny c.M A (.call (.ref (c.fa f)) ⟨[.ref a], []⟩) (Gave c W H s (yn6 (c.sz + (prs.map fun p => p.1.length + p.2.length).sum))) s := by
  obtain ⟨hPq, h5, hdq, ps, hob1, hpt⟩ := ht
  obtain ⟨o, ho, hdat⟩ := D.m.at'.ob
  have X := R.in S
  have T := R.top S
  obtain ⟨p0, p1, p2, p3, p4, p5, p6, p7, p8, p9, p10, p11, p12, p13, p14, p15, p16, kt, sc, hbody, hsc, hsk, hsco⟩ := yO4
  have kself : (Yk 4).names.lookup ("self" : Str) = some .local := by decide +kernel
  have ksum : (Yk 4).names.lookup ("sum" : Str) = some .globalImplicit := by decide +kernel
  have hcell : ∀ x ∈ (Yk 4).names, x.2 ≠ .cell := by decide +kernel
  have hkd4 : (Yk 4).kind = .function := by decide +kernel
  have hprl : ∀ p ∈ prs, p.1.length < 100000 /\ p.2.length < 100000 := by
    intro p hp'
    have : p.1.length + p.2.length <= (prs.map fun p => p.1.length + p.2.length).sum := VP (List.mem_map_of_mem (f := fun p => p.1.length + p.2.length) hp')
    exact ⟨Nat.lt_of_le_of_lt (Nat.le_trans (Nat.le_add_right _ _) this) hsh, Nat.lt_of_le_of_lt (Nat.le_trans (Nat.le_add_left _ _) this) hsh⟩
  refine Xa (ks_codeAny_call_defAt (fd := fd) (body := VO 4) (Nat.lt_of_succ_lt hroom) (X _ _ ho) hdat T.nolimit (codeRec_of X D.m.at'.cd) D.m.body (hb _ _) (by rw [D.m.scope]; exact hcell) (fun y hy => ?_) (fun h₀ hns hk₀ => ?_) D.m.at'.co D.m.at'.gen (by rw [D.m.scope]; exact hkd4))
  · rcases List.mem_cons.mp hy with rfl | hy
    · rw [D.m.scope]; exact kself
    · cases hy
  have X0 : c.K.In h₀ := X.keeps hk₀
  have T0 : TopRead c.prog c.loose c.mg c.mb h₀ := T.keeps hk₀
  have B0 : BMod h₀ mainGlobals c.mg bm ob := (GF.bmod s.heap fun a o e => (R.st a o e).1).keeps hk₀
  have mlen := mg_none_of X T.g hlen
  have msum := mg_none_of X T.g hsum
  have vlen := (T.builtins "len" (by decide +kernel)).trans blen
  have vsum := (T.builtins "sum" (by decide +kernel)).trans bsum
  have hkd : (callEnv fd s.heap.objs.size (c.fa f)).scope.kind = .function := by show fd.scope.kind = _; rw [D.m.scope]; exact hkd4
  have hgl : (callEnv fd s.heap.objs.size (c.fa f)).globals = mainGlobals := D.m.at'.glob
  have hbl : (callEnv fd s.heap.objs.size (c.fa f)).builtins = builtinsNs := D.m.at'.blt
  have ks : (callEnv fd s.heap.objs.size (c.fa f)).kindOf ("self" : Str) = some .local := by show fd.scope.names.lookup _ = _; rw [D.m.scope]; exact kself
  have hQual : (callEnv fd s.heap.objs.size (c.fa f)).qual ++ "<genexpr>" = c.tq 0 := D.tq.symm
  have hszle : s.heap.objs.size <= h₀.objs.size := Nat.le_of_lt hns.lt
  rw [hbody]
  refine ks_wpAt_execs_cons (ks_wpAt_Return_some (wpAt_of_wpAny ?_))
  refine wpAny_Call_Name_kw (zJ5 hkd (by show fd.scope.names.lookup _ = _; rw [D.m.scope]; exact ksum) (by rw [hgl]; exact T0.g) msum (by rw [hbl]; exact T0.b) vsum ?_ (by decide +kernel))
  refine Calls.callWith_builtin (by rfl) (Yg (.inr ⟨_, _, rfl⟩) (spliced_more ?_ (by rfl)))
  refine zK1 (A := A.deeper (callEnv fd s.heap.objs.size (c.fa f))) (F := prL prs) (prs := prs.map Yx) hh (by show A.depth + 1 < _; exact hroom) hsco ?_ (by rw [hsc]; decide +kernel) (by rw [hsc]; decide +kernel) (by rw [hsc]; decide +kernel) (by rw [hsc]; decide +kernel) (by decide +kernel) hsk D.code hgl
    (fun hq => wpAny_Name (wpAny_loadName_local hkd ks hns rfl hq) (by decide +kernel)) (fun _ => rfl) S G.toAccF X0 T0.nolimit B0 (codeHd_of_K X0 D.hd) (hk₀ _ _ hob1) hpt (hk₀ _ _ hoa) (hp.keeps hk₀) (fun o' ho' => by have := D.tk; rw [S.K _ _ ho'] at this; cases this) D.ng D.nc (fun C code wr href hk' => ?_) (fun q wr s5 GR => ?_)
  · unfold closureFor
    rw [hsc]
    rfl
  · exact ye2 (bm := bm) hsc hsk hgl mlen vlen hprl fun h hkh => ⟨T0.g.at' fun o e => let ⟨h1, h2, h3⟩ := hk' _ _ D.ng.symm e; hkh _ (List.mem_range.mpr h1) h2 _ h3, T0.b.at' fun o e => let ⟨h1, h2, h3⟩ := hk' _ _ D.nb.symm e; hkh _ (List.mem_range.mpr h1) h2 _ h3⟩
  · rw [hQual] at GR
    obtain ⟨fp, g, St, W, hst, hfp, hqfp, hwr, hty, hg⟩ := GR.walk
    subst hg
    have hdx0 := hk₀ _ _ hod
    have hPa : a ≠ c.tp 0 := fun q => by rw [q, hob1] at hoa; cases hoa
    have hPd : dx ≠ c.tp 0 := fun q => by rw [q, hob1] at hod; cases hod
    have ho5 := GR.keep _ _ hPa (hk₀ _ _ hoa)
    have hd5 := GR.keep _ _ hPd hdx0
    have X5 : c.K.In s5.heap := fun b o e => GR.keep b o (fun q => by have := D.tk; rw [<- q, S.K _ _ e] at this; cases this) (X0 _ _ e)
    have hns5 : s5.heap.Ns s.heap.objs.size (fun x => ([("self", Value.ref a)] : List (Str × Value)).reverse.lookup x) := hns.at' fun o e => GR.keep _ _ (fun q => by have := Heap.lt_size hob1; rw [<- q] at this; exact Nat.lt_irrefl _ this) e
    refine spliced_more (Attribute_Name_ (wpAny_Name (wpAny_loadName_local hkd ks hns5 rfl ?_) (by decide +kernel))) (by rfl)
    refine zT6 X5 G ho5 hd5 rfl ?_
    refine spliced_none ?_
    refine zI5 ?_
    refine (W.in4_1).self 0 _ _ _ (W.frame 0 s5 s5.heap _ hst (Nat.le_succ _) fun _ _ _ e => e) ?_
    refine ⟨q, fp, wr, GenOnlyQ s.gens.size, prs.length, (prL prs), St, fun i => (((prs.map fun p => p.1.length + p.2.length)[i]?.getD 0 : Nat) : Int), fun i => c.sz + (((prs.map fun p => p.1.length + p.2.length).take i).sum : Nat), rfl, ?_, W.frame 0 s5 s5.heap _ hst (Nat.le_succ _) fun _ _ _ e => e, hfp, fun i v hv => ?_, fun i => ?_, by simp, fun s' t' M => ?_⟩
    · have := W.in4_1
      rw [List.length_map] at this
      exact this
    · obtain ⟨p, t, h1, rfl⟩ := hv
      exact ⟨t, by simp [h1]⟩
    · try dsimp only
      rw [zM0, Int.add_assoc]
    · have M' : Moved wr (GenOnlyQ s.gens.size) s5 s' := ⟨M.heap, M.gens, M.drawn, M.os, Nat.le_trans (Nat.le_succ _) M.toks⟩
      refine fun le => ?_
      obtain ⟨W', x1, x2⟩ := zF9 R h5 hdq hPq hob1 hk₀ hszle GR hwr M' le
      exact ⟨_, W', rfl, ⟨t', by dsimp only; rw [yi4]⟩, x1, x2⟩
def szOk (c : Cfg) : Prop := 0 <= c.sz /\ c.sz < 1000000
theorem yi5 {f : Nat} {fd : FuncData} {cd bm : Addr} {ob : Obj} (S : Stat c) (D : Jc c 4 f 0 fd "__len__" cd) (G : AccH c) (GF : GenF c bm ob) (hsz : szOk c)
    (hlen : nsIn c.K mainGlobals "len" = some none) (hsum : nsIn c.K mainGlobals "sum" = some none) (blen : bootBuiltins "len" = some (.builtin "len")) (bsum : bootBuiltins "sum" = some (.builtin "sum"))
    (hb : ∀ (s : Shared) (q : Addr), BindsTo s fd ⟨[.ref q], []⟩ [("self", .ref q)]) : zL2 c (d + 2) := fun {A W H s a i k} hA R ha hr he ht hd hl => by
  obtain ⟨vs, nn, dx, hs0, tk0, u, kk, hd', hoa, hvs, hod, I⟩ := zf5 R ha hr he
  rw [zx9] at hl
  obtain ⟨prs, hp, hl⟩ := zC0 R hl hvs
  obtain ⟨hsh, hl⟩ := gd_t hl
  have hsh := Nat.blt_eq.mp hsh
  rw [zQ0] at hsh hl
  generalize hn : (prs.map fun p => p.1.length + p.2.length).sum = n at hsh hl
  refine call_function_entry kind_len plain_len entry_len (args_len1 _) ?_
  unfold Builtin.«len»
  refine wpAny_bind (m := oneArg "len" _) (wpAny_pure ?_)
  refine wpAny_bind (m := callSpecial? (.ref a) (Str.ofString "__len__")) (special_fn (R.in S) I D.m.find D.m.isF (wpAny_call (codeAny_mono (ye0 S D G GF hlen hsum blen bsum hb hA.hd (Nat.lt_of_le_of_lt (Nat.add_le_add_left (Nat.succ_le_succ (Nat.zero_le _)) _) hA.dp) R hoa hod (zg0 R ht hd (Nat.lt_of_le_of_lt (Nat.zero_le _) (List.getElem?_eq_some_iff.mp ha).1)) hp (hn ▸ hsh)) fun r s1 g => ?_)))
  obtain ⟨v, W', rfl, ⟨t, rfl⟩, x1, R1⟩ := g
  rw [hn]
  obtain ⟨h1, h2⟩ := hsz
  show wpAny _ _ (holding [Value.int (c.sz + n) t] (asIndex (.int (c.sz + n) t)) >>= _) _ _ _
  refine wpAny_bind (wpAny_holding (wpAny_pure ?_))
  refine wpAny_bind (wpAny_letGo ?_)
  show wpAny _ _ (if (c.sz + (n : Int)) < 0 then _ else _) _ _ _
  have h3 : n < 100000 := hsh
  rw [if_neg (by omega)]
  show wpAny _ _ (if (c.sz + (n : Int)) ≥ 2 ^ 63 then _ else _) _ _ _
  rw [if_neg (by omega)]
  exact wpAny_bind (wpAny_mkInt (wpAny_pure ⟨_, rfl, (PG.tok (n := s1.toks + 1) R1 hl (show VR c W' (aZ (.ofNat n)) (.int (c.sz + n) s1.toks) from ⟨_, rfl⟩) (Nat.le_succ _)).trans x1⟩))
end
inductive yt7 : Prop
  | mk (p0 : Pos) (p1 : Pos) (p2 : Pos) (p3 : Pos) (p4 : Pos) (p5 : Pos) (p6 : Pos) (p7 : Pos) (p8 : Pos) (p9 : Pos) (p10 : Pos) (p11 : Pos) (p12 : Pos) (p13 : Pos) (p14 : Pos) (kt : Nat) (k2 : Nat) (sc : Scope) (h0 : VO 5 = [.Return (some (.Call (.Attribute (.Name "EMPTYSTRING" p0) "join" p1) [.GeneratorExp (.Call (.Attribute (.Name "EMPTYSTRING" p2) "join" p3) [.Tuple [.Name "fws" p4, .Name "part" p5] k2 p6] [] p7)
    [⟨.Tuple [.Name "fws" p8, .Name "part" p9] kt p10, .Name "self" p11, [], 0⟩] sc p12] [] p13)) p14]) (h1 : (p1.endLine == p13.line) = true) (h2 : (p3.endLine == p7.line) = true) (h3 : sc.names = [((".0" : Str), NameKind.local), (("fws" : Str), NameKind.local), (("part" : Str), NameKind.local), (("EMPTYSTRING" : Str), NameKind.globalImplicit)]) (h4 : sc.kind = .function) (h5 : sc.isCoroutine = false) : yt7
theorem yO3 : yt7 := by
  with_unfolding_all exact ⟨_, _, _, _, _, _, _, _, _, _, _, _, _, _, _, _, _, _, rfl, rfl, rfl, rfl, rfl, rfl⟩
section
variable {c : Cfg} {d : Nat} {A : Around} {E : Value -> Shared -> Prop} {W : Wd} {H : AH}
theorem zt4 {env : Env} {s : Shared} {x : Str} {pos : Pos} {v : Value} {Q : Value -> Shared -> Prop} (hk : env.scope.kind = .function) (hx : env.kindOf x = some .globalImplicit) (hg : s.heap.Ns env.globals c.mg) (hm : c.mg x = some v)
    (h : Q v s) (hd : (x == ("__debug__" : Str)) = false) : wpAny c.M A (eval (.Name x pos) env) Q E s :=
  Name_function_global hk hx (loadGlobal_global hg hm h) hd
theorem e0 : Str.ofString "" = ⟨#[]⟩ := by decide +kernel
theorem yw9 (x y : List Nat) : Builtin.Str.glued ⟨#[]⟩ [txt x, txt y] = txt (x ++ y) := by
  rw [PySem.StrLaws.glued_eq_join]
  have := VQ [x, y]
  simpa using this
theorem yk6 {p : List Nat × List Nat} (h1 : p.1.length < 100000) (h2 : p.2.length < 100000) : (List.map (fun x => x.length) [(Yx p).1, (Yx p).2]).sum + [(Yx p).1, (Yx p).2].length * (⟨#[]⟩ : Str).length <= 16777216 := by
  have a1 := ZN p.1
  have a2 := ZN p.2
  show (txt p.1).length + ((txt p.2).length + 0) + 2 * 0 <= _
  omega
theorem zZ7 {sc : Scope} {env : Env} {C : Addr} {code : Value} {wr : List Addr} {href : Heap} {prs : List (List Nat × List Nat)} {p2 p3 p4 p5 p6 p7 : Pos} {k2 : Nat} {tE : Tok} (hsc : sc.names = [((".0" : Str), NameKind.local), (("fws" : Str), NameKind.local), (("part" : Str), NameKind.local), (("EMPTYSTRING" : Str), NameKind.globalImplicit)]) (hk : sc.kind = .function) (hgl : env.globals = mainGlobals)
    (hm : c.mg "EMPTYSTRING" = some (.str "" tE)) (hline : (p3.endLine == p7.line) = true) (hsh : ∀ p ∈ prs, p.1.length < 100000 /\ p.2.length < 100000) (hg : ∀ h : Heap, (∀ b ∈ List.range C, b ∉ wr -> ∀ o, href.get? b = some o -> h.get? b = some o) -> h.Ns mainGlobals c.mg) :
    QuietGenT c.prog c.w (genEnv sc [] C code builtinsNs env) "fws" "part" [] (.Call (.Attribute (.Name "EMPTYSTRING" p2) "join" p3) [.Tuple [.Name "fws" p4, .Name "part" p5] k2 p6] [] p7) (List.range C) wr (prV (prs.map Yx)) (fun _ => true)
      (prC prs) href where
  tests := fun A' E' i va vb s₂ m₂ _ _ _ _ _ _ => wpAny_pure ⟨rfl, Keeps.refl' _⟩
  elt := fun A' E' i va vb s₂ m₂ _ hP _ hn ha hb hk' => by
    obtain ⟨p, t, u, hp, hv'⟩ := hP
    rw [List.getElem?_map] at hp
    obtain ⟨q, hq, rfl⟩ := Option.map_eq_some_iff.mp hp
    have e1 : va = .str (Yx q).1 t := by have := congrArg (fun a => a[0]?) hv'; simpa using this
    have e2 : vb = .str (Yx q).2 u := by have := congrArg (fun a => a[1]?) hv'; simpa using this
    subst e1; subst e2
    obtain ⟨l1, l2⟩ := hsh q (List.mem_of_getElem? hq)
    have g1 := hg _ hk'
    have kn : ∀ x, (genEnv sc [] C code builtinsNs env).kindOf x = sc.names.lookup x := fun _ => rfl
    have hk0 : (genEnv sc [] C code builtinsNs env).scope.kind = .function := hk
    refine wpAny_Call_method_late (by rfl) (by rfl) hline rfl (zt4 hk0 (by rw [kn, hsc]; decide +kernel) (by show s₂.heap.Ns env.globals _; rw [hgl]; exact g1) hm ?_ (by decide +kernel))
    refine ⟨"str", "str.join", PySem.F.plainAttrs_str, PySem.F.slot_str_join, PySem.F.type_str_join, typeIs_str _ _ _, fun _ h => (nomatch h), ?_⟩
    refine Calls.callWith_builtin (by rfl) (Yg (.inr ⟨_, _, rfl⟩) (spliced_more ?_ (by rfl)))
    refine wpAny_Tuple (spliced_more (wpAny_Name (wpAny_loadName_local hk0 (by rw [kn, hsc]; decide +kernel) hn ha ?_) (by decide +kernel)) (by rfl))
    refine spliced_more (wpAny_Name (wpAny_loadName_local hk0 (by rw [kn, hsc]; decide +kernel) hn hb ?_) (by decide +kernel)) (by rfl)
    refine spliced_none ⟨by rw [sizeLine_eq]; simp, spliced_none ?_⟩
    have kg := fun (b : Addr) (o : Obj) (e : s₂.heap.get? b = some o) => Heap.get?_push_of_some (YX [.str (Yx q).1 t, .str (Yx q).2 u] 0) e
    refine join_tuple (D := s₂.heap.objs.size) (items := #[.str (Yx q).1 t, .str (Yx q).2 u]) (ys := [(Yx q).1, (Yx q).2]) ⟨_, Heap.get?_push_size _ rfl, rfl, 0, rfl⟩ ?_ ?_ fun t' tk => ?_
    · exact .cons _ _ (.cons _ _ .nil)
    · rw [e0]; exact yk6 l1 l2
    · refine ⟨⟨q, t', hq, ?_⟩, ⟨_, _, rfl, kg⟩⟩
      congr 1
      show Builtin.Str.glued (Str.ofString "") _ = _
      rw [e0]
      exact yw9 _ _
theorem zM7 {prs : List (List Nat × List Nat)} {P : Nat -> Value -> Prop} (hP : ∀ i v, P i v -> ∃ p t, prs[i]? = some p /\ v = .str (txt (p.1 ++ p.2)) t) {l : List (Str × Tok)} (h : ItemsOf P (strValues l).toArray prs.length) :
    l.map (·.1) = (prs.map fun p => p.1 ++ p.2).map txt := by
  obtain ⟨h1, h2⟩ := h
  have hl : l.length = prs.length := by simpa [strValues] using h1
  refine List.ext_getElem? fun j => ?_
  by_cases hj : j < l.length
  · have hj2 : j < prs.length := by omega
    have hv : (strValues l).toArray[j]? = some (.str l[j].1 l[j].2) := by
      simp [strValues, hj]
    obtain ⟨p, t, e1, e2⟩ := hP _ _ (h2 j _ hv)
    have e3 : l[j].1 = txt (p.1 ++ p.2) := by injection e2
    rw [List.getElem?_map, List.getElem?_map, List.getElem?_map, List.getElem?_eq_getElem hj, e1]
    simp [e3]
  · rw [List.getElem?_eq_none (by simp; omega), List.getElem?_eq_none (by simp; omega)]
theorem zZ6 {f : Nat} {fd : FuncData} {cd bm : Addr} {ob : Obj} {s : Shared} {a dx : Addr} {vs : List Value} {nn : Nat} {prs : List (List Nat × List Nat)} {tE : Tok} (S : Stat c) (D : Jc c 5 f 1 fd "__str__" cd) (G : AccH c) (GF : GenF c bm ob) (hE : nsIn c.K mainGlobals "EMPTYSTRING" = some (some (.str "" tE)))
    (hb : ∀ (s : Shared) (q : Addr), BindsTo s fd ⟨[.ref q], []⟩ [("self", .ref q)]) (hh : A.handled = none) (hroom : A.depth + 1 < recursionLimit) (R : Rel c W H s) (hoa : s.heap.get? a = some (ZB c.cA dx vs nn)) (ht : zy2 c W H s 1) (hp : Yj s.heap (prs.map Yx) vs)
    (hsh : (prs.map fun p => p.1 ++ p.2).flatten.length < 100000) (hll : prs.length < 100000) : codeAny c.M A (.call (.ref (c.fa f)) ⟨[.ref a], []⟩) (Gave c W H s (yn3 (txt (prs.map fun p => p.1 ++ p.2).flatten))) s := by
  obtain ⟨hPq, h5, hdq, ps, hob1, hpt⟩ := ht
  obtain ⟨o, ho, hdat⟩ := D.m.at'.ob
  have X := R.in S
  have T := R.top S
  obtain ⟨p0, p1, p2, p3, p4, p5, p6, p7, p8, p9, p10, p11, p12, p13, p14, kt, k2, sc, hbody, hline1, hline3, hsc, hsk, hsco⟩ := yO3
  have kself : (Yk 5).names.lookup ("self" : Str) = some .local := by decide +kernel
  have kE : (Yk 5).names.lookup ("EMPTYSTRING" : Str) = some .globalImplicit := by decide +kernel
  have hcell : ∀ x ∈ (Yk 5).names, x.2 ≠ .cell := by decide +kernel
  have hkd4 : (Yk 5).kind = .function := by decide +kernel
  have hprl : ∀ p ∈ prs, p.1.length + p.2.length <= ((prs.map fun p => p.1 ++ p.2).flatten).length := by
    intro p hp'
    rw [List.length_flatten, List.map_map]
    have := VP (List.mem_map_of_mem (f := List.length ∘ fun p : List Nat × List Nat => p.1 ++ p.2) hp')
    simpa using this
  refine Xa (ks_codeAny_call_defAt (fd := fd) (body := VO 5) (Nat.lt_of_succ_lt hroom) (X _ _ ho) hdat T.nolimit (codeRec_of X D.m.at'.cd) D.m.body (hb _ _) (by rw [D.m.scope]; exact hcell) (fun y hy => ?_) (fun h₀ hns hk₀ => ?_) D.m.at'.co D.m.at'.gen (by rw [D.m.scope]; exact hkd4))
  · rcases List.mem_cons.mp hy with rfl | hy
    · rw [D.m.scope]; exact kself
    · cases hy
  have X0 : c.K.In h₀ := X.keeps hk₀
  have T0 : TopRead c.prog c.loose c.mg c.mb h₀ := T.keeps hk₀
  have B0 : BMod h₀ mainGlobals c.mg bm ob := (GF.bmod s.heap fun a o e => (R.st a o e).1).keeps hk₀
  have mE := mg_of X T.g hE
  have hkd : (callEnv fd s.heap.objs.size (c.fa f)).scope.kind = .function := by show fd.scope.kind = _; rw [D.m.scope]; exact hkd4
  have hgl : (callEnv fd s.heap.objs.size (c.fa f)).globals = mainGlobals := D.m.at'.glob
  have ks : (callEnv fd s.heap.objs.size (c.fa f)).kindOf ("self" : Str) = some .local := by show fd.scope.names.lookup _ = _; rw [D.m.scope]; exact kself
  have hQual : (callEnv fd s.heap.objs.size (c.fa f)).qual ++ "<genexpr>" = c.tq 1 := D.tq.symm
  have hszle : s.heap.objs.size <= h₀.objs.size := Nat.le_of_lt hns.lt
  rw [hbody]
  refine ks_wpAt_execs_cons (ks_wpAt_Return_some (wpAt_of_wpAny ?_))
  refine wpAny_Call_method_late (by rfl) (by rfl) hline1 rfl (zt4 hkd (by show fd.scope.names.lookup _ = _; rw [D.m.scope]; exact kE) (by rw [hgl]; exact T0.g) mE ?_ (by decide +kernel))
  refine ⟨"str", "str.join", PySem.F.plainAttrs_str, PySem.F.slot_str_join, PySem.F.type_str_join, typeIs_str _ _ _, fun _ h => (nomatch h), ?_⟩
  refine Calls.callWith_builtin (by rfl) (Yg (.inr ⟨_, _, rfl⟩) (spliced_more ?_ (by rfl)))
  refine zK1 (A := A.deeper (callEnv fd s.heap.objs.size (c.fa f))) (F := prC prs) (prs := prs.map Yx) hh (by show A.depth + 1 < _; exact hroom) hsco ?_ (by rw [hsc]; decide +kernel) (by rw [hsc]; decide +kernel) (by rw [hsc]; decide +kernel) (by rw [hsc]; decide +kernel) (by decide +kernel) hsk D.code hgl
    (fun hq => wpAny_Name (wpAny_loadName_local hkd ks hns rfl hq) (by decide +kernel)) (fun _ => rfl) S G.toAccF X0 T0.nolimit B0 (codeHd_of_K X0 D.hd) (hk₀ _ _ hob1) hpt (hk₀ _ _ hoa) (hp.keeps hk₀) (fun o' ho' => by have := D.tk; rw [S.K _ _ ho'] at this; cases this) D.ng D.nc (fun C code wr href hk' => ?_) (fun q wr s5 GR => ?_)
  · unfold closureFor
    rw [hsc]
    rfl
  · exact zZ7 hsc hsk hgl mE hline3 (fun p hp => by have := hprl p hp; omega) fun h hkh => T0.g.at' fun o e => let ⟨h1, h2, h3⟩ := hk' _ _ D.ng.symm e; hkh _ (List.mem_range.mpr h1) h2 _ h3
  · rw [hQual] at GR
    obtain ⟨fp, g, St, W, hst, hfp, hqfp, hwr, hty, hg⟩ := GR.walk
    subst hg
    rw [List.length_map] at W
    refine spliced_none ?_
    refine SC.joinGen W.in4_2 hty hst hfp hqfp (fun i v hv => let ⟨p, t, _, e⟩ := hv; ⟨_, _, e⟩) (fun s' l' M hit => ?_) (by rw [sizeLine_eq]; omega)
    have hm := zM7 (fun i v hv => hv) hit
    rw [hm]
    refine ⟨?_, fun t' tk => ?_⟩
    · refine joinOk_of ?_
      rw [e0]
      have e1 : ((List.map (txt) (List.map (fun p => p.1 ++ p.2) prs)).map (·.length)).sum = ((prs.map fun p => p.1 ++ p.2).flatten).length := by
        rw [List.length_flatten, List.map_map]
        congr 1
      rw [e1]
      have e2 : Str.length ⟨#[]⟩ = 0 := rfl
      rw [e2]
      omega
    · refine fun le => ?_
      obtain ⟨W', x1, x2⟩ := zF9 R h5 hdq hPq hob1 hk₀ hszle GR hwr M le
      refine ⟨_, W', rfl, ⟨t', ?_⟩, x1, x2⟩
      dsimp only
      have hj : Txt.join (Str.ofString "") (List.map (txt) (List.map (fun p => p.1 ++ p.2) prs)) = txt (prs.map fun p => p.1 ++ p.2).flatten := by
        show Builtin.Str.glued (Str.ofString "") _ = _
        rw [e0, PySem.StrLaws.glued_eq_join, VQ]
      rw [hj]
theorem zU6 (x y : Bool) : (PyData.list [.bool x, .bool y]).shown = txt (strL x y) := by
  cases x <;> cases y <;> decide +kernel
theorem zM8 (x y : Bool) : (txt (strL x y)).length <= sizeLine := by
  rw [sizeLine_eq]
  cases x <;> cases y <;> decide +kernel
theorem yr4 {f : Nat} {fd : FuncData} {cd bm : Addr} {ob : Obj} {tE : Tok} (S : Stat c) (D : Jc c 5 f 1 fd "__str__" cd) (G : AccH c) (GF : GenF c bm ob) (hE : nsIn c.K mainGlobals "EMPTYSTRING" = some (some (.str "" tE)))
    (hb : ∀ (s : Shared) (q : Addr), BindsTo s fd ⟨[.ref q], []⟩ [("self", .ref q)]) : BiOk c (d + 8) (.type "str") strF := fun {A W H s args us k} hA R hus hk => by
  obtain ⟨x, rfl, hk⟩ := XP hk
  obtain ⟨u, t, rfl, hu, rfl⟩ := hus
  rcases ZS hk with ⟨e1, hk⟩ | hk
  · obtain ⟨e2, hk⟩ := kd_t hk
    obtain ⟨e3, hk⟩ := kd_t hk
    obtain ⟨e4, hk⟩ := kd_t hk
    obtain ⟨e5, hk⟩ := kd_t hk
    obtain ⟨h1, hk⟩ := gd_t hk
    obtain ⟨a, rfl, ha⟩ := hu.at e1
    obtain ⟨vs, nn, dx, hs0, tk0, u, kk, hd', hoa, hvs, hod, I⟩ := zf5 R ha e2 e3
    obtain ⟨prs, hp, hk⟩ := zC0 R hk hvs
    obtain ⟨hl, hk⟩ := ZG hk
    obtain ⟨hsh, hk⟩ := ZG hk
    rw [yh9] at hsh hk
    have h1 : 1 < W.ρ.length := R.cnt ▸ Nat.blt_eq.mp h1
    refine kso_call (by have := hA.un; show A.units + 1 + 1 < _; omega) (R.in S) I D.m.find (beq_iff_eq.mpr D.m.isF) (wpAny_call (codeAny_mono (zZ6 S D G GF hE hb hA.hd (Nat.lt_of_le_of_lt (Nat.add_le_add_left (Nat.succ_le_succ (Nat.zero_le _)) _) hA.dp) R hoa (zg0 R e4 e5 h1) hp hsh hl) fun r s1 g => ?_))
    obtain ⟨v, W', rfl, ⟨t, rfl⟩, x1, R1⟩ := g
    exact (PG.now R1 hk ⟨t, rfl⟩).trans x1
  · obtain ⟨e1, hk⟩ := kd_t hk
    obtain ⟨y, z, e2, hk⟩ := Vz hk
    obtain ⟨e3, hk⟩ := kd_t hk
    obtain ⟨e4, hk⟩ := kd_t hk
    obtain ⟨a, vs, n, rfl, ho, hvs⟩ := Yi R hu e1
    rw [e2] at hvs
    obtain ⟨v1, r1, rfl, h1, v2, r2, rfl, h2, rfl⟩ := hvs
    obtain rfl := h1.at e3
    obtain rfl := h2.at e4
    have hr : Reads s.heap (.ref a) (.list [.bool y.b, .bool z.b]) _ := .list ho rfl rfl (.cons (.bool _) (.cons (.bool _) .nil))
    have hu' : A.units + ((PyData.list [.bool y.b, .bool z.b]).depth + 3) < cLine := Nat.lt_of_le_of_lt (Nat.add_le_add_left (show 1 + 3 <= 10 * (d + 8) from by omega) _) hA.un
    exact ZP (str_of_reads hr (by rfl) (fun h => by cases h) hA.gd hu' (fun _ _ e => e) (fun h' u tk hk' le => .more R hk ⟨u, by rw [zU6]; rfl⟩ le hk') (by rw [zU6]; exact zM8 _ _))
end
end Mine
end
section
namespace Mine
open PySem PySem.W PyProof.Rows Builtin Builtin.Str
theorem zH4 {prog : Program} {w : World} {A : Around} {E : Value -> Shared -> Prop} {s : Shared} {e it : Addr} {fp : List Addr} {i : Nat} {P : Value -> Prop} {St' : Heap -> Prop} {old : Value} {Q : Value -> Shared -> Prop}
    (D : ∀ {Q : Value -> Shared -> Prop}, (∀ x h' tk, P x -> St' h' -> Heap.SameBut it s.heap h' -> Q x { s with heap := h', toks := tk }) -> wpAny (model prog w) A (Builtin.SmallTypes.nextOf (.ref it)) Q E s)
    (fr : ∀ h h', St' h -> (∀ b ∈ fp, ∀ o, h.get? b = some o -> h'.get? b = some o) -> St' h') (he : IsEnum s.heap e it i old) (hne : e ≠ it) (hef : e ∉ fp)
    (hQ : ∀ x h' tk, P x -> IsEnumOut h' e it ((i : Int) + 1) x s.heap.objs.size -> St' h' ->
      h'.get? s.heap.objs.size = some { cls := .type "tuple", data := .seq #[.int i tk, x] } -> h'.objs.size = s.heap.objs.size + 1 ->
      (∀ b o, b ≠ e -> b ≠ it -> s.heap.get? b = some o -> h'.get? b = some o) -> Q (.ref s.heap.objs.size) { s with heap := h', toks := tk + 1 }) :
    wpAny (model prog w) A (Builtin.«enumerate.__next__» ⟨[.ref e], []⟩) (fun fin s' => ∃ v, fin = .done (.ret v) /\ Q v s') E s := by
  obtain ⟨hp, g, d, tk₀, os⟩ := s
  show wpAny _ _ (field (.ref e) 2 >>= _) _ _ _
  refine wpAny_bind (wpAny_field he rfl (x := .ref it) rfl ?_)
  refine wpAny_bind (D fun x h₁ tk hPx hit₁ hs₁ => ?_)
  replace hs₁ : Heap.SameBut it hp h₁ := hs₁
  have he₁ : IsEnum h₁ e it i old := (hs₁.2 e hne).trans he
  show wpAny _ _ (field (.ref e) 3 >>= _) _ _ ⟨h₁, g, d, tk, os⟩
  refine wpAny_bind (wpAny_field he₁ rfl (x := rawInt i) rfl ?_)
  show wpAny _ _ (field (.ref e) 4 >>= _) _ _ ⟨h₁, g, d, tk, os⟩
  refine wpAny_bind (wpAny_field he₁ rfl (x := .none) rfl ?_)
  show wpAny _ _ (mkInt i >>= _) _ _ ⟨h₁, g, d, tk, os⟩
  refine wpAny_bind (wpAny_mkInt ?_)
  show wpAny _ _ (setField (.ref e) 3 (rawInt ((i : Int) + 1)) >>= _) _ _ ⟨h₁, g, d, tk + 1, os⟩
  refine wpAny_bind (wpAny_setField_rec he₁ (by simp) fun h₂ he₂ hs₂ => ?_)
  replace hs₂ : Heap.SameBut e h₁ h₂ := hs₂
  replace he₂ : IsEnum h₂ e it ((i : Int) + 1) old := he₂
  show wpAny _ _ (setField (.ref e) 4 .none >>= _) _ _ ⟨h₂, g, d, tk + 1, os⟩
  refine wpAny_bind (wpAny_setField_rec he₂ (by simp) fun h₃ he₃ hs₃ => ?_)
  replace hs₃ : Heap.SameBut e h₂ h₃ := hs₃
  replace he₃ : IsEnum h₃ e it ((i : Int) + 1) old := he₃
  show wpAny _ _ (newTuple [.int i tk, x] >>= _) _ _ ⟨h₃, g, d, tk + 1, os⟩
  refine wpAny_bind (wpAny_newTuple ?_)
  have he₄ : IsEnum (h₃.push { cls := .type "tuple", data := .seq #[.int i tk, x] }) e it ((i : Int) + 1) old := Heap.get?_push_of_some _ he₃
  generalize hh₄ : h₃.push { cls := .type "tuple", data := .seq #[.int i tk, x] } = h₄ at he₄
  have hsz : h₃.objs.size = hp.objs.size := by rw [hs₃.1, hs₂.1, hs₁.1]
  have hel : e < hp.objs.size := Heap.lt_size he
  have ht₄ : h₄.get? hp.objs.size = some { cls := .type "tuple", data := .seq #[.int i tk, x] } := by rw [<- hh₄, <- hsz]; exact Heap.get?_push_size _ rfl
  have hz₄ : h₄.objs.size = hp.objs.size + 1 := by rw [<- hh₄, Heap.size_push, hsz]
  have hk₄ : ∀ b o, b ≠ e -> b ≠ it -> hp.get? b = some o -> h₄.get? b = some o := fun b o hbe hbi hb => by
    rw [<- hh₄]; exact Heap.get?_push_of_some _ (hs₃.extBut b o hbe (hs₂.extBut b o hbe (hs₁.extBut b o hbi hb)))
  have hit₄ : St' h₄ := fr _ _ hit₁ fun b hb o y => by
    have hbe : b ≠ e := fun q => hef (q ▸ hb)
    rw [<- hh₄]; exact Heap.get?_push_of_some _ (hs₃.extBut b o hbe (hs₂.extBut b o hbe y))
  show wpAny _ _ (Builtin.SmallTypes.ownedTupleIsFree (.ref e) >>= _) _ _ ⟨h₄, g, d, tk + 1, os⟩
  rw [hsz]
  clear hh₄ he₃ hs₃ he₂ hs₂ he₁ hs₁ hit₁ hsz h₃ h₂ h₁
  refine wpAny_bind ?_
  · unfold Builtin.SmallTypes.ownedTupleIsFree
    refine wpAny_bind (wpAny_field he₄ rfl (x := .none) rfl (wpAny_pure ?_))
    simp only [if_true]
    refine wpAny_bind (wpAny_rule ?_)
    refine wpAny_bind (wpAny_field he₄ rfl (x := old) rfl ?_)
    refine wpAny_bind (wpAny_setField_rec he₄ (by simp) fun h₅ he₅ hs₅ => ?_)
    replace hs₅ : Heap.SameBut e h₄ h₅ := hs₅
    replace he₅ : IsEnum h₅ e it ((i : Int) + 1) x := he₅
    show wpAny _ _ (Builtin.SmallTypes.ownedTupleHandOut (.ref e) (.ref hp.objs.size) >>= _) _ _ ⟨h₅, g, d, tk + 1, os⟩
    refine wpAny_bind ?_
    · unfold Builtin.SmallTypes.ownedTupleHandOut
      refine wpAny_bind (wpAny_setField_rec he₅ (by simp) fun h₆ he₆ hs₆ => ?_)
      replace hs₆ : Heap.SameBut e h₅ h₆ := hs₆
      replace he₆ : IsEnumOut h₆ e it ((i : Int) + 1) x hp.objs.size := he₆
      refine wpAny_setField_rec he₆ (by simp) fun h₇ he₇ hs₇ => ?_
      replace hs₇ : Heap.SameBut e h₆ h₇ := hs₇
      replace he₇ : IsEnumOut h₇ e it ((i : Int) + 1) x hp.objs.size := he₇
      refine wpAny_bind (wpAny_letGo (wpAny_pure ⟨_, rfl, hQ x h₇ tk hPx he₇ ?_ ?_ ?_ ?_⟩))
      · exact fr _ _ hit₄ fun b hb o y => by
          have hbe : b ≠ e := fun q => hef (q ▸ hb)
          exact hs₇.extBut b o hbe (hs₆.extBut b o hbe (hs₅.extBut b o hbe y))
      · exact hs₇.extBut _ _ (Nat.ne_of_gt hel) (hs₆.extBut _ _ (Nat.ne_of_gt hel) (hs₅.extBut _ _ (Nat.ne_of_gt hel) ht₄))
      · rw [hs₇.1, hs₆.1, hs₅.1, hz₄]
      · exact fun b o hbe hbi hb => hs₇.extBut b o hbe (hs₆.extBut b o hbe (hs₅.extBut b o hbe (hk₄ b o hbe hbi hb)))
theorem zm0 {prog : Program} {w : World} {A : Around} {E : Value -> Shared -> Prop} {s : Shared} {e it : Addr} {fp : List Addr} {i : Nat} {P : Value -> Prop} {St' : Heap -> Prop} {old : Value} {Q : Option Value -> Shared -> Prop}
    (D : ∀ {E : Value -> Shared -> Prop} {Q : Value -> Shared -> Prop}, (∀ x h' tk, P x -> St' h' -> Heap.SameBut it s.heap h' -> Q x { s with heap := h', toks := tk }) -> wpAny (model prog w) A.in1 (Builtin.SmallTypes.nextOf (.ref it)) Q E s)
    (fr : ∀ h h', St' h -> (∀ b ∈ fp, ∀ o, h.get? b = some o -> h'.get? b = some o) -> St' h') (he : IsEnum s.heap e it i old) (hne : e ≠ it) (hef : e ∉ fp)
    (hQ : ∀ x h' tk, P x -> IsEnumOut h' e it ((i : Int) + 1) x s.heap.objs.size -> St' h' ->
      h'.get? s.heap.objs.size = some { cls := .type "tuple", data := .seq #[.int i tk, x] } -> h'.objs.size = s.heap.objs.size + 1 ->
      (∀ b o, b ≠ e -> b ≠ it -> s.heap.get? b = some o -> h'.get? b = some o) -> Q (some (.ref s.heap.objs.size)) { s with heap := h', toks := tk + 1 }) :
    wpAny (model prog w) A (pyNext (.ref e)) Q E s := by
  have hT : s.TypeIs (.ref e) "enumerate" := ⟨_, he, rfl⟩
  unfold pyNext
  exact wpAny_bind (wpAny_attempt (wpAny_callSpecial?_slot (name := Str.ofString "__next__") hT F.slot_enumerate_next
    (wpAny_call_entry F.slot_enumerate_next hT F.entry_enumerate_next
      (zH4 D fr he hne hef fun x h' tk a b c d k q => wpAny_pure (hQ x h' tk a b c d k q)) (F.args_enumerate_next_1 _))))
def But2 (a b : Addr) (h h' : Heap) : Prop := ∀ (x : Addr) (o : Obj), x ≠ a -> x ≠ b -> h.get? x = some o -> h'.get? x = some o
structure ESrc (c : Cfg) (it : Addr) (v : Value) (sv : AV) (l : List AV) (fp : List Addr) (St : Nat -> Heap -> Prop) (P : Shared -> Nat -> Value -> Prop) : Prop where
  mem : it ∈ fp
  frame : ∀ {i h h'}, St i h -> (∀ b ∈ fp, ∀ o, h.get? b = some o -> h'.get? b = some o) -> St i h'
  there : ∀ {i h} {b : Addr}, St i h -> b ∈ fp -> ∃ o, h.get? b = some o
  item : ∀ {i} {A : Around} {s : Shared} {Q : Value -> Shared -> Prop} {E : Value -> Shared -> Prop}, i < l.length -> St i s.heap ->
    (∀ x h' tk, P s i x -> St (i + 1) h' -> Heap.SameBut it s.heap h' -> Q x { s with heap := h', toks := tk }) -> wpAny c.M A (Builtin.SmallTypes.nextOf (.ref it)) Q E s
  val : ∀ {i} {s : Shared} {W : Wd} {H : AH} {x : Value} {av : AV}, P s i x -> St i s.heap -> Rel c W H s -> VR c W sv v -> l[i]? = some av -> VR c W av x
noncomputable def hofs (l : List Nat) : List AV := List.rec (motive := fun _ => List AV) [] (fun n _ ih => aHof n :: ih) l
theorem zF6 (l : List Nat) : hofs l = l.map aHof := by
  induction l with
  | nil => rfl
  | cons n l ih => exact congrArg (aHof n :: ·) ih
section
variable {c : Cfg} {d : Nat} {sc : Sc} {Γ : Ctx} {σ : Type} {W : Wd} {H : AH} {s : Shared} {A : Around} {env : Env}
theorem ESrc.lst {it a : Addr} {sv : AV} (e : sv.t = 13) (hne : a ≠ it) {vs : List Value} (hl : vs.length = sv.l.length) : ESrc c it (.ref a) sv sv.l [it, a] (fun i h => h.IsListIter it a i /\ h.IsList a vs.toArray) (fun _ i x => vs[i]? = some x) where
  mem := List.mem_cons_self ..
  frame := fun st k => ⟨Xr st.1 (k it (List.mem_cons_self ..)), st.2.at fun o e => k a (List.mem_cons_of_mem _ (List.mem_cons_self ..)) o e⟩
  there := fun {i h b} st hb => by
    rcases List.mem_cons.mp hb with rfl | hb
    · exact XO st.1
    · rw [List.mem_singleton.mp hb]; obtain ⟨o, ho, _⟩ := st.2; exact ⟨o, ho⟩
  item := fun {i A s Q E} hi st hQ => by
    have hi := hl ▸ hi
    have hx := List.getElem?_eq_getElem hi
    exact wpAny_nextOf_list_item st.1 st.2 (x := vs[i]) (by rw [List.getElem?_toArray]; exact hx) fun h' hit' hs' => hQ _ h' s.toks hx ⟨hit', st.2.extBut hs'.extBut hne⟩ hs'
  val := fun {i s W H x av} hp st R hv hav => by
    obtain ⟨a', ws, n, q, ho, hws⟩ := Yi R hv e
    cases q
    obtain ⟨o, ho', hc, m, hd⟩ := st.2
    cases ho.symm.trans ho'
    have hd : Data.seq ws.toArray n = Data.seq vs.toArray m := hd
    obtain rfl : ws = vs := congrArg Array.toList (Data.seq.inj hd).1
    obtain ⟨u, hu, hr⟩ := hws.get hav
    cases hp.symm.trans hu
    exact hr
theorem ESrc.str (hch : ∀ n, c.hn n = txt [n]) {it : Addr} {t : Tok} {sv : AV} : ESrc c it (.str (txt sv.s) t) sv (hofs sv.s) [it] (fun i h => h.IsStrIter it "str_ascii_iterator" (txt sv.s) t i) (fun s i v => ∃ n, sv.s[i]? = some n /\ v = .str (txt [n]) s.toks) where
  mem := List.mem_cons_self ..
  frame := fun st k => let ⟨o, ho, r⟩ := st; ⟨o, k it (List.mem_cons_self ..) o ho, r⟩
  there := fun {i h b} st hb => by
    rw [List.mem_singleton.mp hb]
    obtain ⟨o, ho, _⟩ := st
    exact ⟨o, ho⟩
  item := fun {i A s Q E} hi st hQ => by
    rw [zF6, List.length_map] at hi
    have hx := List.getElem?_eq_getElem hi
    exact wpAny_nextOf_ascii_item st (c := sv.s[i]) (by simp [txt, hi]) fun h' hit' hs' => hQ _ h' (s.toks + 1) ⟨_, hx, rfl⟩ hit' hs'
  val := fun {i s W H x av} hp st R hv hav => by
    obtain ⟨n, hn, rfl⟩ := hp
    rw [zF6, List.getElem?_map, hn] at hav
    cases hav
    have le := Nat.le_trans R.tok.2.1 R.tok.2.2
    exact ⟨s.toks, by rw [<- hch n]; rfl, Nat.ne_of_gt (Nat.lt_of_lt_of_le R.tok.1 le), le⟩
noncomputable def yq1 (ch : Bool) (sv : AV) (k : List AV -> Bool) : Bool := kd2 sv.t 13 (k sv.l) (kd sv.t 3 (gd ch (gd (Ys sv.s) (k (hofs sv.s)))))
inductive yt4 (s : Shared) (St : Nat -> Heap -> Prop) (r : Value) : Shared -> Prop
  | mk (h' : Heap) (e : r = .ref (s.heap.objs.size + 1)) (he : IsEnum h' (s.heap.objs.size + 1) s.heap.objs.size 0 .none) (st : St 0 h') (k : JV s.heap h') : yt4 s St r { s with heap := h' }
inductive zY1 (c : Cfg) (W : Wd) (s : Shared) (v : Value) (sv : AV) (k : List AV -> Bool) : Prop
  | mk (l : List AV) (fp : List Addr) (St : Nat -> Heap -> Prop) (P : Shared -> Nat -> Value -> Prop) (h : k l = true) (S : ESrc c s.heap.objs.size v sv l fp St P) (f : ∀ b ∈ fp, b = s.heap.objs.size \/ ∃ x o, W.μ b = some x /\ s.heap.get? b = some o)
      (q : ∀ {A : Around} {E : Value -> Shared -> Prop}, wpAny c.M A (call (.type "enumerate") [v]) (yt4 s St) E s) : zY1 c W s v sv k
theorem zJ2 {l : List Nat} (h : Ys l = true) : l.all (· < 128) = true := by
  induction l with
  | nil => rfl
  | cons x l ih =>
    obtain ⟨h1, h2⟩ := gd_t (show gd (Nat.blt x 128) (Ys l) = true from h)
    rw [List.all_cons, ih h2, decide_eq_true (Nat.blt_eq.mp h1)]
    rfl
theorem zw9 {ch : Bool} (hch : ch = true -> ∀ n, c.hn n = txt [n]) (R : Rel c W H s) {v : Value} {sv : AV} {k : List AV -> Bool} (hv : VR c W sv v) (hk : yq1 ch sv k = true) : zY1 c W s v sv k := by
  rcases ZS hk with ⟨e, hk⟩ | hk
  · have hv' := hv
    obtain ⟨a, rfl, hm⟩ := hv.at e
    obtain ⟨a', vs, n, q, ho, hvs⟩ := Yi R hv' e
    cases q
    refine ⟨_, _, _, _, hk, ESrc.lst e (Nat.ne_of_lt (Heap.lt_size ho)) hvs.len, fun b hb => ?_, ?_⟩
    · rcases List.mem_cons.mp hb with h | h
      · exact .inl h
      · rw [List.mem_singleton.mp h]; exact .inr ⟨_, _, hm, ho⟩
    · exact call_enumerate_list (ZX ho) fun h' he hit hz hk => ⟨h', rfl, he, ⟨hit, (ZX ho).at fun o e => hk _ _ e⟩, hk⟩
  · obtain ⟨e, hk⟩ := kd_t hk
    obtain ⟨e2, hk⟩ := gd_t hk
    obtain ⟨hasc, hk⟩ := gd_t hk
    obtain ⟨t, rfl⟩ := hv.at e
    refine ⟨_, _, _, _, hk, ESrc.str (hch e2), fun b hb => .inl (List.mem_singleton.mp hb), call_enumerate_str fun h' he hit hz hk => ⟨h', rfl, he, ?_, hk⟩⟩
    have : strIterType (txt sv.s) = "str_ascii_iterator" := by
      unfold strIterType
      rw [if_pos]
      show sv.s.toArray.all _ = true
      rw [List.all_toArray]
      exact zJ2 hasc
    rw [this] at hit
    exact hit
noncomputable def forE (f : AV -> AV -> σ -> CS σ) (l : List AV) : Nat -> σ -> CS σ := List.rec (motive := fun _ => Nat -> σ -> CS σ) (fun _ _ _ _ _ => false) (fun v _ ih i st H kn kr => f (aI (.ofNat i)) v st H (fun st1 H1 => ih (Nat.succ i) st1 H1 kn kr) kr) l
noncomputable def yg4 (ch : Bool) (it : CE) (f : AV -> AV -> σ -> CS σ) (st : σ) : CS σ := fun H kn kr => it H fun sv H1 => yq1 ch sv fun l => forE f l 0 st H1 kn kr
inductive EInv (c : Cfg) (d : Nat) (sc : Sc) (A : Around) (e it : Addr) (env : Env) {σ : Type} (g : σ -> Ctx) (sv : AV) (v : Value) (l : List AV) (fp : List Addr) (St : Nat -> Heap -> Prop) (f : AV -> AV -> σ -> CS σ) (W₀ : Wd) (s₀ : Shared) (kn : σ -> AH -> Bool) (kr : AV -> AH -> Bool) (n : Nat) (s : Shared) : Prop
  | mk (W : Wd) (H : AH) (i : Nat) (st : σ) (old : Value) (D : Rdy c d sc (g st) A env W s H) (r : VR c W sv v) (en : IsEnum s.heap e it ((i : Nat) : Int) old) (hst : St i s.heap) (fI : Free c W it) (fJ : Free c W e) (hf : ∀ b ∈ fp, b ∉ W.ρ) (x : Ext (ownA env) W₀ W s₀ s)
    (h : forE f (l.drop i) i st H kn kr = true) (hn : n = l.length - i) : EInv c d sc A e it env g sv v l fp St f W₀ s₀ kn kr n s
theorem zH3 {x y : Str} {px py tp : Pos} {tn : Nat} {body orelse : List Stmt} {e it : Addr} {v : Value} {sv : AV} {l : List AV} {fp : List Addr} {St : Nat -> Heap -> Prop} {P : Shared -> Nat -> Value -> Prop} {g : σ -> Ctx} {f : AV -> AV -> σ -> CS σ}
    (S : ESrc c it v sv l fp St P) (hx : Zr sc x = true) (hy : Zr sc y = true) (hef : e ∉ fp) (hei : e ≠ it) (heach : ∀ env, assignEach [.Name x px, .Name y py] env = [(false, assign (.Name x px) env), (false, assign (.Name y py) env)])
    (hb : ∀ i w st, SimS c d sc ((y, w) :: (x, i) :: g st) body g (f i w st)) {s₀ : Shared} {W₀ : Wd} {old : Value} {st : σ} {kn : σ -> AH -> Bool} {kr : AV -> AH -> Bool} {E : Value -> Shared -> Prop}
    (D : Rdy c d sc (g st) A env W s H) (hsv : VR c W sv v) (he : IsEnum s.heap e it 0 old) (hst : St 0 s.heap) (fI : Free c W it) (fJ : Free c W e) (hI0 : s₀.heap.get? it = none) (hJ0 : s₀.heap.get? e = none) (hIo : it ∉ ownA env) (hJo : e ∉ ownA env) (X : Ext (ownA env) W₀ W s₀ s)
    (hf : ∀ b ∈ fp, b ∉ W.ρ) (hfo : ∀ b ∈ fp, b ∉ ownA env) (hk : forE f l 0 st H kn kr = true) :
    codeAny c.M A (.forLoop (.Tuple [.Name x px, .Name y py] tn tp) (.ref e) body orelse env) (fun r s' => match r with | .ok fl => PS c W₀ s₀ env g kn kr fl s' | .error e => E e s') s := by
  refine codeAny_forLoop_any (EInv c d sc A e it env g sv v l fp St f W₀ s₀ kn kr) ?_ l.length ⟨W, H, 0, st, old, D, hsv, he, hst, fI, fJ, hf, X, hk, rfl⟩
  rintro n s ⟨W, H, i, st, old, D, hsv, he, hst, fI, fJ, hf, X, hk, rfl⟩
  cases hi : l[i]? with
  | none =>
    rw [List.drop_eq_nil_iff.mpr (List.getElem?_eq_none_iff.mp hi)] at hk
    cases hk
  | some av =>
    obtain ⟨hlt, hav⟩ := List.getElem?_eq_some_iff.mp hi
    rw [List.drop_eq_getElem_cons hlt, hav] at hk
    refine ZP (zm0 (P := P s i) (St' := St (i + 1)) (fp := fp) (fun h => S.item hlt hst h) (fun h h' => S.frame) he hei hef fun xv h1 tk hP ho1 hst1 hT1 hz1 hk1 le => ?_)
    refine wpAny_letOwnedTupleGo_enum ho1 fun h2 he2 hs2 => ?_
    obtain ⟨nT, fT⟩ := YA D.R
    have hTe : s.heap.objs.size ≠ e := fun q => Nat.lt_irrefl _ (q ▸ Heap.lt_size he)
    have hb2 : But2 e it s.heap h2 := fun b o h3 h4 e5 => (hs2.2 b h3).trans (hk1 b o h3 h4 e5)
    have hoT : h2.get? s.heap.objs.size = some (YX [.int i tk, xv] 0) := (hs2.2 _ hTe).trans hT1
    have R2 : Rel c W H { s with heap := h2, toks := tk + 1 } := D.R.stay (fun a o n e => hb2 a o (fun q => n (q ▸ fJ)) (fun q => n (q ▸ fI)) e) le
    have F2 : FrR c W { s with heap := h2, toks := tk + 1 } env (g st) := D.F.move (.refl W) (fun a o m e => hb2 a o (fun q => hJo (q ▸ m)) (fun q => hIo (q ▸ m)) e) fun _ _ _ _ h1 h2 => ⟨h1, h2⟩
    have X2 : Ext (ownA env) W₀ W s₀ { s with heap := h2, toks := tk + 1 } := ⟨X.le, X.out, X.nw, fun b o m1 m2 e => hb2 b o (fun q => Yy hJ0 (q ▸ e)) (fun q => Yy hI0 (q ▸ e)) (X.kp b o m1 m2 e),
      fun b o e => (X.al b o e).imp fun o' e' => hb2 b o' (fun q => Yy hJ0 (q ▸ e)) (fun q => Yy hI0 (q ▸ e)) e', X.gk.trans (.of le)⟩
    have hst2 : St (i + 1) h2 := S.frame hst1 fun b hb o e5 => (hs2.2 b fun q => hef (q ▸ hb)).trans e5
    refine zy8 (xs := [(x, px), (y, py)]) (l := [aI (.ofNat i), av]) ⟨D.hA, D.hs, F2, R2⟩ hoT ⟨_, _, rfl, ⟨tk, rfl⟩, _, _, rfl, S.val hP hst D.R hsv hi, rfl⟩ rfl (fun p hp => ?_) (heach env) fun s3 Y hY X3 D3 => ?_
    · rcases List.mem_cons.mp hp with rfl | hp
      · exact hx
      · rw [List.mem_singleton.mp hp]; exact hy
    have X3 : Ext (ownA env) W W { s with heap := h2, toks := tk + 1 } s3 := X3.mono fun a ha => (hY a ha).elim fun _ h => h.2.own
    refine wpAny_mono (hb (aI (.ofNat i)) av st A env W s3 H _ _ D3 hk) (fun fl s4 p4 => ?_) noe
    cases p4 with
    | ret z H4 W4 h X4 R4 r => exact .ret z H4 W4 h (X2.trans (X3.trans X4)) R4 r
    | next st4 H4 W4 h X4 R4 F4 =>
      have X34 := X3.trans X4
      have hst4 : St (i + 1) s4.heap := S.frame hst2 fun b hbf o e5 => X34.kp b o (X34.notin (hf b hbf) e5) (hfo b hbf) e5
      have he4 : IsEnum s4.heap e it ((i : Int) + 1) xv := X34.kp e _ (X34.notin fJ.r he2) hJo he2
      obtain ⟨o, ho⟩ := S.there hst2 S.mem
      exact ⟨l.length - (i + 1), Nat.sub_lt_sub_left hlt (Nat.lt_succ_self i), W4, H4, i + 1, st4, xv, ⟨D.hA, D.hs, F4, R4⟩, hsv.ext X34, he4, hst4, X34.free fI ho, X34.free fJ he2, fun b hbf => (S.there hst2 hbf).elim fun _ ho => X34.notin (hf b hbf) ho, X2.trans X34, h, rfl⟩
theorem zl6 (S : Stat c) {ch : Bool} (hch : ch = true -> ∀ n, c.hn n = txt [n]) {x y : Str} {px py tp pn pc pos : Pos} {tn : Nat} {e1 : PySem.Expr} {body orelse : List Stmt} {it : CE} {g : σ -> Ctx} {f : AV -> AV -> σ -> CS σ} {st : σ}
    (hit : SimE c d sc Γ e1 it) (hen : nsIn c.K mainGlobals "enumerate" = some none) (hsc : sc.lookup ("enumerate" : Str) = some .globalImplicit) (hx : Zr sc x = true) (hy : Zr sc y = true)
    (hg : ∀ y av, (g st).lookup y = some av -> Γ.lookup y = some av) (hb : ∀ i w st, SimS c d sc ((y, w) :: (x, i) :: g st) body g (f i w st))
    (heach : ∀ env, assignEach [.Name x px, .Name y py] env = [(false, assign (.Name x px) env), (false, assign (.Name y py) env)] := by intro _; rfl) (he : ∀ env, starEach [e1] env = (false, eval e1 env) :: starEach [] env := by intro _; rfl)
    (hplain : ∀ env, (backTo pc (starEach [e1] env)).any (·.1) = false := by intro _; rfl) (hs : ∀ (env : Env) v, foldedSetIterable (.Call (.Name "enumerate" pn) [e1] [] pc) env v = pure v := by intro _ _; rfl) :
    Sim1 c d sc Γ (.For (.Tuple [.Name x px, .Name y py] tn tp) (.Call (.Name "enumerate" pn) [e1] [] pc) body orelse pos) g (yg4 ch it f st) := fun A env W s H kn kr D hk => by
  refine wpAny_For ?_ (hs env)
  refine wpAny_Call_Name_kw (zr3 (v := .type "enumerate") S D hsc hen (by rfl) (by decide) ?_ (by decide))
  have hbe : backTo pc (starEach [e1] env) = (false, eval e1 env) :: backTo pc (starEach [] env) := by rw [he]; rfl
  show wpAny c.M A (callWith pc (.type "enumerate") [] (backTo pc (starEach [e1] env)) []) _ _ _
  refine PyProof.Rows.callWith_type (hplain env) ?_
  rw [hbe]
  refine Calls.evalArgs_plain ?_
  rw [<- hbe]
  refine spliced_more (hit.use D hk fun sv v H1 W1 s1 k1 x1 D1 v1 => spliced_none ?_) (he env)
  obtain ⟨l, fp, St, P, k2, ES, hfp, hcall⟩ := zw9 hch D1.R v1 k1
  refine wpAny_mono hcall (fun r s2 p2 => ?_) fun _ _ h => h
  obtain ⟨h', rfl, hE, hst, hk2⟩ := p2
  refine wpAny_pyIter_enum hE ?_
  have x2 : Ext [] W1 W1 s1 { s1 with heap := h' } := .grow hk2 (.of (Nat.le_refl _))
  have nI : s1.heap.get? s1.heap.objs.size = none := Ya (Nat.le_refl _)
  have nJ : s1.heap.get? (s1.heap.objs.size + 1) = none := Ya (Nat.le_succ _)
  have lt : ∀ b ∈ fp, b ≠ s1.heap.objs.size + 1 := fun b hb => by
    rcases hfp b hb with rfl | ⟨_, _, _, ho⟩
    · exact Nat.ne_of_lt (Nat.lt_succ_self _)
    · exact Nat.ne_of_lt (Nat.lt_succ_of_lt (Heap.lt_size ho))
  refine zH3 (E := cameBackBy c.M A env NoE) ES hx hy (fun h => lt _ h rfl) (Nat.succ_ne_self _) heach hb ⟨D.hA, D.hs, (D1.F.ext x2).weak hg, D1.R.grow hk2 (Nat.le_refl _)⟩ (v1.ext x2) hE hst (D1.R.free nI) (D1.R.free nJ) (Yt x1.al nI) (Yt x1.al nJ) (D1.F.fresh nI) (D1.F.fresh nJ) (x1.any.trans x2.any) (fun b hb => ?_) (fun b hb hm => ?_) k2
  · rcases hfp b hb with rfl | ⟨x, _, hm, _⟩
    · exact (D1.R.free nI).r
    · exact (D1.R.frz _ _ hm).1
  · rcases hfp b hb with rfl | ⟨x, _, hx, _⟩
    · exact D1.F.fresh nI hm
    · rcases List.mem_cons.mp hm with rfl | hm
      · exact nomatch D1.F.loc.m.symm.trans hx
      · obtain ⟨p, hp, rfl⟩ := List.mem_map.mp hm
        exact nomatch (D1.F.cellAt p hp).2.1.symm.trans hx
end
structure Toks (c : Cfg) (ch : Bool) : Prop where
  lo : ∀ k, c.ht k ≠ 0 /\ c.ht k < c.t0
  inj : ch = false -> ∀ i k, i < 7 -> k < 7 -> c.ht i = c.ht k -> i = k
  nb : nsIn c.K cStatics sharingNotToldKey = some none
noncomputable def yb0 (ch : Bool) (x y : AV) (k : Bool -> Bool) : Bool := kd y.t 4 (kd2 x.t 5 (k (Nat.beq x.m y.m)) (kd x.t 4 (gd (notB ch) (gd (Nat.blt x.m (nat_lit 7)) (gd (Nat.blt y.m (nat_lit 7)) (k (Nat.beq x.m y.m)))))))
noncomputable def yf5 (ch : Bool) (x y : AV) : CT := fun H k => yb0 ch x y fun z => k z H
noncomputable def YV (ch : Bool) (a b : AV) : CS Unit := seqC (yg4 ch (litC a) (fun i w (_ : Unit) => seqC (ifC (yf5 ch w b) (retC (litC i)) (Zt ())) (fun _ => Zt ())) ()) (fun _ => YY)
noncomputable def XQ (a b : AV) : Ctx := [("a", a), ("b", b)]
def Sub (Γ' Γ : Ctx) : Prop := ∀ y av, Γ'.lookup y = some av -> Γ.lookup y = some av
theorem Sub.refl {Γ : Ctx} : Sub Γ Γ := fun _ _ h => h
theorem YJ {Γ : Ctx} : Sub [] Γ := fun _ _ h => nomatch h
theorem Zi {n : Str} {v : AV} {Γ' Γ : Ctx} (h : Γ.lookup n = some v) (r : Sub Γ' Γ) : Sub ((n, v) :: Γ') Γ := fun y av e => (ZE e).elim (fun q => q.1 ▸ q.2 ▸ h) fun q => r y av q.2
section
variable {c : Cfg} {d : Nat} {sc : Sc} {Γ : Ctx} {A : Around} {env : Env} {W : Wd} {H : AH} {s : Shared}
theorem zQ8 {y z : Str} {u v : Tok} {E : Value -> Shared -> Prop} (hu : u ≠ 0) (hv : v ≠ 0) (hb : NoneBooked s.heap) (hd : y ≠ z -> u ≠ v) : wpAny c.M A (isSame (.str y u) (.str z v)) (fun r s' => s' = s /\ (r = true -> y = z)) E s := by
  by_cases e : y = z
  · exact wpAny_isSame_str (by simp [hu, hv]) hb fun b => ⟨rfl, fun _ => e⟩
  · show wpAny c.M A (isSame.created (y == z) u v) _ E s
    unfold isSame.created
    rw [if_neg (by simp [hu, hv]), if_neg (by simpa using hd e), if_pos (by simpa using e)]
    exact wpAny_pure ⟨rfl, fun h => by cases h⟩
theorem Xb {x : Str} {pos : Pos} {av : AV} (F : FrR c W s env Γ) (hx : Γ.lookup x = some av) (hd : (x == ("__debug__" : Str)) = false) (hd2 : (x == ("__classdict__" : Str)) = false) : wpAny c.M A (eval (.Name x pos) env) (fun v s' => s' = s /\ VR c W av v) NoE s := by
  refine wpAny_Name ?_ hd
  by_cases hl : env.kindOf x = some .local
  · obtain ⟨m, hn, hv⟩ := F.ns
    obtain ⟨v, h1, h2⟩ := hv x av hx hl
    exact wpAny_loadName_local F.kind hl hn h1 ⟨rfl, h2⟩
  · obtain ⟨h1, a, v, h2, h4, h5⟩ := F.cells x av hx hl
    rcases h1 with h1 | h1
    · exact wpAny_loadName_cell F.kind h1 h2 h4 ⟨rfl, h5⟩
    · exact wpAny_loadName_free F.kind h1 h2 h4 ⟨rfl, h5⟩ hd2
inductive yt3 (c : Cfg) (W : Wd) (a b : AV) (u v : Value) : Prop
  | mk (t t' : Tok) (h1 : u = .str (c.hn a.m) t) (h2 : v = .str (c.hn b.m) t') (h3 : t ≠ 0) (h4 : t' ≠ 0) (h5 : c.hn a.m ≠ c.hn b.m -> t ≠ t') : yt3 c W a b u v
theorem yp9 {ch : Bool} (T : Toks c ch) {a b : AV} {k : Bool -> Bool} (h : yb0 ch a b k = true) : k (Nat.beq a.m b.m) = true /\ ∀ {u v : Value}, VR c W a u -> VR c W b v -> yt3 c W a b u v := by
  obtain ⟨e, h⟩ := kd_t h
  rcases ZS h with ⟨e2, h⟩ | h
  · refine ⟨h, fun hu hv => ?_⟩
    obtain ⟨t, hu, h0, ht⟩ := hu.at e2
    exact ⟨_, _, hu, hv.at e, h0, (T.lo b.m).1, fun _ e => Nat.lt_irrefl _ (Nat.lt_of_lt_of_le (e ▸ (T.lo b.m).2) ht)⟩
  · obtain ⟨e2, h⟩ := kd_t h
    obtain ⟨h1, h⟩ := gd_t h
    obtain ⟨h2, h⟩ := gd_t h
    obtain ⟨h3, h⟩ := gd_t h
    exact ⟨h, fun hu hv => ⟨_, _, hu.at e2, hv.at e, (T.lo a.m).1, (T.lo b.m).1, fun hne q => hne (congrArg c.hn (T.inj (by cases ch; rfl; cases h1) _ _ (Nat.blt_eq.mp h2) (Nat.blt_eq.mp h3) q))⟩⟩
theorem zv0 (S : Stat c) {ch : Bool} (T : Toks c ch) {x y : Str} {p1 p2 p3 p4 q1 q2 pos : Pos} {a b : AV} (hx : Γ.lookup x = some a) (hy : Γ.lookup y = some b) (hdx : (x == ("__debug__" : Str)) = false) (hdx2 : (x == ("__classdict__" : Str)) = false) (hdy : (y == ("__debug__" : Str)) = false) (hdy2 : (y == ("__classdict__" : Str)) = false) :
    SimT c d sc Γ (.BoolOp .Or [.Compare (.Name x p1) [.Is] [.Name y p2] q1, .Compare (.Name x p3) [.Eq] [.Name y p4] q2] pos) (yf5 ch a b) := fun A env W s H kk D hk => by
  obtain ⟨hk, hst⟩ := yp9 (W := W) T hk
  show wpAny _ _ (isTrue (.Compare (.Name x p1) [.Is] [.Name y p2] q1) env (eval (.Compare (.Name x p1) [.Is] [.Name y p2] q1) env) >>= fun x' => match BoolOp.Or, x' with
      | .And, false => pure false
      | .Or, true => pure true
      | _, _ => isTrue (.Compare (.Name x p3) [.Eq] [.Name y p4] q2) env (eval (.Compare (.Name x p3) [.Eq] [.Name y p4] q2) env) >>= fun y => match BoolOp.Or, y with
        | .And, false => pure false
        | .Or, true => pure true
        | _, _ => pure (BoolOp.Or == .And)) _ _ _
  have hnb : NoneBooked s.heap := by
    obtain ⟨mc, hn, _⟩ := (D.R.top S).nolimit
    exact ⟨mc, hn, ns_none_of (D.R.in S) hn T.nb⟩
  refine wpAny_bind (wpAny_isTrue_Compare1 (wpAny_mono (Xb D.F hx hdx hdx2) (fun u s1 p1 => ?_) noe) (by rfl))
  obtain ⟨rfl, hu⟩ := p1
  refine wpAny_mono (Xb D.F hy hdy hdy2) (fun v s2 p2 => ?_) noe
  obtain ⟨rfl, hv⟩ := p2
  obtain ⟨t, t', rfl, rfl, h0, h0', hne⟩ := hst hu hv
  show wpAny _ _ (isSame (.str (c.hn a.m) t) (.str (c.hn b.m) t') >>= fun b => pure (Value.bool b)) _ _ _
  refine wpAny_bind (wpAny_mono (zQ8 h0 h0' hnb hne) (fun r s3 p3 => wpAny_pure ?_) noe)
  obtain ⟨rfl, hr⟩ := p3
  refine wpAny_truthy_bool ?_
  cases r with
  | true =>
    rw [S.hinj _ _ (hr rfl), Nat.beq_refl] at hk
    exact wpAny_pure (.now D.R hk rfl)
  | false =>
    refine wpAny_bind (wpAny_isTrue_Compare1 (wpAny_mono (Xb D.F hx hdx hdx2) (fun u' s1 p1 => ?_) noe) (by rfl))
    obtain ⟨rfl, hu'⟩ := p1
    refine wpAny_mono (Xb D.F hy hdy hdy2) (fun v' s2 p2 => ?_) noe
    obtain ⟨rfl, hv'⟩ := p2
    obtain ⟨t2, t3, rfl, rfl, _⟩ := hst hu' hv'
    refine PyProof.Rows.eq_str (wpAny_truthy_bool ?_)
    have e : (c.hn a.m == c.hn b.m) = Nat.beq a.m b.m := by
      rw [Bool.eq_iff_iff, beq_iff_eq]
      exact ⟨fun h => S.hinj _ _ h ▸ Nat.beq_refl _, fun h => congrArg c.hn (Nat.eq_of_beq_eq_true h)⟩
    rw [e]
    cases hb : Nat.beq a.m b.m <;> (rw [hb] at hk; exact wpAny_pure (.now D.R hk rfl))
theorem yf8 (S : Stat c) {ch : Bool} (T : Toks c ch) (hch : ch = true -> ∀ n, c.hn n = txt [n]) (hen : nsIn c.K mainGlobals "enumerate" = some none) (a b : AV) : SimS c d (Zv 23).names (XQ a b) (Ye 23) (fun _ : Unit => XQ a b) (YV ch a b) :=
  Zc (g := fun _ : Unit => XQ a b) (zl6 S hch (g := fun _ : Unit => XQ a b) (Za (by rfl) (by decide) (by decide)) hen (by decide +kernel) (by decide +kernel) (by decide +kernel) (fun _ _ h => h)
    (fun i w _ => Zc (g := fun _ : Unit => XQ a b) (ZJ (zv0 S T (by rfl) (by rfl) (by decide) (by decide) (by decide) (by decide)) (Zo (Za (by rfl) (by decide) (by decide))) (Zj () (Zi (by rfl) (Zi (by rfl) YJ)))) (fun _ => Zj () fun _ _ h => h))) (fun _ => Zu)
theorem SimP.weak {σ : Type} {t : Env -> Sem Flow} {g g' : σ -> Ctx} {a : CS σ} (h : SimP c d sc Γ t g a) (hg : ∀ x, Sub (g' x) (g x)) : SimP c d sc Γ t g' a := fun A env W s H kn kr D hk =>
  wpAny_mono (h A env W s H kn kr D hk) (fun fl s1 p => by
    cases p with
    | next st H' W' h X R F => exact .next st H' W' h X R (F.weak (hg st))
    | ret x H' W' h X R r => exact .ret x H' W' h X R r) noe
theorem zS9 {x : Str} {fd : FuncData} (h : ∀ (s : Shared) (u : Value), BindsTo s fd ⟨[u], []⟩ [(x, u)]) : ZA fd [x] := fun s vals hv => by
  obtain ⟨u, rfl⟩ := List.length_eq_one_iff.mp hv
  exact h s u
theorem XM {names : List Str} {ss : List Stmt} {b : AV -> CS Unit} (h : ∀ x, SimS c d sc (names.zip [x]) ss (fun _ => []) (b x)) (avs : List AV) : SimS c d sc (names.zip avs) ss (fun _ => []) (on1 b avs) := by
  cases avs with
  | nil => exact Zu
  | cons x r => cases r with
    | nil => exact h x
    | cons y r => exact Zu
theorem YK {names : List Str} {ss : List Stmt} {b : AV -> AV -> CS Unit} (h : ∀ x y, SimS c d sc (names.zip [x, y]) ss (fun _ => []) (b x y)) (avs : List AV) : SimS c d sc (names.zip avs) ss (fun _ => []) (on2 b avs) := by
  cases avs with
  | nil => exact Zu
  | cons x r => cases r with
    | nil => exact Zu
    | cons y r => cases r with
      | nil => exact h x y
      | cons z r => exact Zu
theorem zW5 {fd : FuncData} (S : Stat c) (D : Def c 23 fd) {ch : Bool} (T : Toks c ch) (hch : ch = true -> ∀ n, c.hn n = txt [n]) (hen : nsIn c.K mainGlobals "enumerate" = some none) : FnC c (d + 1) 23 fd ["a", "b"] (Zn (on2 (YV ch))) :=
  Yd S D (YK fun a b => (yf8 S T hch hen a b).weak fun _ => YJ) ⟨by decide, by decide +kernel, by decide +kernel⟩
noncomputable def Cfg.aside (c : Cfg) (s : Shared) (hn : Nat -> Str) (ht : Nat -> Tok) (t0 : Nat) (fa : Nat -> Addr) : Cfg := { c with hb := s.heap.get?, hn := hn, ht := ht, t0 := t0, fa := fa }
noncomputable abbrev JT (s : Shared) (μ : Addr -> Option AV) : Wd := ⟨[], μ, s.toks, fun _ => none⟩
variable {hn : Nat -> Str} {ht : Nat -> Tok} {t0 : Nat} {fa : Nat -> Addr} {μ : Addr -> Option AV}
theorem JQ (h1 : 0 < t0) (h2 : t0 <= s.toks) (hμ : ∀ a x, μ a = some x -> ∃ o, s.heap.get? a = some o /\ FZ (c.aside s hn ht t0 fa) (JT s μ) x o) : Rel (c.aside s hn ht t0 fa) (JT s μ) YP s :=
  ⟨rfl, Nat.zero_le _, List.nodup_nil, ⟨fun _ _ h => (nomatch h), fun _ _ _ h => (nomatch h), fun _ _ => rfl⟩, fun i a hi => (nomatch hi), fun a x h => ⟨fun h => (nomatch h), hμ a x h⟩, fun a o e => ⟨e, fun h => (nomatch h)⟩, h1, h2, Nat.le_refl _⟩
theorem VT (S : Stat c) (R : Rel c W H s) (hi : ∀ i j, hn i = hn j -> i = j) : Stat (c.aside s hn ht t0 fa) := ⟨fun a o e => R.in S a o e, fun h hk => (R.top S).keeps hk, S.sysm.imp fun o ho => (R.st _ _ ho).1, hi⟩
theorem JS {i : Nat} {fd : FuncData} (D : Def c i fd) (e : fa i = c.fa i) : Def (c.aside s hn ht t0 fa) i fd := ⟨⟨⟨by show ∃ o, c.K.lookup (fa i) = some o /\ o.data = .func fd; exact e ▸ D.at'.ob, D.at'.cd, D.at'.glob, D.at'.clo, D.at'.blt, D.at'.co, D.at'.gen, D.at'.kd, D.at'.src⟩, by show nsIn c.K mainGlobals fd.name = some (some (.ref (fa i))); exact e ▸ D.at'.ns⟩, D.name, D.body, D.scope, D.params⟩
theorem JR {s' : Shared} {k : AV -> AH -> Bool} {r : Result} (R : Rel c W H s) (p : PC (c.aside s hn ht t0 fa) (JT s μ) s (XB k H) r s') : PC c W s k r s' := by
  obtain ⟨v, rfl, av, H', W', hk, x, _, hv⟩ := p
  obtain ⟨e, hk⟩ := kd_t hk
  obtain ⟨t, rfl⟩ := hv.at e
  have still : ∀ a o, s.heap.get? a = some o -> s'.heap.get? a = some o := fun a o e => x.kp a o (x.notin (fun h => nomatch h) e) (fun h => nomatch h) e
  exact ⟨_, rfl, aI av.i, H, W, hk, .grow still x.gk, R.grow still x.gk.tk, t, rfl⟩
noncomputable def VS (x : AV) : Bool := sel (Nat.beq x.t 4) true (Nat.beq x.t 5)
theorem zn4 {W' : Wd} {m : List AV} : ∀ {vs : List Value}, allL VS m = true -> VRs c W m vs -> VRs (c.aside s c.hn c.ht c.t0 fa) W' m vs := by
  induction m with
  | nil => exact fun _ r => r
  | cons x m ih =>
    rintro _ h ⟨v, t, e, hv, ht⟩
    obtain ⟨h1, h2⟩ := gd_t (show gd (VS x) (allL VS m) = true from h)
    refine ⟨v, t, e, ?_, ih h2 ht⟩
    unfold VR
    rcases YR h1 with ⟨h1, _⟩ | ⟨_, h1⟩
    · rw [Nat.eq_of_beq_eq_true h1]; exact hv.at (Nat.eq_of_beq_eq_true h1)
    · rw [Nat.eq_of_beq_eq_true h1]; exact hv.at (Nat.eq_of_beq_eq_true h1)
noncomputable def idxQ : List AV -> CE := fun l H k => is2 l fun x y => kd2 x.t 3 (kd y.t 10 (gd (eqL y.s [y.m]) (Zn (on2 (YV true)) [x, VF y.m] YP (XB k H))))
  (kd x.t 11 (kd (hget H x.m).t 0 (gd (allL VS (hget H x.m).l) (kd y.t 4 (Zn (on2 (YV false)) [aL (hget H x.m).l, y] YP (XB k H))))))
theorem yg7 {fd : FuncData} (S : Stat c) (D : Def c 23 fd) (T : Toks c false) (hen : nsIn c.K mainGlobals "enumerate" = some none) : FnC c (d + 1) 23 fd ["a", "b"] idxQ := fun {A W H s k args avs vals} hA R hv hb hk => by
  obtain ⟨x, y, rfl, hk⟩ := Vz hk
  obtain ⟨u, t, rfl, hu, v, t', rfl, hv, rfl⟩ := hv
  have le := Nat.le_trans R.tok.2.1 R.tok.2.2
  rcases ZS hk with ⟨e, hk⟩ | hk
  · obtain ⟨e2, hk⟩ := kd_t hk
    obtain ⟨hs, hk⟩ := gd_t hk
    have hs := YL.mp hs
    obtain ⟨t1, rfl⟩ := hu.at e
    obtain ⟨t2, rfl, h0, hlt⟩ := hv.at e2
    have S' := VT (hn := fun n => txt [n]) (ht := fun _ => t2) (t0 := s.toks) (fa := c.fa) S R fun i j e => by simpa [txt] using e
    have T' : Toks (c.aside s (fun n => txt [n]) (fun _ => t2) s.toks c.fa) true := ⟨fun _ => ⟨h0, Nat.lt_of_lt_of_le hlt R.tok.2.2⟩, fun h => (nomatch h), T.nb⟩
    refine codeAny_mono (zW5 (d := d) S' (JS D rfl) T' (fun _ _ => rfl) hen hA (JQ (μ := fun _ => none) (Nat.lt_of_lt_of_le R.tok.1 le) (Nat.le_refl _) fun _ _ h => (nomatch h)) (avs := [x, VF y.m]) ?_ hb hk) fun r s' p => JR R p
    refine ⟨_, _, rfl, ?_, _, _, rfl, ?_, rfl⟩
    · unfold VR; rw [e]; exact ⟨t1, rfl⟩
    · show Value.str (txt y.s) t2 = .str (txt [y.m]) t2
      rw [hs]
  · obtain ⟨e, hk⟩ := kd_t hk
    obtain ⟨e2, hk⟩ := kd_t hk
    obtain ⟨hall, hk⟩ := gd_t hk
    obtain ⟨e3, hk⟩ := kd_t hk
    obtain ⟨a, o, rfl, ha, hob, vs, n, rfl, hvs⟩ := Yp R hu e e2
    have S' := VT (hn := c.hn) (ht := c.ht) (t0 := c.t0) (fa := c.fa) S R S.hinj
    have T' : Toks (c.aside s c.hn c.ht c.t0 c.fa) false := ⟨T.lo, T.inj, T.nb⟩
    refine codeAny_mono (zW5 (d := d) S' (JS D rfl) T' (fun h => (nomatch h)) hen hA (JQ (μ := fun b => if b = a then some (aL (hget H x.m).l) else none) R.tok.1 le fun b z h => ?_) (avs := [aL (hget H x.m).l, y]) ?_ hb hk) fun r s' p => JR R p
    · by_cases q : b = a
      · subst q
        cases (if_pos rfl).symm.trans h
        exact ⟨_, hob, vs, n, rfl, zn4 hall hvs⟩
      · cases (if_neg q).symm.trans h
    · refine ⟨_, _, rfl, ⟨a, rfl, if_pos rfl⟩, _, _, rfl, ?_, rfl⟩
      unfold VR; rw [e3]; exact hv.at e3
end
end Mine
end
section
namespace Mine
open PySem PyProof.Rows
section
variable {prog : Program} {w : World} {A : Around} {E : Value -> Shared -> Prop} {h : Heap} {g : Array GenState} {d : Drawn} {t : Nat} {os : OsState} {x : Str} {u : Tok}
theorem Vd : typeLookup (.type "str") "__getitem__" = pure (some (.builtin "str.__getitem__")) := by rw [typeLookup_type, builtinLookup_eq_fast]; kernel_rfl
theorem XZ : typeOf (.builtin "str.__getitem__") = pure (.type "wrapper_descriptor") := by kernel_rfl
theorem Vi : Slot "wrapper_descriptor" "__get__" "wrapper_descriptor.__get__" :=
  .of (owner := "wrapper_descriptor") (n := "__get__") (by rw [typeLookup_type, builtinLookup_eq_fast]; kernel_rfl) (by decide +kernel) (by decide +kernel) (by decide +kernel)
    (by first | exact .inl (by decide +kernel) | exact .inr (by decide +kernel)) (by rw [isSubtype_type]; kernel_rfl)
theorem zE2 : typeLookup (.type "wrapper_descriptor") "__set__" = pure none := by rw [typeLookup_type, builtinLookup_eq_fast]; kernel_rfl
theorem zE3 : typeLookup (.type "wrapper_descriptor") "__delete__" = pure none := by rw [typeLookup_type, builtinLookup_eq_fast]; kernel_rfl
theorem zj1 : entryFor table "wrapper_descriptor.__get__" = some Builtin.«wrapper_descriptor.__get__» := entryFor_of_tree (by kernel_rfl)
theorem zp0 (a b c : Value) : argsOk "wrapper_descriptor.__get__" ⟨[a, b, c], []⟩ := by unfold argsOk; kernel_rfl
theorem ze9 : entryFor table "hasattr" = some Builtin.«hasattr» := entryFor_of_fast (by kernel_rfl)
theorem zd6 : (".".intercalate ("str.__getitem__".cutAt '.').dropLast) = "str" := by
  have e0 : "str.__getitem__".cutAt '.' = ["str", "__getitem__"] := by first | rfl | decide +kernel
  rw [e0]; decide +kernel
theorem zk6 : isSubtype (.type "str") (.type (".".intercalate ("str.__getitem__".cutAt '.').dropLast)) = pure true := by
  rw [zd6, isSubtype_type]; kernel_rfl
noncomputable def Vr (x : Str) (u : Tok) : Obj := { cls := .type "method-wrapper", data := .fields #[.builtin "str.__getitem__", .str x u] }
local macro_rules | `(tactic| wp_step) => `(tactic| first | with_reducible (first | refine wpAny_pure ?_ | refine wpAny_bind ?_ | refine wpAny_holding ?_ | refine wpAny_standAt ?_ | refine wpAny_point ?_ | refine wpAny_rule ?_ | refine wpAny_letGo ?_ | refine wpAny_mkInt' ?_ | refine wpAny_mkStr' ?_ | refine wpAny_fresh' ?_ | refine wpAny_alloc' ?_ | refine wpAny_attempt ?_ | refine wpAny_throw ?_ | refine wpAny_of_eq (by assumption) ?_ | refine wpAny_typeOf (by assumption) ?_ | refine wpAny_specialOf_val (by assumption) (by assumption) ?_ | refine wpAny_specialOf (by assumption) (by assumption) ?_ | refine wpAny_isInstance_val (by assumption) (by assumption) ?_ | refine wpAny_isInstance (by assumption) (by assumption) ?_ | refine wpAny_call ?_ | refine wpAny_runValue ?_ | refine wpAny_run ?_) | wp_delta)
set_option maxHeartbeats 1000000 in
theorem zY5 {R : Result -> Shared -> Prop} (hq : R (.ok (.ret (.ref h.objs.size))) ⟨h.push (Vr x u), g, d, t, os⟩) :
    codeAny (model prog w) A (.call (.builtin "wrapper_descriptor.__get__") ⟨[.builtin "str.__getitem__", .str x u, .type "str"], []⟩) R ⟨h, g, d, t, os⟩ := by
  have hT : (⟨h, g, d, t, os⟩ : Shared).TypeIs (.str x u) "str" := rfl
  have hT5 : (⟨h, g, d, t, os⟩ : Shared).TypeIs (.builtin "str.__getitem__") "wrapper_descriptor" := XZ
  have f8 := zk6
  refine codeAny_call_builtin Vi.plain zj1 (Vi.check _ _ _ _ _ _ _ _ hT5 (zp0 _ _ _) ?_)
  repeat (any_goals (first | assumption | wp_step))
set_option maxHeartbeats 1000000 in
theorem zR6 {tk : Tok} {R : Fin -> Shared -> Prop} (hq : R (.done (.ret (.ref h.objs.size))) ⟨h.push (Vr x u), g, d, t, os⟩) :
    wpAny (model prog w) A (Builtin.«object.__getattribute__» ⟨[.str x u, .str "__getitem__" tk], []⟩) R E ⟨h, g, d, t, os⟩ := by
  have hT : (⟨h, g, d, t, os⟩ : Shared).TypeIs (.str x u) "str" := rfl
  have f4 := Vd
  have f5 := XZ
  have f6 := Vi.lookup
  have f7 := zE2
  have f8 := zE3
  repeat (any_goals (first | assumption | wp_step))
  refine zY5 ?_
  repeat (any_goals (first | assumption | wp_step))
theorem zR5 {tk : Tok} {R : Result -> Shared -> Prop} (hq : R (.ok (.ret (.ref h.objs.size))) ⟨h.push (Vr x u), g, d, t, os⟩) :
    codeAny (model prog w) A (.call (.builtin "object.__getattribute__") ⟨[.str x u, .str "__getitem__" tk], []⟩) R ⟨h, g, d, t, os⟩ :=
  codeAny_call_builtin F.slot_str_getattribute.plain F.entry_object_getattribute (F.slot_str_getattribute.check _ _ _ _ _ _ _ _ (show (⟨h, g, d, t, os⟩ : Shared).TypeIs (.str x u) "str" from rfl) (F.args_object_getattribute_2 _ _) (zR6 hq))
set_option maxHeartbeats 1000000 in
theorem yp0 {tk : Tok} {Q : Value -> Shared -> Prop} (hq : Q (.ref h.objs.size) ⟨h.push (Vr x u), g, d, t, os⟩) : wpAny (model prog w) A (getAttrBy (.str x u) (.str "__getitem__" tk) false) Q E ⟨h, g, d, t, os⟩ := by
  have hT : (⟨h, g, d, t, os⟩ : Shared).TypeIs (.str x u) "str" := rfl
  have f2 := F.slot_str_getattribute.lookup
  have f3 := F.slot_str_getattribute.bind (.str x u)
  repeat (any_goals (first | assumption | wp_step))
  refine zR5 ?_
  repeat (any_goals (first | assumption | wp_step))
set_option maxHeartbeats 1000000 in
theorem zn7 {tk : Tok} {Q : Fin -> Shared -> Prop} (hq : Q (.done (.ret (.bool true))) ⟨h.push (Vr x u), g, d, t, os⟩) : wpAny (model prog w) A (Builtin.«hasattr» ⟨[.str x u, .str "__getitem__" tk], []⟩) Q E ⟨h, g, d, t, os⟩ := by
  have hT : (⟨h, g, d, t, os⟩ : Shared).TypeIs (.str x u) "str" := rfl
  have f1 := Vd
  have f2 := F.slot_str_getattribute.lookup
  repeat (any_goals (first | assumption | with_reducible refine yp0 ?_ | wp_step))
end
end Mine
end
section
namespace Mine
open PySem PyProof.Rows
open PySem.W
theorem zi2 : builtinKind "hasattr" = none := by decide +kernel
theorem zd5 : plainId "hasattr" = true := by decide +kernel
theorem zj5 (a b : Value) : argsOk "hasattr" ⟨[a, b], []⟩ := by unfold argsOk; kernel_rfl
open Spec
structure HnOk (c : Cfg) : Prop where
  Yh : ∀ k, (c.hn k).length < 100000
  ok : ∀ k, k < 7 -> PyData.strOk (c.hn k) = true
noncomputable def hasF (H : AH) (l : List AV) (k : AV -> AH -> Bool) : Bool := is2 l fun x y => kd x.t 3 (kd y.t 3 (gd (eqL y.s [95, 95, 103, 101, 116, 105, 116, 101, 109, 95, 95]) (k (aB true) H)))
section
variable {c : Cfg} {d : Nat} {sc : Sc} {Γ : Ctx} {A : Around} {env : Env} {W : Wd} {H : AH} {s : Shared}
theorem zL9 {x : Str} {av : AV} (F : FrR c W s env Γ) (hx : Γ.lookup x = some av) (hd2 : (x == ("__classdict__" : Str)) = false) : wpAny c.M A (loadName env x) (fun v s' => s' = s /\ VR c W av v) NoE s := by
  by_cases hl : env.kindOf x = some .local
  · obtain ⟨m, hn, hv⟩ := F.ns
    obtain ⟨v, h1, h2⟩ := hv x av hx hl
    exact wpAny_loadName_local F.kind hl hn h1 ⟨rfl, h2⟩
  · obtain ⟨h1, a, v, h2, h4, h5⟩ := F.cells x av hx hl
    rcases h1 with h1 | h1
    · exact wpAny_loadName_cell F.kind h1 h2 h4 ⟨rfl, h5⟩
    · exact wpAny_loadName_free F.kind h1 h2 h4 ⟨rfl, h5⟩ hd2
theorem zu7 {x : Str} {px pos : Pos} {e : PySem.Expr} {a : CE} {n : AV} (ha : SimE c d sc Γ e a) (hn : Γ.lookup x = some n) (hx : Zr sc x = true) (hd2 : (x == ("__classdict__" : Str)) = false) : Sim1 c d sc Γ (.AugAssign (.Name x px) .Add e pos) (fun v => (x, v) :: Γ) (augC n a) := fun A env W s H kn kr D hk => by
  refine wpAny_AugAssign_Name (wpAny_mono (zL9 D.F hn hd2) (fun old s1 p1 => ?_) noe)
  obtain ⟨rfl, ho⟩ := p1
  refine ha.use D hk fun y u H1 W1 s2 k1 x1 D1 v1 => ?_
  obtain ⟨e1, k1⟩ := kd_t k1
  obtain ⟨e2, k1⟩ := kd_t k1
  obtain ⟨t, rfl⟩ := ho.at e1
  obtain ⟨t', rfl⟩ := v1.at e2
  have x2 : Ext [] W1 W1 s2 { s2 with toks := s2.toks + 1 } := .grow (fun _ _ e => e) (.of (Nat.le_succ _))
  exact iadd_int (Xh (av := aI (addI n.i y.i)) ⟨D1.hA, D1.hs, D1.F.ext x2, D1.R.tick (Nat.le_succ _)⟩ ⟨_, by rw [VU]; rfl⟩ hx fun s' X' D' => .next _ H1 W1 k1 ((x1.trans x2).any.trans X') D'.R D'.F)
theorem zw2 (O : HnOk c) {h : Heap} {m : List AV} : ∀ {vs : List Value}, allL ze6 m = true -> VRs c W m vs -> ∃ ds as, ReadsAll h vs ds as /\ PyData.canLayAll0 ds = true /\ PyData.depthAll ds <= 1 := by
  induction m with
  | nil => intro vs _ r; cases r; exact ⟨[], _, .nil, rfl, Nat.zero_le _⟩
  | cons x m ih =>
    rintro _ hall ⟨v, t, rfl, hv, ht⟩
    obtain ⟨h1, h2⟩ := gd_t (show gd (ze6 x) (allL ze6 m) = true from hall)
    obtain ⟨h3, h4⟩ := gd_t h1
    obtain rfl := hv.at (Nat.eq_of_beq_eq_true h3)
    obtain ⟨ds, as, r, l1, d1⟩ := ih h2 ht
    exact ⟨.str (c.hn x.m) :: ds, _, .cons (.str _ _) r, by simp [PyData.canLayAll0, PyData.canLay0, O.ok x.m (Nat.blt_eq.mp h4), l1], by simp only [PyData.depthAll, PyData.depth]; exact Nat.max_le.mpr ⟨Nat.zero_le _, d1⟩⟩
theorem zd1 (O : HnOk c) (h7 : 7 <= d) {x y : Str} {p1 p2 p3 p4 q1 q2 pos : Pos} {a b : AV} (hx : Γ.lookup x = some a) (hy : Γ.lookup y = some b) (hdx : (x == ("__debug__" : Str)) = false) (hdx2 : (x == ("__classdict__" : Str)) = false) (hdy : (y == ("__debug__" : Str)) = false) (hdy2 : (y == ("__classdict__" : Str)) = false) :
    SimT c d sc Γ (.BoolOp .Or [.Compare (.Name x p1) [.Is] [.Name y p2] q1, .Compare (.Name x p3) [.Eq] [.Name y p4] q2] pos) (yn4 a b) := fun A env W s H k D hk => by
  obtain ⟨eb, hk⟩ := kd_t hk
  show wpAny _ _ (isTrue (.Compare (.Name x p1) [.Is] [.Name y p2] q1) env (eval (.Compare (.Name x p1) [.Is] [.Name y p2] q1) env) >>= fun x' => match BoolOp.Or, x' with
      | .And, false => pure false
      | .Or, true => pure true
      | _, _ => isTrue (.Compare (.Name x p3) [.Eq] [.Name y p4] q2) env (eval (.Compare (.Name x p3) [.Eq] [.Name y p4] q2) env) >>= fun y => match BoolOp.Or, y with
        | .And, false => pure false
        | .Or, true => pure true
        | _, _ => pure (BoolOp.Or == .And)) _ _ _
  refine wpAny_bind (wpAny_isTrue_Compare1 (wpAny_mono (Xb D.F hx hdx hdx2) (fun u s1 p1 => ?_) noe) (by rfl))
  obtain ⟨rfl, hu⟩ := p1
  refine wpAny_mono (Xb D.F hy hdy hdy2) (fun v s2 p2 => ?_) noe
  obtain ⟨rfl, hv⟩ := p2
  obtain rfl := hv.at eb
  rcases ZS hk with ⟨e, hk⟩ | hk
  · obtain rfl := hu.at e
    exact is_none_none (wpAny_truthy_bool (wpAny_pure (.now D.R hk rfl)))
  · obtain ⟨e, hk⟩ := kd_t hk
    obtain ⟨hall, hk⟩ := gd_t hk
    obtain ⟨hsh, hk⟩ := ZG hk
    obtain ⟨a', vs, n, rfl, ho, hvs⟩ := Yi D.R hu e
    refine is_ref_none (wpAny_truthy_bool ?_)
    refine wpAny_bind (wpAny_isTrue_Compare1 (wpAny_mono (Xb D.F hx hdx hdx2) (fun u' s1 p1 => ?_) noe) (by rfl))
    obtain ⟨rfl, hu'⟩ := p1
    refine wpAny_mono (Xb D.F hy hdy hdy2) (fun v' s2 p2 => ?_) noe
    obtain ⟨rfl, hv'⟩ := p2
    obtain rfl := hv'.at eb
    obtain ⟨a2, vs2, n2, rfl, ho2, hvs2⟩ := Yi D.R hu' e
    obtain ⟨ds, as, h2, h3, h4⟩ := zw2 (h := s2.heap) O hall hvs2
    have ra : Reads s2.heap (.ref a2) (.list ds) _ := .list ho2 rfl rfl h2
    refine eq_dataH_same ra .none ?_ (by rfl) (by have := D.hA.un; omega) (by simp [SeqAt.noMix]) (wpAny_truthy_bool ?_)
    · unfold SeqAt.shaped
      simp only [PyData.canLay0, h3, PyData.depth]
      simp; omega
    · have e : Spec.same (.list ds) .none = false := by simp [Spec.same]
      rw [e]
      exact wpAny_pure (.now D.R hk rfl)
theorem yh5 (O : HnOk c) (h7 : 7 <= d) (a b : AV) : SimS c d (Zv 22).names (XQ a b) (Ye 22) (fun _ : Unit => []) (zf0 a b) := by
  refine Zc (Zm Zg (by decide +kernel)) fun n0 => ?_
  refine Zc (g := fun n => ("count", n) :: XQ a b) (ZY (g := fun n => ("count", n) :: XQ a b) (Za (by rfl) (by decide) (by decide)) (by decide +kernel) (fun _ _ h => h) (fun x n => ?_)) fun n => Zo (Za (by rfl) (by decide) (by decide))
  refine Zc (g := fun n => ("count", n) :: XQ a b) (ZJ (zd1 O h7 (by rfl) (by rfl) (by decide) (by decide) (by decide) (by decide)) ?_ (Zj n (Zi (by rfl) (Zi (by rfl) (Zi (by rfl) YJ))))) fun n' => Zj n' fun _ _ h => h
  exact Zc (zu7 Zg (by rfl) (by decide +kernel) (by decide)) fun n' => Zj n' (Zi (by rfl) (Zi (by rfl) (Zi (by rfl) YJ)))
theorem yp4 {fd : FuncData} (S : Stat c) (D : Def c 22 fd) (O : HnOk c) (h7 : 7 <= d) : FnC c (d + 1) 22 fd ["a", "b"] (Zn (on2 zf0)) := Yd S D (YK fun a b => yh5 O h7 a b) ⟨by decide, by decide +kernel, by decide +kernel⟩
theorem zx6 : BiOk c d (.builtin "hasattr") hasF := fun {A W H s args us k} hA R hus hk => by
  obtain ⟨x, y, rfl, hk⟩ := Vz hk
  obtain ⟨e1, hk⟩ := kd_t hk
  obtain ⟨e2, hk⟩ := kd_t hk
  obtain ⟨hn, hk⟩ := gd_t hk
  obtain ⟨u, r, rfl, hu, v, r2, rfl, hv, rfl⟩ := hus
  obtain ⟨t, rfl⟩ := hu.at e1
  obtain ⟨t2, rfl⟩ := hv.at e2
  rw [YL.mp hn]
  refine Calls.call_function_entry zi2 zd5 ze9 (zj5 _ _) ?_
  obtain ⟨hh, g, dd, tk, os⟩ := s
  have e : txt [95, 95, 103, 101, 116, 105, 116, 101, 109, 95, 95] = "__getitem__" := by decide +kernel
  rw [e]
  exact zn7 ⟨_, rfl, aB true, H, W, hk, .push _, R.push _, rfl⟩
noncomputable def JP (a b : AV) : CS Unit := seqC (ifC (notT (asT (biC hasF (Ze (litC a) (Ze (litC (aS [95, 95, 103, 101, 116, 105, 116, 101, 109, 95, 95])) nilL))))) YY (Zt ())) fun _ => retC (binK ZW (litC a) (litC b))
theorem yh8 (S : Stat c) (hh : YW c) (hhas : nsIn c.K mainGlobals "hasattr" = some none) (a b : AV) : SimS c d (Zv 21).names (XQ a b) (Ye 21) (fun _ : Unit => []) (JP a b) := by
  refine Zc (g := fun _ : Unit => XQ a b) (ZJ (Xq (Xd (ZF S zx6 (.inl ⟨_, rfl⟩) (by rfl) hhas (by decide +kernel) (Zb (Za (by rfl) (by decide) (by decide)) (Zb (Zy (by decide +kernel)) Zd)) (by decide) (by decide)))) Zu (Zj () fun _ _ h => h)) fun _ => ?_
  exact Zo (Zl (ZI hh) (Za (by rfl) (by decide) (by decide)) (Za (by rfl) (by decide) (by decide)))
theorem yp5 {fd : FuncData} (S : Stat c) (D : Def c 21 fd) (hh : YW c) (hhas : nsIn c.K mainGlobals "hasattr" = some none) : FnC c (d + 1) 21 fd ["a", "b"] (Zn (on2 JP)) := Yd S D (YK fun a b => yh8 S hh hhas a b) ⟨by decide, by decide +kernel, by decide +kernel⟩
end
end Mine
end
section
namespace Mine
open PySem PySem.W PyProof.Rows
section
variable {c : Cfg} {d : Nat} {sc : Sc} {Γ : Ctx}
theorem zl4 {names : List Str} {ss : List Stmt} {b : AV -> AV -> AV -> CS Unit} (h : ∀ x y z, SimS c d sc (names.zip [x, y, z]) ss (fun _ => []) (b x y z)) (avs : List AV) : SimS c d sc (names.zip avs) ss (fun _ => []) (on3 b avs) := by
  match avs with
  | [] => exact Zu
  | [_] => exact Zu
  | [_, _] => exact Zu
  | [x, y, z] => exact h x y z
  | _ :: _ :: _ :: _ :: _ => exact Zu
theorem zA8 {names : List Str} {ss : List Stmt} {b : AV -> AV -> AV -> AV -> CS Unit} (h : ∀ x y z w, SimS c d sc (names.zip [x, y, z, w]) ss (fun _ => []) (b x y z w)) (avs : List AV) : SimS c d sc (names.zip avs) ss (fun _ => []) (on4 b avs) := by
  match avs with
  | [] => exact Zu
  | [_] => exact Zu
  | [_, _] => exact Zu
  | [_, _, _] => exact Zu
  | [x, y, z, w] => exact h x y z w
  | _ :: _ :: _ :: _ :: _ :: _ => exact Zu
theorem zc7 {names : List Str} {ss : List Stmt} {b : AV -> AV -> AV -> AV -> AV -> CS Unit} (h : ∀ x y z w v, SimS c d sc (names.zip [x, y, z, w, v]) ss (fun _ => []) (b x y z w v)) (avs : List AV) : SimS c d sc (names.zip avs) ss (fun _ => []) (on5 b avs) := by
  match avs with
  | [] => exact Zu
  | [_] => exact Zu
  | [_, _] => exact Zu
  | [_, _, _] => exact Zu
  | [_, _, _, _] => exact Zu
  | [x, y, z, w, v] => exact h x y z w v
  | _ :: _ :: _ :: _ :: _ :: _ :: _ => exact Zu
theorem FnC.le {f e e' : Nat} {fd : FuncData} {names : List Str} {code : List AV -> CE} (h : FnC c e f fd names code) (le : e <= e') : FnC c e' f fd names code := fun hA R hv hb hk => h (hA.le le) R hv hb hk
theorem yp3 {fd : FuncData} (S : Stat c) (D : Def c 16 fd) (h7 : 7 <= d) : FnC c (d + 1) 16 fd ["a", "b"] (Zn (on2 b16)) :=
  Yd S D (YK fun _ _ => Zo (Vk (Xe S h7) (Za (by rfl)) (Za (by rfl)))) ⟨by decide, by decide +kernel, by decide +kernel⟩
theorem yx1 {fd : FuncData} (S : Stat c) (D : Def c 17 fd) : FnC c (d + 1) 17 fd ["a", "b"] (Zn (on2 b17)) :=
  Yd S D (YK fun _ _ => Zo (Vk zC5 (Za (by rfl)) (Za (by rfl)))) ⟨by decide, by decide +kernel, by decide +kernel⟩
theorem yp6 {fd : FuncData} (S : Stat c) (D : Def c 18 fd) (hh : YW c) : FnC c (d + 1) 18 fd ["a", "b"] (Zn (on2 b18)) :=
  Yd S D (YK fun _ _ => Zo (Zl (ZI hh) (Za (by rfl)) (Za (by rfl)))) ⟨by decide, by decide +kernel, by decide +kernel⟩
theorem zW4 {fd : FuncData} (S : Stat c) (D : Def c 19 fd) : FnC c (d + 1) 19 fd ["a"] (Zn (on1 b19)) :=
  Yd S D (XM fun _ => Zo (Xi Xz (Za (by rfl)))) ⟨by decide, by decide +kernel, by decide +kernel⟩
theorem zW3 {fd : FuncData} (S : Stat c) (D : Def c 20 fd) : FnC c (d + 1) 20 fd ["a", "b"] (Zn (on2 b20)) :=
  Yd S D (YK fun _ _ => Zo (Zl (Zz JD) (Za (by rfl)) (Za (by rfl)))) ⟨by decide, by decide +kernel, by decide +kernel⟩
theorem JA {f e : Nat} {fd : FuncData} {names : List Str} {code : List AV -> CE} {x : Str} {px pos : Pos} {e1 : PySem.Expr} {es : List PySem.Expr} {b : CF} {kv : AV} (hob : ∃ o, c.hb (c.fa f) = some o /\ o.data = .func fd) (hC : FnC c e f fd names code) (hle : e <= d)
    (hx : Γ.lookup x = some kv) (h9 : kv.t = 9) (hf : kv.m = f) (hb : SimL c d sc Γ (e1 :: es) b) (hbind : ZA fd names) (hn : names.length = (e1 :: es).length)
    (hd : (x == ("__debug__" : Str)) = false := by decide) (hd2 : (x == ("__classdict__" : Str)) = false := by decide) (he : ∀ env, starEach (e1 :: es) env = (false, eval e1 env) :: starEach es env := by intro _; rfl) :
    SimE c d sc Γ (.Call (.Name x px) (e1 :: es) [] pos) (ZC code b) := fun A env W s H k Z hk => by
  refine wpAny_Call_Name_kw (wpAny_mono (Xb (pos := px) Z.F hx hd hd2) (fun u s1 p1 => ?_) noe)
  obtain ⟨rfl, v1⟩ := p1
  obtain rfl := v1.at h9
  rw [hf]
  obtain ⟨o, ho, hdat⟩ := hob
  refine callWith_function_kw (o := o) (fd := fd) ?_
  show wpAny _ _ (evalArgs _ true (backTo pos (starEach (e1 :: es) env)) []) _ _ _
  rw [ZQ (he env)]
  refine Calls.evalArgs_plain ?_
  rw [<- ZQ (he env)]
  exact (hb.sim pos).use Z hk fun l us H2 W2 s2 k2 x2 D2 v2 => ⟨⟨(D2.R.st _ _ ho).1, hdat⟩, wpAny_call (hC.pe Z.hA hle D2.R v2.1 (hbind s2 us (v2.2.trans hn.symm)) x2 k2 fun _ _ p => p)⟩
theorem zc8 {σ : Type} {t : Env -> Sem Flow} {x : AV} {f : Nat} {g : σ -> Ctx} {a : CS σ} (h : x.t = 9 -> x.m = f -> SimP c d sc Γ t g a) : SimP c d sc Γ t g (isF x f a) := fun A env W s H kn kr D hk => by
  obtain ⟨e1, hk⟩ := kd_t hk
  obtain ⟨e2, hk⟩ := kd_t hk
  exact h e1 e2 A env W s H kn kr D hk
noncomputable def Yb : List Str := ["a", "x", "lo", "hi", "key"]
noncomputable def bisG (a x key : AV) (st : AV × AV) : Ctx := [("lo", st.1), ("hi", st.2), ("a", a), ("x", x), ("key", key)]
noncomputable def bisR (kc : List AV -> CE) (f : Nat) (a x lo hi key : AV) : CS Unit := isF key f (zo9 (fun mid => cmpK ltK (litC x) (zi3 kc a mid)) za3 za2 a lo hi key)
structure KeyF (c : Cfg) (d f : Nat) (kc : List AV -> CE) : Prop where
  S : Stat c
  hh : YW c
  get : zK9 c d Zk
  len : BiOk c d (.builtin "len") lenF
  nl : nsIn c.K mainGlobals "len" = some none
  fn : ∃ fd y, (∃ o, c.hb (c.fa f) = some o /\ o.data = .func fd) /\ FnC c d f fd [y] kc /\ ZA fd [y]
theorem zB0 {f : Nat} {kc : List AV -> CE} {x y key : AV} {u v : Str} {p1 p2 p3 p4 p5 : Pos} (K : KeyF c d f kc) (h9 : key.t = 9) (hm : key.m = f) (h1 : Γ.lookup ("key" : Str) = some key) (h2 : Γ.lookup u = some x) (h3 : Γ.lookup v = some y)
    (hu : (u == ("__debug__" : Str)) = false) (hu2 : (u == ("__classdict__" : Str)) = false) (hv : (v == ("__debug__" : Str)) = false) (hv2 : (v == ("__classdict__" : Str)) = false) :
    SimE c d sc Γ (.Call (.Name "key" p1) [.Subscript (.Name u p2) (.Name v p3) p4] [] p5) (zi3 kc x y) := by
  obtain ⟨fd, z, hob, hC, hbp⟩ := K.fn
  exact JA hob hC (Nat.le_refl _) h1 h9 hm (Zb (Zh K.get (Za h2 hu hu2) (Za h3 hv hv2)) Zd) hbp rfl
theorem za9 (a x key : AV) (st : AV × AV) {Γ' : Ctx} (h1 : Γ'.lookup ("lo" : Str) = some st.1) (h2 : Γ'.lookup ("hi" : Str) = some st.2) (h3 : Γ'.lookup ("a" : Str) = some a) (h4 : Γ'.lookup ("x" : Str) = some x) (h5 : Γ'.lookup ("key" : Str) = some key) : Sub (bisG a x key st) Γ' :=
  Zi h1 (Zi h2 (Zi h3 (Zi h4 (Zi h5 YJ))))
theorem zg9 {a x key mid : AV} {st : AV × AV} {p1 p2 p3 p4 p5 : Pos} {n : Nat} (hh : YW c) (hs : Zr sc "lo" = true) : SimS c d sc (("mid", mid) :: bisG a x key st) [.Assign [.Name "lo" p1] (.BinOp (.Name "mid" p2) .Add (.Constant (.int 1) n p3) p4) p5] (bisG a x key) (za2 st mid) :=
  Zc (Zm (Zl (ZI hh) (Za (by rfl)) Zg) hs) fun v => Zj (v, st.2) (za9 a x key (v, st.2) (by rfl) (by rfl) (by rfl) (by rfl) (by rfl))
theorem zh0 {a x key mid : AV} {st : AV × AV} {p1 p2 p5 : Pos} (hs : Zr sc "hi" = true) : SimS c d sc (("mid", mid) :: bisG a x key st) [.Assign [.Name "hi" p1] (.Name "mid" p2) p5] (bisG a x key) (za3 st mid) :=
  Zc (Zm (Za (by rfl)) hs) fun v => Zj (st.1, v) (za9 a x key (st.1, v) (by rfl) (by rfl) (by rfl) (by rfl) (by rfl))
theorem zN8 {f : Nat} {kc : List AV -> CE} (K : KeyF c d f kc) (a x lo hi key : AV) : SimS c d (Zv 11).names (Yb.zip [a, x, lo, hi, key]) (Ye 11) (fun _ : Unit => []) (bisL kc f a x lo hi key) := zc8 fun h9 hm => by
  refine Zc (g := fun _ : Unit => Yb.zip [a, x, lo, hi, key]) (ZJ (Zq JE (Za (by rfl)) Zg) Zu (Zj () Sub.refl)) fun _ => ?_
  refine Zc (g := fun hi' => bisG a x key (lo, hi')) (ZJ (Zq zv5 (Za (by rfl)) Xp) (Zc (Zm (ZF K.S K.len (.inl ⟨_, rfl⟩) (by rfl) K.nl (by decide +kernel) (Zb (Za (by rfl)) Zd) (by decide) (by decide)) (by decide +kernel)) fun v =>
    Zj v (za9 a x key (lo, v) (by rfl) (by rfl) (by rfl) (by rfl) (by rfl))) (Zj hi (za9 a x key (lo, hi) (by rfl) (by rfl) (by rfl) (by rfl) (by rfl)))) fun hi' => ?_
  refine Zc (g := bisG a x key) (ZJ (Zq zv5 (Za (by rfl)) Xp) Zu (Zc (g := bisG a x key) (Vt (g := bisG a x key) Sub.refl (fun st => Zq JE (Za (by rfl)) (Za (by rfl))) fun st => ?_) fun st => Zj st Sub.refl)) fun st => Zo (Za (by rfl))
  refine Zc (Zm (Zl (Zz zh3) (Zl (ZI K.hh) (Za (by rfl)) (Za (by rfl))) Zg) (by decide +kernel)) fun mid => ?_
  exact Zc (g := bisG a x key) (ZJ (Zq JE (zB0 K h9 hm (by rfl) (by rfl) (by rfl) (by decide) (by decide) (by decide) (by decide)) (Za (by rfl))) (zg9 K.hh (by decide +kernel)) (zh0 (by decide +kernel))) fun st' => Zj st' Sub.refl
theorem zN7 {f : Nat} {kc : List AV -> CE} (K : KeyF c d f kc) (a x lo hi key : AV) : SimS c d (Zv 9).names (Yb.zip [a, x, lo, hi, key]) (Ye 9) (fun _ : Unit => []) (bisR kc f a x lo hi key) := zc8 fun h9 hm => by
  refine Zc (g := fun _ : Unit => Yb.zip [a, x, lo, hi, key]) (ZJ (Zq JE (Za (by rfl)) Zg) Zu (Zj () Sub.refl)) fun _ => ?_
  refine Zc (g := fun hi' => bisG a x key (lo, hi')) (ZJ (Zq zv5 (Za (by rfl)) Xp) (Zc (Zm (ZF K.S K.len (.inl ⟨_, rfl⟩) (by rfl) K.nl (by decide +kernel) (Zb (Za (by rfl)) Zd) (by decide) (by decide)) (by decide +kernel)) fun v =>
    Zj v (za9 a x key (lo, v) (by rfl) (by rfl) (by rfl) (by rfl) (by rfl))) (Zj hi (za9 a x key (lo, hi) (by rfl) (by rfl) (by rfl) (by rfl) (by rfl)))) fun hi' => ?_
  refine Zc (g := bisG a x key) (ZJ (Zq zv5 (Za (by rfl)) Xp) Zu (Zc (g := bisG a x key) (Vt (g := bisG a x key) Sub.refl (fun st => Zq JE (Za (by rfl)) (Za (by rfl))) fun st => ?_) fun st => Zj st Sub.refl)) fun st => Zo (Za (by rfl))
  refine Zc (Zm (Zl (Zz zh3) (Zl (ZI K.hh) (Za (by rfl)) (Za (by rfl))) Zg) (by decide +kernel)) fun mid => ?_
  exact Zc (g := bisG a x key) (ZJ (Zq JE (Za (by rfl)) (zB0 K h9 hm (by rfl) (by rfl) (by rfl) (by decide) (by decide) (by decide) (by decide))) (zh0 (by decide +kernel)) (zg9 K.hh (by decide +kernel))) fun st' => Zj st' Sub.refl
theorem zo0 {fd : FuncData} {f : Nat} {kc : List AV -> CE} (K : KeyF c d f kc) (D : Def c 11 fd) : FnC c (d + 1) 11 fd Yb (Zn (on5 (bisL kc f))) := Yd K.S D (zc7 (zN8 K)) ⟨by decide, by decide +kernel, by decide +kernel⟩
theorem zG3 {fd : FuncData} {f : Nat} {kc : List AV -> CE} (K : KeyF c d f kc) (D : Def c 9 fd) : FnC c (d + 1) 9 fd Yb (Zn (on5 (bisR kc f))) := Yd K.S D (zc7 (zN7 K)) ⟨by decide, by decide +kernel, by decide +kernel⟩
def Xo (c : Cfg) (fd : FuncData) (n : Nat) (df : List AV) : Prop := ∀ {W H} {s : Shared} {vs : List Value} {v : Value}, Rel c W H s -> vs.length = n -> ∃ dvs, BindsTo s fd ⟨vs, [("key", v)]⟩ (Yb.zip (vs ++ (dvs ++ [v]))) /\ VRs c W df dvs
noncomputable def insQ (bq : AV -> AV -> AV -> AV -> AV -> CS Unit) (kc : List AV -> CE) (f : Nat) (a x lo hi key : AV) : CS Unit := isF key f (seqC (ifC (cmpK isK (litC key) (litC aN)) YY
    (seqC (asgC (kwC (Zn (on5 bq)) [] (Ze (litC a) (Ze (ZC kc (Ze (litC x) nilL)) (Ze (litC lo) (Ze (litC hi) nilL)))) (litC key))) fun v => Zt v)) fun lo' => seqC (Xl (lmC Jo (litC a) (Ze (litC lo') (Ze (litC x) nilL))) ()) fun (_ : Unit) => Zt ())
theorem zp9 {f : Nat} {kc : List AV -> CE} {x key : AV} {u : Str} {p1 p2 p5 : Pos} (K : KeyF c d f kc) (h9 : key.t = 9) (hm : key.m = f) (h1 : Γ.lookup ("key" : Str) = some key) (h2 : Γ.lookup u = some x) (hu : (u == ("__debug__" : Str)) = false) (hu2 : (u == ("__classdict__" : Str)) = false) :
    SimE c d sc Γ (.Call (.Name "key" p1) [.Name u p2] [] p5) (ZC kc (Ze (litC x) nilL)) := by
  obtain ⟨fd, z, hob, hC, hbp⟩ := K.fn
  exact JA hob hC (Nat.le_refl _) h1 h9 hm (Zb (Za h2 hu hu2) Zd) hbp rfl
theorem zN1 {f : Nat} {fb : FuncData} {kc : List AV -> CE} {bq : AV -> AV -> AV -> AV -> AV -> CS Unit} (K : KeyF c d f kc) (Db : Def c 11 fb) (hB : FnC c d 11 fb Yb (Zn (on5 bq))) (hkw : Xo c fb 4 []) (a x lo hi key : AV) :
    SimS c d (Zv 10).names (Yb.zip [a, x, lo, hi, key]) (Ye 10) (fun _ : Unit => []) (insQ bq kc f a x lo hi key) := zc8 fun h9 hm => by
  refine Zc (g := fun lo' => [("lo", lo'), ("a", a), ("x", x)]) (ZJ (Zq zv5 (Za (by rfl)) Xp) Zu (Zc (Zm (Yv K.S Db hB (Nat.le_refl _) (Db.name.trans (by decide +kernel)) (by decide +kernel)
    (Zb (Za (by rfl)) (Zb (zp9 K h9 hm (by rfl) (by rfl) (by decide) (by decide)) (Zb (Za (by rfl)) (Zb (Za (by rfl)) Zd)))) (Za (by rfl)) hkw rfl (by decide)) (by decide +kernel)) fun v => Zj v (Zi (by rfl) (Zi (by rfl) (Zi (by rfl) YJ))))) fun lo' => ?_
  exact Zc (Yq (g := fun _ : Unit => []) (Xx PySem.F.slot_list_insert (by kernel_rfl) zh9 (Za (by rfl)) (Zb (Za (by rfl)) (Zb (Za (by rfl)) Zd))) YJ) fun _ => Zj () Sub.refl
theorem zN0 {f : Nat} {fb : FuncData} {kc : List AV -> CE} {bq : AV -> AV -> AV -> AV -> AV -> CS Unit} (K : KeyF c d f kc) (Db : Def c 9 fb) (hB : FnC c d 9 fb Yb (Zn (on5 bq))) (hkw : Xo c fb 4 []) (a x lo hi key : AV) :
    SimS c d (Zv 8).names (Yb.zip [a, x, lo, hi, key]) (Ye 8) (fun _ : Unit => []) (insQ bq kc f a x lo hi key) := zc8 fun h9 hm => by
  refine Zc (g := fun lo' => [("lo", lo'), ("a", a), ("x", x)]) (ZJ (Zq zv5 (Za (by rfl)) Xp) Zu (Zc (Zm (Yv K.S Db hB (Nat.le_refl _) (Db.name.trans (by decide +kernel)) (by decide +kernel)
    (Zb (Za (by rfl)) (Zb (zp9 K h9 hm (by rfl) (by rfl) (by decide) (by decide)) (Zb (Za (by rfl)) (Zb (Za (by rfl)) Zd)))) (Za (by rfl)) hkw rfl (by decide)) (by decide +kernel)) fun v => Zj v (Zi (by rfl) (Zi (by rfl) (Zi (by rfl) YJ))))) fun lo' => ?_
  exact Zc (Yq (g := fun _ : Unit => []) (Xx PySem.F.slot_list_insert (by kernel_rfl) zh9 (Za (by rfl)) (Zb (Za (by rfl)) (Zb (Za (by rfl)) Zd))) YJ) fun _ => Zj () Sub.refl
theorem yg6 {fd fb : FuncData} {f : Nat} {kc : List AV -> CE} (K : KeyF c d f kc) (K' : KeyF c (d + 1) f kc) (D : Def c 10 fd) (Db : Def c 11 fb) (hkw : Xo c fb 4 []) : FnC c (d + 2) 10 fd Yb (Zn (on5 (insQ (bisL kc f) kc f))) := Yd K.S D (zc7 (zN1 K' Db (zo0 K Db) hkw)) ⟨by decide, by decide +kernel, by decide +kernel⟩
theorem yg5 {fd fb : FuncData} {f : Nat} {kc : List AV -> CE} (K : KeyF c d f kc) (K' : KeyF c (d + 1) f kc) (D : Def c 8 fd) (Db : Def c 9 fb) (hkw : Xo c fb 4 []) : FnC c (d + 2) 8 fd Yb (Zn (on5 (insQ (bisR kc f) kc f))) := Yd K.S D (zc7 (zN0 K' Db (zG3 K Db) hkw)) ⟨by decide, by decide +kernel, by decide +kernel⟩
noncomputable def b28 (a : AV) : CS Unit := retC (ZC (Zn (on1 b19)) (Ze (biC lenF (Ze (subK Zk (litC a) (litC (aI 0))) nilL)) nilL))
theorem zR9 {fd f19 : FuncData} (S : Stat c) (D : Def c 28 fd) (D19 : Def c 19 f19) (hbp : ZA f19 ["a"]) (hget : zK9 c (d + 1) Zk) (hlen : BiOk c (d + 1) (.builtin "len") lenF) (hnl : nsIn c.K mainGlobals "len" = some none) : FnC c (d + 2) 28 fd ["piece"] (Zn (on1 b28)) :=
  Yd S D (XM fun _ => Zo (Zp S D19 (zW4 (d := d) S D19) (Nat.le_refl _) (D19.name.trans (by decide +kernel)) (by decide +kernel) (Zb (ZF S hlen (.inl ⟨_, rfl⟩) (by rfl) hnl (by decide +kernel) (Zb (Zh hget (Za (by rfl)) Zg) Zd) (by decide) (by decide)) Zd) hbp rfl (by decide))) ⟨by decide, by decide +kernel, by decide +kernel⟩
end
section
variable {c : Cfg} {d : Nat} {sc : Sc} {Γ : Ctx} {W : Wd} {H : AH} {s : Shared} {A : Around}
theorem FZ.nocell {x : AV} {o : Obj} {v : Option Value} (h : FZ c W x o) (e : o.data = .cell v) : False := by
  have q := Imps.at (m := [False, False, False, False]) (.cons (fun ⟨_, _, h, _⟩ => by subst h; cases e) (.cons (fun ⟨_, _, h, _⟩ => by subst h; cases e) (.cons (fun ⟨_, _, _, _, _, _, _, h⟩ => by subst h; cases e) (.cons (fun ⟨_, _, _, h, _⟩ => nomatch h.symm.trans e) .nil)))) _ h
  generalize x.t - 12 = n at q
  match n, q with
  | 0, q => exact q
  | 1, q => exact q
  | 2, q => exact q
  | 3, q => exact q
  | _ + 4, q => exact q
structure zT8 (c : Cfg) (f : Nat) (fd : FuncData) (e : PySem.Expr) (Γf : Ctx) : Prop where
  ob : ∃ o, c.hb (c.fa f) = some o /\ o.data = .func fd
  body : fd.body = .expr e
  glob : fd.globals = mainGlobals
  blt : fd.builtins = builtinsNs
  co : fd.scope.isCoroutine = false
  gen : fd.scope.isGenerator = false
  kd : fd.scope.kind = .function
  nocell : ∀ y ∈ fd.scope.names, y.2 ≠ .cell
  cd : ∃ c' o vs t, fd.code = .ref c' /\ c.hb c' = some o /\ o.data = .fields vs /\ vs[1]? = some (.str fd.qualname t)
  clo : ∀ p ∈ fd.closure, fd.scope.names.lookup p.1 = some .free /\ ∃ o v, c.hb p.2 = some o /\ o.data = .cell v
  apart : fd.closure.Pairwise fun x y => x.2 ≠ y.2
  ctx : ∀ x w, Γf.lookup x = some w -> fd.scope.names.lookup x = some .free /\ ∃ a o v, fd.closure.lookup x = some a /\ c.hb a = some o /\ o.data = .cell (some v) /\ ∀ W, VR c W w v
  src : fd.scope.names ≠ c.ps
theorem yp2 {f : Nat} {fd : FuncData} {e : PySem.Expr} {Γf : Ctx} {x : Str} {code : AV -> CE} (S : Stat c) (L : zT8 c f fd e Γf) (hx : fd.scope.names.lookup x = some .local) (hsim : ∀ av, SimE c d fd.scope.names ((x, av) :: Γf) e (code av)) : FnC c (d + 1) f fd [x] (onE code) := by
  intro A W H s k args avs vals hA R hv hb hk
  obtain ⟨av, rfl, hk⟩ := XP hk
  obtain ⟨v, _, rfl, hv, rfl⟩ := hv
  obtain ⟨o, ho, hd⟩ := L.ob
  obtain ⟨c', oc, vs, tq, e1, e2, e3, e4⟩ := L.cd
  refine kla_callFunE (Nat.lt_of_le_of_lt (Nat.le_add_right A.depth (d + 1)) hA.dp) (R.st _ _ ho).1 hd L.co L.gen L.body ⟨c', oc, vs, tq, e1, (R.st _ _ e2).1, e3, e4⟩ (hb _ _ _ _ ?_)
  rw [L.glob, L.blt]
  refine wpAny_newFunctionEnv L.nocell (fun y hy => List.mem_singleton.mp hy ▸ hx) (fun h₁ hns hsb => ⟨(R.top S).nolimit.fresh _ hsb, ?_⟩) L.kd
  have hk₁ : ∀ b o, s.heap.get? b = some o -> h₁.get? b = some o := fun b o e => hsb.extBut b o (Nat.ne_of_lt (Heap.lt_size e)) (Heap.get?_push_of_some _ e)
  have le : s.toks <= s.toks + ([x].zip [v]).length := Nat.le_add_right _ _
  have R1 : Rel c W H { s with heap := h₁, toks := s.toks + ([x].zip [v]).length } := R.grow hk₁ le
  generalize henv : newEnv fd.scope s.heap.objs.size mainGlobals fd.closure (fd.qualname ++ ".<locals>.") (some (c.fa f)) fd.code none builtinsNs = env
  have eK : ∀ y, env.kindOf y = fd.scope.names.lookup y := fun y => by rw [<- henv]; rfl
  have eC : env.cells = fd.closure := by rw [<- henv]; rfl
  have eL : env.locals = s.heap.objs.size := by rw [<- henv]; rfl
  have F : FrR c W { s with heap := h₁, toks := s.toks + ([x].zip [v]).length } env ((x, av) :: Γf) := by
    refine ⟨by rw [<- henv]; exact L.kd, by rw [<- henv]; rfl, by rw [<- henv]; rfl, by rw [eL]; exact (YA R).2, ⟨_, by rw [eL]; exact hns, fun y w h1 h2 => ?_⟩, fun y w h1 h2 => ?_, fun y h1 => ?_, fun p hp => ?_, by rw [eC]; exact L.apart, fun h1 _ => ?_⟩
    · rcases ZE h1 with ⟨rfl, rfl⟩ | ⟨hy, h1⟩
      · exact ⟨v, by simp, hv⟩
      · exact nomatch ((eK y).symm.trans h2).symm.trans (L.ctx y w h1).1
    · rcases ZE h1 with ⟨rfl, rfl⟩ | ⟨hy, h1⟩
      · exact absurd ((eK y).trans hx) h2
      · obtain ⟨g1, a, oa, u, g3, g4, g5, g6⟩ := L.ctx y w h1
        exact ⟨.inr ((eK y).trans g1), a, u, by rw [eC]; exact g3, ⟨oa, hk₁ _ _ (R.st _ _ g4).1, g5⟩, g6 W⟩
    · exact absurd rfl (L.nocell _ (mem_of_lookup ((eK y).symm.trans h1)))
    · rw [eC] at hp
      obtain ⟨g1, oa, u, g3, g4⟩ := L.clo p hp
      obtain ⟨g5, g6⟩ := R.st _ _ g3
      refine ⟨g6, ?_, fun hn => absurd ((eK _).trans g1) hn, u, oa, hk₁ _ _ g5, g4⟩
      cases q : W.μ p.2 with
      | none => rfl
      | some x =>
        obtain ⟨_, o, h1, z⟩ := R.frz _ _ q
        cases h1.symm.trans g5
        exact (z.nocell g4).elim
    · exact absurd (by rw [<- h1, <- henv]; rfl) L.src
  exact kla_codeExpr (wpAny_mono (hsim av (A.deeper env) env W _ H k ⟨hA.deeper, by rw [<- henv]; rfl, F, R1⟩ hk) (fun w s2 p2 => ⟨w, rfl, p2.trans (.grow hk₁ (.of le))⟩) noe)
structure zt7 (c : Cfg) (prs : List (List Nat × List Nat)) : Prop where
  at' : ∃ dx vs n h, c.hb = h.get? /\ h.get? (c.fa 99) = some (ZB c.cA dx vs n) /\ Yj h (prs.map Yx) vs
theorem zA6 {prs : List (List Nat × List Nat)} {x : Str} {px p1 p2 p3 : Pos} {e : PySem.Expr} {a : CE} {n0 : Nat} (hacc : zL4 c d) (P : zt7 c prs) (hx : Γ.lookup x = some (aF 99)) (ha : SimE c d sc Γ e a) (hd : (x == ("__debug__" : Str)) = false) (hd2 : (x == ("__classdict__" : Str)) = false)
    (hsl : ∀ o i, subscripted e false o i = operate [o, i] (getItem o i) := by intro _ _; rfl) : SimE c d sc Γ (.Subscript (.Subscript (.Name x px) e p1) (.Constant (.int 0) n0 p2) p3) (zV2 prs a) := fun A env W s H k D hk => by
  obtain ⟨dx, vs, n, h, hb, hob, hp⟩ := P.at'
  have st : ∀ a o, h.get? a = some o -> c.hb a = some o := fun a o e => by rw [hb]; exact e
  show wpAny _ _ (eval _ _) _ _ _
  rw [eval_Subscript]
  refine wpAny_bind ?_
  rw [eval_Subscript]
  refine wpAny_bind (wpAny_mono (Xb (pos := px) D.F hx hd hd2) (fun u s1 p1 => ?_) noe)
  obtain ⟨rfl, v1⟩ := p1
  obtain rfl := v1.at (n := 9) rfl
  refine wpAny_bind (wpAny_holding (ha.use D hk fun i v H1 W1 s2 k2 x2 D2 v2 => ?_))
  obtain ⟨e1, k2⟩ := kd_t k2
  obtain ⟨t, rfl⟩ := v2.at e1
  obtain ⟨j, z, Pl, hz, k2⟩ := za8 k2
  obtain ⟨T, t1, t2, m, hT1, hT2⟩ := Yj.get hp (i := j) (p := Yx z) (by rw [List.getElem?_map, hz]; rfl)
  have hlen : vs.length = prs.length := (Yj.len hp).trans (List.length_map _)
  obtain ⟨g1, g2⟩ := hacc (Q := fun v s' => v = .ref T /\ s' = s2) (t := t) D2.hA D2.R (D2.R.st _ _ (st _ _ hob)).1 (hlen.symm ▸ Pl) hT1 ⟨rfl, rfl⟩
  refine wpAny_bind (wpAny_standAt (wpAny_bind (wpAny_mono g1 (fun b s' hb => ?_) noe)))
  obtain ⟨rfl, rfl⟩ := hb
  rw [hsl]
  refine wpAny_bind (wpAny_operating (wpAny_mono g2 (fun r s3 p3 => ?_) noe))
  obtain ⟨rfl, rfl⟩ := p3
  refine wpAny_bind (wpAny_letTemporaryGo (wpAny_pure (wpAny_bind (wpAny_holding (wpAny_Constant_int ?_)))))
  have ht : IsTup s3.heap T [.str (Yx z).1 t1, .str (Yx z).2 t2].toArray := ⟨_, (D2.R.st _ _ (st _ _ hT2)).1, rfl, m, rfl⟩
  refine wpAny_bind (wpAny_standAt (wpAny_bind (wpAny_mono (YI (c := c) (s := { s3 with toks := s3.toks + 1 }) ht.typeIs PySem.F.slot_tuple_getitem.lookup) (fun b s' hb => ?_) noe)))
  obtain ⟨rfl, rfl⟩ := hb
  refine wpAny_bind (wpAny_operating (getItem_tuple (k := 0) ht (by decide) (by decide) rfl rfl ?_))
  exact wpAny_bind (wpAny_letTemporaryGo (wpAny_pure (PG.trans (.tok D2.R k2 ⟨t1, rfl⟩ (Nat.le_succ _)) x2)))
noncomputable def zr7 (a b : AV) : Ctx := [("pile", aF 99), ("least", a), ("over", b)]
noncomputable abbrev lamE (q1 q1' q2 q3 q4 q5 q6 q7 q8 q9 q10 q11 q12 q13 q14 q15 : Pos) (q0 : Nat) : PySem.Expr :=
  .Call (.Name "eq" q1) [.Call (.Name "len" q2) [.Subscript (.Subscript (.Name "pile" q3) (.Name "n" q4) q5) (.Constant (.int 0) q0 q6) q7] [] q8,
      .Call (.Name "sub" q9) [.Call (.Name "add" q10) [.Name "least" q11, .Name "over" q12] [] q13, .Name "n" q14] [] q15] [] q1'
structure LamD (c : Cfg) (f11 f16 f18 f20 : FuncData) : Prop where
  d11 : Def c 11 f11
  d16 : Def c 16 f16
  d18 : Def c 18 f18
  d20 : Def c 20 f20
  b16 : ZA f16 ["a", "b"]
  b18 : ZA f18 ["a", "b"]
  b20 : ZA f20 ["a", "b"]
  len : nsIn c.K mainGlobals "len" = some none
  acc : AccF c
  hh : YW c
theorem ye5 {f11 f16 f18 f20 : FuncData} {prs : List (List Nat × List Nat)} {a b n : AV} {q0 : Nat} {p1 p1' p2 p3 p4 p5 p6 p7 p8 p9 p10 p11 p12 p13 p14 p15 : Pos} (S : Stat c) (L : LamD c f11 f16 f18 f20) (P : zt7 c prs) (h8 : 8 <= d) (hlen : BiOk c d (.builtin "len") lenF)
    (g1 : sc.lookup ("eq" : Str) = some .globalImplicit) (g2 : sc.lookup ("len" : Str) = some .globalImplicit) (g3 : sc.lookup ("sub" : Str) = some .globalImplicit) (g4 : sc.lookup ("add" : Str) = some .globalImplicit) :
    SimE c d sc (("n", n) :: zr7 a b) (lamE p1 p1' p2 p3 p4 p5 p6 p7 p8 p9 p10 p11 p12 p13 p14 p15 q0) (lamC prs a b n) := by
  refine Zp S L.d16 (yp3 (d := 7) S L.d16 (by decide)) h8 (L.d16.name.trans (by decide +kernel)) g1 ?_ L.b16 rfl (by decide)
  refine Zb (hl := of_decide_eq_true rfl) (ZF S hlen (.inl ⟨_, rfl⟩) (by rfl) L.len g2 (Zb (zA6 (zp2 S L.acc) P (by rfl) (Za (by rfl)) (by decide) (by decide)) Zd) (by decide) (by decide)) ?_
  refine Zb (Zp S L.d20 (zW3 (d := 7) S L.d20) h8 (L.d20.name.trans (by decide +kernel)) g3 ?_ L.b20 rfl (by decide)) Zd
  exact Zb (hl := of_decide_eq_true rfl) (Zp S L.d18 (yp6 (d := 7) S L.d18 L.hh) h8 (L.d18.name.trans (by decide +kernel)) g4 (Zb (hl := of_decide_eq_true rfl) (Za (by rfl)) (Zb (Za (by rfl)) Zd)) L.b18 rfl (by decide)) (Zb (Za (by rfl)) Zd)
theorem zR3 {m : List AV} {a st : Int} (e : m = iseq m.length a st) {vs : List Value} (hl : vs.length = m.length) (h : ∀ (j : Nat) (v : Value), vs[j]? = some v -> ∃ t, v = .int (a + j * st) t) : VRs c W m vs := by
  rw [e]
  generalize m.length = n at *
  clear e m
  induction n generalizing a vs with
  | zero => exact List.eq_nil_of_length_eq_zero hl
  | succ n ih =>
    cases vs with
    | nil => cases hl
    | cons v vs =>
      obtain ⟨t, ht⟩ := h 0 v rfl
      refine ⟨v, vs, rfl, ⟨t, ht.trans (by rw [show ((0 : Nat) : Int) * st = 0 from Int.zero_mul st, Int.add_zero]; rfl)⟩, ih (a := addI a st) (fun j w hw => ?_) (Nat.succ.inj hl)⟩
      obtain ⟨t, ht⟩ := h (j + 1) w hw
      exact ⟨t, ht.trans (by rw [VU, Int.natCast_succ, Int.add_mul, Int.one_mul, Int.add_assoc, Int.add_comm st])⟩
theorem yi2 : BiOk c d (.type "list") ym8 := fun {A W H s args us k} hA R hus hk => by
  obtain ⟨x, rfl, hk⟩ := XP hk
  obtain ⟨u, r, rfl, hu, rfl⟩ := hus
  obtain ⟨e, hk⟩ := kd_t hk
  obtain ⟨r, i, j, y, t, u2, z, rfl, rfl, ho⟩ := zB6 R hu e
  obtain ⟨h1, hk⟩ := gd_t (show gd (eqB y 1) (rngK i j y fun m => Yh m (k (aL m) H)) = true from hk)
  obtain ⟨m, hk, hl⟩ := zV0 hk
  obtain ⟨hsh, hk⟩ := ZG hk
  refine ZP (call_list_range (n := m.length) hA.hd ho hl.sm hl.len.symm (Nat.le_trans (Nat.le_of_lt hsh) (by decide)) fun h' tk acc' c' hk' hS hacc le => ?_)
  have f := Ya (h := s.heap) (Nat.le_refl _)
  refine Laid.pe (.list (m := false) (vs := acc'.toList) (n := c') (l := m) (.grow hk' (.of le)) (R.grow hk' le) f (R.free f) (by show h'.get? _ = _; rw [hS]; rfl) (zR3 hl.e ((Array.length_toList).trans hacc.1) fun j v h2 => hacc.2 j v (by rw [<- Array.getElem?_toList]; exact h2)) hk)
end
section
variable {M : Model} {A : Around} {E : Value -> Shared -> Prop} {s : Shared} {name qual : Str} {params : Arguments} {body : PySem.Expr} {scope : Scope} {env : Env} {c P : Addr} {ps : Array Value} {pos : Pos} {firstLine : Nat} {mg : Str -> Option Value}
  {clos : List (Str × Addr)} {Q : Value -> Shared -> Prop}
theorem zj4 {h₀ hh : Heap} {c' : Addr} (hrec : hh.CodeRec (.ref c') qual) (hP : ∃ P', h₀.objs.size <= P' /\ hh.IsCode c' P' #[] /\ hh.TableAt c' P' #[]) : ∃ oc vc t, hh.get? c' = some oc /\ oc.cls = .type "code" /\ oc.data = .fields vc /\ vc[1]? = some (.str qual t) := by
  obtain ⟨P', _, _, ⟨oc, vc, hoc, hcc, hdc, _⟩, _⟩ := hP
  obtain ⟨c2, o2, vs2, t2, e2, g2, d2, f2⟩ := hrec
  cases e2
  cases hoc.symm.trans g2
  cases hdc.symm.trans d2
  exact ⟨oc, vc, t2, hoc, hcc, hdc, f2⟩
theorem zi1 (hcl : closureFor scope env = pure clos) (hge0 : env.globals = mainGlobals) (hg : s.heap.Ns mainGlobals mg) (hcode : env.code = .ref c) (C : CodeHd s.heap c P) (hP : s.heap.get? P = some (tabObj ps)) (ht : TriplesOk ps.toList)
    (hnf : codeAmong pos ps.toList = none) (hgP : mainGlobals ≠ P) (hb : s.heap.BuiltinsAt mg P)
    (h : ∀ c' ctv h' tk oc vc t, Heap.ExtBut P s.heap h' -> s.heap.objs.size <= c' -> h'.get? c' = some oc -> oc.cls = .type "code" -> oc.data = .fields vc -> vc[1]? = some (.str qual t) -> h'.get? P = some (tabObj (ps ++ #[rawInt pos.line, rawInt pos.col, .ref c'])) -> s.heap.objs.size <= h'.objs.size ->
      Q (.ref h'.objs.size) { s with heap := h'.push (kla_obj name qual params body scope clos ((mg "__name__").getD .none) c' ctv), toks := tk }) :
    wpAny M A (makeTail name qual params (.expr body) scope env .none .none none pos firstLine) Q E s := by
  obtain ⟨bm, ob, hbm, hne0, _, hneP, hbo, hcls, hdict, hdata⟩ := hb
  unfold makeTail
  rw [hcl, hge0]
  refine wpAny_bind (wpAny_pure ?_)
  cases clos with
  | nil =>
    simp only [List.isEmpty_nil, if_true]
    refine wpAny_bind (wpAny_pure (wpAny_bind (wpAny_functionCodeX hcode (C.code hP ht) (C.tab hP) hnf fun c' h' tk hx hge hlt _ hrec htb hP' => ?_)))
    obtain ⟨oc, vc, t, q1, q2, q3, q4⟩ := zj4 hrec hP'
    have hg' := hg.extBut hx hgP
    refine wpAny_bind (wpAny_builtinsFor hg' hbm hne0 (hx _ _ hneP hbo) hcls hdict hdata (wpAny_bind (wpAny_nsGet hg' ?_)))
    exact wpAny_bind (wpAny_pure (wpAny_newObj_type (h c' .none h' tk oc vc t hx hge q1 q2 q3 q4 htb.2 (Nat.le_of_lt (Nat.lt_of_le_of_lt hge hlt))) (by size_fits)))
  | cons q r =>
    simp only [List.isEmpty_cons, Bool.false_eq_true, if_false]
    have k0 : ∀ {o : Obj} (b : Addr) (o' : Obj), s.heap.get? b = some o' -> (s.heap.push o).get? b = some o' := fun {o} b o' e => Heap.get?_push_of_some _ e
    refine wpAny_bind (wpAny_newTextTuple (wpAny_bind (wpAny_functionCodeX hcode ((C.keeps k0).code (k0 _ _ hP) ht) ((C.keeps k0).tab (k0 _ _ hP)) hnf fun c' h' tk hx hge hlt _ hrec htb hP' => ?_)))
    obtain ⟨oc, vc, t, q1, q2, q3, q4⟩ := zj4 hrec hP'
    have hge' : s.heap.objs.size <= c' := Nat.le_trans (Nat.le_trans (Nat.le_succ _) (Nat.le_of_eq (Heap.size_push ..).symm)) hge
    have hg' := (hg.push _).extBut hx hgP
    have hx' : Heap.ExtBut P s.heap h' := fun b o hb' e => hx b o hb' (k0 _ _ e)
    refine wpAny_bind (wpAny_builtinsFor hg' hbm hne0 (hx' _ _ hneP hbo) hcls hdict hdata (wpAny_bind (wpAny_nsGet hg' ?_)))
    exact wpAny_bind (wpAny_pure (wpAny_newObj_type (h c' _ h' tk oc vc t hx' hge' q1 q2 q3 q4 htb.2 (Nat.le_of_lt (Nat.lt_of_le_of_lt hge' hlt))) (by size_fits)))
end
section
variable {c : Cfg} {d : Nat} {sc : Sc} {Γ : Ctx} {A : Around} {E : Value -> Shared -> Prop} {W W' : Wd} {H : AH} {s : Shared}
structure LamF (c : Cfg) (cd bm : Addr) (ob : Obj) : Prop where
  pc : c.pc = .ref cd
  hd : codeHdIn c.K cd (c.tp 2) = true
  tq : c.tq 2 = c.pq ++ "<lambda>"
  ng : mainGlobals ≠ c.tp 2
  gen : GenF c bm ob
  bm1 : bm ≠ c.tp 2
  bm2 : bm ≠ mainGlobals
noncomputable abbrev zE5 (c : Cfg) (params : Arguments) (body : PySem.Expr) (scope : Scope) (clos : List (Str × Addr)) (cv ctv : Value) : FuncData := kla_fn "<lambda>" (c.tq 2) params body scope clos ((c.mg "__name__").getD .none) cv ctv
inductive zK7 (c : Cfg) (W : Wd) (H : AH) (s : Shared) (params : Arguments) (body : PySem.Expr) (scope : Scope) (clos : List (Str × Addr)) (v : Value) (s' : Shared) : Prop
  | mk (la : Addr) (ctv c' : Value) (W' : Wd) (e : v = .ref la) (X : Ext [] W W' s s') (R : Rel c W' H s') (o : s'.heap.get? la = some { cls := .type "function", data := .func (zE5 c params body scope clos c' ctv) }) (r : s'.heap.CodeRec c' (c.tq 2)) : zK7 c W H s params body scope clos v s'
theorem zP8 {env : Env} {cd bm : Addr} {ob : Obj} {params : Arguments} {body : PySem.Expr} {scope : Scope} {pos : Pos} {clos : List (Str × Addr)} (S : Stat c) (L : LamF c cd bm ob) (R : Rel c W H s) (hge : env.globals = mainGlobals) (hcode : env.code = c.pc /\ env.qual = c.pq) (ht : zy2 c W H s 2) (hcl : closureFor scope env = pure clos) (hdef : defaultsOf params env = ([], [])) :
    wpAny c.M A (eval (.Lambda params body scope pos) env) (zK7 c W H s params body scope clos) E s := by
  obtain ⟨ha, h5, hd2, ps, hob, hpt⟩ := ht
  obtain ⟨ob2, ho2, z⟩ := R.obj _ _ ha
  obtain ⟨_, ps2, rfl, _, hcs⟩ := z.at h5
  cases hob.symm.trans ho2
  rw [hd2] at hcs
  have T := R.top S
  have B := L.gen.bmod s.heap fun a o e => (R.st a o e).1
  have hb : s.heap.BuiltinsAt c.mg (c.tp 2) := ⟨bm, ob, B.name, B.ne, L.bm2, L.bm1, B.obj, B.cls, B.dict, B.data⟩
  refine kla_eval hdef ?_
  rw [hcode.2, <- L.tq, makeFunction_eq]
  simp only [List.zip_nil_right, List.filterMap_nil, List.isEmpty_nil, if_true, pure_bind]
  cases hf : codeAmong pos ps.toList with
  | some cv =>
    refine ZP (kla_makeTailHit hcl hge T.g (hcode.1.trans L.pc) (codeHd_of_K (R.in S) L.hd) hob hpt hf hb fun ctv h' tk hk hsz le => ?_)
    obtain ⟨a, rfl, hm⟩ := hcs pos cv hf
    obtain ⟨_, o, ho, vs, t, hc, hdt, h1⟩ := R.frz a _ hm
    have hk2 : ∀ b o, s.heap.get? b = some o -> (h'.push { cls := .type "function", data := .func (zE5 c params body scope clos (.ref a) ctv) }).get? b = some o := fun b o e => Heap.get?_push_of_some _ (hk b o e)
    exact ⟨_, ctv, .ref a, W, rfl, .grow hk2 (.of le), R.grow hk2 le, Heap.get?_push_size _ rfl, ⟨a, o, vs, t, rfl, hk2 _ _ ho, hdt, h1⟩⟩
  | none =>
    refine ZP (zi1 hcl hge T.g (hcode.1.trans L.pc) (codeHd_of_K (R.in S) L.hd) hob hpt hf L.ng hb fun c' ctv h' tk oc vc t hx hge' q1 q2 q3 q4 q5 hsz le => ?_)
    have el : (ps ++ #[rawInt pos.line, rawInt pos.col, Value.ref c']).toList = ps.toList ++ [rawInt pos.line, rawInt pos.col, .ref c'] := by simp
    have q1' := Heap.get?_push_of_some (kla_obj "<lambda>" (c.tq 2) params body scope clos ((c.mg "__name__").getD .none) c' ctv) q1
    obtain ⟨W', X, R2⟩ := R.tab (s' := { s with heap := h'.push (kla_obj "<lambda>" (c.tq 2) params body scope clos ((c.mg "__name__").getD .none) c' ctv), toks := tk }) h5 hd2 ha (fun b o hb e => Heap.get?_push_of_some _ (hx b o hb e)) hob (Heap.get?_push_of_some _ q5)
      (by rw [el]; exact TriplesOk_snoc _ _ _ _ hpt) (fun pos' v hv => by
        rw [el] at hv
        rcases Vg _ hpt hv with h | rfl
        · exact .inl h
        · exact .inr ⟨c', oc, vc, t, rfl, Ya hge', q1', q2, q3, q4⟩) (.of le)
    exact ⟨_, ctv, .ref c', W', rfl, X, R2, Heap.get?_push_size _ rfl, ⟨c', oc, vc, t, rfl, q1', q3, q4⟩⟩
noncomputable def Cfg.lam (c : Cfg) (s : Shared) (la p : Addr) : Cfg := c.aside s c.hn c.ht s.toks fun f => if f = 28 then la else if f = 99 then p else c.fa f
variable {la p : Addr}
theorem JH {i : Nat} {fd : FuncData} (D : Def c i fd) (h1 : i ≠ 28) (h2 : i ≠ 99) : Def (c.lam s la p) i fd := JS D ((if_neg h1).trans (if_neg h2))
structure LamS (c : Cfg) (sc : Sc) (lsc : Scope) : Prop where
  k1 : sc.lookup ("pile" : Str) = some .cell
  k2 : sc.lookup ("least" : Str) = some .cell
  k3 : sc.lookup ("over" : Str) = some .cell
  f1 : lsc.names.lookup ("pile" : Str) = some .free
  f2 : lsc.names.lookup ("least" : Str) = some .free
  f3 : lsc.names.lookup ("over" : Str) = some .free
  w1 : lsc.names.lookup ("eq" : Str) = some .globalImplicit
  w2 : lsc.names.lookup ("len" : Str) = some .globalImplicit
  w3 : lsc.names.lookup ("sub" : Str) = some .globalImplicit
  w4 : lsc.names.lookup ("add" : Str) = some .globalImplicit
  w5 : lsc.names.lookup ("n" : Str) = some .local
  co : lsc.isCoroutine = false
  gen : lsc.isGenerator = false
  kd : lsc.kind = .function
  nc : ∀ y ∈ lsc.names, y.2 ≠ .cell
  hf : zt0 sc lsc.names = true
  hn : zb3 (lsc.names.map (·.1)) = true
  hps : lsc.names ≠ c.ps
  hsp : sc = c.ps
  hdot : c.ps.lookup (".0" : Str) = none
theorem zn2 {env : Env} {scope : Scope} (F : FrR c W s env Γ) (hs : env.scope.names = sc) (L : LamS c sc scope) : ∃ cl, closureFor scope env = pure cl /\ Clos scope.names env cl := by
  refine JO (fun p hp hpf => F.own p.1 (YU hs ?_)) (Yf L.hn)
  have := List.all_eq_true.mp L.hf _ hp
  rw [hpf] at this
  simpa using this
theorem yn0 {env : Env} {scope : Scope} {s3 : Shared} {cl : List (Str × Addr)} {params : Arguments} {body : PySem.Expr} {ctv c' : Value} {pile least over : AV} (F : FrR c W s env Γ) (hs : env.scope.names = sc) (x : Ext [] W W' s s3) (C : Clos scope.names env cl) (L : LamS c sc scope)
    (hla : s3.heap.get? la = some { cls := .type "function", data := .func (zE5 c params body scope cl c' ctv) }) (hcd : s3.heap.CodeRec c' (c.tq 2)) (t1 : pile.t = 11) (hp : W.ρ[pile.m]? = some p) (t2 : least.t = 2) (t3 : over.t = 2)
    (g1 : Γ.lookup ("pile" : Str) = some pile) (g2 : Γ.lookup ("least" : Str) = some least) (g3 : Γ.lookup ("over" : Str) = some over) : zT8 (c.lam s3 la p) 28 (zE5 c params body scope cl c' ctv) body (zr7 least over) := by
  have kp : ∀ {q v}, q ∈ env.cells -> s.heap.IsCell q.2 v -> s3.heap.IsCell q.2 v := fun hq h => IsCell.move h fun o e => x.kp _ _ (x.notin (F.cellAt _ hq).1 e) (fun h => nomatch h) e
  have cellOf : ∀ {z : Str} {w : AV}, Γ.lookup z = some w -> sc.lookup z = some .cell -> scope.names.lookup z = some .free -> ∃ ad o v, cl.lookup z = some ad /\ s3.heap.get? ad = some o /\ o.data = .cell (some v) /\ VR c W w v := fun {z w} hz hk hf => by
    obtain ⟨_, ad, v, h4, h5, h7⟩ := F.cells z w hz fun q => nomatch (YU hs hk).symm.trans q
    obtain ⟨o, h5, h6⟩ := kp (mem_of_lookup h4) h5
    exact ⟨ad, o, v, (C.look (mem_of_lookup hf)).trans h4, h5, h6, h7⟩
  refine ⟨⟨_, hla, rfl⟩, rfl, rfl, rfl, L.co, L.gen, L.kd, L.nc, hcd, fun q hq => ?_, ?_, fun z w hz => ?_, L.hps⟩
  · obtain ⟨h1, h2⟩ := C.q q hq
    obtain ⟨_, _, _, v, h4⟩ := F.cellAt _ (mem_of_lookup h1)
    obtain ⟨o, h4, h5⟩ := kp (mem_of_lookup h1) h4
    exact ⟨Yl (Yf L.hn) h2, o, v, h4, h5⟩
  · have hnd := C.n
    rw [List.Nodup, List.pairwise_map] at hnd
    exact List.Pairwise.imp_of_mem (fun {u v} hu hv hne e => hne (name_of_addr F.apart (mem_of_lookup (C.q u hu).1) (e ▸ mem_of_lookup (C.q v hv).1))) hnd
  · have int : ∀ {w : AV} {v : Value}, w.t = 2 -> VR c W w v -> ∀ W', VR (c.lam s3 la p) W' w v := fun e h W' => by
      unfold VR at h ⊢
      rw [e] at h ⊢
      exact h
    rcases ZE hz with ⟨rfl, rfl⟩ | ⟨_, hz⟩
    · obtain ⟨ad, o, v, h1, h2, h3, h4⟩ := cellOf g1 L.k1 L.f1
      obtain ⟨p', rfl, hp'⟩ := h4.at t1
      cases hp.symm.trans hp'
      exact ⟨L.f1, ad, o, _, h1, h2, h3, fun _ => rfl⟩
    · rcases ZE hz with ⟨rfl, rfl⟩ | ⟨_, hz⟩
      · obtain ⟨ad, o, v, h1, h2, h3, h4⟩ := cellOf g2 L.k2 L.f2
        exact ⟨L.f2, ad, o, v, h1, h2, h3, int t2 h4⟩
      · rcases ZE hz with ⟨rfl, rfl⟩ | ⟨_, hz⟩
        · obtain ⟨ad, o, v, h1, h2, h3, h4⟩ := cellOf g3 L.k3 L.f3
          exact ⟨L.f3, ad, o, v, h1, h2, h3, int t3 h4⟩
        · cases hz
end
section
variable {c : Cfg} {d : Nat} {sc : Sc} {Γ : Ctx} {W : Wd} {H : AH} {s : Shared} {A : Around} {la p : Addr}
theorem zw1 {c' : Cfg} {W' : Wd} {l : List AV} : ∀ {vs : List Value}, allL isIB l = true -> VRs c W l vs -> VRs c' W' l vs := by
  induction l with
  | nil => exact fun _ r => r
  | cons x l ih =>
    rintro _ h ⟨v, t, e, hv, ht⟩
    obtain ⟨h1, h2⟩ := gd_t (show gd (isIB x) (allL isIB l) = true from h)
    refine ⟨v, t, e, ?_, ih h2 ht⟩
    have h1 := Nat.eq_of_beq_eq_true h1
    unfold VR at hv ⊢
    rw [h1] at hv ⊢
    exact hv
theorem ye6 {f11 f16 f18 f20 fl : FuncData} {le : PySem.Expr} {prs : List (List Nat × List Nat)} {least over : AV} {lsc : Scope} {q1 q1' q2 q3 q4 q5 q6 q7 q8 q9 q10 q11 q12 q13 q14 q15 : Pos} {q0 : Nat} (S : Stat c) (K : LamD c f11 f16 f18 f20) (R : Rel c W H s) (T0 : zy2 c W H s 0) (P : zt7 (c.lam s la p) prs)
    (L : zT8 (c.lam s la p) 28 fl le (zr7 least over)) (hle : le = lamE q1 q1' q2 q3 q4 q5 q6 q7 q8 q9 q10 q11 q12 q13 q14 q15 q0) (N : LamS c sc lsc) (hs : fl.scope = lsc) (hbp : ZA fl ["n"]) : KeyF (c.lam s la p) 9 28 (onE (lamC prs least over)) := by
  subst hle hs
  have S2 : Stat (c.lam s la p) := VT S R S.hinj
  have hl : ∀ e, zL2 (c.lam s la p) e := fun e {_ W' _ _ _ _ _} _ R' ha _ _ h5 h0 _ => by
    have t := zg0 R' h5 h0 (Nat.lt_of_le_of_lt (Nat.zero_le _) (List.getElem?_eq_some_iff.mp ha).1)
    obtain ⟨ps, ho, _⟩ := T0.o
    exact absurd (List.mem_of_getElem? t.a) (R'.st (c.tp 0) _ ho).2
  have AF : AccF (c.lam s la p) := ⟨K.acc.sub, K.acc.noseq, K.acc.get, K.acc.iter⟩
  have K2 : LamD (c.lam s la p) f11 f16 f18 f20 := ⟨JH K.d11 (by decide) (by decide), JH K.d16 (by decide) (by decide), JH K.d18 (by decide) (by decide), JH K.d20 (by decide) (by decide), K.b16, K.b18, K.b20, K.len, AF, K.hh⟩
  exact ⟨S2, K.hh, zV4 S2 (zp2 S2 AF), zI9 S2 (hl _), K.len, fl, "n", L.ob, yp2 (d := 8) S2 L N.w5 fun av => ye5 S2 K2 P (Nat.le_refl _) (zI9 S2 (hl _)) N.w1 N.w2 N.w3 N.w4, hbp⟩
theorem zQ4 {f11 f16 f18 f20 fl : FuncData} {le : PySem.Expr} {prs : List (List Nat × List Nat)} {least over x y : AV} {lsc : Scope} {q1 q1' q2 q3 q4 q5 q6 q7 q8 q9 q10 q11 q12 q13 q14 q15 : Pos} {q0 : Nat} {us : List Value} {k : AV -> AH -> Bool} (S : Stat c) (K : LamD c f11 f16 f18 f20) (hkw : ∀ s la p, c.K.In s.heap -> Xo (c.lam s la p) f11 2 [aI 0, aN])
    (h10 : 10 <= d) (hA : AOk d A) (R : Rel c W H s) (T0 : zy2 c W H s 0) (P : zt7 (c.lam s la p) prs) (L : zT8 (c.lam s la p) 28 fl le (zr7 least over)) (hle : le = lamE q1 q1' q2 q3 q4 q5 q6 q7 q8 q9 q10 q11 q12 q13 q14 q15 q0) (N : LamS c sc lsc) (hs : fl.scope = lsc) (hbp : ZA fl ["n"])
    (hus : VRs c W [x, y] us) (hx : x.t = 13) (hi : allL isIB x.l = true) (hy : y.t = 1) (hk : Zn (on5 (bisL (onE (lamC prs least over)) 28)) [x, y, aI 0, aN, aF 28] YP (XB k H) = true) : codeAny c.M A (.call (.ref (c.fa 11)) ⟨us, [("key", .ref la)]⟩) (PC c W s k) s := by
  have F := ye6 S K R T0 P L hle N hs hbp
  obtain ⟨u1, _, rfl, hu1, u2, _, rfl, hu2, rfl⟩ := hus
  obtain ⟨a, vs, n, rfl, ho, hvs⟩ := Yi R hu1 hx
  have R2 : Rel (c.lam s la p) (JT s fun b => if b = a then some x else none) YP s := JQ (Nat.lt_of_lt_of_le R.tok.1 (Nat.le_trans R.tok.2.1 R.tok.2.2)) (Nat.le_refl _) fun b z h => by
    by_cases q : b = a
    · subst q
      cases (if_pos rfl).symm.trans h
      refine ⟨_, ho, ?_⟩
      unfold FZ
      rw [hx]
      exact ⟨vs, n, rfl, zw1 hi hvs⟩
    · cases (if_neg q).symm.trans h
  obtain ⟨dvs, hbd, hdv⟩ := hkw s la p (R.in S) (vs := [.ref a, u2]) (v := .ref la) R2 rfl
  have v1 : VR (c.lam s la p) (JT s fun b => if b = a then some x else none) x (.ref a) := by unfold VR; rw [hx]; exact ⟨a, rfl, if_pos rfl⟩
  have v2 : VR (c.lam s la p) (JT s fun b => if b = a then some x else none) y u2 := by unfold VR at hu2 ⊢; rw [hy] at hu2 ⊢; exact hu2
  have hv : VRs (c.lam s la p) (JT s fun b => if b = a then some x else none) (app [x, y] (app [aI 0, aN] [aF 28])) ([.ref a, u2] ++ (dvs ++ [.ref la])) := VRs.append ⟨_, _, rfl, v1, _, _, rfl, v2, rfl⟩ (hdv.append ⟨_, [], rfl, rfl, rfl⟩)
  exact codeAny_mono (zo0 F (JH K.d11 (by decide) (by decide)) (hA.le h10) R2 hv hbd hk) fun r s' q => JR R q
theorem zE8 (S : Stat c) {p2 p3 p4 p5 p6 p7 : Pos} {n : Nat} {over : AV} (g3 : Γ.lookup ("over" : Str) = some over) (h1 : nsIn c.K mainGlobals "list" = some none) (h2 : nsIn c.K mainGlobals "range" = some none)
    (k1 : sc.lookup ("list" : Str) = some .globalImplicit) (k2 : sc.lookup ("range" : Str) = some .globalImplicit) : SimL c d sc Γ [.Call (.Name "list" p2) [.Call (.Name "range" p3) [.Name "over" p4] [] p5] [] p6, .Constant (.bool true) n p7] (zr8 over) :=
  Zb (hl := of_decide_eq_true rfl) (ZF S yi2 (.inr ⟨_, rfl⟩) (by rfl) h1 k1 (Zb (ZF S ZL (.inr ⟨_, rfl⟩) (by rfl) h2 k2 (Zb (Za g3) Zd) (by decide) (by decide)) Zd) (by decide) (by decide)) (Zb ZU Zd)
theorem zM9 {f11 f16 f18 f20 : FuncData} {cd bm : Addr} {ob : Obj} {lsc : Scope} {params : Arguments} {pile least over : AV} {q1 q1' q2 q3 q4 q5 q6 q7 q8 q9 q10 q11 q12 q13 q14 q15 p1 p2 p3 p4 p5 p6 p7 lpos kp pos : Pos} {q0 n : Nat}
    (S : Stat c) (K : LamD c f11 f16 f18 f20) (F : LamF c cd bm ob) (hkw : ∀ s la p, c.K.In s.heap -> Xo (c.lam s la p) f11 2 [aI 0, aN]) (h10 : 10 <= d) (nl : nsIn c.K mainGlobals "list" = some none) (nr : nsIn c.K mainGlobals "range" = some none) (N : LamS c sc lsc)
    (g1 : Γ.lookup ("pile" : Str) = some pile) (g2 : Γ.lookup ("least" : Str) = some least) (g3 : Γ.lookup ("over" : Str) = some over) (k5 : sc.lookup ("list" : Str) = some .globalImplicit) (k6 : sc.lookup ("range" : Str) = some .globalImplicit) (k7 : sc.lookup ("bisect_left" : Str) = some .globalImplicit)
    (hdef : ∀ env, defaultsOf params env = ([], [])) (hbp : ∀ cl c' ctv, ZA (zE5 c params (lamE q1 q1' q2 q3 q4 q5 q6 q7 q8 q9 q10 q11 q12 q13 q14 q15 q0) lsc cl c' ctv) ["n"]) :
    SimE c d sc Γ (.Call (.Name "bisect_left" p1) [.Call (.Name "list" p2) [.Call (.Name "range" p3) [.Name "over" p4] [] p5] [] p6, .Constant (.bool true) n p7] [⟨some "key", .Lambda params (lamE q1 q1' q2 q3 q4 q5 q6 q7 q8 q9 q10 q11 q12 q13 q14 q15 q0) lsc lpos, kp⟩] pos) (yn2 pile least over) := fun A env W s H k Z hk => by
  have hx : f11.name = "bisect_left" := K.d11.name.trans (by decide +kernel)
  refine wpAny_Call_Name_kw (Xj S Z k7 (hx ▸ K.d11.at'.ns) ?_ (by decide))
  obtain ⟨o, ho, hdat⟩ := K.d11.at'.ob
  refine callWith_function_kw (o := o) (fd := f11) (evalArgs_kw2 (by rfl) (((zE8 S g3 nl nr k5 k6).sim pos).use Z hk fun l us H2 W2 s2 k2 x2 D2 v2 => ?_) (by rfl))
  obtain ⟨t1, k2⟩ := kd_t k2
  obtain ⟨r1, k2⟩ := kd_t k2
  obtain ⟨a1, k2⟩ := kd_t k2
  obtain ⟨a2, k2⟩ := kd_t k2
  obtain ⟨a3, k2⟩ := kd_t k2
  obtain ⟨a4, k2⟩ := kd_t k2
  obtain ⟨a5, k2⟩ := gd_t k2
  obtain ⟨t2, k2⟩ := kd_t k2
  obtain ⟨t3, k2⟩ := kd_t k2
  have a5 : ∀ {W' : Wd} {s'}, Rel c W' H2 s' -> 2 < W'.ρ.length := fun R => R.cnt ▸ Nat.blt_eq.mp a5
  obtain ⟨cl, hcl, C⟩ := zn2 D2.F D2.hs N
  refine kwAll_cons (wpAny_mono (zP8 (E := NoE) S F D2.R D2.F.glob (D2.F.src (D2.hs.trans N.hsp) N.hdot) (zg0 D2.R a1 a2 (a5 D2.R)) hcl (hdef env)) (fun v s3 p3 => kwAll_nil ?_) noe)
  obtain ⟨la, ctv, c', W3, rfl, X3, R3, hla, hcd⟩ := p3
  obtain ⟨_, _, v, _, _, hv⟩ := D2.F.cells _ _ g1 fun q => nomatch (YU D2.hs N.k1).symm.trans q
  obtain ⟨p, rfl, hp⟩ := hv.at t1
  have hp3 := X3.le.ix _ _ hp
  obtain ⟨_, hob3, z⟩ := R3.obj _ _ hp3
  obtain ⟨vs, nn, dx, rfl, _, hvs⟩ := z.at r1
  obtain ⟨prs, hprs, k2⟩ := zC0 R3 k2 hvs
  obtain ⟨x, y, rfl, k2⟩ := Vz k2
  obtain ⟨e1, k2⟩ := kd_t k2
  obtain ⟨e2, k2⟩ := gd_t k2
  obtain ⟨e3, k2⟩ := kd_t k2
  refine ⟨⟨(R3.in S) _ _ ho, hdat⟩, wpAny_call (codeAny_mono (zQ4 (la := la) (p := p) S K hkw h10 Z.hA R3 (zg0 R3 a3 a4 (Nat.lt_trans (by decide) (a5 R3))) ⟨dx, vs, nn, _, rfl, hob3, hprs⟩ (yn0 D2.F D2.hs X3 C N hla hcd t1 hp t2 t3 g1 g2 g3) rfl N rfl (hbp _ _ _) (v2.1.ext X3) e1 e2 e3 k2) fun r s4 p4 => ?_)⟩
  obtain ⟨v, rfl, p4⟩ := p4
  exact PG.trans p4 (x2.trans X3)
end
end Mine
end
section
namespace Mine
open PySem PySem.Sre
noncomputable def YO : Array Nat := #[14, 8, 1, 2, 4294967295, 1, 1, 46, 0, 16, 46, 24, 9, 1, 4294967295, 13, 4, 8, 0, 0, 1, 6, 5, 1]
noncomputable def za7 (txt : Array Nat) (s : Nat) (o : Bool) (seen : Seen) : M :=
  { code := YO, text := txt, lim := txt.size, start := s, lastStart := txt.size, pc := 9, pos := s, handed := s, outermost := o, marks := #[], frames := [{ wait := .nextStart, pc := 9, pos := s, outermost := o }], weight := 1, seen := seen }
noncomputable def YD (txt : Array Nat) (s : Nat) (o : Bool) (seen : Seen) (start handed pc pos : Nat) (o' : Bool) : M :=
  { code := YO, text := txt, lim := txt.size, start := start, lastStart := txt.size, pc := pc, pos := pos, handed := handed, outermost := o', marks := #[], frames := [{ wait := .nextStart, pc := 9, pos := s, outermost := o }], weight := 1, seen := seen, answer := some false }
theorem zg4 {txt : Array Nat} {s : Nat} {o : Bool} {seen : Seen} (h : txt.size <= s) : (za7 txt s o seen).step = YD txt s o (seen.add 16) s s 9 s o := by
  show (if s ≥ txt.size then _ else _) = _
  rw [if_pos h]
  rfl
theorem zk9 {txt : Array Nat} {s : Nat} {o : Bool} {seen : Seen} (h : s < txt.size) (hx : (txt.getD s 0 == 46) = false) : (za7 txt s o seen).step = YD txt s o (seen.add 16) s s 9 s o := by
  show (if s ≥ txt.size then _ else (match (Except.ok (txt.getD s 0 == 46, seen.add 16) : Except String (Bool × Seen)) with
    | .error why => _
    | .ok (false, seen) => _
    | .ok (true, seen) => _)) = _
  rw [if_neg (by omega), hx]
  rfl
theorem zA2 {txt : Array Nat} {s start handed pc pos : Nat} {o o' : Bool} {seen : Seen} (h : s < txt.size) : (YD txt s o seen start handed pc pos o').step = za7 txt (s + 1) false seen := by
  show (if s < txt.size then _ else _) = _
  rw [if_pos h]
  rfl
theorem zA1 {txt : Array Nat} {s start handed pc pos : Nat} {o o' : Bool} {seen : Seen} (h : txt.size <= s) : (YD txt s o seen start handed pc pos o').step.step.outcome = some .failed := by
  have : (YD txt s o seen start handed pc pos o').step = { YD txt s o seen start handed pc pos o' with frames := [], weight := 0, pc := 9, pos := s, outermost := o } := by
    show (if s < txt.size then _ else _) = _
    rw [if_neg (by omega)]
    rfl
  rw [this]
  rfl
noncomputable def Vf (txt : Array Nat) (s : Nat) (o : Bool) (seen : Seen) : M := { za7 txt s o seen with pc := 11, pos := s + 1 }
theorem zg3 {txt : Array Nat} {s : Nat} {o : Bool} {seen : Seen} (h : s < txt.size) (hx : (txt.getD s 0 == 46) = true) : (za7 txt s o seen).step = Vf txt s o (seen.add 16) := by
  show (if s ≥ txt.size then _ else (match (Except.ok (txt.getD s 0 == 46, seen.add 16) : Except String (Bool × Seen)) with
    | .error why => _
    | .ok (false, seen) => _
    | .ok (true, seen) => _)) = _
  rw [if_neg (by omega), hx]
  rfl
theorem zj8 (c : Nat) (seen : Seen) : ∃ seen', accepts YO 15 c seen = .ok (isDigit c, seen') := by
  have e : accepts YO 15 c seen = (category 0 c >>= fun b => if b = true then pure (true, (seen.add 8).add 55) else inSet YO c 23 19 true ((seen.add 8).add 55)) := rfl
  have e2 : category 0 c = .ok (isDigit c) := by
    show Except.ok (isDigit c != false) = _
    cases isDigit c <;> rfl
  rw [e, e2]
  cases isDigit c
  · exact ⟨_, rfl⟩
  · exact ⟨_, rfl⟩
theorem zU9 {txt : Array Nat} {n p f : Nat} {seen : Seen} (h : isDigit (txt.getD p 0) = false) : ∃ seen', run YO txt 15 n p f seen = .ok (f, seen') := by
  cases n with
  | zero => exact ⟨_, rfl⟩
  | succ n =>
    obtain ⟨s', e⟩ := zj8 (txt.getD p 0) seen
    refine ⟨s', ?_⟩
    show (accepts YO 15 (txt.getD p 0) seen >>= _) = _
    rw [e, h]
    rfl
theorem yb1 {txt : Array Nat} {n p : Nat} {seen : Seen} (hn : 0 < n) (h : isDigit (txt.getD p 0) = true) (h2 : n = 1 \/ isDigit (txt.getD (p + 1) 0) = false) : ∃ seen', run YO txt 15 n p 0 seen = .ok (1, seen') := by
  obtain ⟨n, rfl⟩ : ∃ m, n = m + 1 := ⟨n - 1, by omega⟩
  obtain ⟨s', e⟩ := zj8 (txt.getD p 0) seen
  have e1 : run YO txt 15 (n + 1) p 0 seen = run YO txt 15 n (p + 1) 1 s' := by
    show (accepts YO 15 (txt.getD p 0) seen >>= _) = _
    rw [e, h]
    rfl
  rw [e1]
  rcases h2 with h2 | h2
  · have : n = 0 := by omega
    subst this
    exact ⟨_, rfl⟩
  · exact zU9 h2
theorem VM (txt : Array Nat) (s : Nat) (o : Bool) (seen : Seen) : (Vf txt s o seen).step =
    (if (1 : Int) > (txt.size : Int) - ((s + 1 : Nat) : Int) then ({ Vf txt s o (seen.add 24) with answer := some false } : M) else
      match run YO txt 15 (min 4294967295 ((txt.size : Int) - ((s + 1 : Nat) : Int)).toNat) (s + 1) 0 ((seen.add 24).add 13) with
      | .error why => ({ Vf txt s o (seen.add 24) with outcome := some (.stuck why) } : M)
      | .ok (n, seen') => if n < 1 then ({ Vf txt s o seen' with answer := some false } : M) else
          ({ Vf txt s o seen' with pos := s + 1 + n } : M).afterRun .giveBack n (M.keep { Vf txt s o seen' with pos := s + 1 + n } false)) := by
  rfl
theorem zg5 {txt : Array Nat} {s : Nat} {o : Bool} {seen : Seen} (h : s + 1 = txt.size) : ∃ seen', (Vf txt s o seen).step = YD txt s o seen' s s 11 (s + 1) o := by
  rw [VM, if_pos (by omega)]
  exact ⟨_, rfl⟩
theorem zl0 {txt : Array Nat} {s : Nat} {o : Bool} {seen : Seen} (h : s + 1 < txt.size) (hd : isDigit (txt.getD (s + 1) 0) = false) : ∃ seen', (Vf txt s o seen).step = YD txt s o seen' s s 11 (s + 1) o := by
  rw [VM, if_neg (by omega)]
  obtain ⟨s', e⟩ := zU9 (n := min 4294967295 ((txt.size : Int) - ((s + 1 : Nat) : Int)).toNat) (f := 0) (seen := (seen.add 24).add 13) hd
  rw [e]
  exact ⟨_, rfl⟩
noncomputable def Xt (txt : Array Nat) (s : Nat) (o : Bool) (seen : Seen) : M :=
  { code := YO, text := txt, lim := txt.size, start := s, lastStart := txt.size, pc := 21, pos := s + 2, handed := s + 2, outermost := o, marks := #[],
    frames := [{ wait := .giveBack, pc := 11, pos := s + 2, outermost := o, count := 1 }, { wait := .nextStart, pc := 9, pos := s, outermost := o }], weight := 2, seen := seen }
theorem VX {txt : Array Nat} {s : Nat} {o : Bool} {seen : Seen} (h : s + 1 < txt.size) (hd : isDigit (txt.getD (s + 1) 0) = true) (h2 : s + 2 = txt.size \/ isDigit (txt.getD (s + 2) 0) = false) : ∃ seen', (Vf txt s o seen).step = Xt txt s o seen' := by
  rw [VM, if_neg (by omega)]
  obtain ⟨s', e⟩ := yb1 (n := min 4294967295 ((txt.size : Int) - ((s + 1 : Nat) : Int)).toNat) (seen := (seen.add 24).add 13) (by omega) hd (by
    rcases h2 with h2 | h2
    · exact .inl (by omega)
    · exact .inr h2)
  rw [e]
  exact ⟨_, rfl⟩
theorem VD (txt : Array Nat) (s : Nat) (o : Bool) (seen : Seen) : (Xt txt s o seen).step =
    (if (s + 2 == txt.size || (s + 2 + 1 == txt.size && txt.getD (s + 2) 0 == 10)) = true then ({ Xt txt s o ((seen.add 6).add 48) with pc := 23 } : M) else ({ Xt txt s o ((seen.add 6).add 48) with answer := some false } : M)) := by
  rfl
theorem zc5 {txt : Array Nat} {s : Nat} {o : Bool} {seen : Seen} (h : s + 2 ≠ txt.size) (h2 : ¬ (s + 3 = txt.size /\ txt.getD (s + 2) 0 = 10)) : ∃ seen', (Xt txt s o seen).step.step = YD txt s o seen' s (s + 2) 11 (s + 2) o := by
  rw [VD, if_neg (by
    simp only [Bool.or_eq_true, Bool.and_eq_true, beq_iff_eq, not_or]
    exact ⟨h, h2⟩)]
  exact ⟨_, rfl⟩
theorem JY {txt : Array Nat} {s : Nat} {o : Bool} {seen : Seen} (h : s + 2 = txt.size) : (Xt txt s o seen).step.step.step.step.step.outcome = some .matched := by
  rw [VD, if_pos (by
    simp only [Bool.or_eq_true, beq_iff_eq]
    exact .inl h)]
  cases o <;> rfl
noncomputable def hits : List Nat -> Option Bool
  | [] => some false
  | x :: r => match x == 46 with
    | true => match r with
      | [] => some false
      | d :: r' => match isDigit d with
        | true => match r' with
          | [] => some true
          | e :: _ => match isDigit e || e == 10 with
            | true => none
            | false => hits r
        | false => hits r
    | false => hits r
theorem ZK {m : M} {n : Nat} (h : m.outcome = none) : M.runFor (n + 1) m = M.runFor n m.step := by
  show (if m.outcome.isSome = true then m else M.runFor n m.step) = _
  rw [h]
  rfl
theorem zd3 {m : M} : ∀ (n : Nat), m.outcome.isSome = true -> M.runFor n m = m
  | 0, _ => rfl
  | n + 1, h => by
    show (if m.outcome.isSome = true then m else _) = _
    rw [if_pos h]
theorem zl9 : ∀ (a b : Nat) (m : M), M.runFor (a + b) m = M.runFor b (M.runFor a m)
  | 0, b, m => by rw [Nat.zero_add]; rfl
  | a + 1, b, m => by
    rw [Nat.add_right_comm]
    show (if m.outcome.isSome = true then m else M.runFor (a + b) m.step) = M.runFor b (if m.outcome.isSome = true then m else M.runFor a m.step)
    split
    · rename_i h; rw [zd3 b h]
    · exact zl9 a b m.step
theorem JL {txt : Array Nat} {s : Nat} {x : Nat} {r : List Nat} (h : txt.toList.drop s = x :: r) : s < txt.size /\ txt.getD s 0 = x /\ txt.toList.drop (s + 1) = r /\ s + 1 + r.length = txt.size := by
  have hl : s < txt.toList.length := by
    rcases Nat.lt_or_ge s txt.toList.length with hh | hh
    · exact hh
    · rw [List.drop_eq_nil_of_le hh] at h; cases h
  have e := List.drop_eq_getElem_cons hl
  rw [h] at e
  injection e with e1 e2
  have hs : s < txt.size := by simpa using hl
  refine ⟨hs, ?_, e2.symm, ?_⟩
  · simp [Array.getD, hs, e1]
  · have := congrArg List.length h
    simp only [List.length_drop, List.length_cons, Array.length_toList] at this
    omega
noncomputable def outB (b : Bool) : Sre.Outcome := match b with
  | true => .matched
  | false => .failed
theorem scan {txt : Array Nat} : ∀ (l : List Nat) (s : Nat) (o : Bool) (seen : Seen) (b : Bool), txt.toList.drop s = l -> s + l.length = txt.size -> hits l = some b ->
    ∃ n, n <= 6 * l.length + 10 /\ (M.runFor n (za7 txt s o seen)).outcome = some (outB b)
  | [], s, o, seen, b, hd, hs, h => by
    cases h
    have hs : txt.size = s := hs.symm
    refine ⟨3, by simp, ?_⟩
    have e1 : (YD txt s o (seen.add 16) s s 9 s o).step = { YD txt s o (seen.add 16) s s 9 s o with frames := [], weight := 0, pc := 9, pos := s, outermost := o } := by
      show (if s < txt.size then _ else _) = _
      rw [if_neg (by omega)]
      rfl
    have e2 : (YD txt s o (seen.add 16) s s 9 s o).step.outcome = none := by rw [e1]; rfl
    rw [ZK rfl, zg4 (by omega), ZK rfl, ZK e2]
    exact zA1 (by omega)
  | x :: r, s, o, seen, b, hd, hs, h => by
    obtain ⟨h1, h2, h3, h4⟩ := JL hd
    have next : ∀ {seen' : Seen} {start handed pc pos : Nat} {o' : Bool}, hits r = some b -> ∃ n, n <= 6 * r.length + 11 /\ (M.runFor n (YD txt s o seen' start handed pc pos o')).outcome = some (outB b) := fun {seen' start handed pc pos o'} hr => by
      obtain ⟨n, hn, e⟩ := scan r (s + 1) false seen' b h3 h4 hr
      exact ⟨n + 1, by omega, by rw [ZK rfl, zA2 h1]; exact e⟩
    unfold hits at h
    split at h
    · rename_i hx
      have e1 := zg3 (o := o) (seen := seen) h1 (by rw [h2]; exact hx)
      split at h
      · cases h
        simp only [List.length_nil, Nat.add_zero] at h4
        obtain ⟨s', e2⟩ := zg5 (o := o) (seen := seen.add 16) h4
        obtain ⟨n, hn, e⟩ := next (seen' := s') (start := s) (handed := s) (pc := 11) (pos := s + 1) (o' := o) rfl
        exact ⟨n + 2, by simp at hn ⊢; omega, by rw [ZK rfl, e1, ZK rfl, e2]; exact e⟩
      · rename_i d r'
        obtain ⟨g1, g2, g3, g4⟩ := JL h3
        split at h
        · rename_i hdg
          split at h
          · cases h
            simp only [List.length_nil, Nat.add_zero] at g4
            obtain ⟨s', e2⟩ := VX (o := o) (seen := seen.add 16) g1 (by rw [g2]; exact hdg) (.inl g4)
            refine ⟨7, by simp, ?_⟩
            have e3 := JY (o := o) (seen := s') g4
            have f1 : (Xt txt s o s').step = ({ Xt txt s o ((s'.add 6).add 48) with pc := 23 } : M) := by
              rw [VD, if_pos (by simp only [Bool.or_eq_true, beq_iff_eq]; exact .inl g4)]
            rw [ZK rfl, e1, ZK rfl, e2, ZK rfl]
            rw [f1] at e3 ⊢
            rw [ZK rfl, ZK (by cases o <;> rfl), ZK (by cases o <;> rfl), ZK (by cases o <;> rfl)]
            exact e3
          · rename_i e r''
            split at h
            · cases h
            · rename_i he
              rw [Bool.or_eq_false_iff] at he
              obtain ⟨k1, k2, k3, k4⟩ := JL g3
              simp only [List.length_cons] at g4
              obtain ⟨s', e2⟩ := VX (o := o) (seen := seen.add 16) g1 (by rw [g2]; exact hdg) (.inr (by rw [k2]; exact he.1))
              obtain ⟨s'', e3⟩ := zc5 (o := o) (seen := s') (txt := txt) (s := s) (by omega) (by
                rintro ⟨_, q⟩
                rw [k2] at q
                rw [q] at he
                cases he.2)
              have f1 : (Xt txt s o s').step.outcome = none := by
                rw [VD, if_neg (by
                  simp only [Bool.or_eq_true, Bool.and_eq_true, beq_iff_eq, not_or]
                  refine ⟨by omega, ?_⟩
                  rintro ⟨_, q⟩
                  rw [k2] at q
                  rw [q] at he
                  cases he.2)]
                rfl
              obtain ⟨n, hn, en⟩ := next (seen' := s'') (start := s) (handed := s + 2) (pc := 11) (pos := s + 2) (o' := o) h
              refine ⟨n + 4, by simp at hn ⊢; omega, ?_⟩
              rw [ZK rfl, e1, ZK rfl, e2, ZK rfl, ZK f1, e3]
              exact en
        · rename_i hdg
          obtain ⟨s', e2⟩ := zl0 (o := o) (seen := seen.add 16) g1 (by rw [g2]; exact hdg)
          obtain ⟨n, hn, e⟩ := next (seen' := s') (start := s) (handed := s) (pc := 11) (pos := s + 1) (o' := o) h
          exact ⟨n + 2, by simp at hn ⊢; omega, by rw [ZK rfl, e1, ZK rfl, e2]; exact e⟩
    · rename_i hx
      obtain ⟨n, hn, e⟩ := next (seen' := seen.add 16) (start := s) (handed := s) (pc := 9) (pos := s) (o' := o) h
      exact ⟨n + 1, by simp at hn ⊢; omega, by rw [ZK rfl, zk9 h1 (by rw [h2]; exact hx)]; exact e⟩
end Mine
end
section
namespace Mine
open PySem PySem.W PySem.Calls PyProof.Rows PySem.Builtin PySem.Builtin.Re
section
variable {M : Model} {A : Around} {E : Value -> Shared -> Prop} {s : Shared}
theorem zO7 {m : Sre.M} {n k : Nat} {oc : Sre.Outcome} (h : (Sre.M.runFor n m).outcome = some oc) (hk : n <= k) : Sre.M.runFor k m = Sre.M.runFor n m := by
  obtain ⟨j, rfl⟩ := Nat.exists_eq_add_of_le hk
  exact (zl9 n j m).trans (zd3 _ (by rw [h]; rfl))
theorem yN3 {oc : Sre.Outcome} {Q : Sre.M -> Shared -> Prop} (turns : Nat) : ∀ (n : Nat) (m : Sre.M), (Sre.M.runFor n m).outcome = some oc -> n < turns * 4 -> (∀ m', m'.outcome = some oc -> Q m' s) -> wpAny M A (reDrive turns m) Q E s := by
  induction turns with
  | zero => exact fun n m _ hn _ => absurd hn (Nat.not_lt_zero n)
  | succ turns ih =>
    intro n m h hn q
    show wpAny M A (if (Sre.M.runFor 4 m).outcome.isSome = true then pure (Sre.M.runFor 4 m) else (rule "sre.turn" >>= fun _ => reDrive turns (Sre.M.runFor 4 m))) Q E s
    rcases Nat.le_total n 4 with h4 | h4
    · have e := zO7 h h4
      rw [e, h]
      exact wpAny_pure (q _ h)
    · obtain ⟨j, rfl⟩ := Nat.exists_eq_add_of_le h4
      rw [zl9] at h
      by_cases hs : (Sre.M.runFor 4 m).outcome.isSome = true
      · rw [if_pos hs]
        rw [zd3 _ hs] at h
        exact wpAny_pure (q _ h)
      · rw [if_neg hs]
        exact wpAny_bind (wpAny_rule (ih j _ h (Nat.lt_of_add_lt_add_left (n := 4) (by rw [Nat.add_comm 4 (turns * 4), <- Nat.succ_mul]; exact hn)) q))
theorem zB5 {Q : PUnit -> Shared -> Prop} {p : Nat -> Bool} {f : Nat -> String} (q : Q ⟨⟩ s) (l : List Nat) : wpAny M A (forIn l PUnit.unit fun i _ => (if p i = true then (rule (f i) >>= fun _ => pure (ForInStep.yield PUnit.unit)) else pure (ForInStep.yield PUnit.unit) : Sem (ForInStep PUnit))) Q E s := by
  induction l with
  | nil => rw [List.forIn_nil]; exact wpAny_pure q
  | cons i l ih =>
    rw [List.forIn_cons]
    refine wpAny_bind ?_
    split
    · exact wpAny_bind (wpAny_rule (wpAny_pure ih))
    · exact wpAny_pure ih
theorem yb2 {b : Bool} {n : Nat} {m : Sre.M} {Q : Option Sre.M -> Shared -> Prop} (h : (Sre.M.runFor n m).outcome = some (outB b)) (hn : n < 100000) (q : ∀ m', (b = true -> Q (some m') s) /\ (b = false -> Q none s)) : wpAny M A (reRunToEnd m) Q E s := by
  refine wpAny_bind (yN3 (2 ^ 64) n m h (Nat.lt_of_lt_of_le hn (by decide)) fun m' hm => ?_)
  refine wpAny_bind (zB5 (p := fun i => m'.seen.has i) (f := fun i => Sre.names.getD i "") ?_ (List.range Sre.names.size))
  show wpAny M A (match m'.outcome with
    | some .matched => pure (some m')
    | some .failed => pure none
    | some (.stuck why) => unsupported s!"_sre:{why}"
    | none => unsupported "internal:sre:no-outcome") Q E s
  rw [hm]
  cases b
  · exact wpAny_pure ((q m').2 rfl)
  · exact wpAny_pure ((q m').1 rfl)
inductive Jh (look : Addr -> Option Obj) (p : Addr) : Prop
  | mk (o : Obj) (fs : Array Value) (ca : Addr) (oc : Obj) (items : Array Value) (n : Nat) (h1 : look p = some o) (h2 : o.cls = .type "re.Pattern") (h3 : o.dict = none) (h4 : o.data = .fields fs) (h5 : reRawNat (fs.getD 6 .none) = 0) (h6 : reRawNat (fs.getD 2 .none) = 0) (h7 : fs.getD 5 .none = .ref ca)
    (h8 : look ca = some oc) (h9 : oc.data = .seq items n) (h10 : (items.map reRawOf).map (·.toNat) = YO) : Jh look p
theorem Jh.mono {f g : Addr -> Option Obj} {p : Addr} (P : Jh f p) (k : ∀ a o, f a = some o -> g a = some o) : Jh g p := P.rec fun o fs ca oc items n h1 h2 h3 h4 h5 h6 h7 h8 h9 h10 => ⟨o, fs, ca, oc, items, n, k _ _ h1, h2, h3, h4, h5, h6, h7, k _ _ h8, h9, h10⟩
theorem Jh.typ {p : Addr} (P : Jh s.heap.get? p) : s.TypeIs (.ref p) "re.Pattern" /\ ∃ o, s.heap.get? p = some o /\ o.dict = none := P.rec fun o _ _ _ _ _ h1 h2 h3 _ _ _ _ _ _ _ => ⟨⟨o, h1, h2⟩, o, h1, h3⟩
theorem zu2 {p : Addr} {x : Str} {t : Tok} {Q : ReTarget -> Shared -> Prop} (P : Jh s.heap.get? p) (hx : x.cps.size < 10000)
    (q : Q { pattern := .ref p, string := .str x t, code := YO, text := x.cps, kind := 0, groups := 0, pos := 0, lim := x.cps.size } s) : wpAny M A (reTarget "re.Pattern.search" "search" ⟨[.ref p, .str x t], []⟩) Q E s := by
  obtain ⟨o, fs, ca, oc, items, n, h1, _, _, h3, h4, h5, h6, h7, h8, h9⟩ := P
  show wpAny M A (reNamed "re.Pattern.search" "search" ["string", "pos", "endpos"] 1 [.str x t] [] >>= _) Q E s
  rw [show reNamed "re.Pattern.search" "search" ["string", "pos", "endpos"] 1 [.str x t] [] = pure [some (.str x t), none, none] from rfl]
  refine wpAny_bind (wpAny_pure (wpAny_bind (wpAny_pure (wpAny_bind (wpAny_pure (wpAny_bind (wpAny_fieldsOf h1 h3 (wpAny_bind (m := reTextOf (.str x t)) (wpAny_pure ?_)))))))))
  dsimp only
  rw [h4]
  refine wpAny_bind (m := reNoCollectionInside (.str x t) 0) (wpAny_pure ?_)
  rw [h6]
  refine wpAny_bind (wpAny_bind (wpAny_seqItems h7 h8 (wpAny_pure (wpAny_pure ?_))))
  dsimp only [Option.getD_some]
  have e2 : min ((2 : Int) ^ 63 - 1).toNat x.cps.size = x.cps.size := Nat.min_eq_right (Nat.le_of_lt (Nat.lt_trans hx (by decide)))
  have e3 : min (0 : Int).toNat x.cps.size = 0 := Nat.min_eq_left (Nat.zero_le _)
  rw [h9, h5, e2, e3]
  exact q
theorem zP3 {l : List Nat} (h : l.length < 2) : hits l = some false := by
  match l, h with
  | [], _ => rfl
  | [y], _ => unfold hits; cases y == 46 <;> rfl
theorem zv1 {x : Array Nat} {b : Bool} (hx : x.size < 10000) (hb : hits x.toList = some b) : ∃ n, n < 100000 /\ (Sre.M.runFor n (Sre.forSearch YO x 0 0 x.size false)).outcome = some (outB b) := by
  obtain ⟨n, hn, he⟩ := scan (txt := x) x.toList 0 true (({} : Sre.Seen).add 14) b rfl (Nat.zero_add _) hb
  by_cases h2 : x.size < 2
  · cases hb.symm.trans (zP3 h2)
    refine ⟨1, by decide, ?_⟩
    show (Sre.M.runFor 1 (if (decide (0 > x.size) || decide (x.size - 0 < 2)) = true then _ else _)).outcome = _
    have hc : (decide (0 > x.size) || decide (x.size - 0 < 2)) = true := Bool.or_eq_true_iff.mpr (.inr (decide_eq_true h2))
    rw [if_pos hc]
    rfl
  · refine ⟨n, Nat.lt_of_le_of_lt (Nat.le_trans hn (Nat.add_le_add_right (Nat.mul_le_mul_left 6 (Nat.le_of_lt hx)) 10)) (by decide), ?_⟩
    show (Sre.M.runFor n (if (decide (0 > x.size) || decide (x.size - 0 < 2)) = true then _ else _)).outcome = _
    have hc : ¬ (decide (0 > x.size) || decide (x.size - 0 < 2)) = true := fun h => (Bool.or_eq_true_iff.mp h).elim (fun h => Nat.not_lt_zero _ (of_decide_eq_true h)) fun h => h2 (of_decide_eq_true h)
    rw [if_neg hc]
    exact he
theorem zv2 {p : Addr} {x : Str} {t : Tok} {b : Bool} {Q : Value -> Shared -> Prop} (P : Jh s.heap.get? p) (hx : x.cps.size < 10000) (hb : hits x.cps.toList = some b)
    (q : (b = false -> Q .none s) /\ (b = true -> ∀ to mo, mo.cls = .type "re.Match" -> mo.isFreed = false -> Q (.ref (s.heap.push to).objs.size) { s with heap := (s.heap.push to).push mo })) :
    wpAny M A («re.Pattern.search» ⟨[.ref p, .str x t], []⟩) (fun fin s' => ∃ v, fin = .done (.ret v) /\ Q v s') E s := by
  refine wpAny_bind (zu2 P hx ?_)
  obtain ⟨n, hn, he⟩ := zv1 hx hb
  refine wpAny_bind (yb2 he hn fun m' => ⟨fun h => ?_, fun h => wpAny_pure ⟨_, rfl, q.1 h⟩⟩)
  refine wpAny_bind ?_
  show wpAny M A (newTuple [rawInt m'.start, rawInt m'.handed] >>= fun tv => newFields "re.Match" [.str x t, .ref p, rawInt 0, rawInt x.cps.size, rawInt m'.lastindex, tv]) _ _ _
  exact wpAny_bind (wpAny_newTuple (wpAny_newObj_type (wpAny_pure ⟨_, rfl, q.2 h _ _ rfl rfl⟩) (by size_fits)) (by size_fits))
end
theorem JZ : PlainAttrs "re.Pattern" :=
  ⟨⟨"object.__getattribute__", by rw [typeLookup_type, builtinLookup_eq_fast]; kernel_rfl, by decide +kernel⟩, by rw [typeLookup_type, builtinLookup_eq_fast]; kernel_rfl⟩
theorem XK : Slot "re.Pattern" "search" "re.Pattern.search" :=
  .of (owner := "re.Pattern") (n := "search") (by rw [typeLookup_type, builtinLookup_eq_fast]; kernel_rfl) (by decide +kernel) (by decide +kernel) (by decide +kernel)
    (by first | exact .inl (by decide +kernel) | exact .inr (by decide +kernel)) (by rw [isSubtype_type]; kernel_rfl)
theorem Jt : typeOf (.builtin "re.Pattern.search") = pure (.type "method_descriptor") := by show builtinType _ = _; rw [builtinType_eq_fast]; kernel_rfl
theorem Je : entryFor table "re.Pattern.search" = some Builtin.«re.Pattern.search» := entryFor_of_tree (by kernel_rfl)
theorem JU (a b : Value) : argsOk "re.Pattern.search" ⟨[a, b], []⟩ := by unfold argsOk; kernel_rfl
theorem zh6 : typeLookup (.type "re.Match") "__bool__" = pure none := by rw [typeLookup_type, builtinLookup_eq_fast]; kernel_rfl
theorem zm7 : typeLookup (.type "re.Match") "__len__" = pure none := by rw [typeLookup_type, builtinLookup_eq_fast]; kernel_rfl
end Mine
end
section
namespace Mine
open PySem PySem.W PySem.Calls PyProof.Rows
theorem zf8 {prog : Program} {w : World} {A : Around} {E : Value -> Shared -> Prop} {s : Shared} {a : Addr} {Q : Bool -> Shared -> Prop} (hT : s.TypeIs (.ref a) "re.Match") (q : Q true s) : wpAny (model prog w) A (truthy (.ref a)) Q E s := by
  unfold truthy
  refine wpAny_bind (wpAny_callSpecial?_none (name := Str.ofString "__bool__") hT zh6 ?_)
  exact wpAny_bind (wpAny_specialOf (name := Str.ofString "__len__") hT zm7 (wpAny_pure q))
noncomputable def sh4 (l : List Nat) (k : Bool) : Bool := gd (Nat.blt (lenN l) (nat_lit 10000)) k
theorem zB2 {l : List Nat} {k : Bool} (h : sh4 l k = true) : l.length < 10000 /\ k = true := ⟨Zw l ▸ Nat.blt_eq.mp (gd_t h).1, (gd_t h).2⟩
theorem Xy {l : List Nat} {k : Bool} (h : l.length < 10000) (hk : k = true) : sh4 l k = true := by
  unfold sh4
  rw [Zw, Nat.blt_eq.mpr h]
  exact hk
noncomputable def zB3 (a : CE) : CT := fun H k => a H fun v H1 => kd v.t 3 (sh4 v.s (oB (hits v.s) fun b => k b H1))
noncomputable def zo7 (g : Nat -> Nat) (a : CE) : CE := fun H k => a H fun v H1 => kd v.t 3 (gd (Ys v.s) (sh4 v.s (k (aS (v.s.map g)) H1)))
noncomputable def strC (F : List Nat -> List Nat -> AV) (a b : CE) : CE := fun H k => a H fun v H1 => kd v.t 3 (sh4 v.s (b H1 fun w H2 => kd w.t 3 (sh4 w.s (k (F v.s w.s) H2))))
noncomputable def yg8 (l m : List Nat) : AV := aI (Txt.find (txt l) (txt m))
noncomputable def zV1 (l m : List Nat) : AV := aI (Txt.rfind (txt l) (txt m))
noncomputable def zA4 (l m : List Nat) : AV := aB (Txt.startswith (txt l) (txt m))
noncomputable def zc3 (a b : CE) : CE := fun H k => a H fun v H1 => b H1 fun w H2 => kd v.t 3 (kd w.t 2 (YS w.i fun n => gd (Nat.blt 0 n) (gd (Nat.ble n (lenN v.s)) (sh4 v.s (k (aS (v.s.drop n)) H2)))))
theorem Jr {l : List Nat} (h : Ys l = true) : ∀ c ∈ (txt l).cps.toList, c < 128 := fun c hc => Nat.blt_eq.mp (VE h c hc)
section
variable {c : Cfg} {d : Nat} {sc : Sc} {Γ : Ctx}
inductive yt2 (c : Cfg) (W : Wd) (s : Shared) (k : Bool -> AH -> Bool) (v : Value) (s' : Shared) : Prop
  | mk (b : Bool) (H' : AH) (W' : Wd) (h : k b H' = true) (X : Ext [] W W' s s') (R : Rel c W' H' s') (r : (b = false /\ v = .none) \/ (b = true /\ ∃ m, v = .ref m /\ s'.TypeIs v "re.Match")) : yt2 c W s k v s'
theorem zl8 {p : Addr} {px apos pos : Pos} {e : PySem.Expr} {a : CE} (S : Stat c) (hp : Jh (fun a => c.K.lookup a) p) (hns : nsIn c.K mainGlobals "IPV4_RE" = some (some (.ref p))) (hsc : sc.lookup ("IPV4_RE" : Str) = some .globalImplicit) (hb : SimL c d sc Γ [e] (Ze a nilL))
    (hfew : ∀ env, ((backTo pos (starEach [e] env)).all (fun x => !x.1) && (backToKw pos (keywordEach [] env)).all (fun x => x.1.isSome) && decide ([e].length + ([] : List Keyword).length + (if ([] : List Keyword).isEmpty then 0 else 1) < 30)) = true := by intro _; rfl)
    (hbase : ∀ env, attributeBase (.Name "IPV4_RE" px) "search" env (eval (.Name "IPV4_RE" px) env) = eval (.Name "IPV4_RE" px) env := by intro _; rfl)
    (hline : (apos.endLine == pos.line) = true := by rfl) (he : ∀ env, starEach [e] env = (false, eval e env) :: starEach [] env := by intro _; rfl) (hplain : ∀ env, (backTo pos (starEach [e] env)).any (·.1) = false := by intro _; rfl) :
    SimT c d sc Γ (.Call (.Attribute (.Name "IPV4_RE" px) "search" apos) [e] [] pos) (zB3 a) := fun A env W s H k D hk => by
  show wpAny _ _ (eval (.Call (.Attribute (.Name "IPV4_RE" px) "search" apos) [e] [] pos) env >>= fun v => standAt pos >>= fun _ => holding [v] (truthy v)) _ _ _
  have P : ∀ {W H s}, Rel c W H s -> Jh s.heap.get? p := fun R => hp.mono fun a o e => R.in S a o e
  have hcall : wpAny c.M A (eval (.Call (.Attribute (.Name "IPV4_RE" px) "search" apos) [e] [] pos) env) (yt2 c W s k) NoE s := by
    refine wpAny_Call_method_late (hbase env) (hfew env) hline rfl (Xj S D hsc hns ?_ (by decide))
    refine ⟨"re.Pattern", "re.Pattern.search", JZ, XK, Jt, (P D.R).typ.1, fun a' h => by cases h; exact (P D.R).typ.2, Calls.callWith_builtin (hplain env) ?_⟩
    rw [ZQ (he env)]
    refine Calls.evalArgs_plain ?_
    rw [<- ZQ (he env)]
    refine (hb.sim pos).use (k := fun l H1 => is1 l fun v => kd v.t 3 (sh4 v.s (oB (hits v.s) fun b => k b H1))) D hk fun l us H2 W2 s2 k2 x2 D2 v2 => ?_
    obtain ⟨v, rfl, k2⟩ := XP k2
    obtain ⟨e1, k2⟩ := kd_t k2
    obtain ⟨hsh, k2⟩ := zB2 k2
    obtain ⟨b, hb', k2⟩ := oB_t k2
    obtain ⟨u, _, rfl, hu, rfl⟩ := v2.1
    obtain ⟨t, rfl⟩ := hu.at e1
    refine call_meetsIn XK (P D2.R).typ.1 Je (JU _ _) (S := fun A R s => wpAny c.M A.in1 (Builtin.«re.Pattern.search» ⟨[.ref p, .str (txt v.s) t], []⟩) (fun fin s' => ∃ v, fin = .done (.ret v) /\ R (.ok (.ret v)) s') (fun e s' => R (.error e) s') s) (MeetsIn.of_wp fun A R s h => h) ?_
    exact zv2 (P D2.R) hsh hb' ⟨fun h => ⟨b, H2, W2, k2, x2, D2.R, .inl ⟨h, rfl⟩⟩, fun h to mo hm hfr => ⟨b, H2, W2, k2, x2.trans ((Ext.push to).trans (.push mo)), (D2.R.push to).push mo, .inr ⟨h, _, rfl, ⟨mo, Heap.get?_push_size _ hfr, hm⟩⟩⟩⟩
  refine wpAny_bind (wpAny_mono hcall (fun v s1 p1 => wpAny_bind (wpAny_standAt (wpAny_holding ?_))) noe)
  obtain ⟨b, H', W', k1, x1, R1, hv⟩ := p1
  rcases hv with ⟨rfl, rfl⟩ | ⟨rfl, m, rfl, hT⟩
  · exact wpAny_pure ⟨_, H', W', k1, x1, R1, rfl⟩
  · exact zf8 hT ⟨_, H', W', k1, x1, R1, rfl⟩
theorem zu5 (x : List Nat) (t t' : Tok) {n : Nat} (h0 : 0 < n) (hn : n <= x.length) : sliceMade (txt x) t (some ((n : Int), t')) none none = .str (txt (x.drop n)) := by
  have hn : n <= (txt x).length := (ZN x).symm ▸ hn
  have e1 : slicePicked (txt x) (some ((n : Int), t')) none none = Builtin.Str.strSliceIndices (some (n : Int)) (some (((txt x).length : Nat) : Int)) 1 (txt x).length := by
    unfold slicePicked
    simp only [Option.map_some, Option.map_none, Option.getD_none]
    exact PySem.StrLaws.sliceIdx_none_hi _ _
  unfold sliceMade
  have hne : ((((none : Option (Int × Tok)).map (·.1)).getD 1 == 1 && (slicePicked (txt x) (some ((n : Int), t')) none none).length == (txt x).length)) = false := by
    rw [e1, PySem.StrLaws.strSliceIndices_plain hn (Nat.le_refl _)]
    simp
    omega
  rw [hne, e1, PySem.StrLaws.sliced_plain _ hn (Nat.le_refl _)]
  simp only [Bool.false_eq_true, if_false]
  congr 3
  rw [List.take_of_length_le (by rw [ZN, List.length_drop]; exact Nat.le_refl _)]
  rfl
theorem Jz {value lower : PySem.Expr} {p pos : Pos} {a b : CE} (ha : SimE c d sc Γ value a) (hb : SimE c d sc Γ lower b) : SimE c d sc Γ (.Subscript value (.Slice (some lower) none none p) pos) (zc3 a b) := fun A env W s H k D hk => by
  show wpAny _ _ (eval _ _) _ _ _
  rw [eval_Subscript]
  refine wpAny_bind (ha.use D hk fun x u H1 W1 s1 k1 x1 D1 v1 => wpAny_bind (wpAny_holding (wpAny_Slice ?_)))
  rw [evalPart_some]
  refine hb.use D1 k1 fun y w H2 W2 s2 k2 x2 D2 v2 => wpAny_pure (wpAny_pure ?_)
  obtain ⟨e1, k2⟩ := kd_t k2
  obtain ⟨e2, k2⟩ := kd_t k2
  obtain ⟨n, hn, k2⟩ := ZO k2
  obtain ⟨h1, k2⟩ := gd_t k2
  obtain ⟨h2, k2⟩ := gd_t k2
  obtain ⟨h3, k2⟩ := zB2 k2
  obtain ⟨t, rfl⟩ := v1.at e1
  obtain ⟨t', rfl⟩ := v2.at e2
  rw [hn]
  generalize hso : ({ cls := .type "slice", data := .fields #[.int (n : Int) t', .none, .none] } : Obj) = so
  show wpAny c.M A (standAt pos >>= fun _ => getitemInPython (.str (txt x.s) t) >>= fun b => subscripted (.Slice (some lower) none none p) b (.str (txt x.s) t) (.ref s2.heap.objs.size) >>= fun r => letTemporaryGo value (.str (txt x.s) t) r >>= fun _ => pure r) (PE c W s k) NoE { s2 with heap := s2.heap.push so }
  refine wpAny_bind (wpAny_standAt (wpAny_bind (wpAny_mono (YI (typeIs_str _ _ t) PySem.F.slot_str_getitem.lookup) (fun b s' hb => ?_) noe)))
  obtain ⟨rfl, rfl⟩ := hb
  refine wpAny_bind (wpAny_operating (wpAny_getItem_str_slice (l := some ((n : Int), t')) (u := none) (st := none) ⟨_, Heap.get?_push_size _ (hso ▸ rfl), hso ▸ rfl, hso ▸ rfl⟩ rfl ?_))
  rw [zu5 x.s t t' (Nat.blt_eq.mp h1) (Zw x.s ▸ Nat.le_of_ble_eq_true h2)]
  refine ⟨?_, wpAny_bind (wpAny_letTemporaryGo (wpAny_pure (PG.trans (show PE c W2 s2 k (.str (txt (x.s.drop n)) s2.toks) { s2 with heap := s2.heap.push so, toks := s2.toks + 1 } from .more D2.R k2 ⟨_, rfl⟩ (Nat.le_succ _) fun _ _ => ZH so) (x1.trans x2))))⟩
  exact ZZ (by rw [ZN, List.length_drop]; exact Nat.lt_of_le_of_lt (Nat.sub_le _ _) (Nat.lt_trans h3 (by decide)))
theorem zq4 {name : Str} {id : String} {g : Nat -> Nat} {o : PySem.Expr} {apos pos : Pos} {a : CE} (slot : Slot "str" name id) (hty : typeOf (.builtin id) = pure (.type "method_descriptor"))
    (hF : ∀ {A : Around} {s : Shared} {l : List Nat} {t : Tok} {Q : Value -> Shared -> Prop}, Ys l = true -> l.length < 10000 -> Q (.str (txt (l.map g)) s.toks) { s with toks := s.toks + 1 } -> wpAny c.M A (call (.builtin id) [.str (txt l) t]) Q NoE s)
    (ha : SimE c d sc Γ o a) (hbase : ∀ env, attributeBase o name env (eval o env) = eval o env) (hline : (apos.endLine == pos.line) = true) : SimE c d sc Γ (.Call (.Attribute o name apos) [] [] pos) (zo7 g a) := fun A env W s H k D hk => by
  refine wpAny_Call_method0_late (hbase env) hline (ha.use D hk fun x u H1 W1 s1 k1 x1 D1 v1 => ?_)
  obtain ⟨e1, k1⟩ := kd_t k1
  obtain ⟨h1, k1⟩ := gd_t k1
  obtain ⟨h2, k1⟩ := zB2 k1
  obtain ⟨t, rfl⟩ := v1.at e1
  refine ⟨"str", id, PySem.F.plainAttrs_str, slot, hty, typeIs_str _ _ _, fun _ h => (nomatch h), Calls.callWith_builtin rfl ?_⟩
  show wpAny c.M A (evalArgs (.builtin id) true [] []) (fun a s₁ => wpAny c.M A (call (.builtin id) ([.str (txt x.s) t] ++ a.pos) a.kw) (PE c W s k) NoE s₁) NoE s1
  exact PyProof.Rows.evalArgs_nil3 (hF h1 h2 (PG.trans (.tok D1.R k1 ⟨_, rfl⟩ (Nat.le_succ _)) x1))
theorem zm9 (l : List Nat) (g : Nat -> Nat) : (⟨(txt l).cps.map g⟩ : Str) = txt (l.map g) := congrArg Str.mk (by simp [txt])
theorem zb0 {o : PySem.Expr} {apos pos : Pos} {a : CE} (ha : SimE c d sc Γ o a) (hbase : ∀ env, attributeBase o "lower" env (eval o env) = eval o env := by intro _; rfl) (hline : (apos.endLine == pos.line) = true := by rfl) : SimE c d sc Γ (.Call (.Attribute o "lower" apos) [] [] pos) (zo7 lo1 a) :=
  zq4 PySem.F.slot_str_lower PySem.F.type_str_lower (fun h1 h2 q => PyProof.Rows.SCL.lower (by rw [ZN]; omega) fun _ => by rw [lower_ascii (Jr h1), zm9]; exact q) ha hbase hline
theorem zu6 {o : PySem.Expr} {apos pos : Pos} {a : CE} (ha : SimE c d sc Γ o a) (hbase : ∀ env, attributeBase o "upper" env (eval o env) = eval o env := by intro _; rfl) (hline : (apos.endLine == pos.line) = true := by rfl) : SimE c d sc Γ (.Call (.Attribute o "upper" apos) [] [] pos) (zo7 up1 a) :=
  zq4 PySem.F.slot_str_upper PySem.F.type_str_upper (fun h1 h2 q => PyProof.Rows.SCL.upper (by rw [ZN]; omega) fun _ => by rw [upper_ascii (Jr h1), zm9]; exact q) ha hbase hline
theorem Jm {name : Str} {id : String} {F : List Nat -> List Nat -> AV} {o e : PySem.Expr} {apos pos : Pos} {a b : CE} (slot : Slot "str" name id) (hty : typeOf (.builtin id) = pure (.type "method_descriptor"))
    (hF : ∀ {A : Around} {s : Shared} {l m : List Nat} {t u : Tok}, wpAny c.M A (call (.builtin id) [.str (txt l) t, .str (txt m) u]) (fun v s' => ∃ n, s' = { s with toks := s.toks + n } /\ ∀ W, VR c W (F l m) v) NoE s) (ha : SimE c d sc Γ o a) (hb : SimL c d sc Γ [e] (Ze b nilL)) (hbase : ∀ env, attributeBase o name env (eval o env) = eval o env := by intro _; rfl)
    (hfew : ∀ env, ((backTo pos (starEach [e] env)).all (fun x => !x.1) && (backToKw pos (keywordEach [] env)).all (fun x => x.1.isSome) && decide ([e].length + ([] : List Keyword).length + (if ([] : List Keyword).isEmpty then 0 else 1) < 30)) = true := by intro _; rfl)
    (hline : (apos.endLine == pos.line) = true := by rfl) (he : ∀ env, starEach [e] env = (false, eval e env) :: starEach [] env := by intro _; rfl) (hplain : ∀ env, (backTo pos (starEach [e] env)).any (·.1) = false := by intro _; rfl) :
    SimE c d sc Γ (.Call (.Attribute o name apos) [e] [] pos) (strC F a b) := fun A env W s H k D hk => by
  refine wpAny_Call_method_late (hbase env) (hfew env) hline rfl (ha.use D hk fun x v H1 W1 s1 k1 x1 D1 v1 => ?_)
  obtain ⟨e1, k1⟩ := kd_t k1
  obtain ⟨_, k1⟩ := zB2 k1
  obtain ⟨t, rfl⟩ := v1.at e1
  refine ⟨"str", id, PySem.F.plainAttrs_str, slot, hty, typeIs_str _ _ _, fun _ h => (nomatch h), Calls.callWith_builtin (hplain env) ?_⟩
  rw [ZQ (he env)]
  refine Calls.evalArgs_plain ?_
  rw [<- ZQ (he env)]
  refine (hb.sim pos).use (k := fun l H2 => is1 l fun w => kd w.t 3 (sh4 w.s (k (F x.s w.s) H2))) D1 k1 fun l us H2 W2 s2 k2 x2 D2 v2 => ?_
  obtain ⟨w, rfl, k2⟩ := XP k2
  obtain ⟨e2, k2⟩ := kd_t k2
  obtain ⟨_, k2⟩ := zB2 k2
  obtain ⟨u, _, rfl, hu, rfl⟩ := v2.1
  obtain ⟨t', rfl⟩ := hu.at e2
  refine wpAny_mono hF (fun v s3 p3 => ?_) noe
  obtain ⟨n, rfl, hv⟩ := p3
  exact PG.trans (.tok D2.R k2 (hv _) (Nat.le_add_right _ _)) (x1.trans x2)
theorem zG6 {A : Around} {s : Shared} {l m : List Nat} {t u : Tok} : wpAny c.M A (call (.builtin "str.find") [.str (txt l) t, .str (txt m) u]) (fun v s' => ∃ n, s' = { s with toks := s.toks + n } /\ ∀ W, VR c W (yg8 l m) v) NoE s := PySem.SC.find ⟨1, rfl, fun _ => ⟨_, rfl⟩⟩
theorem zO8 {A : Around} {s : Shared} {l m : List Nat} {t u : Tok} : wpAny c.M A (call (.builtin "str.rfind") [.str (txt l) t, .str (txt m) u]) (fun v s' => ∃ n, s' = { s with toks := s.toks + n } /\ ∀ W, VR c W (zV1 l m) v) NoE s := PySem.SC.rfind ⟨1, rfl, fun _ => ⟨_, rfl⟩⟩
theorem zA3 {A : Around} {s : Shared} {l m : List Nat} {t u : Tok} : wpAny c.M A (call (.builtin "str.startswith") [.str (txt l) t, .str (txt m) u]) (fun v s' => ∃ n, s' = { s with toks := s.toks + n } /\ ∀ W, VR c W (zA4 l m) v) NoE s := PySem.SC.startswith ⟨0, rfl, fun _ => rfl⟩
noncomputable def andT (a b : CT) : CT := fun H k => a H fun x H1 => sel x (b H1 k) (k false H1)
theorem zN9 {l r : PySem.Expr} {pos : Pos} {a b : CT} (ha : SimT c d sc Γ l a) (hb : SimT c d sc Γ r b) : SimT c d sc Γ (.BoolOp .And [l, r] pos) (andT a b) := fun _ env _ _ _ _ D hk => by
  show wpAny _ _ (isTrue l env (eval l env) >>= fun x => match BoolOp.And, x with
      | .And, false => pure false
      | .Or, true => pure true
      | _, _ => isTrue r env (eval r env) >>= fun y => match BoolOp.And, y with
        | .And, false => pure false
        | .Or, true => pure true
        | _, _ => pure (BoolOp.And == .And)) _ _ _
  refine wpAny_bind (ha.use D hk fun x v _ _ _ k1 x1 D1 v1 => ?_)
  subst v1
  cases v with
  | false => exact wpAny_pure ⟨false, _, _, k1, x1, D1.R, rfl⟩
  | true => exact wpAny_bind (hb.use D1 k1 fun y v _ _ _ k2 x2 D2 v2 => by subst v2; cases v <;> exact wpAny_pure ⟨_, _, _, k2, x1.trans x2, D2.R, rfl⟩)
end
end Mine
end
section
namespace Mine
open PySem PySem.W PyProof.Rows
def zy3 (p : AV) (n : Nat) : Prop := ∀ (H : AH) (kk : AV -> AH -> Bool), kk (aI (negI (.ofNat n))) H = true -> Zn (on1 b28) [p] H kk = true
theorem zF2 {p : AV} {k : Nat -> Bool} (h : kLen p k = true) : ∃ n, zy3 p n /\ k n = true := by
  obtain ⟨e1, h⟩ := kd_t (n := p.t) (m := 12) h
  obtain ⟨s, r, e2, h⟩ := JK (l := p.l) h
  obtain ⟨e3, h⟩ := kd_t (n := s.t) (m := 3) h
  obtain ⟨hs, h⟩ := gd_t (b := Nat.ble (Nat.succ (lenN s.s)) (nat_lit 100000)) h
  refine ⟨lenN s.s, fun H kk hk => ?_, h⟩
  show kd2 p.t 13 _ (kd2 p.t 11 _ (kd2 p.t 12 (subL p.l 0 fun z => lenF H [z] fun v H2 => negK H2 v kk) _)) = true
  rw [e1, e2]
  show kd2 s.t 13 _ (kd2 s.t 11 _ (kd2 s.t 12 _ (kd s.t 3 (gd (Nat.ble (Nat.succ (lenN s.s)) (nat_lit 100000)) (kk (aI (negI (.ofNat (lenN s.s)))) H))))) = true
  rw [e3, hs]
  exact hk
theorem zD8 (n y : Nat) : ltB (negI (.ofNat y)) (negI (.ofNat n)) = Nat.ble (Nat.succ n) y := by cases y <;> cases n <;> rfl
theorem yf3 {i : Int} {k : Nat -> Bool} (h : yf4 i k = true) : ∃ n, i = negI (.ofNat n) /\ k n = true := by
  cases i with
  | ofNat m =>
    cases m with
    | zero => exact ⟨0, rfl, h⟩
    | succ m => cases h
  | negSucc m => exact ⟨m + 1, rfl, h⟩
section
variable {σ τ : Type} {H : AH} {kn : τ -> AH -> Bool} {kr : AV -> AH -> Bool}
theorem YT {b x y : Bool} (e : b = false) (h : y = true) : sel b x y = true := by rw [e]; exact h
theorem Vl {b x y : Bool} (e : b = true) (h : x = true) : sel b x y = true := by rw [e]; exact h
theorem kd_i {n m : Nat} {k : Bool} (e : n = m) (h : k = true) : kd n m k = true := by rw [e]; unfold kd; rw [Nat.beq_refl]; exact h
theorem zF1 {n m : Nat} {x y : Bool} (e : n = m) (h : x = true) : kd2 n m x y = true := by rw [e]; unfold kd2; rw [Nat.beq_refl]; exact h
theorem yw5 {x : AV} {f : Nat} {a : CS τ} (e1 : x.t = 9) (e2 : x.m = f) (h : a H kn kr = true) : isF x f a H kn kr = true := kd_i e1 (kd_i e2 h)
theorem VJ {f : Cp2} {x y : AV} {A B : CS σ} {C : σ -> CS τ} (h : f H x y (fun b H1 => sel b (A H1 (fun v H2 => C v H2 kn kr) kr) (B H1 (fun v H2 => C v H2 kn kr) kr)) = true) : seqC (ifC (cmpK f (litC x) (litC y)) A B) C H kn kr = true := h
theorem VL {a : CE} {C : AV -> CS τ} (h : a H (fun v H1 => C v H1 kn kr) = true) : seqC (asgC a) C H kn kr = true := h
theorem zT2 {f g : Op2} {x y z : AV} {k : AV -> AH -> Bool} (h : g H x y (fun v H1 => f H1 v z k) = true) : binK f (binK g (litC x) (litC y)) (litC z) H k = true := h
theorem zD7 {x y : AV} {k : Bool -> AH -> Bool} (e1 : x.t = 2) (e2 : y.t = 2) (h : k (ltB x.i y.i) H = true) : ltK H x y k = true := zF1 e1 (kd_i e2 h)
theorem yw3 {x : AV} {k : Bool -> AH -> Bool} (e1 : x.t = 0) (h : k true H = true) : isK H x aN k = true := kd_i (n := aN.t) rfl (zF1 e1 h)
theorem JJ {n m : Nat} {x y : Bool} (e : Nat.beq n m = false) (h : y = true) : kd2 n m x y = true := by unfold kd2; rw [e]; exact h
theorem yn5 {x : AV} {k : Bool -> AH -> Bool} (e1 : x.t = 9) (h : k false H = true) : isK H x aN k = true := kd_i (n := aN.t) rfl (JJ (n := x.t) (m := 0) (by rw [e1]; rfl) (JJ (n := x.t) (m := 2) (by rw [e1]; rfl) (kd_i e1 h)))
theorem yw4 {x : AV} {k : Bool -> AH -> Bool} (e1 : x.t = 2) (h : k false H = true) : isK H x aN k = true := kd_i (n := aN.t) rfl (JJ (n := x.t) (m := 0) (by rw [e1]; rfl) (zF1 e1 h))
theorem yP6 {x y : AV} {k : AV -> AH -> Bool} (e1 : x.t = 2) (e2 : y.t = 2) (h : k (aI (addI x.i y.i)) H = true) : ZW H x y k = true := zF1 e1 (kd_i e2 h)
end
section
variable {H : AH} {a x : AV} {l : List AV} {n X : Nat} {k : AV -> Bool}
theorem yl9 {α : Type} {kk : α -> Bool} {l : List α} : ∀ {i : Nat} {z : α}, l[i]? = some z -> kk z = true -> nthK kk l i = true := by
  induction l with
  | nil => intro i z h _; cases i <;> cases h
  | cons o l ih =>
    intro i z h hk
    cases i with
    | zero => cases h; exact hk
    | succ i => exact ih h hk
def JX (H : AH) (a : AV) (l : List AV) : Prop := ∀ (i : Nat) (z : AV) (kk : AV -> AH -> Bool), l[i]? = some z -> kk z H = true -> Zk H a (aI (.ofNat i)) kk = true
theorem zF3 (e : a.t = 11) (h : (hget H a.m).t = 0 \/ (hget H a.m).t = 3) (hs : (hget H a.m).l.length < 100000) : JX H a (hget H a.m).l := fun i z kk hz hk => by
  have lt := (List.getElem?_eq_some_iff.mp hz).1
  have main : subL (hget H a.m).l (.ofNat i) (fun z => kk z H) = true := by
    show gd (Nat.blt i 1000000) (nthK (fun z => kk z H) (hget H a.m).l i) = true
    rw [Nat.blt_eq.mpr (Nat.lt_trans (Nat.lt_trans lt hs) (by decide))]
    exact yl9 hz hk
  show kd2 a.t 13 _ (kd2 a.t 11 (kd2 (hget H a.m).t 0 (subL (hget H a.m).l (.ofNat i) fun z => kk z H) (kd2 (hget H a.m).t 2 _ (kd2 (hget H a.m).t 1 _ (kd (hget H a.m).t 3 (subL (hget H a.m).l (.ofNat i) fun z => kk z H))))) _) = true
  rw [e]
  rcases h with h | h <;> rw [h] <;> exact main
theorem zY2 {σ : Type} {f : Cp2} {g h : σ -> AV} {b : σ -> CS σ} {n : Nat} {st : σ} {kn : σ -> AH -> Bool} {kr : AV -> AH -> Bool} (i : f H (g st) (h st) (fun x H1 => sel x (b st H1 (fun st1 H2 => Vs (fun st => cmpK f (litC (g st)) (litC (h st))) b n st1 H2 kn kr) kr) (kn st H1)) = true) : Vs (fun st => cmpK f (litC (g st)) (litC (h st))) b (n + 1) st H kn kr = true := i
theorem zI7 {test : AV -> CT} {ca cb : AV × AV -> AV -> CS (AV × AV)} {kn : AV × AV -> AH -> Bool} {kr : AV -> AH -> Bool}
    (hst : ∀ (m y : Nat) (p lo hi : AV) (kn' : AV × AV -> AH -> Bool), l[m]? = some p -> zy3 p y -> (Nat.ble X y = true -> kn' (aI (.ofNat (m + 1)), hi) H = true) -> (Nat.ble X y = false -> kn' (lo, aI (.ofNat m)) H = true) ->
      ifC (test (aI (.ofNat m))) (ca (lo, hi) (aI (.ofNat m))) (cb (lo, hi) (aI (.ofNat m))) H kn' kr = true)
    (hk : ∀ v hi', k v = true -> kn (v, hi') H = true) : ∀ (n lo hi : Nat) (v w : AV), v.t = 2 -> v.i = .ofNat lo -> w.t = 2 -> w.i = .ofNat hi -> bisN l X k n lo hi v = true -> Vs (fun st => cmpK ltK (litC st.1) (litC st.2)) (zo8 test ca cb) n (v, w) H kn kr = true := by
  intro n
  induction n with
  | zero => intro lo hi v w _ _ _ _ h; cases h
  | succ n ih =>
    intro lo hi v w e1 e2 e3 e4 h
    refine zY2 (zD7 e1 e3 ?_)
    rw [e2, e4]
    rcases YR (b := Nat.ble (Nat.succ lo) hi) h with ⟨e, h⟩ | ⟨e, h⟩
    · obtain ⟨p, hp, h⟩ := XA h
      obtain ⟨y, hy, h⟩ := zF2 h
      refine Vl (b := Nat.ble (Nat.succ lo) hi) e (VL (zT2 (yP6 e1 e3 ?_)))
      rw [e2, e4]
      refine hst _ y p _ _ _ hp hy (fun q => ?_) fun q => ?_
      · rw [q] at h; exact ih _ _ _ _ rfl rfl e3 e4 h
      · rw [q] at h; exact ih _ _ _ _ e1 e2 rfl rfl h
    · exact YT (b := Nat.ble (Nat.succ lo) hi) e (hk _ _ h)
noncomputable abbrev kc0 : List AV -> CE := Zn (on1 b28)
variable {kn' : AV × AV -> AH -> Bool} {kr : AV -> AH -> Bool} {m y : Nat} {p lo hi : AV} {q : Bool}
theorem pick (h1 : q = true -> kn' (aI (.ofNat (m + 1)), hi) H = true) (h2 : q = false -> kn' (lo, aI (.ofNat m)) H = true) : sel q (za2 (lo, hi) (aI (.ofNat m)) H kn' kr) (za3 (lo, hi) (aI (.ofNat m)) H kn' kr) = true := by
  cases q with
  | true => exact h1 rfl
  | false => exact h2 rfl
theorem zE7 {kk : AV -> AH -> Bool} (hI : JX H a l) (hp : l[m]? = some p) (hy : zy3 p y) (hk : kk (aI (negI (.ofNat y))) H = true) : zi3 kc0 a (aI (.ofNat m)) H kk = true := show Zk H a (aI (.ofNat m)) (fun z H1 => kc0 [z] H1 kk) = true from hI m p (fun z H1 => kc0 [z] H1 kk) hp (hy H _ hk)
theorem yw7 {σ : Type} {f : Cp2} {c : CE} {A B : CS σ} {kn : σ -> AH -> Bool} (h : c H (fun v H1 => f H1 v x fun b H2 => sel b (A H2 kn kr) (B H2 kn kr)) = true) : ifC (cmpK f c (litC x)) A B H kn kr = true := h
theorem yw6 {σ : Type} {f : Cp2} {c : CE} {A B : CS σ} {kn : σ -> AH -> Bool} (h : c H (fun v H1 => f H1 x v fun b H2 => sel b (A H2 kn kr) (B H2 kn kr)) = true) : ifC (cmpK f (litC x) c) A B H kn kr = true := h
theorem yj6 (hI : JX H a l) (hx : x.t = 2) (hi' : x.i = negI (.ofNat n)) (hp : l[m]? = some p) (hy : zy3 p y) (h1 : Nat.ble (n + 1) y = true -> kn' (aI (.ofNat (m + 1)), hi) H = true) (h2 : Nat.ble (n + 1) y = false -> kn' (lo, aI (.ofNat m)) H = true) :
    ifC (cmpK ltK (zi3 kc0 a (aI (.ofNat m))) (litC x)) (za2 (lo, hi) (aI (.ofNat m))) (za3 (lo, hi) (aI (.ofNat m))) H kn' kr = true := by
  refine yw7 (zE7 hI hp hy (zD7 rfl hx ?_))
  rw [hi']
  show sel (ltB (negI (.ofNat y)) (negI (.ofNat n))) _ _ = true
  rw [zD8]
  exact pick h1 h2
theorem yj5 (hI : JX H a l) (hx : x.t = 2) (hi' : x.i = negI (.ofNat n)) (hp : l[m]? = some p) (hy : zy3 p y) (h1 : Nat.ble n y = true -> kn' (aI (.ofNat (m + 1)), hi) H = true) (h2 : Nat.ble n y = false -> kn' (lo, aI (.ofNat m)) H = true) :
    ifC (cmpK ltK (litC x) (zi3 kc0 a (aI (.ofNat m)))) (za3 (lo, hi) (aI (.ofNat m))) (za2 (lo, hi) (aI (.ofNat m))) H kn' kr = true := by
  refine yw6 (zE7 hI hp hy (zD7 hx rfl ?_))
  rw [hi']
  show sel (ltB (negI (.ofNat n)) (negI (.ofNat y))) _ _ = true
  rw [zD8]
  show sel (Nat.ble (Nat.succ y) n) _ _ = true
  by_cases q : n <= y
  · rw [show Nat.ble (Nat.succ y) n = false from Bool.eq_false_iff.mpr fun e => Nat.not_lt.mpr q (Nat.le_of_ble_eq_true e)]
    exact h1 (Nat.ble_eq.mpr q)
  · rw [show Nat.ble (Nat.succ y) n = true from Nat.ble_eq.mpr (Nat.lt_of_not_le q)]
    exact h2 (Bool.eq_false_iff.mpr fun e => q (Nat.le_of_ble_eq_true e))
def Way (f : Nat -> Nat) (test : AV -> AV -> AV -> CT) (ca cb : AV × AV -> AV -> CS (AV × AV)) : Prop := ∀ {H a x l n kn' kr m y p lo hi}, JX H a l -> x.t = 2 -> x.i = negI (.ofNat n) -> l[m]? = some p -> zy3 p y -> (Nat.ble (f n) y = true -> kn' (aI (.ofNat (m + 1)), hi) H = true) -> (Nat.ble (f n) y = false -> kn' (lo, aI (.ofNat m)) H = true) ->
    ifC (test a x (aI (.ofNat m))) (ca (lo, hi) (aI (.ofNat m))) (cb (lo, hi) (aI (.ofNat m))) H kn' kr = true
noncomputable def tL (a x mid : AV) : CT := cmpK ltK (zi3 kc0 a mid) (litC x)
noncomputable def tR (a x mid : AV) : CT := cmpK ltK (litC x) (zi3 kc0 a mid)
theorem yu1 : Way Nat.succ tL za2 za3 := fun a b c d e f g => yj6 a b c d e f g
theorem yu0 : Way (fun n => n) tR za3 za2 := fun a b c d e f g => yj5 a b c d e f g
theorem ye1 {k : AV -> AH -> Bool} (e : a.t = 11) (e0 : (hget H a.m).t = 0) (hs : (hget H a.m).l.length < 100000) (h : k (aI (.ofNat (lenN (hget H a.m).l))) H = true) : biC lenF (Ze (litC a) nilL) H k = true := by
  show kd2 a.t 13 _ (kd2 a.t 11 (kd2 (hget H a.m).t 0 (gd (Nat.blt (lenN (hget H a.m).l) (nat_lit 100000)) (k (aI (.ofNat (lenN (hget H a.m).l))) H)) _) _) = true
  rw [e, e0, show Nat.blt (lenN (hget H a.m).l) (nat_lit 100000) = true from Nat.blt_eq.mpr (Zw (hget H a.m).l ▸ hs)]
  exact h
theorem zt1 {f : Nat -> Nat} {test : AV -> AV -> AV -> CT} {ca cb : AV × AV -> AV -> CS (AV × AV)} {key : AV} {kn : Unit -> AH -> Bool} (w : Way f test ca cb) (h : bisQ a x lo hi key f H (fun v => kr v H) = true) :
    isF key 28 (zo9 (test a x) ca cb a lo hi key) H kn kr = true := by
  obtain ⟨e1, h⟩ := kd_t h
  obtain ⟨e2, h⟩ := kd_t h
  obtain ⟨e3, h⟩ := kd_t h
  obtain ⟨n, e4, h⟩ := yf3 h
  obtain ⟨e5, h⟩ := kd_t h
  obtain ⟨m, e6, h⟩ := ZO h
  obtain ⟨e7, h⟩ := kd_t h
  obtain ⟨hs, h⟩ := ZG h
  have go : ∀ {h' : AV} {hn : Nat}, ((hget H a.m).t = 0 \/ (hget H a.m).t = 3) -> h'.t = 2 -> h'.i = .ofNat hn -> bisN (hget H a.m).l (f n) (fun v => kr v H) 40 m hn lo = true -> Vs (fun st => cmpK ltK (litC st.1) (litC st.2)) (zo8 (test a x) ca cb) 40 (lo, h') H (fun st H2 => kr st.1 H2) kr = true := fun h0 q1 q2 q =>
    zI7 (fun m y p lo hi kn' => w (zF3 e7 h0 hs) e3 e4) (fun v _ q => q) 40 _ _ _ _ e5 e6 q1 q2 q
  refine yw5 e1 e2 (VJ (zD7 e5 rfl ?_))
  rw [e6]
  refine YT rfl (VJ ?_)
  rcases ZS h with ⟨e8, h⟩ | h
  · obtain ⟨e9, h⟩ := kd_t h
    refine yw3 e8 (Vl rfl (VL (ye1 e7 e9 hs ?_)))
    exact VJ (yn5 e1 (YT rfl (go (.inl e9) rfl rfl h)))
  · obtain ⟨e8, h⟩ := kd_t h
    obtain ⟨e9, h⟩ := kd_t h
    obtain ⟨hn, e10, h⟩ := ZO h
    exact yw4 e8 (YT rfl (VJ (yn5 e1 (YT rfl (go (.inr e9) e8 e10 h)))))
theorem zm4 {f g : AV -> AV -> AV -> AV -> AV -> CS Unit} {kn : Unit -> AH -> Bool} (i : ∀ a x lo hi key, f a x lo hi key H kn kr = true -> g a x lo hi key H kn kr = true) : ∀ {l : List AV}, on5 f l H kn kr = true -> on5 g l H kn kr = true := fun {l} h => by
  match l, h with
  | [], h => cases h
  | [_], h => cases h
  | [_, _], h => cases h
  | [_, _, _], h => cases h
  | [_, _, _, _], h => cases h
  | [_, _, _, _, _], h => exact i _ _ _ _ _ h
  | _ :: _ :: _ :: _ :: _ :: _ :: _, h => cases h
end
theorem FnC.imp {c : Cfg} {e f : Nat} {fd : FuncData} {names : List Str} {code code' : List AV -> CE} (h : FnC c e f fd names code) (i : ∀ l H k, code' l H k = true -> code l H k = true) : FnC c e f fd names code' := fun hA R hv hb hk => h hA R hv hb (i _ _ _ hk)
theorem yw0 (l : List AV) (H : AH) (k : AV -> AH -> Bool) (h : kfF l H k = true) : kc0 l H k = true := by
  obtain ⟨p, rfl, h⟩ := XP h
  obtain ⟨n, hn, h⟩ := zF2 (p := p) (k := fun n => k (aI (negI (.ofNat n))) H) h
  exact hn H k h
theorem zX6 (l : List AV) (H : AH) (k : AV -> AH -> Bool) (h : bisF Nat.succ l H k = true) : Zn (on5 (bisL kc0 28)) l H k = true :=
  zm4 (f := bisU Nat.succ) (g := bisL kc0 28) (kn := fun _ H1 => k aN H1) (kr := k) (fun a x lo hi key h => zt1 (f := Nat.succ) (test := tL) (ca := za2) (cb := za3) (a := a) (x := x) (lo := lo) (hi := hi) (key := key) (kr := k) yu1 h) h
theorem zX5 (l : List AV) (H : AH) (k : AV -> AH -> Bool) (h : bisF (fun n => n) l H k = true) : Zn (on5 (bisR kc0 28)) l H k = true :=
  zm4 (f := bisU fun n => n) (g := bisR kc0 28) (kn := fun _ H1 => k aN H1) (kr := k) (fun a x lo hi key h => zt1 (f := fun n => n) (test := tR) (ca := za3) (cb := za2) (a := a) (x := x) (lo := lo) (hi := hi) (key := key) (kr := k) yu0 h) h
theorem yo0 {f : Nat -> Nat} {bq : AV -> AV -> AV -> AV -> AV -> CS Unit} (hb : ∀ l H k, bisF f l H k = true -> Zn (on5 bq) l H k = true) (l : List AV) (H : AH) (k : AV -> AH -> Bool) (h : insF f l H k = true) : Zn (on5 (insQ bq kc0 28)) l H k = true :=
  zm4 (f := insU f) (g := insQ bq kc0 28) (kn := fun _ H1 => k aN H1) (kr := k) (fun a x lo hi key h => by
    obtain ⟨n, hn, h⟩ := zF2 (p := x) h
    obtain ⟨e1, h1⟩ := kd_t (n := key.t) (m := 9) h
    obtain ⟨e2, h1⟩ := kd_t (n := key.m) (m := 28) h1
    show kd key.t 9 (kd key.m 28 (kd 0 0 (kd2 key.t 0 _ (kd2 key.t 2 _ (kd key.t 9 (kc0 [x] H fun v H1 => Zn (on5 bq) [a, v, lo, hi, key] H1 fun w H2 => kd a.t 11 (kd (hget H2 a.m).t 0 (kd (hget H2 a.m).t 0 (Jo (hget H2 a.m).l [w, x] fun l' => kd 0 0 (k aN (hset H2 a.m (oL l')))))))))))) = true
    rw [e1, e2]
    exact hn H _ (hb _ _ _ h)) h
end Mine
end
section
namespace Mine
open PySem PySem.W PySem.Calls PyProof.Rows
theorem YE {Γ : Ctx} {ns : Sc} : ∀ y av, ([] : Ctx).lookup y = some av -> Γ.lookup y = some av /\ ns.lookup y = some .free := fun _ _ h => nomatch h
theorem ZV {Γ Γi : Ctx} {ns : Sc} {x : Str} {v : AV} (h1 : Γ.lookup x = some v) (h2 : ns.lookup x = some .free) (h : ∀ y av, Γi.lookup y = some av -> Γ.lookup y = some av /\ ns.lookup y = some .free) :
    ∀ y av, ((x, v) :: Γi).lookup y = some av -> Γ.lookup y = some av /\ ns.lookup y = some .free := fun y av e => (ZE e).elim (fun q => q.1 ▸ q.2 ▸ ⟨h1, h2⟩) fun q => h y av q.2
theorem Zf {x : Str} {v : AV} {Γ' Γ : Ctx} (hn : Γ'.lookup x = none) (h : Sub Γ' Γ) : Sub Γ' ((x, v) :: Γ) := fun y av e => by
  rw [Xg, if_neg]
  · exact h y av e
  · rintro rfl
    exact nomatch hn.symm.trans e
section
variable {c : Cfg} {d : Nat} {sc : Sc} {Γ Γi : Ctx}
theorem YG {m : Bool} {elt iter : PySem.Expr} {x : Str} {px pos : Pos} {ifs : List PySem.Expr} {scope : Scope} {it : CE} {t : AV -> CT} {el : AV -> CE} (hit : SimE c d sc Γ iter it) (K : XE sc Γ scope Γi) (hx : Zr scope.names x = true) (ht : ∀ v, SimI c d (relK sc scope.names) ((x, v) :: Γi) ifs (t v))
    (he : ∀ v, SimE c d (relK sc scope.names) ((x, v) :: Γi) elt (el v)) (hfs : ∀ (env : Env) x, foldedSetIterable iter env x = pure x := by intro _ _; rfl) : SimE c d sc Γ (.ListComp elt [⟨.Name x px, iter, ifs, 0⟩] scope pos) (YM m srcK (fun v k => k v) it t el) := zq3 hit zA5 K (Tgt.name K hx) ht he hfs
theorem zB1 {m : Bool} {elt iter : PySem.Expr} {x y : Str} {px py tp pos : Pos} {tn : Nat} {ifs : List PySem.Expr} {scope : Scope} {it : CE} {t : AV × AV -> CT} {el : AV × AV -> CE} (hit : SimE c d sc Γ iter it) (K : XE sc Γ scope []) (hx : Zr scope.names x = true) (hy : Zr scope.names y = true)
    (ht : ∀ p : AV × AV, SimI c d (relK sc scope.names) [(y, p.2), (x, p.1)] ifs (t p)) (he : ∀ p : AV × AV, SimE c d (relK sc scope.names) [(y, p.2), (x, p.1)] elt (el p)) (hfs : ∀ (env : Env) x, foldedSetIterable iter env x = pure x := by intro _ _; rfl)
    (ha : ∀ env, assignEach [.Name x px, .Name y py] env = [(false, assign (.Name x px) env), (false, assign (.Name y py) env)] := by intro _; rfl) : SimE c d sc Γ (.ListComp elt [⟨.Tuple [.Name x px, .Name y py] tn tp, iter, ifs, 0⟩] scope pos) (YM m srcT ds2 it t el) := zq3 hit zZ8 K (Tgt.pair hx hy ha) ht he hfs
theorem Jl {m : Bool} {elt iter : PySem.Expr} {x y : Str} {px py pos spos : Pos} {ifs : List PySem.Expr} {scope : Scope} {it : CE} {t : AV -> CT} {el : AV -> CE} (hit : SimE c d sc Γ iter it) (K : XE sc Γ scope Γi) (hx : Zr scope.names x = true) (ht : ∀ v, SimI c d (relK sc scope.names) ((x, v) :: Γi) ifs (t v))
    (he : ∀ v, SimE c d (relK sc scope.names) ((x, v) :: Γi) elt (el v)) (hy : sc.lookup y = some .local) (hsn : (scope.names.any fun (n, k) => n == y && (k == .local || k == .cell)) = false) (hsw : (py.line == pos.line) = true := by rfl) (hfs : ∀ (env : Env) x, foldedSetIterable iter env x = pure x := by intro _ _; rfl) :
    Sim1 c d sc Γ (.Assign [.Name y py] (.ListComp elt [⟨.Name x px, iter, ifs, 0⟩] scope pos) spos) (fun v => (y, v) :: Γ) (useC (YM m srcK (fun v k => k v) it t el)) := zZ9 hit zA5 K (Tgt.name K hx) ht he hy hsn hsw hfs
end
noncomputable def zR2 (i : Nat) : Bool := [4, 5, 6, 8, 9, 10, 11, 16, 17, 18, 19, 20, 21, 22, 23, 25, 26, 27, 28, 29, 30, 31, 32, 33, 34, 35, 36].contains i
structure Nums where
  fd : Nat -> FuncData
  md : Nat -> FuncData
  pat : Addr
  cc : Addr
  cd4 : Addr
  cd5 : Addr
  cd29 : Addr
  bm : Addr
  ob : Obj
  tE : Tok
structure Zs (c : Cfg) (N : Nums) : Prop where
  S : Stat c
  hh : YW c
  D : ∀ i, zR2 i = true -> Def c i (N.fd i)
  bp4 : ZA (N.fd 4) ["text"]
  bp5 : ZA (N.fd 5) ["A", "B"]
  bp6 : ZA (N.fd 6) ["h"]
  bp2 : ∀ i, i ∈ [16, 17, 18, 20, 21, 22, 23] -> ZA (N.fd i) ["a", "b"]
  bp19 : ZA (N.fd 19) ["a"]
  bp25 : ZA (N.fd 25) ["script"]
  bp26 : ZA (N.fd 26) ["cell"]
  bp27 : ZA (N.fd 27) ["cell", "above"]
  bp28 : ZA (N.fd 28) ["piece"]
  bp29 : ZA (N.fd 29) ["names", "size"]
  bp30 : ZA (N.fd 30) ["sought", "names", "piles"]
  bp31 : ZA (N.fd 31) ["above"]
  bp32 : ZA (N.fd 32) ["left", "depth", "unders", "kids"]
  bp33 : ZA (N.fd 33) ["kids"]
  bp34 : ZA (N.fd 34) ["sought", "near", "ranks"]
  bp35 : ZA (N.fd 35) ["name", "top"]
  kw2 : ∀ i, i ∈ [8, 9, 10, 11] -> Xo c (N.fd i) 2 [aI 0, aN]
  kw4 : ∀ i, i ∈ [9, 11] -> Xo c (N.fd i) 4 []
  kl11 : ∀ s la p, c.K.In s.heap -> Xo (c.lam s la p) (N.fd 11) 2 [aI 0, aN]
  no : ∀ x, x ∈ (["len", "max", "range", "list", "sum", "str", "sorted", "enumerate", "hasattr"] : List Str) -> nsIn c.K mainGlobals x = some none
  pat : Jh (fun a => c.K.lookup a) N.pat
  npat : nsIn c.K mainGlobals "IPV4_RE" = some (some (.ref N.pat))
  sup : SupF c
  hap : findIn c.K (.ref c.cA) "append" = some (some (.builtin "list.append"))
  hset : findIn c.K (.ref c.cA) "__setitem__" = some (some (.builtin "list.__setitem__"))
  halI : alongIn c.K "__init__" [.type "list", .type "object"] = some (some (.builtin "list.__init__"))
  halL : alongIn c.K "__len__" [.type "list", .type "object"] = some (some (.builtin "list.__len__"))
  m0 : Jg c 0 100 (N.md 0) "__init__" N.cc
  m8 : Jg c 8 108 (N.md 8) "part_count" N.cc
  m1 : VH c 1 101 (N.md 1) "push"
  m2 : VH c 2 102 (N.md 2) "pop_from"
  m4 : Jc c 4 104 0 (N.md 4) "__len__" N.cd4
  m5 : Jc c 5 105 1 (N.md 5) "__str__" N.cd5
  g0 : (N.md 0).scope.isCoroutine = false /\ (N.md 0).scope.isGenerator = false
  g8 : (N.md 8).scope.isCoroutine = false /\ (N.md 8).scope.isGenerator = false
  p0 : ∀ (s : Shared), c.K.In s.heap -> ∀ (q : Addr) (v : Value), BindsTo s (N.md 0) ⟨[.ref q, v], []⟩ [("self", .ref q), ("initial_size", v)]
  p1 : Xw c (N.md 1) ["self", "fws", "string"]
  p2 : Xw c (N.md 2) ["self", "i"]
  p4 : ∀ (s : Shared) (q : Addr), BindsTo s (N.md 4) ⟨[.ref q], []⟩ [("self", .ref q)]
  p5 : ∀ (s : Shared) (q : Addr), BindsTo s (N.md 5) ⟨[.ref q], []⟩ [("self", .ref q)]
  p8 : Xw c (N.md 8) ["self"]
  lam : LamF c N.cd29 N.bm N.ob
  nE : nsIn c.K mainGlobals "EMPTYSTRING" = some (some (.str "" N.tE))
  nA : nsIn c.K mainGlobals "_Accumulator" = some (some (.ref c.cA))
  kA : keepIn c.K (.ref c.cA) = true
  sz : szOk c
  ps : c.ps = (Zv 29).names
section
variable {c : Cfg} {d : Nat} {N : Nums}
theorem Zs.AF (W : Zs c N) : AccF c := W.sup.toAccF
theorem Zs.get (W : Zs c N) : zK9 c d Zk := zV4 W.S (zp2 W.S W.AF)
theorem Zs.bl (W : Zs c N) : BiOk c (d + 2) (.builtin "len") lenF := zI9 W.S (yi5 W.S W.m4 W.sup.toAccH W.lam.gen W.sz (W.no "len" (by decide)) (W.no "sum" (by decide)) rfl rfl W.p4)
theorem Zs.bs (W : Zs c N) : BiOk c (d + 8) (.type "str") strF := yr4 W.S W.m5 W.sup.toAccH W.lam.gen W.nE W.p5
theorem Zs.name (W : Zs c N) {i : Nat} (h : zR2 i = true) {x : Str} (e : zG4 i = x) : (N.fd i).name = x := (W.D i h).name.trans e
theorem Zs.f16 (W : Zs c N) : FnC c 8 16 (N.fd 16) ["a", "b"] (Zn (on2 b16)) := yp3 W.S (W.D 16 rfl) (Nat.le_refl _)
theorem Zs.f17 (W : Zs c N) : FnC c 1 17 (N.fd 17) ["a", "b"] (Zn (on2 b17)) := yx1 W.S (W.D 17 rfl)
theorem Zs.f19 (W : Zs c N) : FnC c 1 19 (N.fd 19) ["a"] (Zn (on1 b19)) := zW4 W.S (W.D 19 rfl)
theorem Zs.f20 (W : Zs c N) : FnC c 1 20 (N.fd 20) ["a", "b"] (Zn (on2 b20)) := zW3 W.S (W.D 20 rfl)
theorem Zs.f21 (W : Zs c N) : FnC c 1 21 (N.fd 21) ["a", "b"] (Zn (on2 JP)) := yp5 W.S (W.D 21 rfl) W.hh (W.no _ (by decide))
theorem Zs.f22 (W : Zs c N) (O : HnOk c) : FnC c 8 22 (N.fd 22) ["a", "b"] (Zn (on2 zf0)) := yp4 W.S (W.D 22 rfl) O (Nat.le_refl _)
theorem Zs.f23 (W : Zs c N) (T : Toks c false) : FnC c 1 23 (N.fd 23) ["a", "b"] idxQ := yg7 W.S (W.D 23 rfl) T (W.no _ (by decide))
theorem Zs.f28a (W : Zs c N) : FnC c 3 28 (N.fd 28) ["piece"] kc0 := zR9 (d := 1) W.S (W.D 28 rfl) (W.D 19 rfl) W.bp19 W.get (W.bl (d := 0)) (W.no _ (by decide))
theorem Zs.f28 (W : Zs c N) : FnC c 3 28 (N.fd 28) ["piece"] kf := FnC.imp W.f28a yw0
theorem Zs.key (W : Zs c N) (d : Nat) : KeyF c (d + 3) 28 kc0 := ⟨W.S, W.hh, W.get, W.bl, W.no _ (by decide), _, _, (W.D 28 rfl).at'.ob.imp fun _ h => ⟨W.S.K _ _ h.1, h.2⟩, FnC.le W.f28a (Nat.le_add_left _ _), W.bp28⟩
theorem Zs.f11 (W : Zs c N) : FnC c 4 11 (N.fd 11) Yb q11 := FnC.imp (zo0 (W.key 0) (W.D 11 rfl)) zX6
theorem Zs.f9 (W : Zs c N) : FnC c 4 9 (N.fd 9) Yb q9 := FnC.imp (zG3 (W.key 0) (W.D 9 rfl)) zX5
theorem Zs.f10 (W : Zs c N) : FnC c 5 10 (N.fd 10) Yb q10 := FnC.imp (yg6 (W.key 0) (W.key 1) (W.D 10 rfl) (W.D 11 rfl) (W.kw4 11 (by decide))) (yo0 zX6)
theorem Zs.f8 (W : Zs c N) : FnC c 5 8 (N.fd 8) Yb q8 := FnC.imp (yg5 (W.key 0) (W.key 1) (W.D 8 rfl) (W.D 9 rfl) (W.kw4 9 (by decide))) (yo0 zX5)
theorem zD5 {i f : Nat} {fd : FuncData} {name : Str} {names : List Str} {code : List AV -> CS Unit} (S : Stat c) (D : VH c i f fd name) (hsim : ∀ avs, SimS c d (Yk i).names (names.zip avs) (VO i) (fun _ : Unit => []) (code avs)) (M : Vq (Yk i) names) : FnC c (d + 1) f fd names (Zn code) :=
  fun hA R hv hb hk => zI6 S D.at' D.body (by rw [D.scope]; exact hsim _) hA R hv hb (by rw [D.scope]; exact M) hk
theorem Zs.f101 (W : Zs c N) : FnC c 2 101 (N.md 1) ["self", "fws", "string"] (Zn (on3 yb7)) := zD5 (d := 1) W.S W.m1 (zl4 fun _ _ _ => Zc (g := fun _ : Unit => []) (Yq (x := ()) (zu9 W.S W.sup.toAccG W.hap (Za (by rfl)) (Zb (Vj (Zb (Za (by rfl)) (Zb (Za (by rfl)) Zd))) Zd)) YJ) fun _ => Zj () Sub.refl)
  ⟨by decide, by decide +kernel, by decide +kernel⟩
theorem Zs.f102 (W : Zs c N) : FnC c 2 102 (N.md 2) ["self", "i"] (Zn (on2 popB)) := zD5 (d := 1) W.S W.m2 (YK fun _ _ => Zc (Zm (zN4 W.S W.AF (Za (by rfl)) (Za (by rfl))) (by decide +kernel)) fun v =>
      Zc (g := fun _ : Unit => [("popped", v)]) (ya0 (x := ()) W.S W.AF W.hset (ZD Zd) (Za (by rfl)) (Za (by rfl)) (Zi (by rfl) YJ)) fun _ => Zo (Za (by rfl))) ⟨by decide, by decide +kernel, by decide +kernel⟩
theorem Zs.f108 (W : Zs c N) : FnC c 1 108 (N.md 8) ["self"] cntC := zS0 W.S W.m8 W.sup W.halL W.g8.1 W.g8.2
theorem Zs.lamD (W : Zs c N) : LamD c (N.fd 11) (N.fd 16) (N.fd 18) (N.fd 20) := ⟨W.D 11 rfl, W.D 16 rfl, W.D 18 rfl, W.D 20 rfl, W.bp2 16 (by decide), W.bp2 18 (by decide), W.bp2 20 (by decide), W.no _ (by decide), W.AF, W.hh⟩
end
noncomputable def b4 (a0 : AV) : CS Unit :=
  (seqC (ifC (zB3 (litC a0)) (retC (litC (aB false))) (Zt ()) : CS (Unit)) (fun (r1 : Unit) => (seqC (ifC (cmpK eqK (litC a0) (litC (aS []))) (retC (litC (aB false))) (Zt ()) : CS (Unit)) (fun (r2 : Unit) => (seqC (ifC (orT (cmpK eqK (subK Zk (litC a0) (litC (aI 0))) (litC (aS [46]))) (cmpK eqK (subK Zk (litC a0) (unK negK (litC (aI 1)))) (litC (aS [46])))) (retC (litC (aB false))) (Zt ()) : CS (Unit)) (fun (r3 : Unit) => (retC (litC (aB true)))))))))
theorem s4 {c : Cfg} {N : Nums} (W : Zs c N) (a0 : AV) : SimS c 8 (Zv 4).names [("text", a0)] (Ye 4) (fun _ : Unit => []) (b4 a0) :=
  (Zc (g := fun (r1 : Unit) => ([("text", a0)] : Ctx)) (ZJ (g := fun (r1 : Unit) => ([("text", a0)] : Ctx)) (zl8 W.S W.pat W.npat (by decide +kernel) (Zb (Za (by rfl)) Zd)) (Zo ZU) (Zj () Sub.refl)) (fun (r1 : Unit) =>
  (Zc (g := fun (r2 : Unit) => ([("text", a0)] : Ctx)) (ZJ (g := fun (r2 : Unit) => ([("text", a0)] : Ctx)) (Zq (Xe W.S (by decide)) (Za (by rfl)) (Zy (by decide +kernel))) (Zo ZU) (Zj () Sub.refl)) (fun (r2 : Unit) =>
  (Zc (g := fun (r3 : Unit) => ([("text", a0)] : Ctx)) (ZJ (g := fun (r3 : Unit) => ([("text", a0)] : Ctx)) (zd0 (Zq (Xe W.S (by decide)) (Zh W.get (Za (by rfl)) Zg) (Zy (by decide +kernel))) (Zq (Xe W.S (by decide)) (Zh W.get (Za (by rfl)) (Xi Xz Zg)) (Zy (by decide +kernel)))) (Zo ZU) (Zj () Sub.refl)) (fun (r3 : Unit) =>
  (Zo ZU)))))))
theorem Zs.f4 {c : Cfg} {N : Nums} (W : Zs c N) : FnC c 9 4 (N.fd 4) ["text"] (Zn (on1 (b4 ))) :=
  Yd W.S (W.D 4 rfl) (XM (fun a0 => s4 W a0)) ⟨by decide, (by decide +kernel), (by decide +kernel)⟩
noncomputable def b5 (a0 a1 : AV) : CS Unit :=
  (seqC (asgC (zo7 lo1 (litC a0))) (fun v1 => (seqC (asgC (zo7 lo1 (litC a1))) (fun v2 => (seqC (ifC (cmpK eqK (litC v1) (litC v2)) (retC (litC (aB true))) (Zt ()) : CS (Unit)) (fun (r3 : Unit) => (seqC (ifC (notT (asT (ZC (Zn (on1 b4)) (Ze (litC v1) nilL)))) (retC (litC (aB false))) (Zt ()) : CS (Unit)) (fun (r4 : Unit) => (seqC (asgC (strC zV1 (litC v1) (litC v2))) (fun v5 => (seqC (ifC (orT (cmpK eqK (litC v5) (unK negK (litC (aI 1)))) (cmpK eqK (litC v5) (litC (aI 0)))) (retC (litC (aB false))) (Zt ()) : CS (Unit)) (fun (r6 : Unit) => (seqC (ifC (notT (asT (strC zA4 (litC v2) (litC (aS [46]))))) (retC (litC (aB false))) (Zt ()) : CS (Unit)) (fun (r7 : Unit) => (seqC (ifC (notT (asT (ZC (Zn (on1 b4)) (Ze (zc3 (litC v2) (litC (aI 1))) nilL)))) (retC (litC (aB false))) (Zt ()) : CS (Unit)) (fun (r8 : Unit) => (retC (litC (aB true)))))))))))))))))))
theorem s5 {c : Cfg} {N : Nums} (W : Zs c N) (a0 a1 : AV) : SimS c 10 (Zv 5).names [("A", a0), ("B", a1)] (Ye 5) (fun _ : Unit => []) (b5 a0 a1) :=
  (Zc (Zm (zb0 (Za (by rfl))) (by decide +kernel)) (fun v1 =>
  (Zc (Zm (zb0 (Za (by rfl))) (by decide +kernel)) (fun v2 =>
  (Zc (g := fun (r3 : Unit) => ([("B", v2), ("A", v1)] : Ctx)) (ZJ (g := fun (r3 : Unit) => ([("B", v2), ("A", v1)] : Ctx)) (Zq (Xe W.S (by decide)) (Za (by rfl)) (Za (by rfl))) (Zo ZU) (Zj () (Zi (by rfl) (Zi (by rfl) YJ)))) (fun (r3 : Unit) =>
  (Zc (g := fun (r4 : Unit) => ([("B", v2), ("A", v1)] : Ctx)) (ZJ (g := fun (r4 : Unit) => ([("B", v2), ("A", v1)] : Ctx)) (Xq (Xd (Zp W.S (W.D 4 rfl) W.f4 (by decide) (W.name (i := 4) rfl (by decide +kernel)) (by decide +kernel) (Zb (Za (by rfl)) Zd) W.bp4 rfl (by decide)))) (Zo ZU) (Zj () Sub.refl)) (fun (r4 : Unit) =>
  (Zc (Zm (Jm PySem.F.slot_str_rfind PySem.F.type_str_rfind zO8 (Za (by rfl)) (Zb (Za (by rfl)) Zd)) (by decide +kernel)) (fun v5 =>
  (Zc (g := fun (r6 : Unit) => ([("i", v5), ("B", v2), ("A", v1)] : Ctx)) (ZJ (g := fun (r6 : Unit) => ([("i", v5), ("B", v2), ("A", v1)] : Ctx)) (zd0 (Zq (Xe W.S (by decide)) (Za (by rfl)) (Xi Xz Zg)) (Zq (Xe W.S (by decide)) (Za (by rfl)) Zg)) (Zo ZU) (Zj () Sub.refl)) (fun (r6 : Unit) =>
  (Zc (g := fun (r7 : Unit) => ([("i", v5), ("B", v2), ("A", v1)] : Ctx)) (ZJ (g := fun (r7 : Unit) => ([("i", v5), ("B", v2), ("A", v1)] : Ctx)) (Xq (Xd (Jm PySem.F.slot_str_startswith PySem.F.type_str_startswith zA3 (Za (by rfl)) (Zb (Zy (by decide +kernel)) Zd)))) (Zo ZU) (Zj () Sub.refl)) (fun (r7 : Unit) =>
  (Zc (g := fun (r8 : Unit) => ([("i", v5), ("B", v2), ("A", v1)] : Ctx)) (ZJ (g := fun (r8 : Unit) => ([("i", v5), ("B", v2), ("A", v1)] : Ctx)) (Xq (Xd (Zp W.S (W.D 4 rfl) W.f4 (by decide) (W.name (i := 4) rfl (by decide +kernel)) (by decide +kernel) (Zb (Jz (Za (by rfl)) Zg) Zd) W.bp4 rfl (by decide)))) (Zo ZU) (Zj () Sub.refl)) (fun (r8 : Unit) =>
  (Zo ZU)))))))))))))))))
theorem Zs.f5 {c : Cfg} {N : Nums} (W : Zs c N) : FnC c 11 5 (N.fd 5) ["A", "B"] (Zn (on2 (b5 ))) :=
  Yd W.S (W.D 5 rfl) (YK (fun a0 a1 => s5 W a0 a1)) ⟨by decide, (by decide +kernel), (by decide +kernel)⟩
noncomputable def b6 (a0 : AV) : CS Unit :=
  (seqC (asgC (strC yg8 (litC a0) (litC (aS [46])))) (fun v1 => (seqC (ifC (cmpK (XR geI) (litC v1) (litC (aI 0))) (seqC (asgC (zc3 (litC a0) (binK ZW (litC v1) (litC (aI 1))))) (fun v3 => (seqC (asgC (strC yg8 (litC v3) (litC (aS [46])))) (fun v4 => (seqC (ifC (andT (asT (ZC (Zn (on1 b4)) (Ze (litC a0) nilL))) (orT (cmpK (XR geI) (litC v4) (litC (aI 0))) (cmpK eqK (litC v3) (litC (aS [108, 111, 99, 97, 108]))))) (retC (binK ZW (litC (aS [46])) (litC v3))) (Zt ()) : CS (Unit)) (fun (r5 : Unit) => (Zt v4))))))) (Zt v1) : CS (AV)) (fun (r2 : AV) => (retC (litC a0))))))
theorem s6 {c : Cfg} {N : Nums} (W : Zs c N) (a0 : AV) : SimS c 10 (Zv 6).names [("h", a0)] (Ye 6) (fun _ : Unit => []) (b6 a0) :=
  (Zc (Zm (Jm PySem.F.slot_str_find PySem.F.type_str_find zG6 (Za (by rfl)) (Zb (Zy (by decide +kernel)) Zd)) (by decide +kernel)) (fun v1 =>
  (Zc (g := fun (r2 : AV) => ([("i", r2), ("h", a0)] : Ctx)) (ZJ (g := fun (r2 : AV) => ([("i", r2), ("h", a0)] : Ctx)) (Zq yl6 (Za (by rfl)) Zg) (Zc (Zm (Jz (Za (by rfl)) (Zl (ZI W.hh) (Za (by rfl)) Zg)) (by decide +kernel)) (fun v3 =>
  (Zc (Zm (Jm PySem.F.slot_str_find PySem.F.type_str_find zG6 (Za (by rfl)) (Zb (Zy (by decide +kernel)) Zd)) (by decide +kernel)) (fun v4 =>
  (Zc (g := fun (r5 : Unit) => ([("i", v4), ("b", v3), ("h", a0)] : Ctx)) (ZJ (g := fun (r5 : Unit) => ([("i", v4), ("b", v3), ("h", a0)] : Ctx)) (zN9 (Xd (Zp W.S (W.D 4 rfl) W.f4 (by decide) (W.name (i := 4) rfl (by decide +kernel)) (by decide +kernel) (Zb (Za (by rfl)) Zd) W.bp4 rfl (by decide))) (zd0 (Zq yl6 (Za (by rfl)) Zg) (Zq (Xe W.S (by decide)) (Za (by rfl)) (Zy (by decide +kernel))))) (Zo (Zl (ZI W.hh) (Zy (by decide +kernel)) (Za (by rfl)))) (Zj () (Zi (by rfl) (Zi (by rfl) (Zf (by rfl) (Zf (by rfl) (Zf (by rfl) Sub.refl))))))) (fun (r5 : Unit) =>
  (Zj v4 (Zi (by rfl) (Zf (by rfl) (Zf (by rfl) Sub.refl)))))))))) (Zj v1 Sub.refl)) (fun (r2 : AV) =>
  (Zo (Za (by rfl)))))))
theorem Zs.f6 {c : Cfg} {N : Nums} (W : Zs c N) : FnC c 11 6 (N.fd 6) ["h"] (Zn (on1 (b6 ))) :=
  Yd W.S (W.D 6 rfl) (XM (fun a0 => s6 W a0)) ⟨by decide, (by decide +kernel), (by decide +kernel)⟩
end Mine
end
section
namespace Mine
open PySem PySem.W PySem.Calls PyProof.Rows PySem.Builtin.Str
noncomputable def za1 (l : List Nat) : Nat := List.rec (motive := fun _ => Nat) 0 (fun x r ih => isC r x fun _ _ => ih) l
theorem zr6 (l : List Nat) {y : Nat} {r : List Nat} : za1 (l ++ y :: r) = za1 (y :: r) := by
  induction l with
  | nil => rfl
  | cons x l ih =>
    rw [<- ih]
    cases l with
    | nil => rfl
    | cons z l => rfl
theorem zC7 {kk : Nat -> Bool} {r : List Nat} : ∀ {x : Nat}, nthK kk (x :: r) (lenN r) = kk (za1 (x :: r)) := by
  induction r with
  | nil => intro x; rfl
  | cons y r ih => intro x; exact ih
theorem yl8 {α : Type} {o : Option α} {k : α -> Bool} {x : α} (h : o = some x) (hk : k x = true) : oB o k = true := by subst h; exact hk
theorem ZT {b k : Bool} (h : b = true) (hk : k = true) : gd b k = true := by subst h; exact hk
theorem ZR {n m : Nat} {k : Bool} (h : n = m) (hk : k = true) : kd n m k = true := by
  subst h
  show Bool.rec (motive := fun _ => Bool) false k (Nat.beq n n) = true
  rw [Nat.beq_refl]
  exact hk
inductive Hdn (l : List Nat) (b : Bool) : Prop
  | hit (hl : l.length < 10000) (h : hits l = some true) (e : b = false) : Hdn l b
  | nil (h : l = []) (e : b = false) : Hdn l b
  | cons (hl : l.length < 10000) (ha : Ys l = true) (h : hits l = some false) (x : Nat) (r : List Nat) (hx : l = x :: r) (e : b = notB (sel (Nat.beq x 46) true (Nat.beq (za1 l) 46))) : Hdn l b
theorem yl0 (n : Nat) : eqL [n] [46] = Nat.beq n 46 := by
  show gd (Nat.beq n 46) true = _
  cases Nat.beq n 46 <;> rfl
theorem zT5 {p : Nat -> Bool} {r : List Nat} : ∀ {x : Nat}, allL p (x :: r) = true -> p (za1 (x :: r)) = true := by
  induction r with
  | nil => intro x h; exact (gd_t h).1
  | cons y r ih => intro x h; exact ih (gd_t h).2
theorem XS {l : List Nat} {b : Bool} {H : AH} {kn : Unit -> AH -> Bool} {kr : AV -> AH -> Bool} (h : Hdn l b) (hk : kr (aB b) H = true) : b4 (aS l) H kn kr = true := by
  cases h with
  | hit hl h e =>
    subst e
    exact Xy hl (yl8 h hk)
  | nil h e =>
    subst h e
    exact hk
  | cons hl ha h x r hx e =>
    subst hx
    refine Xy hl (yl8 h ?_)
    show gd (Ys [x]) (sel (eqL [x] [46]) (kr (aB false) H) (nthK (fun n => gd (Ys [n]) (sel (eqL [n] [46]) (kr (aB false) H) (kr (aB true) H))) (x :: r) (lenN r))) = true
    refine ZT (ZT (gd_t ha).1 rfl) ?_
    rw [yl0, zC7]
    cases q : Nat.beq x 46 with
    | true => rw [q] at e; subst e; exact hk
    | false =>
      rw [q] at e
      refine ZT (ZT (zT5 ha) rfl) ?_
      rw [yl0]
      have e : b = notB (Nat.beq (za1 (x :: r)) 46) := e
      cases q2 : Nat.beq (za1 (x :: r)) 46 <;> (rw [q2] at e; subst e; exact hk)
theorem zb9 {l m : List Nat} {i : Nat} : StrLaws.At (txt l) (txt m) (txt l).length i ↔ ∃ u v, l = u ++ (m ++ v) /\ u.length = i := by
  have e3 : subAt (txt l) (txt m) i = true ↔ (l.drop i).take m.length = m := by
    unfold subAt
    rw [ZN, beq_iff_eq]
    unfold txt
    rw [List.extract_toArray]
    exact ⟨fun h => by have := congrArg Array.toList h; simpa [List.extract] using this, fun h => by simp [List.extract, h]⟩
  unfold StrLaws.At
  rw [ZN, ZN, e3]
  refine ⟨fun ⟨h1, h2⟩ => ⟨l.take i, l.drop (i + m.length), ?_, List.length_take_of_le (Nat.le_trans (Nat.le_add_right _ _) h1)⟩, fun ⟨u, v, h, e⟩ => ?_⟩
  · have h3 := (List.take_append_drop m.length (l.drop i)).symm
    rw [h2, List.drop_drop] at h3
    rw [<- h3, List.take_append_drop]
  · subst e h
    exact ⟨by rw [List.length_append, List.length_append, <- Nat.add_assoc]; exact Nat.le_add_right _ _, by rw [List.drop_left, List.take_left]⟩
abbrev Occ (l m u : List Nat) : Prop := ∃ v, l = u ++ (m ++ v)
theorem zo1 {l m : List Nat} : (Txt.find (txt l) (txt m) = -1 /\ ∀ u, ¬ Occ l m u) \/ ∃ u, Occ l m u /\ Txt.find (txt l) (txt m) = (u.length : Int) /\ ∀ u', Occ l m u' -> u.length <= u'.length := by
  rcases find_whole (txt l) (txt m) with ⟨h, hn⟩ | ⟨i, h, hi, hn⟩
  · exact .inl ⟨h, fun u ⟨v, e⟩ => hn _ (zb9.mpr ⟨u, v, e, rfl⟩)⟩
  · obtain ⟨u, v, e, rfl⟩ := zb9.mp hi
    exact .inr ⟨u, ⟨v, e⟩, h, fun u' ⟨v', e'⟩ => Nat.le_of_not_lt fun hl => hn _ hl (zb9.mpr ⟨u', v', e', rfl⟩)⟩
theorem zO9 {l m : List Nat} : (Txt.rfind (txt l) (txt m) = -1 /\ ∀ u, ¬ Occ l m u) \/ ∃ u, Occ l m u /\ Txt.rfind (txt l) (txt m) = (u.length : Int) /\ ∀ u', Occ l m u' -> u'.length <= u.length := by
  rcases rfind_whole (txt l) (txt m) with ⟨h, hn⟩ | ⟨i, h, hi, hn⟩
  · exact .inl ⟨h, fun u ⟨v, e⟩ => hn _ (zb9.mpr ⟨u, v, e, rfl⟩)⟩
  · obtain ⟨u, v, e, rfl⟩ := zb9.mp hi
    exact .inr ⟨u, ⟨v, e⟩, h, fun u' ⟨v', e'⟩ => Nat.le_of_not_lt fun hl => hn _ hl (zb9.mpr ⟨u', v', e', rfl⟩)⟩
theorem zg6 {L : List Nat} : ∀ {u R w : List Nat}, 46 ∉ L -> L ++ 46 :: R = u ++ 46 :: w -> (u = L /\ w = R) \/ ∃ u', u = L ++ 46 :: u' /\ R = u' ++ 46 :: w := by
  induction L with
  | nil =>
    intro u R w _ h
    cases u with
    | nil => injection h with _ h; exact .inl ⟨rfl, h.symm⟩
    | cons y u => injection h with h1 h; subst h1; exact .inr ⟨u, rfl, h⟩
  | cons x L ih =>
    intro u R w hn h
    cases u with
    | nil => injection h with h _; exact absurd (h ▸ List.mem_cons_self) hn
    | cons y u =>
      injection h with h1 h
      subst h1
      rcases ih (fun hm => hn (List.mem_cons_of_mem _ hm)) h with ⟨e1, e2⟩ | ⟨u', e1, e2⟩
      · exact .inl ⟨congrArg _ e1, e2⟩
      · exact .inr ⟨u', congrArg _ e1, e2⟩
theorem zS1 {L R : List Nat} (h : 46 ∉ L) : Txt.find (txt (L ++ 46 :: R)) (txt [46]) = (L.length : Int) := by
  rcases zo1 (l := L ++ 46 :: R) (m := [46]) with ⟨_, hn⟩ | ⟨u, ⟨v, e⟩, hf, hm⟩
  · exact absurd ⟨R, rfl⟩ (hn L)
  · rw [hf]
    rcases zg6 h e with ⟨rfl, _⟩ | ⟨u', rfl, _⟩
    · rfl
    · have h1 := hm L ⟨R, rfl⟩
      rw [List.length_append] at h1
      exact absurd h1 (Nat.not_le.mpr (Nat.lt_add_of_pos_right (Nat.succ_pos _)))
theorem zG7 {l : List Nat} (h : 46 ∉ l) : Txt.find (txt l) (txt [46]) = -1 := by
  rcases zo1 (l := l) (m := [46]) with ⟨h, _⟩ | ⟨u, ⟨v, e⟩, _⟩
  · exact h
  · exact absurd (e ▸ List.mem_append_right _ (List.mem_cons_self ..)) h
structure TxOk (l : List Nat) : Prop where
  asc : Ys l = true
  sh : l.length < 9000
theorem TxOk.s4 {l : List Nat} (h : TxOk l) : l.length < 10000 := Nat.lt_trans h.sh (by decide)
theorem YZ {l : List Nat} {k : Bool} (h : l.length < 100000) (hk : k = true) : Yh l k = true := ZT (Nat.blt_eq.mpr (Zw l ▸ h)) hk
section
variable {l L R a b : List Nat} {H : AH} {kn : Unit -> AH -> Bool} {kr : AV -> AH -> Bool} {z : Bool}
noncomputable def f6 (R : List Nat) (H : AH) (kr : AV -> AH -> Bool) : Bool := Yh [46] (Yh R (kr (aS (46 :: R)) H))
noncomputable def r6 (i : Int) (l : List Nat) (H : AH) (kr : AV -> AH -> Bool) : Bool := sel (geI i 0) (YS (addI i 1) fun n => gd (Nat.blt 0 n) (gd (Nat.ble n (lenN l)) (sh4 l (sh4 (l.drop n) (b4 (aS l) H (fun _ _ => false) fun w H1 => kd w.t 1 (sel w.b
  (sel (geI (Txt.find (txt (l.drop n)) (txt [46])) 0) (f6 (l.drop n) H1 kr) (sel (eqL (l.drop n) [108, 111, 99, 97, 108]) (f6 (l.drop n) H1 kr) (kr (aS l) H1))) (kr (aS l) H1))))))) (kr (aS l) H)
theorem yr6 : b6 (aS l) H kn kr = sh4 l (r6 (Txt.find (txt l) (txt [46])) l H kr) := rfl
theorem zP1 (h : TxOk l) (hn : 46 ∉ l) (hk : kr (aS l) H = true) : b6 (aS l) H kn kr = true := by
  rw [yr6, zG7 hn]
  exact Xy h.s4 hk
theorem Vw (h : TxOk (L ++ 46 :: R)) (hn : 46 ∉ L) (hd : Hdn (L ++ 46 :: R) z) (hk : (z = false /\ kr (aS (L ++ 46 :: R)) H = true) \/ (z = true /\ ((46 ∈ R \/ R = [108, 111, 99, 97, 108]) /\ kr (aS (46 :: R)) H = true \/ (46 ∉ R /\ R ≠ [108, 111, 99, 97, 108]) /\ kr (aS (L ++ 46 :: R)) H = true))) : b6 (aS (L ++ 46 :: R)) H kn kr = true := by
  have hl : (L ++ 46 :: R).length = L.length + (R.length + 1) := List.length_append
  have hR : R.length < 9000 := Nat.lt_of_le_of_lt (Nat.le_trans (Nat.le_succ _) (Nat.le_add_left _ _)) (hl ▸ h.sh)
  have hdr : (L ++ 46 :: R).drop (L.length + 1) = R := by rw [<- List.drop_drop, List.drop_left]; rfl
  rw [yr6, zS1 hn]
  refine Xy h.s4 ?_
  have e : r6 (L.length : Int) (L ++ 46 :: R) H kr = gd (Nat.ble (L.length + 1) (lenN (L ++ 46 :: R))) (sh4 (L ++ 46 :: R) (sh4 ((L ++ 46 :: R).drop (L.length + 1)) (b4 (aS (L ++ 46 :: R)) H (fun _ _ => false) fun w H1 => kd w.t 1 (sel w.b
    (sel (geI (Txt.find (txt ((L ++ 46 :: R).drop (L.length + 1))) (txt [46])) 0) (f6 ((L ++ 46 :: R).drop (L.length + 1)) H1 kr) (sel (eqL ((L ++ 46 :: R).drop (L.length + 1)) [108, 111, 99, 97, 108]) (f6 ((L ++ 46 :: R).drop (L.length + 1)) H1 kr) (kr (aS (L ++ 46 :: R)) H1))) (kr (aS (L ++ 46 :: R)) H1))))) := rfl
  rw [e, hdr]
  refine ZT (Nat.ble_eq.mpr (by rw [Zw, hl]; exact Nat.add_le_add_left (Nat.succ_le_succ (Nat.zero_le _)) _)) (Xy h.s4 (Xy (Nat.lt_trans hR (by decide)) (XS hd ?_)))
  rcases hk with ⟨rfl, hk⟩ | ⟨rfl, hk⟩
  · exact hk
  · show sel (geI (Txt.find (txt R) (txt [46])) 0) (f6 R H kr) (sel (eqL R [108, 111, 99, 97, 108]) (f6 R H kr) (kr (aS (L ++ 46 :: R)) H)) = true
    have fin : kr (aS (46 :: R)) H = true -> f6 R H kr = true := fun hk => YZ (by decide) (YZ (Nat.lt_trans hR (by decide)) hk)
    by_cases hm : 46 ∈ R
    · obtain ⟨L2, R2, e⟩ := List.append_of_mem hm
      rcases zo1 (l := R) (m := [46]) with ⟨_, hn⟩ | ⟨u, _, hf, _⟩
      · exact absurd ⟨R2, e⟩ (hn L2)
      · rw [hf, show geI (u.length : Int) 0 = true from rfl]
        rcases hk with ⟨_, hk⟩ | ⟨⟨q, _⟩, _⟩
        · exact fin hk
        · exact absurd hm q
    · rw [zG7 hm]
      rcases hk with ⟨q, hk⟩ | ⟨⟨_, q⟩, hk⟩
      · rw [YL.mpr (q.resolve_left hm)]; exact fin hk
      · cases e : eqL R [108, 111, 99, 97, 108] with
        | true => exact absurd (YL.mp e) q
        | false => exact hk
noncomputable def r5 (i : Int) (b : List Nat) (H : AH) (kr : AV -> AH -> Bool) : Bool := sel (eqB i (-1)) (kr (aB false) H) (sel (eqB i 0) (kr (aB false) H) (sh4 b (sel (notB (Txt.startswith (txt b) (txt [46]))) (kr (aB false) H) (gd (Nat.ble 1 (lenN b)) (sh4 b (b4 (aS (b.drop 1)) H (fun _ _ => false) fun w H1 => kd w.t 1 (sel (notB w.b) (kr (aB false) H1) (kr (aB true) H1))))))))
noncomputable def h5 (a b : List Nat) (H : AH) (kr : AV -> AH -> Bool) : Bool := sel (eqL a b) (kr (aB true) H) (b4 (aS a) H (fun _ _ => false) fun w H1 => kd w.t 1 (sel (notB w.b) (kr (aB false) H1) (sh4 a (sh4 b (r5 (Txt.rfind (txt a) (txt b)) b H1 kr)))))
theorem yr7 : b5 (aS a) (aS b) H kn kr = gd (Ys a) (sh4 a (gd (Ys b) (sh4 b (h5 (a.map lo1) (b.map lo1) H kr)))) := rfl
theorem zl1 {y : Nat} {r : List Nat} : Txt.startswith (txt (y :: r)) (txt [46]) = Nat.beq y 46 := by
  show (decide (0 + (txt [46]).length <= (txt (y :: r)).length) && subAt (txt (y :: r)) (txt [46]) 0) = _
  have h0 : 0 + [46].length <= (y :: r).length := Nat.succ_le_succ (Nat.zero_le _)
  rw [ZN, ZN, decide_eq_true h0, Bool.true_and]
  unfold subAt
  rw [ZN]
  unfold txt
  rw [List.extract_toArray]
  show (([y].toArray : Array Nat) == [46].toArray) = _
  rw [Bool.eq_iff_iff, beq_iff_eq, Nat.beq_eq]
  exact ⟨fun h => by have := congrArg Array.toList h; simpa using this, fun h => h ▸ rfl⟩
theorem yq9 (ha : TxOk a) (hb : TxOk b) (h : a.map lo1 = b.map lo1) (hk : kr (aB true) H = true) : b5 (aS a) (aS b) H kn kr = true := by
  rw [yr7]
  refine ZT ha.asc (Xy ha.s4 (ZT hb.asc (Xy hb.s4 ?_)))
  unfold h5
  rw [YL.mpr h]
  exact hk
theorem zS5 (ha : TxOk a) (hb : TxOk b) (h : a.map lo1 ≠ b.map lo1) {y : Nat} {r : List Nat} (hB : b.map lo1 = y :: r) (hz : (Hdn (a.map lo1) false /\ z = false) \/ (Hdn (a.map lo1) true /\ ((y ≠ 46 /\ z = false) \/ (y = 46 /\ Hdn r z /\ (z = false \/ ∃ u, Occ (a.map lo1) (y :: r) u /\ 0 < u.length)) \/ ((∀ u, ¬ Occ (a.map lo1) (y :: r) u) /\ z = false))))
    (hk : kr (aB z) H = true) : b5 (aS a) (aS b) H kn kr = true := by
  rw [yr7]
  refine ZT ha.asc (Xy ha.s4 (ZT hb.asc (Xy hb.s4 ?_)))
  have s4 : ∀ {l : List Nat} {k : Bool}, TxOk l -> k = true -> sh4 (l.map lo1) k = true := fun h hk => Xy (by rw [List.length_map]; exact h.s4) hk
  have e : eqL (a.map lo1) (b.map lo1) = false := by
    cases q : eqL (a.map lo1) (b.map lo1) with
    | true => exact absurd (YL.mp q) h
    | false => rfl
  unfold h5
  rw [e]
  rcases hz with ⟨hd, rfl⟩ | ⟨hd, hz⟩
  · exact XS hd hk
  refine XS hd (s4 ha (s4 hb ?_))
  have s4b := fun {k} => @s4 b k hb
  rw [hB] at s4b ⊢
  rcases zO9 (l := a.map lo1) (m := y :: r) with ⟨hf, hno⟩ | ⟨u, ho, hf, hmax⟩
  · rw [hf]
    rcases hz with ⟨_, rfl⟩ | ⟨_, _, rfl | ⟨u, ho, _⟩⟩ | ⟨_, rfl⟩
    · exact hk
    · exact hk
    · exact absurd ho (hno u)
    · exact hk
  · rw [hf]
    cases u with
    | nil =>
      rcases hz with ⟨_, rfl⟩ | ⟨_, _, rfl | ⟨u', ho', hp⟩⟩ | ⟨_, rfl⟩
      · exact hk
      · exact hk
      · exact absurd hp (Nat.not_lt.mpr (hmax u' ho'))
      · exact hk
    | cons w u =>
      show sh4 (y :: r) (sel (notB (Txt.startswith (txt (y :: r)) (txt [46]))) (kr (aB false) H) (sh4 (y :: r) (b4 (aS r) H (fun _ _ => false) fun w H1 => kd w.t 1 (sel (notB w.b) (kr (aB false) H1) (kr (aB true) H1))))) = true
      rw [zl1]
      refine s4b ?_
      rcases hz with ⟨hy, rfl⟩ | ⟨rfl, hd2, _⟩ | ⟨hno, _⟩
      · rw [show Nat.beq y 46 = false from Bool.eq_false_iff.mpr fun q => hy (Nat.eq_of_beq_eq_true q)]
        exact hk
      · refine s4b (XS hd2 ?_)
        cases z <;> exact hk
      · exact absurd ho (hno _)
end
noncomputable def sufs : List (List Nat) := [[], [55], [45, 65], [45, 97]]
noncomputable def tops : List (List Nat) := [[108, 111, 99, 97, 108], [98, 46, 99, 111, 109], [99, 46, 55, 97, 55]]
structure NmOk (T : List Nat) (nm : Nat -> List Nat) : Prop where
  top : nm 0 ∈ tops
  par : ∀ k, 1 <= k -> k < 7 -> nthD T k < k /\ ∃ s ∈ sufs, nm k = (96 + k) :: (s ++ 46 :: nm (nthD T k))
structure Nm (k : Nat) (l : List Nat) : Prop where
  len1 : 5 <= l.length
  len2 : l.length <= 5 + 4 * k
  len3 : 1 <= k -> 7 <= l.length
  len4 : k = 0 -> l.length = 5
  asc : Ys l = true
  hit : ∀ tl b, (∀ t ∈ tops, hits (t ++ tl) = some b) -> hits (l ++ tl) = some b
  last : za1 l ∈ [108, 109, 55]
  fst : ∃ y r, l = y :: r /\ Sre.isDigit y = false /\ y ≠ 46 /\ ((k = 0 /\ y < 109) \/ (1 <= k /\ y = 96 + k))
theorem Xk {x : Nat} {r : List Nat} (h : (x == 46) = false) : hits (x :: r) = hits r := by
  rw [hits.eq_def]
  simp only [h]
theorem zs3 {y : Nat} {r : List Nat} (h : Sre.isDigit y = false) : hits (46 :: y :: r) = hits (y :: r) := by
  rw [hits.eq_def]
  simp only [show ((46 : Nat) == 46) = true from rfl, h]
theorem zg1 {P : List Nat -> Prop} (h0 : P []) (h1 : P [55]) (h2 : P [45, 65]) (h3 : P [45, 97]) : ∀ s ∈ sufs, P s := fun s h => by
  rcases List.mem_cons.mp h with rfl | h
  · exact h0
  rcases List.mem_cons.mp h with rfl | h
  · exact h1
  rcases List.mem_cons.mp h with rfl | h
  · exact h2
  · rw [List.mem_singleton.mp h]; exact h3
theorem zz1 : ∀ t ∈ tops, ∃ a b c r, t = a :: b :: c :: r /\ (103 <= a \/ (b = 46 /\ ((c = 99 /\ a = 98) \/ Sre.isDigit c = true))) := fun t h => by
  rcases List.mem_cons.mp h with rfl | h
  · exact ⟨_, _, _, _, rfl, .inl (by decide)⟩
  rcases List.mem_cons.mp h with rfl | h
  · exact ⟨_, _, _, _, rfl, .inr ⟨rfl, .inl ⟨rfl, rfl⟩⟩⟩
  · rw [List.mem_singleton.mp h]; exact ⟨_, _, _, _, rfl, .inr ⟨rfl, .inr rfl⟩⟩
theorem zV8 {k : Nat} (h7 : k < 7) : 96 + k < 103 := Nat.add_lt_add_left h7 96
theorem zC8 : ∀ k, k < 7 -> 1 <= k -> Sre.isDigit (96 + k) = false /\ 96 + k ≠ 46 /\ lo1 (96 + k) = 96 + k := by decide +kernel
section
variable {T : List Nat} {nm : Nat -> List Nat}
theorem NmOk.rec' (O : NmOk T nm) {P : Nat -> Prop} (h0 : P 0) (h1 : ∀ k, 1 <= k -> k < 7 -> P (nthD T k) -> P k) : ∀ k, k < 7 -> P k := by
  intro k
  induction k using Nat.strongRecOn with
  | _ k ih =>
    intro hk
    rcases Nat.eq_zero_or_pos k with rfl | hp
    · exact h0
    · have h := (O.par k hp hk).1
      exact h1 k hp hk (ih _ h (Nat.lt_trans h hk))
theorem zV5 {l : List Nat} (h : l ∈ tops) : Nm 0 l := by
  have h1 : ∀ t ∈ tops, t.length = 5 /\ Ys t = true /\ za1 t ∈ [108, 109, 55] /\ (∃ y, t.head? = some y /\ Sre.isDigit y = false /\ y ≠ 46 /\ y < 109) := by decide +kernel
  obtain ⟨e, ha, hl, y, hy, h2, h3, h4⟩ := h1 l h
  refine ⟨Nat.le_of_eq e.symm, Nat.le_of_eq e, fun h => (nomatch h), fun _ => e, ha, fun tl b q => q l h, hl, y, l.tail, ?_, h2, h3, .inl ⟨rfl, h4⟩⟩
  cases l with
  | nil => cases hy
  | cons z r => cases hy; rfl
theorem zk5 : ∀ s ∈ sufs, s.length <= 2 /\ Ys s = true /\ 46 ∉ s /\ s.map lo1 ∈ sufs := by decide +kernel
theorem zf2 {p : Nat -> Bool} {a b : List Nat} (ha : allL p a = true) (hb : allL p b = true) : allL p (a ++ b) = true := by
  induction a with
  | nil => exact hb
  | cons x a ih => exact ZT (gd_t ha).1 (ih (gd_t ha).2)
theorem yc6 {p k a s l : Nat} (hp : p < k) (hs : s <= 2) (l1 : 5 <= l) (l2 : l <= 5 + 4 * p) (e : a = s + l + 2) : 7 <= a /\ a <= 5 + 4 * k := by omega
theorem Yr (O : NmOk T nm) : ∀ k, k < 7 -> Nm k (nm k) := by
  refine O.rec' (zV5 O.top) fun k h1 h7 ih => ?_
  obtain ⟨hp, s, hs, e⟩ := O.par k h1 h7
  obtain ⟨y, r, e2, hd, hy, _⟩ := ih.fst
  obtain ⟨hsl, hsa, _, _⟩ := zk5 s hs
  obtain ⟨n1, n2, _⟩ := zC8 k h7 h1
  have hlen : (nm k).length = s.length + (nm (nthD T k)).length + 2 := by rw [e, List.length_cons, List.length_append, List.length_cons]; rfl
  obtain ⟨l1, l2⟩ := yc6 hp hsl ih.len1 ih.len2 hlen
  refine ⟨Nat.le_trans (by decide) l1, l2, fun _ => l1, fun h => absurd (h ▸ h1) (by decide), ?_, fun tl b q => ?_, ?_, _, _, e, n1, n2, .inr ⟨h1, rfl⟩⟩
  · rw [e]
    exact ZT (Nat.blt_eq.mpr (Nat.lt_trans (zV8 h7) (by decide))) (zf2 hsa (ZT rfl ih.asc))
  · have e3 : nm k ++ tl = (96 + k) :: (s ++ 46 :: (nm (nthD T k) ++ tl)) := by rw [e]; simp
    have hdot : hits (46 :: (nm (nthD T k) ++ tl)) = some b := by
      have h := ih.hit tl b q
      rw [e2] at h ⊢
      exact (zs3 hd).trans h
    rw [e3, Xk (beq_eq_false_iff_ne.mpr n2)]
    exact zg1 (P := fun s => hits (s ++ 46 :: (nm (nthD T k) ++ tl)) = some b) hdot ((Xk (by decide)).trans hdot) ((Xk (by decide)).trans ((Xk (by decide)).trans hdot)) ((Xk (by decide)).trans ((Xk (by decide)).trans hdot)) s hs
  · have h := ih.last
    rw [e]
    rw [e2] at h ⊢
    rw [show (96 + k) :: (s ++ 46 :: y :: r) = ((96 + k) :: (s ++ [46])) ++ y :: r from by simp, zr6]
    exact h
theorem Nm.tx {k : Nat} {l : List Nat} (h : Nm k l) (h7 : k < 7) : TxOk l /\ l.length <= 29 := by
  have l := Nat.le_trans h.len2 (Nat.add_le_add_left (Nat.mul_le_mul_left 4 (Nat.le_of_lt_succ h7)) 5)
  exact ⟨⟨h.asc, Nat.lt_of_le_of_lt l (by decide)⟩, l⟩
theorem ye4 {n : Nat} (h : n ∈ [108, 109, 55]) : Nat.beq n 46 = false := by
  have : ∀ n ∈ [108, 109, 55], Nat.beq n 46 = false := by decide
  exact this n h
theorem yO6 {y : Nat} (h : y ≠ 46) : Nat.beq y 46 = false := Bool.eq_false_iff.mpr fun q => h (Nat.eq_of_beq_eq_true q)
theorem Nm.hdn {k : Nat} {l : List Nat} (h : Nm k l) (h7 : k < 7) : Hdn l true := by
  obtain ⟨y, r, e, _, hy, _⟩ := h.fst
  have h0 := h.hit [] false (by decide +kernel)
  rw [List.append_nil] at h0
  exact .cons (h.tx h7).1.s4 h.asc h0 y r e (by rw [yO6 hy, ye4 h.last]; rfl)
theorem Nm.far {k : Nat} {l : List Nat} (h : Nm k l) (h7 : k < 7) : Hdn (l ++ [46, 55]) false := .hit (by rw [List.length_append]; exact Nat.lt_of_le_of_lt (Nat.add_le_add_right (h.tx h7).2 2) (by decide)) (h.hit [46, 55] true (by decide +kernel)) rfl
theorem zV7 (O : NmOk T nm) {i j : Nat} (hi : i < 7) (hj : j < 7) (h : nm i = nm j) : i = j := by
  have ni := Yr O i hi
  have nj := Yr O j hj
  obtain ⟨y, r, e, _, _, hy⟩ := ni.fst
  obtain ⟨z, q, e', _, _, hz⟩ := nj.fst
  have hh := congrArg List.length h
  rw [e, e'] at h
  injection h with h _
  subst h
  have no : ∀ {a b : Nat}, a = b -> a = 5 -> 7 <= b -> False := fun h1 h2 h3 => absurd (h2 ▸ h1 ▸ h3) (by decide)
  rcases hy with ⟨rfl, _⟩ | ⟨h1, rfl⟩
  · rcases hz with ⟨rfl, _⟩ | ⟨h2, _⟩
    · rfl
    · exact (no hh (ni.len4 rfl) (nj.len3 h2)).elim
  · rcases hz with ⟨rfl, _⟩ | ⟨_, hz⟩
    · exact (no hh.symm (nj.len4 rfl) (ni.len3 h1)).elim
    · exact Nat.add_left_cancel hz
theorem zC9 (O : NmOk T nm) {j p : Nat} (hj : j < 7) (hp : p < 7) {v : List Nat} (h : nm j ++ v = nm p) : j = p := by
  have nj := Yr O j hj
  have np := Yr O p hp
  obtain ⟨y, r, e, _, _, hy⟩ := nj.fst
  obtain ⟨z, q, e', _, _, hz⟩ := np.fst
  have hyz : y = z := by
    rw [e, e'] at h
    injection h
  subst hyz
  rcases hy with ⟨rfl, hl⟩ | ⟨h1, rfl⟩
  · rcases hz with ⟨rfl, _⟩ | ⟨h2, rfl⟩
    · rfl
    · exfalso
      obtain ⟨hlt, s, hs, ep⟩ := O.par p h2 hp
      obtain ⟨y2, r2, e2, hd2, _, hy2⟩ := (Yr O (nthD T p) (Nat.lt_trans hlt hp)).fst
      rw [ep, e2] at h
      obtain ⟨a0, a1, a2, r0, ea, g⟩ := zz1 _ O.top
      rw [ea] at h
      injection h with h0 h
      have lt := zV8 hp
      obtain ⟨rfl, g'⟩ := g.resolve_left fun q => absurd (h0 ▸ lt) (Nat.not_lt.mpr q)
      have hs2 : ∀ s ∈ sufs, s = [] \/ ∃ d t, s = d :: t /\ d ≠ 46 := by
        refine zg1 (.inl rfl) (.inr ⟨_, _, rfl, by decide⟩) (.inr ⟨_, _, rfl, by decide⟩) (.inr ⟨_, _, rfl, by decide⟩)
      rcases hs2 s hs with rfl | ⟨d, t, rfl, hd⟩
      · injection h with _ h
        injection h with h _
        rcases g' with ⟨q, g2⟩ | hd
        · subst q
          rcases hy2 with ⟨h5, _⟩ | ⟨_, h6⟩
          · rw [h5, ea] at e2
            injection e2 with e2 _
            omega
          · omega
        · rw [h] at hd
          exact nomatch hd.symm.trans hd2
      · injection h with h _
        exact hd h.symm
  · rcases hz with ⟨rfl, _⟩ | ⟨h2, hz⟩
    · have := nj.len3 h1
      have h3 := congrArg List.length h
      rw [List.length_append, np.len4 rfl] at h3
      omega
    · omega
theorem JI {k : Nat} {s : List Nat} (hs : s ∈ sufs) (h7 : k < 7) (hk : 1 <= k) : 46 ∉ (96 + k) :: s := fun h => (List.mem_cons.mp h).elim (fun h => (zC8 k h7 hk).2.1 h.symm) (zk5 s hs).2.2.1
theorem ys5 {n i j : Nat} : ancB T (n + 1) (i + 1) j = sel (Nat.beq (nthD T (i + 1)) j) true (ancB T n (nthD T (i + 1)) j) := rfl
theorem ys6 {n j : Nat} : ancB T n 0 j = false := by cases n <;> rfl
theorem yc5 (O : NmOk T nm) {j : Nat} (hj : j < 7) : ∀ i, i < 7 -> ∀ n, i <= n -> ((∃ u, Occ (nm i) (46 :: nm j) u) ↔ ancB T n i j = true) := by
  refine O.rec' ?_ fun i h1 h7 ih => ?_
  · intro n _
    rw [ys6]
    refine ⟨fun ⟨u, v, h⟩ => ?_, fun h => nomatch h⟩
    have h3 := congrArg List.length h
    have := (Yr O j hj).len1
    rw [(Yr O 0 (by decide)).len4 rfl, List.length_append, List.length_append, List.length_cons] at h3
    omega
  · intro n hn
    obtain ⟨hlt, s, hs, e⟩ := O.par i h1 h7
    obtain ⟨m, rfl⟩ := Nat.exists_eq_add_of_le' (Nat.le_trans h1 hn)
    obtain ⟨i', rfl⟩ := Nat.exists_eq_add_of_le' h1
    have ihm := ih m (Nat.le_of_lt_succ (Nat.lt_of_lt_of_le hlt hn))
    rw [ys5]
    refine ⟨fun ⟨u, v, h⟩ => ?_, fun h => ?_⟩
    · rw [e] at h
      rcases zg6 (L := (96 + (i' + 1)) :: s) (JI hs h7 h1) h with ⟨_, h⟩ | ⟨u', _, h⟩
      · rw [<- zC9 O hj (Nat.lt_trans hlt h7) h, Nat.beq_refl]; rfl
      · rw [ihm.mp ⟨u', v, h⟩]
        cases Nat.beq (nthD T (i' + 1)) j <;> rfl
    · rcases YR h with ⟨hb, _⟩ | ⟨_, h⟩
      · exact ⟨(96 + (i' + 1)) :: s, [], by rw [e, Nat.eq_of_beq_eq_true hb, List.append_nil]; rfl⟩
      · obtain ⟨u, v, h⟩ := ihm.mpr h
        exact ⟨(96 + (i' + 1)) :: s ++ 46 :: u, v, by rw [e, h]; simp⟩
theorem ym7 (O : NmOk T nm) : NmOk T (fun k => (nm k).map lo1) := by
  refine ⟨?_, fun k h1 h7 => ?_⟩
  · have : ∀ t ∈ tops, t.map lo1 ∈ tops := by decide +kernel
    exact this _ O.top
  · obtain ⟨hp, s, hs, e⟩ := O.par k h1 h7
    refine ⟨hp, s.map lo1, (zk5 s hs).2.2.2, ?_⟩
    show (nm k).map lo1 = _
    rw [e, List.map_cons, List.map_append, (zC8 k h7 h1).2.2]
    rfl
theorem zw0 (l : List Nat) : (l.map up1).map lo1 = l.map lo1 := by
  rw [List.map_map]
  refine List.map_congr_left fun x _ => ?_
  show lo1 (up1 x) = lo1 x
  unfold lo1 up1
  by_cases h1 : 97 <= x /\ x <= 122
  · rw [if_pos h1, if_pos (by omega), if_neg (by omega)]
    omega
  · rw [if_neg h1]
theorem yj3 {l : List Nat} (h : TxOk l) : TxOk (l.map up1) := by
  refine ⟨?_, by rw [List.length_map]; exact h.sh⟩
  have := h.asc
  have up : ∀ x, x < 128 -> up1 x < 128 := by decide +kernel
  clear h
  induction l with
  | nil => rfl
  | cons x l ih => exact ZT (Nat.blt_eq.mpr (up x (Nat.blt_eq.mp (gd_t this).1))) (ih (gd_t this).2)
end
end Mine
end
section
namespace Mine
open PySem PySem.W PySem.Calls PyProof.Rows Builtin Builtin.ObjectAttr
noncomputable def zP7 : List Bool := [true, false, false, false, true, false, false, true, true]
noncomputable def areB (r : List Bool) : List AV -> Bool -> Bool := List.rec (motive := fun _ => List AV -> Bool -> Bool) (fun l k => isN l k) (fun b _ ih l k => isC l false fun x r => kd x.t 1 (gd (sel b x.b (notB x.b)) (ih r k))) r
noncomputable def zz9 (H : AH) (l : List AV) (k : AV -> AH -> Bool) : Bool := is1 l fun x => kd x.t 13 (areB zP7 x.l (k (aS zf1) H))
theorem zU5 : (PyData.list (zP7.map .bool)).shown = txt zf1 := by decide +kernel
section
variable {c : Cfg} {d : Nat} {A : Around} {E : Value -> Shared -> Prop} {W : Wd}
theorem ys3 {r : List Bool} : ∀ {l : List AV} {vs : List Value} {k : Bool} {h : Heap}, areB r l k = true -> VRs c W l vs -> k = true /\ ∃ as, ReadsAll h vs (r.map .bool) as := by
  induction r with
  | nil =>
    intro l vs k h hk hv
    obtain ⟨rfl, hk⟩ := zR1 hk
    cases hv
    exact ⟨hk, [], .nil⟩
  | cons b r ih =>
    intro l vs k h hk hv
    obtain ⟨x, t, rfl, hk⟩ := JK hk
    obtain ⟨e, hk⟩ := kd_t hk
    obtain ⟨hb, hk⟩ := gd_t hk
    obtain ⟨v, w, rfl, hv, ht⟩ := hv
    obtain rfl := hv.at e
    obtain ⟨hk, as, q⟩ := ih (h := h) hk ht
    have e : x.b = b := by
      revert hb
      cases b <;> cases x.b <;> intro hb <;> first | rfl | cases hb
    rw [e]
    exact ⟨hk, _, .cons (.bool b) q⟩
theorem yi1 : BiOk c (d + 8) (.type "str") zz9 := fun {A W H s args us k} hA R hus hk => by
  obtain ⟨x, rfl, hk⟩ := XP hk
  obtain ⟨u, t, rfl, hu, rfl⟩ := hus
  obtain ⟨e, hk⟩ := kd_t hk
  obtain ⟨a, vs, n, rfl, ho, hvs⟩ := Yi R hu e
  obtain ⟨hk, as, hr⟩ := ys3 (h := s.heap) hk hvs
  have hu' : A.units + ((PyData.list (zP7.map .bool)).depth + 3) < cLine := by
    have e : (PyData.list (zP7.map .bool)).depth = 1 := by decide +kernel
    rw [e]
    exact Nat.lt_of_le_of_lt (Nat.add_le_add_left (Nat.le_trans (by decide : 1 + 3 <= 10 * 8) (Nat.mul_le_mul_left 10 (Nat.le_add_left 8 d))) _) hA.un
  exact ZP (str_of_reads (.list ho rfl rfl hr) (by rfl) (fun h => by cases h) hA.gd hu' (fun _ _ e => e) (fun h' u tk hk' le => .more R hk ⟨u, by rw [zU5]; rfl⟩ le hk') (by rw [zU5]; decide +kernel))
end
end Mine
end
section
namespace Mine
open PySem PySem.W PySem.Calls PyProof.Rows
noncomputable def b35 (h4 h5 h6 : List AV -> CE) (a0 a1 : AV) : CS Unit :=
  (seqC (asgC (binK ZW (litC a0) (litC (aS [46, 55])))) (fun v1 => (seqC (asgC (Yo false (Ze (ZC h4 (Ze (litC a0) nilL)) (Ze (ZC h4 (Ze (binK ZW (litC (aS [46])) (litC a0)) nilL)) (Ze (ZC h4 (Ze (binK ZW (litC a0) (litC (aS [46]))) nilL)) (Ze (ZC h4 (Ze (litC v1) nilL)) nilL)))))) (fun v2 => (seqC (asgC (Yo false (Ze (ZC h5 (Ze (zo7 up1 (litC v1)) (Ze (litC v1) nilL))) (Ze (ZC h5 (Ze (litC v1) (Ze (binK ZW (litC (aS [46])) (litC a1)) nilL))) (Ze (ZC h5 (Ze (litC a0) (Ze (litC (aS [46])) nilL))) nilL))))) (fun v3 => (retC (biC zz9 (Ze (binK ZW (binK ZW (litC v2) (litC v3)) (Yo false (Ze (Jd (cmpK eqK (ZC h6 (Ze (litC v1) nilL)) (litC v1))) (Ze (Jd (cmpK eqK (ZC h6 (Ze (litC a1) nilL)) (litC a1))) nilL)))) nilL)))))))))
theorem s35 {c : Cfg} {N : Nums} (W : Zs c N) (a0 a1 : AV) : SimS c 14 (Zv 35).names [("name", a0), ("top", a1)] (Ye 35) (fun _ : Unit => []) (b35 (Zn (on1 b4)) (Zn (on2 b5)) (Zn (on1 b6)) a0 a1) :=
  (Zc (Zm (Zl (ZI W.hh) (Za (by rfl)) (Zy (by decide +kernel))) (by decide +kernel)) (fun v1 =>
  (Zc (Zm (ZD (Zb (Zp W.S (W.D 4 rfl) W.f4 (by decide) (W.name (i := 4) rfl (by decide +kernel)) (by decide +kernel) (Zb (Za (by rfl)) Zd) W.bp4 rfl (by decide)) (Zb (Zp W.S (W.D 4 rfl) W.f4 (by decide) (W.name (i := 4) rfl (by decide +kernel)) (by decide +kernel) (Zb (Zl (ZI W.hh) (Zy (by decide +kernel)) (Za (by rfl))) Zd) W.bp4 rfl (by decide)) (Zb (Zp W.S (W.D 4 rfl) W.f4 (by decide) (W.name (i := 4) rfl (by decide +kernel)) (by decide +kernel) (Zb (Zl (ZI W.hh) (Za (by rfl)) (Zy (by decide +kernel))) Zd) W.bp4 rfl (by decide)) (Zb (Zp W.S (W.D 4 rfl) W.f4 (by decide) (W.name (i := 4) rfl (by decide +kernel)) (by decide +kernel) (Zb (Za (by rfl)) Zd) W.bp4 rfl (by decide)) Zd))))) (by decide +kernel)) (fun v2 =>
  (Zc (Zm (ZD (Zb (Zp W.S (W.D 5 rfl) W.f5 (by decide) (W.name (i := 5) rfl (by decide +kernel)) (by decide +kernel) (Zb (zu6 (Za (by rfl))) (Zb (Za (by rfl)) Zd)) W.bp5 rfl (by decide)) (Zb (Zp W.S (W.D 5 rfl) W.f5 (by decide) (W.name (i := 5) rfl (by decide +kernel)) (by decide +kernel) (Zb (Za (by rfl)) (Zb (Zl (ZI W.hh) (Zy (by decide +kernel)) (Za (by rfl))) Zd)) W.bp5 rfl (by decide)) (Zb (Zp W.S (W.D 5 rfl) W.f5 (by decide) (W.name (i := 5) rfl (by decide +kernel)) (by decide +kernel) (Zb (Za (by rfl)) (Zb (Zy (by decide +kernel)) Zd)) W.bp5 rfl (by decide)) Zd)))) (by decide +kernel)) (fun v3 =>
  (Zo (ZF W.S (yi1 (d := 14 - 8)) (.inr ⟨_, rfl⟩) (by rfl) (W.no _ (by decide)) (by decide +kernel) (Zb (Zl (ZI W.hh) (Zl (ZI W.hh) (Za (by rfl)) (Za (by rfl))) (ZD (Zb (Vk (Xe W.S (by decide)) (Zp W.S (W.D 6 rfl) W.f6 (by decide) (W.name (i := 6) rfl (by decide +kernel)) (by decide +kernel) (Zb (Za (by rfl)) Zd) W.bp6 rfl (by decide)) (Za (by rfl))) (Zb (Vk (Xe W.S (by decide)) (Zp W.S (W.D 6 rfl) W.f6 (by decide) (W.name (i := 6) rfl (by decide +kernel)) (by decide +kernel) (Zb (Za (by rfl)) Zd) W.bp6 rfl (by decide)) (Za (by rfl))) Zd)))) Zd) (by decide) (by decide)))))))))
theorem Zs.f35 {c : Cfg} {N : Nums} (W : Zs c N) : FnC c 15 35 (N.fd 35) ["name", "top"] (Zn (on2 (b35 (Zn (on1 b4)) (Zn (on2 b5)) (Zn (on1 b6))))) :=
  Yd W.S (W.D 35 rfl) (YK (fun a0 a1 => s35 W a0 a1)) ⟨by decide, (by decide +kernel), (by decide +kernel)⟩
noncomputable abbrev KC := AV -> AH -> Bool
section
variable (h4 h5 h6 : List AV -> CE)
noncomputable def y9 (v a t : AV) (kr : KC) : KC := fun w H => eqK H w t fun b H => ZW H v (aL [a, aB b]) fun z H => zz9 H [z] kr
noncomputable def y8 (v far t : AV) (kr : KC) : KC := fun w H => eqK H w far fun b H => h6 [t] H (y9 v (aB b) t kr)
noncomputable def y7 (h : List AV) (w5 w6 far t : AV) (kr : KC) : KC := fun w7 H => ZW H (aL h) (aL [w5, w6, w7]) fun v H => h6 [far] H (y8 h6 v far t kr)
noncomputable def y6 (h : List AV) (w5 n far t : AV) (kr : KC) : KC := fun w6 H => h5 [n, aS [46]] H (y7 h6 h w5 w6 far t kr)
noncomputable def y5 (h : List AV) (n far t : AV) (kr : KC) : KC := fun w5 H => ZW H (aS [46]) t fun z H => h5 [far, z] H (y6 h5 h6 h w5 n far t kr)
noncomputable def y4 (w1 w2 w3 n far t : AV) (kr : KC) : KC := fun w4 H => zo7 up1 (litC far) H fun z H => h5 [z, far] H (y5 h5 h6 [w1, w2, w3, w4] n far t kr)
noncomputable def y3 (w1 w2 n far t : AV) (kr : KC) : KC := fun w3 H => h4 [far] H (y4 h5 h6 w1 w2 w3 n far t kr)
noncomputable def y2 (w1 n far t : AV) (kr : KC) : KC := fun w2 H => ZW H n (aS [46]) fun z H => h4 [z] H (y3 h4 h5 h6 w1 w2 n far t kr)
noncomputable def y1 (n far t : AV) (kr : KC) : KC := fun w1 H => ZW H (aS [46]) n fun z H => h4 [z] H (y2 h4 h5 h6 w1 n far t kr)
theorem yr8 {n t : AV} {H : AH} {kn : Unit -> AH -> Bool} {kr : KC} : b35 h4 h5 h6 n t H kn kr = ZW H n (aS [46, 55]) fun far H => h4 [n] H (y1 h4 h5 h6 n far t kr) := rfl
end
section
variable {T : List Nat} {nm : Nat -> List Nat} {H : AH} {kn : Unit -> AH -> Bool} {kr : AV -> AH -> Bool}
theorem zf3 {a b : List Nat} {k : KC} (ha : a.length < 9000) (hb : b.length < 9000) (hk : k (aS (a ++ b)) H = true) : ZW H (aS a) (aS b) k = true := by
  have l : ∀ {n : Nat}, n < 9000 -> n < 100000 := fun h => Nat.lt_trans h (by decide)
  refine YZ (l ha) (YZ (l hb) ?_)
  show k (aS (app a b)) H = true
  rw [ZM]
  exact hk
theorem zH0 {a : List Nat} {kk : Bool -> AH -> Bool} (hk : kk true H = true) : eqK H (aS a) (aS a) kk = true := by
  show kk (eqL a a) H = true
  rw [YL.mpr rfl]
  exact hk
theorem zF7 {l : List Nat} {k : Nat} (h : Nm k l) (h7 : k < 7) : Hdn ([46] ++ l) false /\ Hdn (l ++ [46]) false := by
  obtain ⟨y, r, e, hd, _⟩ := h.fst
  have h0 := h.hit [] false (by decide +kernel)
  rw [List.append_nil] at h0
  have hs := (h.tx h7).2
  refine ⟨.cons (Nat.lt_of_le_of_lt (Nat.succ_le_succ hs) (by decide)) (ZT rfl h.asc) ?_ 46 l rfl rfl, ?_⟩
  · show hits (46 :: l) = _
    rw [e] at h0 ⊢
    rw [zs3 hd, h0]
  · refine .cons (by rw [List.length_append]; exact Nat.lt_of_le_of_lt (Nat.succ_le_succ hs) (by decide)) (zf2 h.asc (ZT rfl rfl)) (h.hit [46] false (by decide +kernel)) y (r ++ [46]) (by rw [e]; rfl) ?_
    rw [zr6, show Nat.beq (za1 [46]) 46 = true from rfl]
    cases Nat.beq y 46 <;> rfl
theorem zB8 {t : List Nat} (h : t ∈ tops) (hk : kr (aS t) H = true) : b6 (aS t) H kn kr = true := by
  have N := zV5 h
  have tx := (N.tx (by decide)).1
  have hd := N.hdn (by decide)
  rcases List.mem_cons.mp h with rfl | h
  · exact zP1 tx (by decide) hk
  rcases List.mem_cons.mp h with rfl | h
  · exact Vw (L := [98]) (R := [99, 111, 109]) tx (by decide) hd (.inr ⟨rfl, .inr ⟨by decide, hk⟩⟩)
  · rw [List.mem_singleton.mp h] at hk tx hd ⊢
    exact Vw (L := [99]) (R := [55, 97, 55]) tx (by decide) hd (.inr ⟨rfl, .inr ⟨by decide, hk⟩⟩)
theorem zx7 (O : NmOk T nm) (hk : kr (aS zf1) H = true) : b35 (Zn (on1 b4)) (Zn (on2 b5)) (Zn (on1 b6)) (aS (nm 6)) (aS (nm 0)) H kn kr = true := by
  have N6 := Yr O 6 (by decide)
  have N0 := Yr O 0 (by decide)
  have L6 := Yr (ym7 O) 6 (by decide)
  obtain ⟨t6, l6⟩ := N6.tx (by decide)
  have t0 := (N0.tx (by decide)).1
  obtain ⟨s, q, e⟩ : ∃ L R, nm 6 = L ++ 46 :: R /\ 46 ∉ L := by
    obtain ⟨_, s, hs, e⟩ := O.par 6 (by decide) (by decide)
    exact ⟨(96 + 6) :: s, _, e, JI hs (by decide) (by decide)⟩
  obtain ⟨e, hn⟩ := e
  have tf : TxOk (nm 6 ++ [46, 55]) := ⟨zf2 t6.asc rfl, by rw [List.length_append]; exact Nat.lt_of_le_of_lt (Nat.add_le_add_right l6 2) (by decide)⟩
  have td : TxOk (46 :: nm 0) := ⟨ZT rfl t0.asc, Nat.lt_of_le_of_lt (Nat.succ_le_succ (N0.tx (by decide)).2) (by decide)⟩
  have hf := N6.far (by decide)
  have hfl : Hdn ((nm 6 ++ [46, 55]).map lo1) false := by rw [List.map_append]; exact L6.far (by decide)
  obtain ⟨y, r, ey, _, hy, _⟩ := L6.fst
  have hne : (nm 6 ++ [46, 55]).map lo1 ≠ (46 :: nm 0).map lo1 := fun h => by
    rw [List.map_append, show (nm 6).map lo1 = y :: r from ey] at h
    injection h with h _
    exact hy h
  rw [yr8]
  refine zf3 t6.sh (by decide) (XS (N6.hdn (by decide)) ?_)
  refine zf3 (by decide) t6.sh (XS (zF7 N6 (by decide)).1 ?_)
  refine zf3 t6.sh (by decide) (XS (zF7 N6 (by decide)).2 ?_)
  refine XS hf ?_
  refine ZT tf.asc (Xy tf.s4 (yq9 (yj3 tf) tf (zw0 _) ?_))
  refine zf3 (by decide) t0.sh (zS5 tf td hne (y := 46) (r := (nm 0).map lo1) rfl (.inl ⟨hfl, rfl⟩) ?_)
  refine zS5 t6 ⟨rfl, by decide⟩ ?_ (y := 46) (r := []) rfl (.inr ⟨L6.hdn (by decide), .inr (.inl ⟨rfl, .nil rfl rfl, .inl rfl⟩)⟩) ?_
  · intro h
    have := L6.len1
    rw [show (nm 6).map lo1 = [46] from h] at this
    exact absurd this (by decide)
  have er : nm 6 ++ [46, 55] = s ++ 46 :: (q ++ [46, 55]) := by rw [e, List.append_assoc]; rfl
  have hrun : ∀ {kn : Unit -> AH -> Bool} {kr : KC}, kr (aS (nm 6 ++ [46, 55])) H = true -> b6 (aS (nm 6 ++ [46, 55])) H kn kr = true := fun hk => by
    rw [er] at hf hk tf ⊢
    exact Vw tf hn hf (.inl ⟨rfl, hk⟩)
  exact hrun (zH0 (zB8 O.top (zH0 hk)))
end
theorem h7_t {n : Nat} {k : Bool} (h : h7 n k = true) : n < 7 /\ k = true := ⟨Nat.blt_eq.mp (gd_t h).1, (gd_t h).2⟩
noncomputable def VY (T : List Nat) : List AV -> CE := fun avs H k => is2 avs fun x y => kd x.t 7 (h7 x.m (kd2 y.t 4 (h7 y.m (k (aB (Nat.beq x.m y.m)) H)) (kd y.t 6 (h7 y.m (k (aB (ancB T (nat_lit 7) x.m y.m)) H)))))
structure NmAt (c : Cfg) (T : List Nat) (nm : Nat -> List Nat) : Prop extends NmOk T nm where
  hn : ∀ k, k < 7 -> c.hn k = txt (nm k)
structure zp3 (c : Cfg) (N : Nums) (T : List Nat) : Prop where
  O : HnOk c
  tk : Toks c false
  f5 : FnC c 11 5 (N.fd 5) ["A", "B"] (VY T)
  f6 : FnC c 11 6 (N.fd 6) ["h"] (zb2 T)
  f35 : FnC c 15 35 (N.fd 35) ["name", "top"] zJ0
section
variable {c : Cfg} {N : Nums} {T : List Nat} {nm : Nat -> List Nat} {W : Wd} {s s' : Shared}
theorem PC.conv {k k' : AV -> AH -> Bool} {r : Result} (h : ∀ av H' W' v, k av H' = true -> VR c W' av v -> ∃ av', k' av' H' = true /\ VR c W' av' v) (p : PC c W s k r s') : PC c W s k' r s' := by
  obtain ⟨v, rfl, av, H', W', hk, X, R, hv⟩ := p
  obtain ⟨av', h1, h2⟩ := h av H' W' v hk hv
  exact ⟨v, rfl, av', H', W', h1, X, R, h2⟩
theorem Jq (O : NmAt c T nm) {v : Value} {j : Nat} (hj : j < 7) (h : ∃ t, v = .str (c.hn j) t) : VR c W (aS (nm j)) v := h.imp fun t e => e.trans (by rw [O.hn j hj]; rfl)
theorem yj2 (O : NmAt c T nm) {v : Value} {j : Nat} (hj : j < 7) (h : ∃ t, v = .str (upOf (c.hn j)) t) : VR c W (aS ((nm j).map up1)) v := h.imp fun t e => e.trans (by
  unfold upOf
  rw [O.hn j hj, upper_ascii (Jr ((Yr O.toNmOk j hj).tx hj).1.asc), zm9]
  rfl)
theorem zX2 (O : NmAt c T nm) {j : Nat} (hj : j < 7) : XY (c.hn j) = txt (46 :: nm j) := by
  rw [O.hn j hj, <- zs9]
  exact XV [46] (nm j)
theorem zv4 (F : Zs c N) (O : NmAt c T nm) : FnC c 11 6 (N.fd 6) ["h"] (zb2 T) := fun {A W H s k args avs vals} hA R hv hb hk => by
  obtain ⟨x, rfl, hk⟩ := XP hk
  obtain ⟨u, _, rfl, hu, rfl⟩ := hv
  obtain ⟨hk, ht⟩ := Js hk hu
  generalize x.m = j at hk ht
  cases j with
  | zero => cases hk
  | succ j =>
    obtain ⟨hj, hk⟩ := h7_t hk
    obtain ⟨hp, s0, hs, e⟩ := O.par (j + 1) (Nat.succ_pos j) hj
    have hp7 := Nat.lt_trans hp hj
    have Nj := Yr O.toNmOk (j + 1) hj
    have Np := Yr O.toNmOk (nthD T (j + 1)) hp7
    refine codeAny_mono (F.f6 hA R (avs := [aS (nm (j + 1))]) ⟨u, [], rfl, Jq O hj ht, rfl⟩ hb (k := fun av H' => kd av.t 3 (gd (eqL av.s (46 :: nm (nthD T (j + 1)))) (k (aDot (nthD T (j + 1))) H'))) ?_) fun r s' p => p.conv fun av H' W' v h1 h2 => ?_
    · have hd := Nj.hdn hj
      have tx := (Nj.tx hj).1
      show b6 (aS (nm (j + 1))) H _ _ = true
      rw [e] at hd tx ⊢
      refine Vw (L := (96 + (j + 1)) :: s0) tx (JI hs hj (Nat.succ_pos j)) hd (.inr ⟨rfl, .inl ⟨?_, ZR rfl (ZT (YL.mpr rfl) hk)⟩⟩)
      rcases Nat.eq_zero_or_pos (nthD T (j + 1)) with h0 | h0
      · rw [h0]
        have : ∀ t ∈ tops, 46 ∈ t \/ t = [108, 111, 99, 97, 108] := by decide
        exact this _ O.top
      · obtain ⟨_, s1, _, e1⟩ := O.par _ h0 hp7
        exact .inl (by rw [e1]; exact List.mem_cons_of_mem _ (List.mem_append_right _ (List.mem_cons_self ..)))
    · obtain ⟨e1, h1⟩ := kd_t h1
      obtain ⟨e2, h1⟩ := gd_t h1
      obtain ⟨t, rfl⟩ := h2.at e1
      exact ⟨_, h1, t, by rw [YL.mp e2]; exact congrArg (Value.str · t) (zX2 O hp7).symm⟩
theorem zv9 (F : Zs c N) (O : NmAt c T nm) : FnC c 11 5 (N.fd 5) ["A", "B"] (VY T) := fun {A W H s k args avs vals} hA R hv hb hk => by
  have Lo := ym7 O.toNmOk
  obtain ⟨x, y, rfl, hk⟩ := Vz hk
  obtain ⟨e1, hk⟩ := kd_t hk
  obtain ⟨hi, hk⟩ := h7_t hk
  obtain ⟨u, _, rfl, hu, w, _, rfl, hw, rfl⟩ := hv
  have Ni := Yr O.toNmOk _ hi
  have Li := Yr Lo _ hi
  have okA := yj3 (Ni.tx hi).1
  have hu' := yj2 (W := W) O hi (hu.at e1)
  have hdA : Hdn (((nm x.m).map up1).map lo1) true := by rw [zw0]; exact Li.hdn hi
  rcases ZS hk with ⟨e2, hk⟩ | hk
  · obtain ⟨hj, hk⟩ := h7_t hk
    have Nj := Yr O.toNmOk _ hj
    refine F.f5 hA R (avs := [aS ((nm x.m).map up1), aS (nm y.m)]) ⟨u, _, rfl, hu', w, [], rfl, Jq O hj ⟨_, hw.at e2⟩, rfl⟩ hb ?_
    show b5 (aS ((nm x.m).map up1)) (aS (nm y.m)) H _ k = true
    cases hq : Nat.beq x.m y.m with
    | true =>
      rw [hq] at hk
      rw [Nat.eq_of_beq_eq_true hq] at okA ⊢
      exact yq9 okA (Nj.tx hj).1 (zw0 _) hk
    | false =>
      rw [hq] at hk
      obtain ⟨z, r, e, _, hz, _⟩ := (Yr Lo _ hj).fst
      refine zS5 okA (Nj.tx hj).1 (fun h => ?_) e (.inr ⟨hdA, .inl ⟨hz, rfl⟩⟩) hk
      rw [zw0] at h
      exact Nat.ne_of_beq_eq_false hq (zV7 Lo hi hj h)
  · obtain ⟨e2, hk⟩ := kd_t hk
    obtain ⟨hj, hk⟩ := h7_t hk
    have Nj := Yr O.toNmOk _ hj
    have okB : TxOk (46 :: nm y.m) := ⟨ZT rfl Nj.asc, Nat.lt_of_le_of_lt (Nat.succ_le_succ (Nj.tx hj).2) (by decide)⟩
    refine F.f5 hA R (avs := [aS ((nm x.m).map up1), aS (46 :: nm y.m)]) ⟨u, _, rfl, hu', w, [], rfl, (hw.at e2).imp fun t e => e.trans (by rw [zX2 O hj]; rfl), rfl⟩ hb ?_
    show b5 (aS ((nm x.m).map up1)) (aS (46 :: nm y.m)) H _ k = true
    obtain ⟨z, r, e, _, hz, _⟩ := Li.fst
    have hocc := yc5 Lo hj x.m hi 7 (Nat.le_of_lt hi)
    refine zS5 okA okB (fun h => ?_) (y := 46) (r := (nm y.m).map lo1) rfl (z := ancB T 7 x.m y.m) (.inr ⟨hdA, .inr ?_⟩) hk
    · rw [zw0, show (nm x.m).map lo1 = z :: r from e] at h
      injection h with h _
      exact hz h
    · rw [zw0]
      cases ha : ancB T 7 x.m y.m with
      | false => exact .inr ⟨fun u h => (nomatch ha.symm.trans (hocc.mp ⟨u, h⟩)), rfl⟩
      | true =>
        obtain ⟨u', v, h⟩ := hocc.mpr ha
        refine .inl ⟨rfl, (Yr Lo _ hj).hdn hj, .inr ⟨u', ⟨v, h⟩, ?_⟩⟩
        cases u' with
        | cons _ _ => exact Nat.succ_pos _
        | nil =>
          have h : z :: r = 46 :: _ := e.symm.trans h
          injection h with h _
          exact absurd h hz
theorem zw5 (F : Zs c N) (O : NmAt c T nm) (OK : HnOk c) (TK : Toks c false) : zp3 c N T := ⟨OK, TK, zv9 F O, zv4 F O, fun {A W H s k args avs vals} hA R hv hb hk => by
  obtain ⟨x, y, rfl, hk1⟩ := Vz hk
  obtain ⟨u, _, rfl, hu, w, _, rfl, hw, rfl⟩ := hv
  obtain ⟨hk, hx⟩ := Js hk1 hu
  obtain ⟨hk, hy⟩ := Js hk hw
  obtain ⟨e1, hk⟩ := kd_t hk
  obtain ⟨e2, hk⟩ := kd_t hk
  rw [e1] at hx
  rw [e2] at hy
  exact F.f35 hA R (avs := [aS (nm 6), aS (nm 0)]) ⟨u, _, rfl, Jq O (by decide) hx, w, [], rfl, Jq O (by decide) hy, rfl⟩ hb (zx7 O.toNmOk hk)⟩
end
theorem s31 {c : Cfg} {N : Nums} (W : Zs c N) (a0 : AV) : SimS c 10 (Zv 31).names [("above", a0)] (Ye 31) (fun _ : Unit => []) (b31 a0) :=
  (Zc (Jl (Γi := []) (ZF W.S ZL (.inr ⟨_, rfl⟩) (by rfl) (W.no _ (by decide)) (by decide +kernel) (Zb Zg Zd) (by decide) (by decide)) ⟨rfl, (by decide +kernel), (by decide +kernel), (by decide +kernel), YE⟩ (by decide +kernel) (fun (v2 : AV) => YQ) (fun (v2 : AV) => (Zl (Zz yl2) Zg (Za (by rfl)))) (by decide +kernel) (by decide +kernel)) (fun v1 =>
  (Zc (g := fun (r4 : Unit) => ([("unders", v1), ("above", a0)] : Ctx)) (ZY (g := fun (r4 : Unit) => ([("unders", v1), ("above", a0)] : Ctx)) (ZF W.S ZL (.inr ⟨_, rfl⟩) (by rfl) (W.no _ (by decide)) (by decide +kernel) (Zb Zg (Zb Zg (Zb (Xi Xz Zg) Zd))) (by decide) (by decide)) (by decide +kernel) Sub.refl (fun v5 (r4 : Unit) =>
  (Zc (g := fun (_ : Unit) => ([("k", v5), ("unders", v1), ("above", a0)] : Ctx)) (Xc (x := ()) W.S (Zl (Zz zP4) (Zh W.get (Za (by rfl)) (Zh W.get (Za (by rfl)) (Za (by rfl)))) (Zh W.get (Za (by rfl)) (Za (by rfl)))) (Za (by rfl)) (Zh W.get (Za (by rfl)) (Za (by rfl))) Sub.refl) (fun _ =>
  (Zj () (Zf (by rfl) Sub.refl)))))) (fun (r4 : Unit) =>
  (Zo (Za (by rfl)))))))
theorem Zs.f31 {c : Cfg} {N : Nums} (W : Zs c N) : FnC c 11 31 (N.fd 31) ["above"] (Zn (on1 (b31 ))) :=
  Yd W.S (W.D 31 rfl) (XM (fun a0 => s31 W a0)) ⟨by decide, (by decide +kernel), (by decide +kernel)⟩
theorem s33 {c : Cfg} {N : Nums} (W : Zs c N) (a0 : AV) : SimS c 10 (Zv 33).names [("kids", a0)] (Ye 33) (fun _ : Unit => []) (b33 a0) :=
  (Zc (Zm (zA9 (Zb Zg Zd) Zg) (by decide +kernel)) (fun v1 =>
  (Zc (Zm (zA9 (Zb Zg Zd) Zg) (by decide +kernel)) (fun v2 =>
  (Zc (zq5 (YG (Γi := []) (ZF W.S ZL (.inr ⟨_, rfl⟩) (by rfl) (W.no _ (by decide)) (by decide +kernel) (Zb Zg Zd) (by decide) (by decide)) ⟨rfl, (by decide +kernel), (by decide +kernel), (by decide +kernel), YE⟩ (by decide +kernel) (fun (v4 : AV) => YQ) (fun (v4 : AV) => zN2)) (by decide +kernel)) (fun v3 =>
  (Zc (Jl (Γi := []) (ZF W.S ZL (.inr ⟨_, rfl⟩) (by rfl) (W.no _ (by decide)) (by decide +kernel) (Zb Zg Zd) (by decide) (by decide)) ⟨rfl, (by decide +kernel), (by decide +kernel), (by decide +kernel), YE⟩ (by decide +kernel) (fun (v7 : AV) => YQ) (fun (v7 : AV) => (ZD Zd)) (by decide +kernel) (by decide +kernel)) (fun v6 =>
  (Zc (g := fun (r9 : Unit) => ([("lost", v6), ("seen", v3), ("ranks", v2), ("sights", v1), ("kids", a0)] : Ctx)) (ZY (g := fun (r9 : Unit) => ([("lost", v6), ("seen", v3), ("ranks", v2), ("sights", v1), ("kids", a0)] : Ctx)) (ZF W.S ZL (.inr ⟨_, rfl⟩) (by rfl) (W.no _ (by decide)) (by decide +kernel) (Zb Zg (Zb (Xi Xz Zg) (Zb (Xi Xz Zg) Zd))) (by decide) (by decide)) (by decide +kernel) Sub.refl (fun v10 (r9 : Unit) =>
  (Zc (Zm Zg (by decide +kernel)) (fun v11 =>
  (Zc (Zm Zg (by decide +kernel)) (fun v12 =>
  (Zc (g := fun (r13 : AV × AV) => ([("twice", r13.1), ("every", r13.2), ("k", v10), ("lost", v6), ("seen", v3), ("ranks", v2), ("sights", v1), ("kids", a0)] : Ctx)) (ZY (g := fun (r13 : AV × AV) => ([("twice", r13.1), ("every", r13.2), ("k", v10), ("lost", v6), ("seen", v3), ("ranks", v2), ("sights", v1), ("kids", a0)] : Ctx)) (Zh W.get (Za (by rfl)) (Za (by rfl))) (by decide +kernel) Sub.refl (fun v14 (r13 : AV × AV) =>
  (Zc (Zm (Zl (Zz zP4) (Za (by rfl)) (Zl (Zz zh4) (Za (by rfl)) (Zh W.get (Za (by rfl)) (Za (by rfl))))) (by decide +kernel)) (fun v15 =>
  (Zc (Zm (Zl (Zz zP4) (Za (by rfl)) (Zh W.get (Za (by rfl)) (Za (by rfl)))) (by decide +kernel)) (fun v16 =>
  (Zj (v15, v16) (Zi (by rfl) (Zi (by rfl) (Zf (by rfl) (Zf (by rfl) (Zf (by rfl) (Zf (by rfl) (Zf (by rfl) Sub.refl)))))))))))))) (fun (r13 : AV × AV) =>
  (Zc (Zm Zg (by decide +kernel)) (fun v17 =>
  (Zc (g := fun (r18 : AV) => ([("ones", r18), ("twice", r13.1), ("every", r13.2), ("k", v10), ("lost", v6), ("seen", v3), ("ranks", v2), ("sights", v1), ("kids", a0)] : Ctx)) (Vt (g := fun (r18 : AV) => ([("ones", r18), ("twice", r13.1), ("every", r13.2), ("k", v10), ("lost", v6), ("seen", v3), ("ranks", v2), ("sights", v1), ("kids", a0)] : Ctx)) Sub.refl (fun (r18 : AV) => (Zq yu9 (Za (by rfl)) (Za (by rfl)))) (fun (r18 : AV) =>
  (Zc (Zm (Zl zd7 Zg (Za (by rfl))) (by decide +kernel)) (fun v19 =>
  (Zj v19 (Zi (by rfl) (Zf (by rfl) (Zf (by rfl) Sub.refl)))))))) (fun (r18 : AV) =>
  (Zc (g := fun (_ : Unit) => ([("ones", r18), ("twice", r13.1), ("every", r13.2), ("k", v10), ("lost", v6), ("seen", v3), ("ranks", v2), ("sights", v1), ("kids", a0)] : Ctx)) (Xc (x := ()) W.S (Zl (ZI W.hh) (Zl (Zz zP4) (Za (by rfl)) (Zl (Zz JD) (Za (by rfl)) Zg)) Zg) (Za (by rfl)) (Za (by rfl)) Sub.refl) (fun _ =>
  (Zc (g := fun (r20 : Unit) => ([("ones", r18), ("twice", r13.1), ("every", r13.2), ("k", v10), ("lost", v6), ("seen", v3), ("ranks", v2), ("sights", v1), ("kids", a0)] : Ctx)) (Vt (g := fun (r20 : Unit) => ([("ones", r18), ("twice", r13.1), ("every", r13.2), ("k", v10), ("lost", v6), ("seen", v3), ("ranks", v2), ("sights", v1), ("kids", a0)] : Ctx)) Sub.refl (fun (r20 : Unit) => (Zq (Xe W.S (by decide)) (Zl (Zz Vc) (Zh W.get (Za (by rfl)) (Za (by rfl))) (Zl (Zz yl3) Zg (Zl (ZI W.hh) (Zh W.get (Za (by rfl)) (Za (by rfl))) Zg))) Zg)) (fun (r20 : Unit) =>
  (Zc (g := fun (_ : Unit) => ([("ones", r18), ("twice", r13.1), ("every", r13.2), ("k", v10), ("lost", v6), ("seen", v3), ("ranks", v2), ("sights", v1), ("kids", a0)] : Ctx)) (Xc (x := ()) W.S (Zl (ZI W.hh) (Zh W.get (Za (by rfl)) (Za (by rfl))) Zg) (Za (by rfl)) (Za (by rfl)) Sub.refl) (fun _ =>
  (Zj () Sub.refl))))) (fun (r20 : Unit) =>
  (Zc (g := fun (_ : Unit) => ([("ones", r18), ("twice", r13.1), ("every", r13.2), ("k", v10), ("lost", v6), ("seen", v3), ("ranks", v2), ("sights", v1), ("kids", a0)] : Ctx)) (Xc (x := ()) W.S (Zl (ZI W.hh) (Zh W.get (Za (by rfl)) (Za (by rfl))) Zg) (Za (by rfl)) (Za (by rfl)) Sub.refl) (fun _ =>
  (Zc (g := fun (_ : Unit) => ([("ones", r18), ("twice", r13.1), ("every", r13.2), ("k", v10), ("lost", v6), ("seen", v3), ("ranks", v2), ("sights", v1), ("kids", a0)] : Ctx)) (Xc (x := ()) W.S (Za (by rfl)) (Zh W.get (Za (by rfl)) (Za (by rfl))) (Zh W.get (Za (by rfl)) (Za (by rfl))) Sub.refl) (fun _ =>
  (Zc (g := fun (r21 : Unit) => ([("ones", r18), ("twice", r13.1), ("every", r13.2), ("k", v10), ("lost", v6), ("seen", v3), ("ranks", v2), ("sights", v1), ("kids", a0)] : Ctx)) (ZY (g := fun (r21 : Unit) => ([("ones", r18), ("twice", r13.1), ("every", r13.2), ("k", v10), ("lost", v6), ("seen", v3), ("ranks", v2), ("sights", v1), ("kids", a0)] : Ctx)) (Zh W.get (Za (by rfl)) (Za (by rfl))) (by decide +kernel) Sub.refl (fun v22 (r21 : Unit) =>
  (Zc (g := fun (r23 : Unit) => ([("c", v22), ("ones", r18), ("twice", r13.1), ("every", r13.2), ("k", v10), ("lost", v6), ("seen", v3), ("ranks", v2), ("sights", v1), ("kids", a0)] : Ctx)) (zN5 (g := fun (r23 : Unit) => ([("c", v22), ("ones", r18), ("twice", r13.1), ("every", r13.2), ("k", v10), ("lost", v6), ("seen", v3), ("ranks", v2), ("sights", v1), ("kids", a0)] : Ctx)) W.S (Zh W.get (Za (by rfl)) (Za (by rfl))) (by decide +kernel) Sub.refl (fun v24 (r23 : Unit) =>
  (Zc (g := fun (r25 : Unit) => ([("rank", v24), ("c", v22), ("ones", r18), ("twice", r13.1), ("every", r13.2), ("k", v10), ("lost", v6), ("seen", v3), ("ranks", v2), ("sights", v1), ("kids", a0)] : Ctx)) (ZJ (g := fun (r25 : Unit) => ([("rank", v24), ("c", v22), ("ones", r18), ("twice", r13.1), ("every", r13.2), ("k", v10), ("lost", v6), ("seen", v3), ("ranks", v2), ("sights", v1), ("kids", a0)] : Ctx)) (Zq zC5 (Za (by rfl)) (Zh W.get (Za (by rfl)) (Za (by rfl)))) (Zc (g := fun (_ : Unit) => ([("rank", v24), ("c", v22), ("ones", r18), ("twice", r13.1), ("every", r13.2), ("k", v10), ("lost", v6), ("seen", v3), ("ranks", v2), ("sights", v1), ("kids", a0)] : Ctx)) (Xc (x := ()) W.S (Zh W.get (Zh W.get (Za (by rfl)) (Za (by rfl))) (Za (by rfl))) (Zh W.get (Za (by rfl)) (Za (by rfl))) (Za (by rfl)) Sub.refl) (fun _ =>
  (Zj () Sub.refl))) (Zj () Sub.refl)) (fun (r25 : Unit) =>
  (Zj () (Zf (by rfl) Sub.refl)))))) (fun (r23 : Unit) =>
  (Zj () (Zf (by rfl) Sub.refl)))))) (fun (r21 : Unit) =>
  (Zc (Zm (zl5 (Zq (Xe W.S (by decide)) (Zl (Zz Vc) (Za (by rfl)) Zg) Zg) (Zh W.get (Za (by rfl)) (Za (by rfl))) (zl3 (Zh W.get (Za (by rfl)) (Za (by rfl))))) (by decide +kernel)) (fun v26 =>
  (Zc (g := fun (r27 : Unit) => ([("way", v26), ("ones", r18), ("twice", r13.1), ("every", r13.2), ("k", v10), ("lost", v6), ("seen", v3), ("ranks", v2), ("sights", v1), ("kids", a0)] : Ctx)) (ZY (g := fun (r27 : Unit) => ([("way", v26), ("ones", r18), ("twice", r13.1), ("every", r13.2), ("k", v10), ("lost", v6), ("seen", v3), ("ranks", v2), ("sights", v1), ("kids", a0)] : Ctx)) (ZF W.S ZL (.inr ⟨_, rfl⟩) (by rfl) (W.no _ (by decide)) (by decide +kernel) (Zb (Zl (Zz JD) (Zh W.get (Za (by rfl)) (Za (by rfl))) Zg) (Zb Zg (Zb (Xi Xz Zg) Zd))) (by decide) (by decide)) (by decide +kernel) Sub.refl (fun v28 (r27 : Unit) =>
  (Zc (g := fun (_ : Unit) => ([("rank", v28), ("way", v26), ("ones", r18), ("twice", r13.1), ("every", r13.2), ("k", v10), ("lost", v6), ("seen", v3), ("ranks", v2), ("sights", v1), ("kids", a0)] : Ctx)) (Yq (x := ()) (Xx PySem.F.slot_list_extend (by kernel_rfl) zi0 (Zh W.get (Za (by rfl)) (Za (by rfl))) (Zb (YG (Γi := [("rank", v28), ("seen", v3)]) (Za (by rfl)) ⟨rfl, (by decide +kernel), (by decide +kernel), (by decide +kernel), (ZV (by rfl) (by decide +kernel) (ZV (by rfl) (by decide +kernel) YE))⟩ (by decide +kernel) (fun (v29 : AV) => (Jn (Zq (yv0 W.S) (Za (by rfl)) (Zh W.get (Za (by rfl)) (Za (by rfl)))))) (fun (v29 : AV) => (Vj (Zb (Zl zd7 (Zy (by decide +kernel)) (Za (by rfl))) (Zb (Zh W.get (Zy (by decide +kernel)) (Zh W.get (Zh W.get (Za (by rfl)) (Za (by rfl))) (Za (by rfl)))) Zd))))) Zd)) Sub.refl) (fun _ =>
  (Zj () (Zf (by rfl) Sub.refl)))))) (fun (r27 : Unit) =>
  (Zj () (Zf (by rfl) (Zf (by rfl) (Zf (by rfl) (Zf (by rfl) (Zf (by rfl) Sub.refl)))))))))))))))))))))))))))))))) (fun (r9 : Unit) =>
  (Zo (Vj (Zb (Za (by rfl)) (Zb (Za (by rfl)) (Zb (Za (by rfl)) Zd)))))))))))))))
theorem Zs.f33 {c : Cfg} {N : Nums} (W : Zs c N) : FnC c 11 33 (N.fd 33) ["kids"] (Zn (on1 (b33 ))) :=
  Yd W.S (W.D 33 rfl) (XM (fun a0 => s33 W a0)) ⟨by decide, (by decide +kernel), (by decide +kernel)⟩
noncomputable def b34 (a0 a1 a2 : AV) : CS Unit :=
  (seqC (asgC (Yo true (Ze (tupC (Ze (litC a0) (Ze (unK negK (litC (aI 1))) (Ze (litC (aI 0)) nilL)))) nilL))) (fun v1 => (seqC (asgC (Yo true nilL)) (fun v2 => (seqC (forL (biC Yc (Ze (litC (aI 7)) nilL)) (fun v4 (r3 : Unit) => (seqC (unp3 (subK Zk (litC v1) (litC v4))) (fun (r5 : AV × AV × AV) => (seqC (ifC (cmpK (XR gtI) (subK Zk (litC a2) (litC r5.1)) (litC r5.2.2)) (seqC (Xl (lmC Yn (litC v2) (Ze (tupC (Ze (subK Zk (litC a2) (litC r5.1)) (Ze (litC r5.1) nilL))) nilL)) ()) (fun (_ : Unit) => (Zt ()))) (Zt ()) : CS (Unit)) (fun (r6 : Unit) => (seqC (Xl (lmC Vx (litC v1) (Ze (YM false srcK (fun v k => k v) (subK Zk (litC a1) (litC r5.1)) (fun (v7 : AV) => (cmpK neK (litC v7) (litC r5.2.1))) (fun (v7 : AV) => (tupC (Ze (litC v7) (Ze (litC r5.1) (Ze (biC maxF (Ze (litC r5.2.2) (Ze (subK Zk (litC a2) (litC r5.1)) nilL))) nilL)))))) nilL)) ()) (fun (_ : Unit) => (Zt ())))))))) ()) (fun (r3 : Unit) => (retC (zQ5 (Ze (YM false srcT ds2 (revC (srtC (Ze (litC v2) nilL))) (fun (v9 : AV × AV) => yesT) (fun (v9 : AV × AV) => (subK Zk (litC (aS [116, 97, 98, 99, 100, 101, 102])) (litC v9.2)))) nilL)))))))))
theorem s34 {c : Cfg} {N : Nums} (W : Zs c N) (a0 a1 a2 : AV) : SimS c 10 (Zv 34).names [("sought", a0), ("near", a1), ("ranks", a2)] (Ye 34) (fun _ : Unit => []) (b34 a0 a1 a2) :=
  (Zc (Zm (ZD (Zb (Vj (Zb (Za (by rfl)) (Zb (Xi Xz Zg) (Zb Zg Zd)))) Zd)) (by decide +kernel)) (fun v1 =>
  (Zc (Zm (ZD Zd) (by decide +kernel)) (fun v2 =>
  (Zc (g := fun (r3 : Unit) => ([("found", v2), ("walk", v1), ("sought", a0), ("near", a1), ("ranks", a2)] : Ctx)) (ZY (g := fun (r3 : Unit) => ([("found", v2), ("walk", v1), ("sought", a0), ("near", a1), ("ranks", a2)] : Ctx)) (ZF W.S ZL (.inr ⟨_, rfl⟩) (by rfl) (W.no _ (by decide)) (by decide +kernel) (Zb Zg Zd) (by decide) (by decide)) (by decide +kernel) Sub.refl (fun v4 (r3 : Unit) =>
  (Zc (zc6 (Zh W.get (Za (by rfl)) (Za (by rfl))) (by decide +kernel) (by decide +kernel) (by decide +kernel)) (fun (r5 : AV × AV × AV) =>
  (Zc (g := fun (r6 : Unit) => ([("most", r5.2.2), ("back", r5.2.1), ("here", r5.1), ("k", v4), ("found", v2), ("walk", v1), ("sought", a0), ("near", a1), ("ranks", a2)] : Ctx)) (ZJ (g := fun (r6 : Unit) => ([("most", r5.2.2), ("back", r5.2.1), ("here", r5.1), ("k", v4), ("found", v2), ("walk", v1), ("sought", a0), ("near", a1), ("ranks", a2)] : Ctx)) (Zq zC5 (Zh W.get (Za (by rfl)) (Za (by rfl))) (Za (by rfl))) (Zc (g := fun (_ : Unit) => ([("most", r5.2.2), ("back", r5.2.1), ("here", r5.1), ("k", v4), ("found", v2), ("walk", v1), ("sought", a0), ("near", a1), ("ranks", a2)] : Ctx)) (Yq (x := ()) (Xx PySem.F.slot_list_append (by kernel_rfl) YH (Za (by rfl)) (Zb (Vj (Zb (Zh W.get (Za (by rfl)) (Za (by rfl))) (Zb (Za (by rfl)) Zd))) Zd)) Sub.refl) (fun _ =>
  (Zj () Sub.refl))) (Zj () Sub.refl)) (fun (r6 : Unit) =>
  (Zc (g := fun (_ : Unit) => ([("most", r5.2.2), ("back", r5.2.1), ("here", r5.1), ("k", v4), ("found", v2), ("walk", v1), ("sought", a0), ("near", a1), ("ranks", a2)] : Ctx)) (Yq (x := ()) (Xx PySem.F.slot_list_extend (by kernel_rfl) zi0 (Za (by rfl)) (Zb (YG (Γi := [("most", r5.2.2), ("back", r5.2.1), ("here", r5.1), ("ranks", a2)]) (Zh W.get (Za (by rfl)) (Za (by rfl))) ⟨rfl, (by decide +kernel), (by decide +kernel), (by decide +kernel), (ZV (by rfl) (by decide +kernel) (ZV (by rfl) (by decide +kernel) (ZV (by rfl) (by decide +kernel) (ZV (by rfl) (by decide +kernel) YE))))⟩ (by decide +kernel) (fun (v7 : AV) => (Jn (Zq (zC4 W.S (by decide)) (Za (by rfl)) (Za (by rfl))))) (fun (v7 : AV) => (Vj (Zb (Za (by rfl)) (Zb (Za (by rfl)) (Zb (ZF W.S zX7 (.inl ⟨_, rfl⟩) (by rfl) (W.no _ (by decide)) (by decide +kernel) (Zb (Za (by rfl)) (Zb (Zh W.get (Za (by rfl)) (Za (by rfl))) Zd)) (by decide) (by decide)) Zd)))))) Zd)) Sub.refl) (fun _ =>
  (Zj () (Zf (by rfl) (Zf (by rfl) (Zf (by rfl) (Zf (by rfl) Sub.refl))))))))))))) (fun (r3 : Unit) =>
  (Zo (zq0 (Zb (zB1 (zl3 (zp8 W.S (W.no _ (by decide)) (by decide +kernel) (Zb (Za (by rfl)) Zd))) ⟨rfl, (by decide +kernel), (by decide +kernel), (by decide +kernel), YE⟩ (by decide +kernel) (by decide +kernel) (fun (v9 : AV × AV) => YQ) (fun (v9 : AV × AV) => (Zh W.get (Zy (by decide +kernel)) (Za (by rfl))))) Zd)))))))))
theorem Zs.f34 {c : Cfg} {N : Nums} (W : Zs c N) : FnC c 11 34 (N.fd 34) ["sought", "near", "ranks"] (Zn (on3 (b34 ))) :=
  Yd W.S (W.D 34 rfl) (zl4 (fun a0 a1 a2 => s34 W a0 a1 a2)) ⟨by decide, (by decide +kernel), (by decide +kernel)⟩
noncomputable def e32 (rec : AV -> AV -> AV -> AV -> CS Unit) (a0 a1 a2 a3 : AV) : CS Unit :=
  (seqC (ifC (cmpK eqK (binK (intK andG) (litC a0) (binK (intK subG) (litC a0) (litC (aI 1)))) (litC (aI 0))) (retC (orE (Jd (cmpK eqK (litC a0) (litC (aI 0)))) (Jd (cmpK (XR gtI) (litC a1) (litC (aI 0)))))) (Zt ()) : CS (Unit)) (fun (r1 : Unit) => (seqC (ifC (cmpK ltK (litC a1) (litC (aI 2))) (retC (litC (aB false))) (Zt ()) : CS (Unit)) (fun (r2 : Unit) => (seqC (forL (biC Yc (Ze (litC (aI 7)) nilL)) (fun v4 (r3 : Unit) => (seqC (ifC (cmpK eqK (binK (intK andG) (binK (intK shrG) (litC a0) (litC v4)) (litC (aI 1))) (litC (aI 1))) (seqC (asgC (binK ZW (Yo false (Ze (binK (intK andG) (litC a0) (unK invK (subK Zk (litC a2) (litC v4)))) nilL)) (YM false srcK (fun v k => k v) (subK Zk (litC a3) (litC v4)) (fun (v7 : AV) => yesT) (fun (v7 : AV) => (binK (intK andG) (litC a0) (subK Zk (litC a2) (litC v7))))))) (fun v6 => (seqC (ifC (cmpK eqK (YM false srcK (fun v k => k v) (litC v6) (fun (v10 : AV) => (notT (asT (ZC (Zn (on4 rec)) (Ze (litC v10) (Ze (binK (intK subG) (litC a1) (litC (aI 1))) (Ze (litC a2) (Ze (litC a3) nilL)))))))) (fun (v10 : AV) => (litC v10))) (Yo false nilL)) (retC (litC (aB true))) (Zt ()) : CS (Unit)) (fun (r9 : Unit) => (Zt ()))))) (Zt ()) : CS (Unit)) (fun (r5 : Unit) => (Zt ())))) ()) (fun (r3 : Unit) => (retC (litC (aB false)))))))))
theorem s32 {c : Cfg} {N : Nums} {d : Nat} {rec : AV -> AV -> AV -> AV -> CS Unit} (W : Zs c N) (h7 : 7 <= d) (hr : FnC c d 32 (N.fd 32) ["left", "depth", "unders", "kids"] (Zn (on4 rec))) (a0 a1 a2 a3 : AV) :
    SimS c d (Zv 32).names [("left", a0), ("depth", a1), ("unders", a2), ("kids", a3)] (Ye 32) (fun _ : Unit => []) (e32 rec a0 a1 a2 a3) :=
  (Zc (g := fun (r1 : Unit) => ([("left", a0), ("depth", a1), ("unders", a2), ("kids", a3)] : Ctx)) (ZJ (g := fun (r1 : Unit) => ([("left", a0), ("depth", a1), ("unders", a2), ("kids", a3)] : Ctx)) (Zq (Xe W.S h7) (Zl (Zz zh4) (Za (by rfl)) (Zl (Zz JD) (Za (by rfl)) Zg)) Zg) (Zo (yj9 (Vk (Xe W.S h7) (Za (by rfl)) Zg) (Vk zC5 (Za (by rfl)) Zg))) (Zj () Sub.refl)) (fun (r1 : Unit) =>
  (Zc (g := fun (r2 : Unit) => ([("left", a0), ("depth", a1), ("unders", a2), ("kids", a3)] : Ctx)) (ZJ (g := fun (r2 : Unit) => ([("left", a0), ("depth", a1), ("unders", a2), ("kids", a3)] : Ctx)) (Zq JE (Za (by rfl)) Zg) (Zo ZU) (Zj () Sub.refl)) (fun (r2 : Unit) =>
  (Zc (g := fun (r3 : Unit) => ([("left", a0), ("depth", a1), ("unders", a2), ("kids", a3)] : Ctx)) (ZY (g := fun (r3 : Unit) => ([("left", a0), ("depth", a1), ("unders", a2), ("kids", a3)] : Ctx)) (ZF W.S ZL (.inr ⟨_, rfl⟩) (by rfl) (W.no _ (by decide)) (by decide +kernel) (Zb Zg Zd) (by decide) (by decide)) (by decide +kernel) Sub.refl (fun v4 (r3 : Unit) =>
  (Zc (g := fun (r5 : Unit) => ([("k", v4), ("left", a0), ("depth", a1), ("unders", a2), ("kids", a3)] : Ctx)) (ZJ (g := fun (r5 : Unit) => ([("k", v4), ("left", a0), ("depth", a1), ("unders", a2), ("kids", a3)] : Ctx)) (Zq (Xe W.S h7) (Zl (Zz zh4) (Zl (Zz yl1) (Za (by rfl)) (Za (by rfl))) Zg) Zg) (Zc (Zm (Zl (ZI W.hh) (ZD (Zb (Zl (Zz zh4) (Za (by rfl)) (Xi yl5 (Zh W.get (Za (by rfl)) (Za (by rfl))))) Zd)) (YG (Γi := [("left", a0), ("unders", a2)]) (Zh W.get (Za (by rfl)) (Za (by rfl))) ⟨rfl, (by decide +kernel), (by decide +kernel), (by decide +kernel), (ZV (by rfl) (by decide +kernel) (ZV (by rfl) (by decide +kernel) YE))⟩ (by decide +kernel) (fun (v7 : AV) => YQ) (fun (v7 : AV) => (Zl (Zz zh4) (Za (by rfl)) (Zh W.get (Za (by rfl)) (Za (by rfl))))))) (by decide +kernel)) (fun v6 =>
  (Zc (g := fun (r9 : Unit) => ([("parts", v6), ("k", v4), ("left", a0), ("depth", a1), ("unders", a2), ("kids", a3)] : Ctx)) (ZJ (g := fun (r9 : Unit) => ([("parts", v6), ("k", v4), ("left", a0), ("depth", a1), ("unders", a2), ("kids", a3)] : Ctx)) (Zq (Xe W.S h7) (YG (Γi := [("depth", a1), ("unders", a2), ("kids", a3)]) (Za (by rfl)) ⟨rfl, (by decide +kernel), (by decide +kernel), (by decide +kernel), (ZV (by rfl) (by decide +kernel) (ZV (by rfl) (by decide +kernel) (ZV (by rfl) (by decide +kernel) YE)))⟩ (by decide +kernel) (fun (v10 : AV) => (Jn (Xq (Xd (Zp W.S (W.D 32 rfl) hr (Nat.le_refl _) (W.name (i := 32) rfl (by decide +kernel)) (by decide +kernel) (Zb (Za (by rfl)) (Zb (Zl (Zz JD) (Za (by rfl)) Zg) (Zb (Za (by rfl)) (Zb (Za (by rfl)) Zd)))) W.bp32 rfl (by decide)))))) (fun (v10 : AV) => (Za (by rfl)))) (ZD Zd)) (Zo ZU) (Zj () Sub.refl)) (fun (r9 : Unit) =>
  (Zj () (Zf (by rfl) Sub.refl)))))) (Zj () Sub.refl)) (fun (r5 : Unit) =>
  (Zj () (Zf (by rfl) Sub.refl)))))) (fun (r3 : Unit) =>
  (Zo ZU)))))))
noncomputable def b32 (n : Nat) : AV -> AV -> AV -> AV -> CS Unit := Nat.rec (motive := fun _ => AV -> AV -> AV -> AV -> CS Unit) (fun _ _ _ _ => YY) (fun _ ih => e32 ih) n
theorem Zs.f32 {c : Cfg} {N : Nums} (W : Zs c N) (n : Nat) : FnC c (n + 8) 32 (N.fd 32) ["left", "depth", "unders", "kids"] (Zn (on4 (b32 n))) := by
  induction n with
  | zero => exact Yd (d := 7) W.S (W.D 32 rfl) (zA8 fun _ _ _ _ => Zu) ⟨by decide, (by decide +kernel), (by decide +kernel)⟩
  | succ n ih => exact Yd (d := n + 8) W.S (W.D 32 rfl) (zA8 (names := ["left", "depth", "unders", "kids"]) (b := e32 (b32 n)) fun a0 a1 a2 a3 => s32 W (by omega) ih a0 a1 a2 a3) ⟨by decide, (by decide +kernel), (by decide +kernel)⟩
noncomputable def b25 (a0 : AV) : CS Unit :=
  (seqC (asgC (Yo true (Ze (litC (aI 119)) (Ze (litC (aI 1765)) (Ze (litC (aI 2)) nilL))))) (fun v1 => (seqC (forL (biC Yc (Ze (biC lenF (Ze (litC a0) nilL)) nilL)) (fun v3 (r2 : Unit) => (seqC (putC (binK ZW (subK Zk (litC v1) (binK (intK modG) (litC v3) (litC (aI 3)))) (subK Zk (litC a0) (litC v3))) (litC v1) (binK (intK modG) (litC v3) (litC (aI 3))) ()) (fun (_ : Unit) => (Zt ())))) ()) (fun (r2 : Unit) => (retC (litC v1))))))
theorem s25 {c : Cfg} {N : Nums} (W : Zs c N) (a0 : AV) : SimS c 12 (Zv 25).names [("script", a0)] (Ye 25) (fun _ : Unit => []) (b25 a0) :=
  (Zc (Zm (ZD (Zb Zg (Zb Zg (Zb Zg Zd)))) (by decide +kernel)) (fun v1 =>
  (Zc (g := fun (r2 : Unit) => ([("cells", v1), ("script", a0)] : Ctx)) (ZY (g := fun (r2 : Unit) => ([("cells", v1), ("script", a0)] : Ctx)) (ZF W.S ZL (.inr ⟨_, rfl⟩) (by rfl) (W.no _ (by decide)) (by decide +kernel) (Zb (ZF W.S (W.bl (d := 12 - 2)) (.inl ⟨_, rfl⟩) (by rfl) (W.no _ (by decide)) (by decide +kernel) (Zb (Za (by rfl)) Zd) (by decide) (by decide)) Zd) (by decide) (by decide)) (by decide +kernel) Sub.refl (fun v3 (r2 : Unit) =>
  (Zc (g := fun (_ : Unit) => ([("k", v3), ("cells", v1), ("script", a0)] : Ctx)) (Xc (x := ()) W.S (Zl (ZI W.hh) (Zh W.get (Za (by rfl)) (Zl (Zz Vc) (Za (by rfl)) Zg)) (Zh W.get (Za (by rfl)) (Za (by rfl)))) (Za (by rfl)) (Zl (Zz Vc) (Za (by rfl)) Zg) Sub.refl) (fun _ =>
  (Zj () (Zf (by rfl) Sub.refl)))))) (fun (r2 : Unit) =>
  (Zo (Za (by rfl)))))))
theorem Zs.f25 {c : Cfg} {N : Nums} (W : Zs c N) : FnC c 13 25 (N.fd 25) ["script"] (Zn (on1 (b25 ))) :=
  Yd W.S (W.D 25 rfl) (XM (fun a0 => s25 W a0)) ⟨by decide, (by decide +kernel), (by decide +kernel)⟩
noncomputable def b26 (a0 : AV) : CS Unit :=
  (seqC (asgC (Yo true (Ze (litC (aI 0)) nilL))) (fun v1 => (seqC (asgC (binK (intK modG) (litC a0) (litC (aI 720)))) (fun v2 => (seqC (forL (biC Yc (Ze (litC (aI 1)) (Ze (litC (aI 7)) nilL))) (fun v4 (r3 : AV) => (seqC (Xl (lmC Yn (litC v1) (Ze (binK (intK modG) (litC r3) (litC v4)) nilL)) ()) (fun (_ : Unit) => (seqC (asgC (binK (intK divG) (litC r3) (litC v4))) (fun v5 => (Zt v5)))))) v2) (fun (r3 : AV) => (retC (litC v1))))))))
theorem s26 {c : Cfg} {N : Nums} (W : Zs c N) (a0 : AV) : SimS c 12 (Zv 26).names [("cell", a0)] (Ye 26) (fun _ : Unit => []) (b26 a0) :=
  (Zc (Zm (ZD (Zb Zg Zd)) (by decide +kernel)) (fun v1 =>
  (Zc (Zm (Zl (Zz Vc) (Za (by rfl)) Zg) (by decide +kernel)) (fun v2 =>
  (Zc (g := fun (r3 : AV) => ([("left", r3), ("above", v1), ("cell", a0)] : Ctx)) (ZY (g := fun (r3 : AV) => ([("left", r3), ("above", v1), ("cell", a0)] : Ctx)) (ZF W.S ZL (.inr ⟨_, rfl⟩) (by rfl) (W.no _ (by decide)) (by decide +kernel) (Zb Zg (Zb Zg Zd)) (by decide) (by decide)) (by decide +kernel) Sub.refl (fun v4 (r3 : AV) =>
  (Zc (g := fun (_ : Unit) => ([("k", v4), ("left", r3), ("above", v1), ("cell", a0)] : Ctx)) (Yq (x := ()) (Xx PySem.F.slot_list_append (by kernel_rfl) YH (Za (by rfl)) (Zb (Zl (Zz Vc) (Za (by rfl)) (Za (by rfl))) Zd)) Sub.refl) (fun _ =>
  (Zc (Zm (Zl (Zz zh3) (Za (by rfl)) (Za (by rfl))) (by decide +kernel)) (fun v5 =>
  (Zj v5 (Zi (by rfl) (Zf (by rfl) (Zf (by rfl) (Zf (by rfl) Sub.refl))))))))))) (fun (r3 : AV) =>
  (Zo (Za (by rfl)))))))))
theorem Zs.f26 {c : Cfg} {N : Nums} (W : Zs c N) : FnC c 13 26 (N.fd 26) ["cell"] (Zn (on1 (b26 ))) :=
  Yd W.S (W.D 26 rfl) (XM (fun a0 => s26 W a0)) ⟨by decide, (by decide +kernel), (by decide +kernel)⟩
noncomputable def pB (p : Prop) : Bool := @decide p (Classical.propDecidable p)
theorem pB_i {p : Prop} (h : p) : pB p = true := @decide_eq_true p (Classical.propDecidable p) h
theorem pB_e {p : Prop} (h : pB p = true) : p := @of_decide_eq_true p (Classical.propDecidable p) h
noncomputable def aV (l : List Nat) : AV := ⟨10, false, 0, 0, l, []⟩
noncomputable def aX (k : Nat) : AV := ⟨15, false, k, 0, [], []⟩
noncomputable def hup (H : AH) : AH := ⟨H.n, H.t, Nat.succ H.h⟩
noncomputable def yi0 (nm : Nat -> Str) (a : CE) : CE := fun H k => a H fun x H1 => kd x.t 10 (kd H1.h 0 (gd (pB (nm 0 = txt x.s)) (k (aX H1.h) (hup H1))))
def zV9 (nm : Nat -> Str) (j : Nat) (l : List Nat) (i : Nat) : Prop := nm j = txt l ++ nm i /\ l.length ≠ 0 /\ (nm i).length ≠ 0 /\ l.length + (nm i).length <= 1000
noncomputable def yf9 (nm : Nat -> Str) (a b : CE) : CE := fun H k => a H fun x H1 => b H1 fun y H2 => kd x.t 3 (kd y.t 15 (gd (pB (zV9 nm H2.h x.s y.m)) (k (aX H2.h) (hup H2))))
theorem yi3 {prog : Program} {w : World} {A : Around} {E : Value -> Shared -> Prop} {s : Shared} {x y : Str} {t u : Tok} {Q : Value -> Shared -> Prop} (hx : x.length ≠ 0) (hy : y.length ≠ 0) (hsz : x.length + y.length <= 1000)
    (q : Q (.str (x ++ y) s.toks) { s with toks := s.toks + 1 }) : wpAny (model prog w) A (binaryOp .Add (.str x t) (.str y u)) Q E s := by
  refine concat_gives (typeIs_str s x t) (typeIs_str s y u) PySem.noFill_str_add PySem.seq_str_add F.slot_str_add F.entry_str_add (F.args_str_add_2 _ _) (gives_str_add x y t u) ?_
  rw [beq_eq_false_iff_ne.mpr hx, beq_eq_false_iff_ne.mpr hy, if_neg Bool.false_ne_true, if_neg Bool.false_ne_true]
  have e3 : (x ++ y).length = x.length + y.length := Array.size_append
  exact ⟨by rw [e3, sizeLine_eq]; exact Nat.le_trans hsz (by decide), q⟩
section
variable {c : Cfg} {d : Nat} {sc : Sc} {Γ : Ctx} {W : Wd} {s : Shared} {H : AH}
noncomputable def Wd.host (W : Wd) (j : Nat) (t : Tok) : Wd := { W with ht := fun k => if k = j then some t else W.ht k }
theorem Le.host {t : Tok} (q : HtOk W H.h) : Le W (W.host H.h t) := ⟨fun _ _ h => h, fun _ _ h => h, Nat.le_refl _, fun k t h => (if_neg fun e => nomatch (q.out k (Nat.le_of_eq e.symm)).symm.trans h).trans h⟩
theorem Rel.host (R : Rel c W H s) {t : Tok} (h0 : t ≠ 0) (hlt : t < W.tk) (hd : ∀ i, W.ht i ≠ some t) : Rel c (W.host H.h t) (hup H) s := by
  have le : Le W (W.host H.h t) := .host R.hts
  have at' : ∀ k u, (W.host H.h t).ht k = some u -> (k = H.h /\ u = t) \/ W.ht k = some u := fun k u h => by
    by_cases e : k = H.h
    · exact .inl ⟨e, (Option.some.inj ((if_pos e).symm.trans h)).symm⟩
    · exact .inr ((if_neg e).symm.trans h)
  refine ⟨R.cnt, R.sm, R.nd, ⟨fun k u h => ?_, fun i j u hi hj => ?_, fun k hk => ?_⟩, fun i a hi => (R.obj i a hi).imp fun _ h => ⟨h.1, h.2.le le⟩, fun a x h => ⟨(R.frz a x h).1, (R.frz a x h).2.imp fun _ h => ⟨h.1, h.2.le le⟩⟩, R.st, R.tok⟩
  · rcases at' k u h with ⟨_, rfl⟩ | h
    · exact ⟨h0, hlt⟩
    · exact R.hts.ok k u h
  · rcases at' i u hi with ⟨rfl, rfl⟩ | hi'
    · exact (at' j _ hj).elim (fun h => h.1.symm) fun h => absurd h (hd j)
    · rcases at' j u hj with ⟨_, rfl⟩ | hj'
      · exact absurd hi' (hd i)
      · exact R.hts.inj i j u hi' hj'
  · exact (if_neg fun e => Nat.lt_irrefl k (Nat.lt_of_lt_of_le (Nat.lt_of_le_of_lt (Nat.le_of_eq e) (Nat.lt_succ_self _)) hk)).trans (R.hts.out k (Nat.le_of_succ_le hk))
theorem Ext.host {X : List Addr} {W₀ : Wd} {s₀ : Shared} {t : Tok} (x : Ext X W₀ W s₀ s) (q : HtOk W H.h) : Ext X W₀ (W.host H.h t) s₀ s := ⟨x.le.trans (.host q), x.out, x.nw, x.kp, x.al, x.gk⟩
theorem zl7 {x : Str} {l : List Nat} {n : Nat} {pos : Pos} (hx : x = txt l) : SimE c d sc Γ (.Constant (.str x) n pos) (fun H k => k (aV l) H) := by
  subst hx
  refine fun _ _ W s H _ D hk => fun _ _ _ => ?_
  have le := Nat.le_trans D.R.tok.2.2 (Nat.le_succ s.toks)
  exact ⟨aV l, H, W.up (s.toks + 1), hk, (Ext.grow (s := s) (s' := { s with toks := s.toks + 1 }) (fun _ _ e => e) (.of (Nat.le_succ _))).up le, (D.R.tick (Nat.le_succ _)).up le (Nat.le_refl _), _, rfl, Nat.ne_of_gt (Nat.lt_of_lt_of_le D.R.tok.1 (Nat.le_trans D.R.tok.2.1 D.R.tok.2.2)), Nat.lt_succ_self _⟩
theorem zN6 {e : PySem.Expr} {a : CE} (ha : SimE c d sc Γ e a) : SimE c d sc Γ e (yi0 c.hn a) := fun A env W s H k D hk =>
  wpAny_mono (ha A env W s H _ D hk) (fun v s' p => by
    obtain ⟨x, H1, W1, h, X, R, r⟩ := p
    obtain ⟨e1, h⟩ := kd_t h
    obtain ⟨e2, h⟩ := kd_t h
    obtain ⟨e3, h⟩ := gd_t h
    obtain ⟨t, rfl, h0, h1⟩ := r.at e1
    refine ⟨aX H1.h, hup H1, W1.host H1.h t, h, X.host R.hts, R.host h0 h1 fun i q => ?_, t, ?_, if_pos rfl⟩
    · exact nomatch (R.hts.out i (e2 ▸ Nat.zero_le i)).symm.trans q
    · show Value.str _ t = .str (c.hn H1.h) t
      rw [e2, pB_e e3]) noe
theorem zN3 {l r : PySem.Expr} {pos : Pos} {a b : CE} (ha : SimE c d sc Γ l a) (hb : SimE c d sc Γ r b) : SimE c d sc Γ (.BinOp l .Add r pos) (yf9 c.hn a b) := fun A env W s H k D hk =>
  wpAny_BinOp (ha.use D hk fun x u H1 W1 s1 k1 x1 D1 v1 => hb.use D1 k1 fun y v H2 W2 s2 k2 x2 D2 v2 => by
    obtain ⟨e1, k2⟩ := kd_t k2
    obtain ⟨e2, k2⟩ := kd_t k2
    obtain ⟨e3, k2⟩ := gd_t k2
    obtain ⟨h1, h2, h3, h4⟩ := pB_e e3
    obtain ⟨t, rfl⟩ := v1.at e1
    obtain ⟨t', rfl, _⟩ := v2.at e2
    rw [<- ZN] at h2 h4
    refine yi3 h2 h3 h4 ?_
    have le := Nat.le_trans D2.R.tok.2.2 (Nat.le_succ s2.toks)
    have R3 := (D2.R.tick (Nat.le_succ _)).up le (Nat.le_refl _)
    have X3 := ((x1.trans x2).trans (Ext.grow (s := s2) (s' := { s2 with toks := s2.toks + 1 }) (fun _ _ e => e) (.of (Nat.le_succ _)))).up le
    refine ⟨aX H2.h, hup H2, (W2.up (s2.toks + 1)).host H2.h s2.toks, k2, X3.host R3.hts, R3.host (Nat.ne_of_gt (Nat.lt_of_lt_of_le D2.R.tok.1 (Nat.le_trans D2.R.tok.2.1 D2.R.tok.2.2))) (Nat.lt_succ_self _) (fun i q => ?_), s2.toks, ?_, if_pos rfl⟩
    · exact absurd (D2.R.hts.ok i _ q).2 (Nat.not_lt.mpr D2.R.tok.2.2)
    · show Value.str _ _ = .str (c.hn H2.h) _
      rw [h1])
theorem SimP.go {σ : Type} {st : Stmt} {rest : List Stmt} {A : Around} {env : Env} {g : σ -> Ctx} {a : CS σ} {kn : σ -> AH -> Bool} {Q : Flow -> Shared -> Prop} (ha : Sim1 c d sc Γ st g a) (D : Rdy c d sc Γ A env W s H) (hk : a H kn (fun _ _ => false) = true)
    (q : ∀ x H1 W1 s1, kn x H1 = true -> Ext (ownA env) W W1 s s1 -> Rdy c d sc (g x) A env W1 s1 H1 -> wpAny c.M A (execs rest env) Q NoE s1) : wpAny c.M A (execs (st :: rest) env) Q NoE s :=
  wpAny_execs_cons (wpAny_mono (ha A env W s H _ _ D hk) (fun f s1 p => by
    cases p with
    | next x H1 W1 h X R F => exact q x H1 W1 s1 h X ⟨D.hA, D.hs, F, R⟩
    | ret y H1 W1 h X R r => cases h) noe)
end
noncomputable def b27 (nm : Nat -> Str) (a0 a1 : AV) : CS Unit :=
  (seqC (asgC (Yo true (Ze (yi0 nm (subK Zk (Yo false (Ze (litC (aV [108, 111, 99, 97, 108])) (Ze (litC (aV [98, 46, 99, 111, 109])) (Ze (litC (aV [99, 46, 55, 97, 55])) nilL)))) (binK (intK modG) (litC a0) (litC (aI 3))))) nilL))) (fun v1 => (seqC (asgC (binK (intK divG) (litC a0) (litC (aI 3)))) (fun v2 => (seqC (forL (biC Yc (Ze (litC (aI 1)) (Ze (litC (aI 7)) nilL))) (fun v4 (r3 : AV) => (seqC (Xl (lmC Yn (litC v1) (Ze (yf9 nm (binK ZW (binK ZW (subK Zk (litC (aS [116, 97, 98, 99, 100, 101, 102])) (litC v4)) (subK Zk (Yo false (Ze (litC (aS [])) (Ze (litC (aS [55])) (Ze (litC (aS [45, 65])) nilL)))) (binK (intK modG) (litC r3) (litC (aI 3))))) (litC (aS [46]))) (subK Zk (litC v1) (subK Zk (litC a1) (litC v4)))) nilL)) ()) (fun (_ : Unit) => (seqC (asgC (binK (intK divG) (litC r3) (litC (aI 3)))) (fun v5 => (Zt v5)))))) v2) (fun (r3 : AV) => (retC (litC v1))))))))
theorem s27 {c : Cfg} {N : Nums} (W : Zs c N) (a0 a1 : AV) : SimS c 12 (Zv 27).names [("cell", a0), ("above", a1)] (Ye 27) (fun _ : Unit => []) (b27 c.hn a0 a1) :=
  (Zc (Zm (ZD (Zb (zN6 (Zh W.get (ZD (Zb (zl7 (by decide +kernel)) (Zb (zl7 (by decide +kernel)) (Zb (zl7 (by decide +kernel)) Zd)))) (Zl (Zz Vc) (Za (by rfl)) Zg))) Zd)) (by decide +kernel)) (fun v1 =>
  (Zc (Zm (Zl (Zz zh3) (Za (by rfl)) Zg) (by decide +kernel)) (fun v2 =>
  (Zc (g := fun (r3 : AV) => ([("left", r3), ("names", v1), ("cell", a0), ("above", a1)] : Ctx)) (ZY (g := fun (r3 : AV) => ([("left", r3), ("names", v1), ("cell", a0), ("above", a1)] : Ctx)) (ZF W.S ZL (.inr ⟨_, rfl⟩) (by rfl) (W.no _ (by decide)) (by decide +kernel) (Zb Zg (Zb Zg Zd)) (by decide) (by decide)) (by decide +kernel) Sub.refl (fun v4 (r3 : AV) =>
  (Zc (g := fun (_ : Unit) => ([("k", v4), ("left", r3), ("names", v1), ("cell", a0), ("above", a1)] : Ctx)) (Yq (x := ()) (Xx PySem.F.slot_list_append (by kernel_rfl) YH (Za (by rfl)) (Zb (zN3 (Zl (ZI W.hh) (Zl (ZI W.hh) (Zh W.get (Zy (by decide +kernel)) (Za (by rfl))) (Zh W.get (ZD (Zb (Zy (by decide +kernel)) (Zb (Zy (by decide +kernel)) (Zb (Zy (by decide +kernel)) Zd)))) (Zl (Zz Vc) (Za (by rfl)) Zg))) (Zy (by decide +kernel))) (Zh W.get (Za (by rfl)) (Zh W.get (Za (by rfl)) (Za (by rfl))))) Zd)) Sub.refl) (fun _ =>
  (Zc (Zm (Zl (Zz zh3) (Za (by rfl)) Zg) (by decide +kernel)) (fun v5 =>
  (Zj v5 (Zi (by rfl) (Zf (by rfl) (Zf (by rfl) (Zf (by rfl) Sub.refl))))))))))) (fun (r3 : AV) =>
  (Zo (Za (by rfl)))))))))
theorem Zs.f27 {c : Cfg} {N : Nums} (W : Zs c N) : FnC c 13 27 (N.fd 27) ["cell", "above"] (Zn (on2 (b27 c.hn))) :=
  Yd W.S (W.D 27 rfl) (YK (fun a0 a1 => s27 W a0 a1)) ⟨by decide, (by decide +kernel), (by decide +kernel)⟩
theorem YN {α : Type} {l : List α} {k : Bool} (h : l.length < 100000) (hk : k = true) : Yh l k = true := ZT (Nat.blt_eq.mpr (Zw l ▸ h)) hk
theorem zm5 {α : Type} {kk : α -> Bool} {l : List α} : ∀ {i : Nat} {z : α}, l[i]? = some z -> kk z = true -> nthK kk l i = true := by
  induction l with
  | nil => intro i z h; cases h
  | cons o l ih =>
    intro i z h hk
    cases i with
    | zero => cases h; exact hk
    | succ i => exact ih h hk
section
variable {H : AH} {r i : Nat} {l : List AV} {z v : AV} {k : AV -> AH -> Bool} {n m : Nat}
theorem Jw {kk : AV -> Bool} (h2 : i < 1000000) (hz : l[i]? = some z) (hk : kk z = true) : subL l (.ofNat i) kk = true := ZT (Nat.blt_eq.mpr h2) (zm5 hz hk)
theorem XJ (h : hget H r = oL l) (h2 : i < 1000000) (hz : l[i]? = some z) (hk : k z H = true) : Zk H (aR r) (aI (.ofNat i)) k = true := by
  show kd2 (hget H r).t 0 (subL (hget H r).l (.ofNat i) fun z => k z H) _ = true
  rw [h]
  exact Jw h2 hz hk
theorem zZ5 (h2 : i < 1000000) (hz : l[i]? = some z) (hk : k z H = true) : Zk H (aL l) (aI (.ofNat i)) k = true := Jw (kk := fun z => k z H) h2 hz hk
theorem yb6 {kk : AH -> Bool} (h : hget H r = oL l) (h2 : i < 1000000) (hi : i < l.length) (hk : kk (hset H r (oL (l.set i v))) = true) : putK H (aR r) (aI (.ofNat i)) v kk = true := by
  show kd2 (hget H r).t 0 (gd (Nat.blt i (lenN (hget H r).l)) (gd (Nat.blt i 1000000) (kk (hset H r (oL (zO2 (hget H r).l i v)))))) _ = true
  rw [h]
  refine ZT (Nat.blt_eq.mpr (Zw l ▸ hi)) (ZT (Nat.blt_eq.mpr h2) ?_)
  rw [zO1]
  exact hk
theorem zs1 {kk : Nat -> Bool} (h : 0 < m) (h2 : m <= 1000000) (hk : kk m = true) : isD (.ofNat m) kk = true := by
  cases m with
  | zero => cases h
  | succ m => exact ZT (Nat.blt_eq.mpr h2) hk
theorem ym3 (h : 0 < m) (h2 : m <= 1000000) (hk : k (aI (.ofNat (n % m))) H = true) : intK modG H (aI (.ofNat n)) (aI (.ofNat m)) k = true := zs1 (kk := fun j => k (aI (fmI (.ofNat n) j)) H) h h2 hk
theorem yr0 (h : 0 < m) (h2 : m <= 1000000) (hk : k (aI (.ofNat (n / m))) H = true) : intK divG H (aI (.ofNat n)) (aI (.ofNat m)) k = true := zs1 (kk := fun j => k (aI (fdI (.ofNat n) j)) H) h h2 hk
theorem zD0 {o : AO} (h : H.n < 8000) (hk : k (aR H.n) (Ym H o) = true) : newK o H k = true := ZT (Nat.ble_eq.mpr h) hk
theorem ys7 {a b : Int} (hk : k (aI (a + b)) H = true) : ZW H (aI a) (aI b) k = true := by rw [<- VU] at hk; exact hk
end
structure za4 (r : Nat) (H H' : AH) : Prop where
  n : H'.n = H.n
  j : ∀ j, j ≠ r -> hget H' j = hget H j
theorem za4.set {r : Nat} {H H' : AH} {x : AO} (hr : r <= 8000) (s : za4 r (hset H r x) H') : za4 r H H' := ⟨s.n, fun j hj => (s.j j hj).trans (by rw [VA hr, if_neg hj])⟩
theorem zn8 {r : Nat} {H : AH} {x : AO} (hr : r <= 8000) : hget (hset H r x) r = x := by rw [VA hr, if_pos rfl]
theorem Xs {H : AH} {x : AO} (h : H.n <= 8000) : hget (Ym H x) H.n = x := by rw [Yz h, if_pos rfl]
theorem za4.push {H H' : AH} {x : AO} (h : H.n <= 8000) (s : za4 H.n (Ym H x) H') : H'.n = H.n + 1 /\ ∀ j, j < H.n -> hget H' j = hget H j := ⟨s.n, fun j hj => (s.j j (Nat.ne_of_lt hj)).trans (by rw [Yz h, if_neg (Nat.ne_of_lt hj)])⟩
noncomputable def XD (r : List Int) : Nat -> List Int -> List Int := List.rec (motive := fun _ => Nat -> List Int -> List Int) (fun _ L => L) (fun v _ ih k L => ih (k + 1) (L.set (k % 3) (L.getD (k % 3) 0 + v))) r
theorem ze7 {l : List Int} {i : Nat} (h : i < l.length) : (l.map aI)[i]? = some (aI (l.getD i 0)) := by
  rw [List.getElem?_map, List.getElem?_eq_getElem h, List.getD_eq_getElem?_getD, List.getElem?_eq_getElem h]
  rfl
theorem zx4 (r : List Int) : ∀ {k : Nat} {L : List Int}, (XD r k L).length = L.length := by
  induction r with
  | nil => intro k L; rfl
  | cons v r ih => intro k L; exact ih.trans (List.length_set ..)
section
variable {H : AH} {r : Nat} {kn : Unit -> AH -> Bool} {kr : AV -> AH -> Bool}
theorem zx3 {l : List Int} {f : AV -> Unit -> CS Unit} (hr : r <= 8000) (hf : ∀ (k : Nat) {H : AH} {L : List Int} {kn : Unit -> AH -> Bool} {kr : AV -> AH -> Bool}, k < l.length -> L.length = 3 -> hget H r = oL (L.map aI) -> kn () (hset H r (oL ((L.set (k % 3) (L.getD (k % 3) 0 + l.getD k 0)).map aI))) = true -> f (aI (.ofNat k)) () H kn kr = true)
    (rest : List Int) : ∀ (k : Nat) (L : List Int) (H : AH) (kn : Unit -> AH -> Bool), k + rest.length = l.length -> (∀ j, rest[j]? = l[k + j]?) -> L.length = 3 -> hget H r = oL (L.map aI) -> (∀ H', za4 r H H' -> H'.h = H.h -> hget H' r = oL ((XD rest k L).map aI) -> kn () H' = true) -> forC f (iseq rest.length (.ofNat k) 1) () H kn kr = true := by
  induction rest with
  | nil => exact fun k L H kn _ _ _ h hk => hk H ⟨rfl, fun _ _ => rfl⟩ rfl h
  | cons v rest ih =>
    intro k L H kn hlen hd hL h hk
    have h0 := hd 0
    refine hf k (hlen ▸ Nat.lt_add_of_pos_right (Nat.succ_pos _)) hL h ?_
    have ev : l.getD k 0 = v := by rw [List.getD_eq_getElem?_getD, <- show k + 0 = k from rfl, <- h0]; rfl
    rw [ev]
    exact ih (k + 1) _ _ kn (by rw [Nat.succ_add]; exact hlen) (fun j => by rw [Nat.succ_add]; exact hd (j + 1)) (by rw [List.length_set]; exact hL) (zn8 hr) fun H' s q e => hk H' (s.set hr) q e
theorem zI2 {l : List Int} (hl : l.length < 1000) (hn : H.n < 8000) (hk : ∀ H', H'.n = H.n + 1 -> (∀ j, j < H.n -> hget H' j = hget H j) -> H'.h = H.h -> hget H' H.n = oL ((XD l 0 [119, 1765, 2]).map aI) -> kr (aR H.n) H' = true) : b25 (aL (l.map aI)) H kn kr = true := by
  have hl' : (l.map aI).length = l.length := List.length_map _
  refine ZT (b := Nat.ble (Nat.succ H.n) (nat_lit 8000)) (Nat.ble_eq.mpr hn) ?_
  show Yh (l.map aI) (gd (Nat.blt (lenN (l.map aI)) 1000000000) (forC _ (iseq (toN (subI (.ofNat (lenN (l.map aI))) 0)) (.ofNat 0) 1) () (Ym H (oL [aI 119, aI 1765, aI 2])) _ kr)) = true
  refine YN (by rw [hl']; exact Nat.lt_trans hl (by decide)) (ZT (Nat.blt_eq.mpr (by rw [Zw, hl']; exact Nat.lt_trans hl (by decide))) ?_)
  rw [show toN (subI (.ofNat (lenN (l.map aI))) 0) = l.length from by rw [Jx, zz2, Zw, hl']; exact congrArg Int.toNat (Int.sub_zero _)]
  have hn' := Nat.le_of_lt hn
  refine zx3 (r := H.n) (l := l) hn' (fun k {H1 L kn kr} hk hL h hkn => ?_) l 0 [119, 1765, 2] (Ym H (oL [aI 119, aI 1765, aI 2])) _ (Nat.zero_add _) (fun j => by rw [Nat.zero_add]) rfl (Xs hn') fun H' s q e => hk H' (s.push hn').1 (s.push hn').2 q e
  have h3 : k % 3 < L.length := by rw [hL]; exact Nat.mod_lt _ (by decide)
  have h1 : k % 3 < 1000000 := Nat.lt_of_lt_of_le (Nat.mod_lt _ (by decide)) (by decide)
  delta seqC putC binK subK litC Zt
  refine XJ h h1 (ze7 h3) ?_
  refine zZ5 (Nat.lt_trans (Nat.lt_trans hk hl) (by decide)) (ze7 hk) ?_
  refine ys7 ?_
  refine yb6 h h1 (by rw [List.length_map]; exact h3) ?_
  rw [List.map_set] at hkn
  exact hkn
end
theorem XX (l : List Nat) : Yu l = l.map fun n => aI (.ofNat n) := by
  induction l with
  | nil => rfl
  | cons x l ih => exact congrArg (_ :: ·) ih
theorem zv6 (L : List Nat) (x : Nat) : Yu (L ++ [x]) = app (Yu L) [aI (.ofNat x)] := by rw [XX, List.map_append, <- XX, ZM]; rfl
section
variable {H : AH} {r : Nat} {kn : Unit -> AH -> Bool} {kr : AV -> AH -> Bool}
theorem zy0 {f : AV -> AV -> CS AV} (hr : r <= 8000) (hf : ∀ (k n : Nat) {H : AH} {L : List Nat} {kn : AV -> AH -> Bool} {kr : AV -> AH -> Bool}, 0 < k -> k <= 1000 -> hget H r = oL (Yu L) -> L.length < 1000 -> kn (aI (.ofNat (n / k))) (hset H r (oL (Yu (L ++ [n % k])))) = true -> f (aI (.ofNat k)) (aI (.ofNat n)) H kn kr = true)
    (ks : List Nat) : ∀ (n : Nat) (L : List Nat) (H : AH) (kn : AV -> AH -> Bool), (∀ k ∈ ks, 0 < k /\ k <= 1000) -> L.length + ks.length < 1000 -> hget H r = oL (Yu L) -> (∀ v H', za4 r H H' -> H'.h = H.h -> hget H' r = oL (Yu (L ++ digs ks n)) -> kn v H' = true) -> forC f (Yu ks) (aI (.ofNat n)) H kn kr = true := by
  induction ks with
  | nil => exact fun n L H kn _ _ h hk => hk _ H ⟨rfl, fun _ _ => rfl⟩ rfl (by rw [h]; exact congrArg (fun l => oL (Yu l)) (List.append_nil L).symm)
  | cons k ks ih =>
    intro n L H kn hks hL h hk
    obtain ⟨h1, h2⟩ := hks k (List.mem_cons_self ..)
    refine hf k n h1 h2 h (Nat.lt_of_le_of_lt (Nat.le_add_right _ _) hL) ?_
    refine ih (n / k) (L ++ [n % k]) _ kn (fun k' hk' => hks k' (List.mem_cons_of_mem _ hk')) (by rw [List.length_append, Nat.add_assoc, Nat.add_comm [n % k].length]; exact hL) (zn8 hr) fun v H' s q e => hk v H' (s.set hr) q ?_
    rw [e, List.append_assoc]
    rfl
theorem zi9 {x : Int} {m : Nat} (h : 0 < m) : fmI x m = .ofNat (x.fmod m).toNat /\ (x.fmod m).toNat < m := by
  have hp : (0 : Int) < m := Int.ofNat_lt.mpr h
  have h0 := Int.fmod_nonneg_of_pos x hp
  exact ⟨(zW7 x m).trans (Int.toNat_of_nonneg h0).symm, Int.ofNat_lt.mp (by rw [Int.toNat_of_nonneg h0]; exact Int.fmod_lt_of_pos x hp)⟩
theorem zW1 {σ : Type} {f : AV -> σ -> CS σ} {st : σ} {kn : σ -> AH -> Bool} (h : forC f (Yu [1, 2, 3, 4, 5, 6]) st H kn kr = true) : Yc H [aI 1, aI 7] (fun sv H1 => srcK sv fun l => forC f l st H1 kn kr) = true := h
theorem ze0 {x : Int} {m : Nat} {k : AV -> AH -> Bool} (h : 0 < m) (h2 : m <= 1000000) (hk : k (aI (.ofNat (x.fmod m).toNat)) H = true) : intK modG H (aI x) (aI (.ofNat m)) k = true := zs1 (kk := fun j => k (aI (fmI x j)) H) h h2 (by rw [(zi9 h).1]; exact hk)
theorem zK4 {x : Int} (hn : H.n < 8000) (hk : ∀ H', H'.n = H.n + 1 -> (∀ j, j < H.n -> hget H' j = hget H j) -> H'.h = H.h -> hget H' H.n = oL (Yu (Va (x.fmod 720).toNat)) -> kr (aR H.n) H' = true) : b26 (aI x) H kn kr = true := by
  have hn' := Nat.le_of_lt hn
  delta b26 seqC asgC Yo Ze litC nilL mkL sel forL biC retC binK
  show newK (oL [aI 0]) H _ = true
  refine zD0 hn ?_
  refine ze0 (m := 720) (by decide) (by decide) ?_
  refine zW1 ?_
  refine zy0 (r := H.n) hn' (fun k n {H1 L kn kr} h0 h1 h hL hkn => ?_) [1, 2, 3, 4, 5, 6] _ [0] (Ym H (oL [aI 0])) _ (by decide) (by decide) (Xs hn') fun v H' s q e => hk H' (s.push hn').1 (s.push hn').2 q e
  have h1 : k <= 1000000 := Nat.le_trans h1 (by decide)
  delta Xl lmC
  show kd (hget H1 H.n).t 0 (intK modG H1 (aI (.ofNat n)) (aI (.ofNat k)) _) = true
  refine ZR (by rw [h]; rfl) ?_
  refine ym3 h0 h1 ?_
  show kd (hget H1 (aR H.n).m).t 0 (Yn (hget H1 (aR H.n).m).l [aI (.ofNat (n % k))] fun l' => kd aN.t 0 (intK divG (hset H1 (aR H.n).m (oL l')) (aI (.ofNat n)) (aI (.ofNat k)) fun v H2 => kn v H2)) = true
  rw [show hget H1 (aR H.n).m = oL (Yu L) from h]
  refine YN (l := Yu L) (by rw [XX, List.length_map]; exact Nat.lt_trans hL (by decide)) ?_
  refine yr0 h0 h1 ?_
  rw [zv6] at hkn
  exact hkn
end
theorem zz0 : ∀ (f : Nat) (t : HT) (i : Nat) (x y : AO), tput f (tput f t i x) i y = tput f t i y := by
  intro f
  induction f with
  | zero => intro t i x y; rfl
  | succ f ih =>
    intro t i x y
    have e : ∀ (t : HT) (i : Nat) (x : AO), tput (f + 1) t (i + 1) x = isZ (i % 2) (.node (to' t) (tput f (tl t) (i / 2) x) (tr t)) fun _ => .node (to' t) (tl t) (tput f (tr t) (i / 2) x) := fun t i x => by cases t <;> rfl
    cases i with
    | zero => cases t <;> rfl
    | succ i =>
      rw [e, e, e]
      cases i % 2 with
      | zero => exact congrArg (fun z => HT.node (to' t) z (tr t)) (ih _ _ _ _)
      | succ n => exact congrArg (fun z => HT.node (to' t) (tl t) z) (ih _ _ _ _)
theorem zy9 : ∀ (f : Nat) (t : HT) (i j : Nat) (x y : AO), i ≠ j -> tput f (tput f t i x) j y = tput f (tput f t j y) i x := by
  intro f
  induction f with
  | zero => intro t i j x y _; rfl
  | succ f ih =>
    intro t i j x y h
    have e : ∀ (t : HT) (i : Nat) (x : AO), tput (f + 1) t (i + 1) x = isZ (i % 2) (.node (to' t) (tput f (tl t) (i / 2) x) (tr t)) fun _ => .node (to' t) (tl t) (tput f (tr t) (i / 2) x) := fun t i x => by cases t <;> rfl
    have e0 : ∀ (t : HT) (x : AO), tput (f + 1) t 0 x = .node x (tl t) (tr t) := fun t x => by cases t <;> rfl
    cases i with
    | zero =>
      cases j with
      | zero => exact absurd rfl h
      | succ j => rw [e0, e, e, e0]; cases j % 2 <;> rfl
    | succ i =>
      cases j with
      | zero => rw [e0, e, e, e0]; cases i % 2 <;> rfl
      | succ j =>
        have q : i % 2 = j % 2 -> i / 2 ≠ j / 2 := fun h1 h2 => h (congrArg Nat.succ ((Nat.div_add_mod i 2).symm.trans ((congr (congrArg (fun u v => 2 * u + v) h2) h1).trans (Nat.div_add_mod j 2))))
        have li := Nat.mod_lt i Nat.zero_lt_two
        have lj := Nat.mod_lt j Nat.zero_lt_two
        rw [e, e, e, e]
        generalize i % 2 = a at q li
        generalize j % 2 = b at q lj
        cases a with
        | zero =>
          cases b with
          | zero => exact congrArg (fun z => HT.node (to' t) z (tr t)) (ih _ _ _ _ _ (q rfl))
          | succ b => rfl
        | succ a =>
          cases b with
          | zero => rfl
          | succ b =>
            have e1 : a + 1 = b + 1 := by rw [Nat.lt_one_iff.mp (Nat.lt_of_succ_lt_succ li), Nat.lt_one_iff.mp (Nat.lt_of_succ_lt_succ lj)]
            exact congrArg (fun z => HT.node (to' t) (tl t) z) (ih _ _ _ _ _ (q e1))
section
variable {H : AH} {x y : AO} {i : Nat}
theorem zd4 : hset (Ym H x) H.n y = Ym H y := congrArg (fun t => (⟨Nat.succ H.n, t, H.h⟩ : AH)) (zz0 (nat_lit 13) H.t H.n x y)
theorem zB9 (h : i ≠ H.n) : hset (Ym H x) i y = Ym (hset H i y) x := congrArg (fun t => (⟨Nat.succ H.n, t, H.h⟩ : AH)) (zy9 (nat_lit 13) H.t H.n i x y h.symm)
theorem H2.set0 {a b a' : List AV} : hset (H2 H a b) H.n (oL a') = H2 H a' b := by
  show hset (Ym (Ym H (oL a)) (oL b)) H.n (oL a') = _
  rw [zB9 (H := Ym H (oL a)) (i := H.n) (Nat.ne_of_lt (Nat.lt_succ_self _)), zd4]
  rfl
theorem H2.set1 {a b b' : List AV} : hset (H2 H a b) (Nat.succ H.n) (oL b') = H2 H a b' := zd4 (H := Ym H (oL a))
variable {a b : List AV} (h : Nat.succ (Nat.succ H.n) <= 8000)
include h
theorem H2.get0 : hget (H2 H a b) H.n = oL a := by
  exact (Yz (H := Ym H (oL a)) (Nat.le_of_succ_le h)).trans ((if_neg (Nat.ne_of_lt (Nat.lt_succ_self H.n))).trans (Xs (Nat.le_of_succ_le (Nat.le_of_succ_le h))))
theorem H2.get1 : hget (H2 H a b) (Nat.succ H.n) = oL b := Xs (H := Ym H (oL a)) (Nat.le_of_succ_le h)
theorem H2.old (hi : i < H.n) : hget (H2 H a b) i = hget H i := by
  exact (Yz (H := Ym H (oL a)) (Nat.le_of_succ_le h)).trans ((if_neg (Nat.ne_of_lt (Nat.lt_succ_of_lt hi))).trans ((Yz (Nat.le_of_succ_le (Nat.le_of_succ_le h))).trans (if_neg (Nat.ne_of_lt hi))))
end
noncomputable def YB (t : AV -> Bool) (e : AV -> AV) (l : List AV) : List AV := List.rec (motive := fun _ => List AV) [] (fun x _ ih => sel (t x) (e x :: ih) ih) l
theorem zS6 {t : AV -> CT} {el : AV -> CE} {b : AV -> Bool} {e : AV -> AV} {H : AH} (l : List AV) : ∀ {acc : List AV} {k : List AV -> AH -> Bool}, (∀ x ∈ l, (∀ kt : Bool -> AH -> Bool, kt (b x) H = true -> t x H kt = true) /\ (∀ ke : AV -> AH -> Bool, b x = true -> ke (e x) H = true -> el x H ke = true)) ->
    k (app acc (YB b e l)) H = true -> zx2 (fun v k => k v) t el l acc H k = true := by
  induction l with
  | nil => intro acc k _ hk; rw [ZM, show YB b e [] = [] from rfl, List.append_nil] at hk; exact hk
  | cons x l ih =>
    intro acc k h hk
    obtain ⟨h1, h2⟩ := h x (List.mem_cons_self ..)
    have ht := fun y hy => h y (List.mem_cons_of_mem _ hy)
    refine h1 _ ?_
    cases q : b x with
    | true =>
      refine h2 _ q (ih ht ?_)
      rw [ZM, ZM, List.append_assoc]
      rw [ZM, show YB b e (x :: l) = sel (b x) (e x :: YB b e l) (YB b e l) from rfl, q] at hk
      exact hk
    | false =>
      refine ih ht ?_
      rw [show YB b e (x :: l) = sel (b x) (e x :: YB b e l) (YB b e l) from rfl, q] at hk
      exact hk
theorem zw8 (t : AV -> Bool) (e : AV -> AV) (l : List AV) : (YB t e l).length <= l.length := by
  induction l with
  | nil => exact Nat.le_refl _
  | cons x l ih =>
    rw [show YB t e (x :: l) = sel (t x) (e x :: YB t e l) (YB t e l) from rfl]
    cases t x
    · exact Nat.le_succ_of_le ih
    · exact Nat.succ_le_succ ih
def RE (a : CE) (H : AH) (v : AV) : Prop := ∀ k : AV -> AH -> Bool, k v H = true -> a H k = true
def RT (t : CT) (H : AH) (b : Bool) : Prop := ∀ k : Bool -> AH -> Bool, k b H = true -> t H k = true
def RF (a : CF) (H : AH) (l : List AV) : Prop := ∀ k : List AV -> AH -> Bool, k l H = true -> a H k = true
section
variable {σ τ : Type} {H : AH} {x y z u v w : AV} {a b : CE} {c : CF} {l m : List AV} {kn : τ -> AH -> Bool} {kr : AV -> AH -> Bool}
theorem RE.lit : RE (litC x) H x := fun _ h => h
theorem RE.bin {f : Op2} (ha : RE a H x) (hb : RE b H y) (hf : ∀ k : AV -> AH -> Bool, k z H = true -> f H x y k = true) : RE (binK f a b) H z := fun k h => ha _ (hb _ (hf k h))
theorem RE.un {f : Op1} (ha : RE a H x) (hf : ∀ k : AV -> AH -> Bool, k z H = true -> f H x k = true) : RE (unK f a) H z := fun k h => ha _ (hf k h)
theorem RE.sub {f : Op2} (ha : RE a H x) (hb : RE b H y) (hf : ∀ k : AV -> AH -> Bool, k z H = true -> f H x y k = true) : RE (subK f a b) H z := fun k h => ha _ (hb _ (hf k h))
theorem RT.cmp {f : Cp2} {r : Bool} (ha : RE a H x) (hb : RE b H y) (hf : ∀ k : Bool -> AH -> Bool, k r H = true -> f H x y k = true) : RT (cmpK f a b) H r := fun k h => ha _ (hb _ (hf k h))
theorem RT.not {t : CT} {r : Bool} (h : RT t H r) : RT (notT t) H (notB r) := fun k hk => h _ hk
theorem RT.as (h : RE a H x) (e : x.t = 1) : RT (asT a) H x.b := fun k hk => h _ (ZR e hk)
theorem RE.lift {t : CT} {r : Bool} (h : RT t H r) : RE (Jd t) H (aB r) := fun k hk => h _ hk
theorem RF.nil : RF nilL H [] := fun _ h => h
theorem RF.cons (ha : RE a H x) (hc : RF c H l) : RF (Ze a c) H (x :: l) := fun k h => ha _ (hc _ h)
theorem RE.disp (hc : RF c H l) : RE (Yo false c) H (aL l) := fun k h => hc _ h
theorem RE.tup (hc : RF c H l) : RE (tupC c) H (aT l) := fun k h => hc _ h
theorem RE.call {f : List AV -> CE} (hc : RF c H l) (hf : RE (f l) H z) : RE (ZC f c) H z := fun k h => hc _ (hf _ h)
theorem RE.bi {f : AH -> List AV -> (AV -> AH -> Bool) -> Bool} (hc : RF c H l) (hf : ∀ k : AV -> AH -> Bool, k z H = true -> f H l k = true) : RE (biC f c) H z := fun k h => hc _ (hf k h)
theorem zO5 {C : AV -> CS τ} (h : RE a H x) (hk : C x H kn kr = true) : seqC (asgC a) C H kn kr = true := h _ hk
theorem VK {t : CT} {r : Bool} {A B : CS σ} {C : σ -> CS τ} (h : RT t H r) (hk : sel r (A H (fun v H1 => C v H1 kn kr) kr) (B H (fun v H1 => C v H1 kn kr) kr) = true) : seqC (ifC t A B) C H kn kr = true := h _ hk
theorem yu5 (h : RE a H x) (hk : kr x H = true) : (retC a : CS τ) H kn kr = true := h _ hk
end
section
variable {σ τ : Type} {H : AH} {kn : τ -> AH -> Bool} {kr : AV -> AH -> Bool} {a i z : AV} {n : Nat} {k : AV -> AH -> Bool}
theorem Ve {n m : Nat} {x y : Bool} (e : n = m) (h : x = true) : kd2 n m x y = true := zF1 e h
theorem zz5 (e : a.t = 11) (e0 : (hget H a.m).t = 0) (ei : i.t = 2) (en : i.i = .ofNat n) (hn : n < 1000000) (hz : (hget H a.m).l[n]? = some z) (hk : k z H = true) : Zk H a i k = true := by
  show kd2 a.t 13 _ (kd2 a.t 11 (kd2 (hget H a.m).t 0 (kd i.t 2 (subL (hget H a.m).l i.i fun z => k z H)) _) _) = true
  rw [e, e0, ei, en]
  exact Jw hn hz hk
theorem Jv (e : a.t = 13) (ei : i.t = 2) (en : i.i = .ofNat n) (hn : n < 1000000) (hz : a.l[n]? = some z) (hk : k z H = true) : Zk H a i k = true := by
  show kd2 a.t 13 (kd i.t 2 (subL a.l i.i fun z => k z H)) _ = true
  rw [e, ei, en]
  exact Jw hn hz hk
theorem zO3 {f : Op2} {x y : AV} {C : AV × AV × AV -> CS τ} (h : f H x y (fun v H1 => kd v.t 12 (isC v.l false fun x r => is2 r fun y z => C (x, y, z) H1 kn kr)) = true) : seqC (unp3 (subK f (litC x) (litC y))) C H kn kr = true := h
theorem zY6 {e x y w : AV} {C : AV × AV × AV -> CS τ} (h : e.t = 12) (hl : e.l = [x, y, w]) (hk : C (x, y, w) H kn kr = true) : kd e.t 12 (isC e.l false fun x r => is2 r fun y z => C (x, y, z) H kn kr) = true := by
  rw [hl]; exact ZR h hk
theorem ya2 {f : Cp2} {g : Op2} {x y w : AV} {A B : CS σ} {C : σ -> CS τ} (h : g H x y (fun z H1 => f H1 z w fun b H2 => sel b (A H2 (fun v H3 => C v H3 kn kr) kr) (B H2 (fun v H3 => C v H3 kn kr) kr)) = true) : seqC (ifC (cmpK f (subK g (litC x) (litC y)) (litC w)) A B) C H kn kr = true := h
theorem zb1 {a : CS σ} {C : σ -> CS τ} (h : a H (fun v H1 => C v H1 kn kr) kr = true) : seqC a C H kn kr = true := h
theorem zE1 {f : List AV -> List AV -> (List AV -> Bool) -> Bool} {b : CF} {r : Nat} {l args : List AV} {v : σ} {kn : σ -> AH -> Bool} (h : hget H r = oL l) (hb : ∀ kl : List AV -> AH -> Bool, kl args H = true -> b H kl = true) (hf : f l args (fun l' => kn v (hset H r (oL l'))) = true) : Xl (lmC f (litC (aR r)) b) v H kn kr = true :=
  ZR (n := (aR r).t) rfl (ZR (n := (hget H r).t) (by rw [h]; rfl) (hb _ (ZR (n := (hget H r).t) (by rw [h]; rfl) (by
    show f (hget H r).l args (fun l' => kn v (hset H r (oL l'))) = true
    rw [h]; exact hf))))
theorem yh4 {it : CE} {t : AV -> CT} {el : AV -> CE} {sv : AV} {b : AV -> Bool} {e : AV -> AV} (hi : ∀ k : AV -> AH -> Bool, k sv H = true -> it H k = true) (h13 : sv.t = 13) (hs : sv.l.length < 100000)
    (h : ∀ x ∈ sv.l, (∀ kt : Bool -> AH -> Bool, kt (b x) H = true -> t x H kt = true) /\ (∀ ke : AV -> AH -> Bool, b x = true -> ke (e x) H = true -> el x H ke = true)) (hk : k (aL (YB b e sv.l)) H = true) : YM false srcK (fun v k => k v) it t el H k = true :=
  hi _ (Ve (n := sv.t) h13 (YN hs (zS6 sv.l h hk)))
theorem yv6 {x y : AV} {k : Bool -> AH -> Bool} (h1 : x.t = 2) (h2 : y.t = 2) (hk : k (notB (eqB x.i y.i)) H = true) : neK H x y k = true := Ve h1 (ZR h2 hk)
theorem yo4 {x y : AV} {k : Bool -> AH -> Bool} (h1 : x.t = 2) (h2 : y.t = 2) (hk : k (ltB y.i x.i) H = true) : XR gtI H x y k = true := ZR h1 (ZR h2 hk)
theorem ym4 {x y : AV} (h1 : x.t = 2) (h2 : y.t = 2) (hk : k (aI (maxI x.i y.i)) H = true) : maxF H [x, y] k = true := ZR h1 (ZR h2 hk)
end
theorem zr1 {u : AV} {k : Nat -> Bool} (h : numK u k = true) : u.t = 2 /\ ∃ n : Nat, u.i = .ofNat n /\ k n = true := ⟨(kd_t (n := u.t) (m := 2) h).1, ZO (i := u.i) (kd_t (n := u.t) (m := 2) h).2⟩
theorem zE4 {w : AV} {k : Bool} (h : yd7 w k = true) : w.t = 13 /\ w.l.length <= 1000 /\ k = true :=
  ⟨(kd_t (n := w.t) (m := 13) h).1, Zw w.l ▸ Nat.le_of_ble_eq_true (gd_t (b := Nat.ble (lenN w.l) 1000) (kd_t (n := w.t) (m := 13) h).2).1, (gd_t (b := Nat.ble (lenN w.l) 1000) (kd_t (n := w.t) (m := 13) h).2).2⟩
theorem le99 {j : Nat} (h : Nat.ble j (nat_lit 99) = true) : j < 1000000 := Nat.lt_of_le_of_lt (Nat.le_of_ble_eq_true h) (by decide)
theorem s7 {i n : Nat} (h : i + (n + 1) = 7) : i + 1 + n = 7 := (Nat.succ_add i n).trans h
theorem l7 {i n : Nat} (h : i + (n + 1) = 7) : i < 7 := h ▸ Nat.lt_add_of_pos_right (Nat.succ_pos n)
noncomputable def se1b (a1 a2 v1 v2 x b m : AV) : CS Unit := (seqC (ifC (cmpK (XR gtI) (subK Zk (litC a2) (litC x)) (litC m)) (seqC (Xl (lmC Yn (litC v2) (Ze (tupC (Ze (subK Zk (litC a2) (litC x)) (Ze (litC x) nilL))) nilL)) ()) (fun (_ : Unit) => (Zt ()))) (Zt ()) : CS (Unit)) (fun (r6 : Unit) => (seqC (Xl (lmC Vx (litC v1) (Ze (YM false srcK (fun v k => k v) (subK Zk (litC a1) (litC x)) (fun (v7 : AV) => (cmpK neK (litC v7) (litC b))) (fun (v7 : AV) => (tupC (Ze (litC v7) (Ze (litC x) (Ze (biC maxF (Ze (litC m) (Ze (subK Zk (litC a2) (litC x)) nilL))) nilL)))))) nilL)) ()) (fun (_ : Unit) => (Zt ())))))
noncomputable def se1 (a1 a2 v1 v2 v4 : AV) : CS Unit := seqC (unp3 (subK Zk (litC v1) (litC v4))) (fun (r5 : AV × AV × AV) => se1b a1 a2 v1 v2 r5.1 r5.2.1 r5.2.2)
theorem yr9 (a0 a1 a2 : AV) : b34 a0 a1 a2 = seqC (asgC (Yo true (Ze (tupC (Ze (litC a0) (Ze (unK negK (litC (aI 1))) (Ze (litC (aI 0)) nilL)))) nilL))) fun v1 => seqC (asgC (Yo true nilL)) fun v2 => seqC (forL (biC Yc (Ze (litC (aI 7)) nilL)) (fun v4 (_ : Unit) => se1 a1 a2 v1 v2 v4) ()) fun _ => se2 v2 := rfl
theorem yp7 {b : Int} {g : AV -> AV} {l : List AV} : ∀ {k : List AV -> Bool}, extK b g l k = true -> (∀ c ∈ l, c.t = 2) /\ k (YB (fun c => notB (eqB c.i b)) g l) = true := by
  induction l with
  | nil => exact fun h => ⟨fun _ h => (nomatch h), h⟩
  | cons c l ih =>
    intro k h
    obtain ⟨h1, h⟩ := kd_t (n := c.t) (m := 2) h
    obtain ⟨h2, h⟩ := ih h
    refine ⟨fun x hx => (List.mem_cons.mp hx).elim (fun e => e ▸ h1) (h2 x), ?_⟩
    show k (sel (notB (eqB c.i b)) (g c :: YB _ g l) (YB _ g l)) = true
    cases q : eqB c.i b <;> rw [q] at h <;> exact h
theorem yq2 {e : AV} {k : AV -> AV -> AV -> Nat -> Bool} (h : entK e k = true) : ∃ x b m, e.t = 12 /\ e.l = [x, b, m] /\ x.t = 2 /\ b.t = 2 /\ m.t = 2 /\ ∃ j : Nat, x.i = .ofNat j /\ j < 1000000 /\ k x b m j = true := by
  obtain ⟨q1, h⟩ := kd_t (n := e.t) (m := 12) h
  obtain ⟨x, t, q2, h⟩ := JK (l := e.l) h
  obtain ⟨b, m, rfl, h⟩ := Vz (l := t) h
  obtain ⟨q3, h⟩ := kd_t (n := x.t) (m := 2) h
  obtain ⟨q4, h⟩ := kd_t (n := b.t) (m := 2) h
  obtain ⟨q5, h⟩ := kd_t (n := m.t) (m := 2) h
  obtain ⟨j, q6, h⟩ := ZO (i := x.i) h
  obtain ⟨q7, h⟩ := gd_t (b := Nat.ble j (nat_lit 99)) h
  exact ⟨x, b, m, q1, q2, q3, q4, q5, j, q6, le99 q7, h⟩
section
variable {H : AH} {a1 a2 : AV} {kn : Unit -> AH -> Bool} {kr : AV -> AH -> Bool}
theorem ya6 {W F : List AV} {i : Nat} {k : List AV -> List AV -> Bool} (hn : Nat.succ (Nat.succ H.n) <= 8000) (e1 : a1.t = 13) (e2 : a2.t = 11) (e3 : (hget H a2.m).t = 0) (e4 : a2.m < H.n) (hi : i < 7) (hW : W.length <= 1 + 1000 * i) (hF : F.length <= i) (h : zU8 a1.l (hget H a2.m).l W F i k = true)
    (hk : ∀ W' F', W'.length <= 1 + 1000 * (i + 1) -> F'.length <= i + 1 -> k W' F' = true -> kn () (H2 H W' F') = true) : se1 a1 a2 (aR H.n) (aR (Nat.succ H.n)) (aI (.ofNat i)) (H2 H W F) kn kr = true := by
  obtain ⟨e, he, h⟩ := XA h
  obtain ⟨x, b, m, q1, q2, q3, q4, q5, j, q6, hj, h⟩ := yq2 h
  obtain ⟨r, hr, h⟩ := XA h
  obtain ⟨q8, h⟩ := kd_t (n := r.t) (m := 2) h
  obtain ⟨w, hw, h⟩ := XA h
  obtain ⟨q9, hwl, h⟩ := zE4 h
  obtain ⟨q11, h⟩ := yp7 h
  have rank : ∀ {W F : List AV} {k : AV -> AH -> Bool}, k r (H2 H W F) = true -> Zk (H2 H W F) a2 x k = true := fun {W F k} hk => zz5 e2 (by rw [H2.old hn e4]; exact e3) q3 q6 hj (by rw [H2.old hn e4]; exact hr) hk
  have rankE : ∀ {W F : List AV}, RE (subK Zk (litC a2) (litC x)) (H2 H W F) r := .sub .lit .lit fun k hk => rank hk
  refine zO3 (C := fun r5 => se1b a1 a2 (aR H.n) (aR (Nat.succ H.n)) r5.1 r5.2.1 r5.2.2) (XJ (H2.get0 hn) (Nat.lt_trans hi (by decide)) he (zY6 (C := fun r5 => se1b a1 a2 (aR H.n) (aR (Nat.succ H.n)) r5.1 r5.2.1 r5.2.2) q1 q2 ?_))
  refine ya2 (f := XR gtI) (g := Zk) (x := a2) (y := x) (w := m) (rank (yo4 q8 q5 ?_))
  have rest : ∀ {F' : List AV}, F'.length <= i + 1 -> k (app W (YB (fun c => notB (eqB c.i b.i)) (fun c => aT [c, x, aI (maxI m.i r.i)]) w.l)) F' = true -> Xl (lmC Vx (litC (aR H.n)) (Ze (YM false srcK (fun v k => k v) (subK Zk (litC a1) (litC x)) (fun (v7 : AV) => (cmpK neK (litC v7) (litC b))) (fun (v7 : AV) => (tupC (Ze (litC v7) (Ze (litC x) (Ze (biC maxF (Ze (litC m) (Ze (subK Zk (litC a2) (litC x)) nilL))) nilL)))))) nilL)) () (H2 H W F') (fun (_ : Unit) H3 => kn () H3) kr = true := fun {F'} hF' hk' => by
    have fl := zw8 (fun c => notB (eqB c.i b.i)) (fun c => aT [c, x, aI (maxI m.i r.i)]) w.l
    refine zE1 (args := [aL (YB (fun c => notB (eqB c.i b.i)) (fun c => aT [c, x, aI (maxI m.i r.i)]) w.l)]) (H2.get0 hn) (fun kl hkl => yh4 (sv := w) (k := fun v H1 => kl [v] H1) (fun k hk => Jv e1 q3 q6 hj hw hk) q9 (Nat.lt_of_le_of_lt hwl (by decide)) (fun c hc => ⟨fun kt h => yv6 (q11 c hc) q4 h, fun ke _ h => RE.tup (.cons .lit (.cons .lit (.cons (.bi (f := maxF) (.cons .lit (.cons rankE .nil)) fun k hk => ym4 q5 q8 hk) .nil))) ke h⟩) hkl) ?_
    refine YN (Nat.lt_of_le_of_lt (Nat.le_trans hW (Nat.add_le_add_left (Nat.mul_le_mul_left 1000 (Nat.le_of_lt hi)) 1)) (by decide)) (YN (Nat.lt_of_le_of_lt (Nat.le_trans fl hwl) (by decide)) ?_)
    show kn () (hset (H2 H W F') H.n (oL _)) = true
    rw [H2.set0]
    exact hk _ _ (by rw [ZM, List.length_append]; exact Nat.le_trans (Nat.add_le_add hW (Nat.le_trans fl hwl)) (Nat.le_of_eq (Nat.add_assoc 1 (1000 * i) 1000))) hF' hk'
  cases q : ltB m.i r.i with
  | false =>
    rw [q] at h
    exact rest (Nat.le_succ_of_le hF) h
  | true =>
    rw [q] at h
    refine zb1 (zE1 (args := [aT [r, x]]) (H2.get1 hn) (fun kl hkl => RF.cons (.tup (.cons rankE (.cons .lit .nil))) .nil kl hkl) ?_)
    refine YN (Nat.lt_of_le_of_lt hF (Nat.lt_trans hi (by decide))) ?_
    show Zt () (hset (H2 H W F) (Nat.succ H.n) (oL _)) _ kr = true
    rw [H2.set1]
    exact rest (by rw [ZM, List.length_append]; exact Nat.succ_le_succ hF) h
theorem ya7 {K : List AV -> List AV -> Bool} (hn : Nat.succ (Nat.succ H.n) <= 8000) (e1 : a1.t = 13) (e2 : a2.t = 11) (e3 : (hget H a2.m).t = 0) (e4 : a2.m < H.n) (hK : ∀ W F, K W F = true -> kn () (H2 H W F) = true) : ∀ (n i : Nat) (W F : List AV), i + n = 7 -> W.length <= 1 + 1000 * i -> F.length <= i ->
    zB4 a1.l (hget H a2.m).l n i W F K = true -> forC (fun v4 (_ : Unit) => se1 a1 a2 (aR H.n) (aR (Nat.succ H.n)) v4) (iseq n (.ofNat i) 1) () (H2 H W F) kn kr = true := by
  intro n
  induction n with
  | zero => exact fun i W F _ _ _ h => hK _ _ h
  | succ n ih =>
    intro i W F hi hW hF h
    exact ya6 (k := fun W' F' => zB4 a1.l (hget H a2.m).l n (i + 1) W' F' K) hn e1 e2 e3 e4 (l7 hi) hW hF h fun W' F' w f h => ih (i + 1) W' F' (s7 hi) w f h
end
theorem zd2 {τ : Type} {H : AH} {kn : τ -> AH -> Bool} {kr : AV -> AH -> Bool} {b : CF} {l : List AV} {C : AV -> CS τ} (hb : ∀ kl : List AV -> AH -> Bool, kl l H = true -> b H kl = true) (hn : H.n < 8000) (h : C (aR H.n) (Ym H (oL l)) kn kr = true) : seqC (asgC (Yo true b)) C H kn kr = true := hb _ (show newK (oL l) H (fun x H1 => C x H1 kn kr) = true from zD0 hn h)
theorem zR8 {σ : Type} {H : AH} {f : AV -> σ -> CS σ} {st : σ} {kn : σ -> AH -> Bool} {kr : AV -> AH -> Bool} (h : forC f (iseq 7 (.ofNat 0) 1) st H kn kr = true) : forL (biC Yc (Ze (litC (aI 7)) nilL)) f st H kn kr = true := h
theorem yN8 (a0 a1 a2 : AV) {H : AH} {kn : Unit -> AH -> Bool} {kr : AV -> AH -> Bool} (h : c34 a0 a1 a2 H kn kr = true) : b34 a0 a1 a2 H kn kr = true := by
  obtain ⟨hn, h⟩ := gd_t (b := Nat.ble (Nat.succ (Nat.succ H.n)) (nat_lit 8000)) h
  obtain ⟨e1, h⟩ := kd_t (n := a1.t) (m := 13) h
  obtain ⟨e2, h⟩ := kd_t (n := a2.t) (m := 11) h
  obtain ⟨e3, h⟩ := kd_t (n := (hget H a2.m).t) (m := 0) h
  obtain ⟨e4, h⟩ := gd_t (b := Nat.ble (Nat.succ a2.m) H.n) h
  have hn := Nat.le_of_ble_eq_true hn
  rw [yr9]
  refine zd2 (l := [aT [a0, aI (negI 1), aI 0]]) (fun _ h => h) (Nat.lt_of_succ_lt hn) (zd2 (l := []) (fun _ h => h) hn (zb1 (zR8 ?_)))
  exact ya7 hn e1 e2 e3 (Nat.le_of_ble_eq_true e4) (fun _ _ h => h) 7 0 [aT [a0, aI (negI 1), aI 0]] [] rfl (Nat.le_refl _) (Nat.le_refl _) h
theorem zC3 {f g : AV -> AV -> AV -> CS Unit} (i : ∀ a b c {H : AH} {kn : Unit -> AH -> Bool} {kr : AV -> AH -> Bool}, f a b c H kn kr = true -> g a b c H kn kr = true) (l : List AV) (H : AH) (k : AV -> AH -> Bool) (h : Zn (on3 f) l H k = true) : Zn (on3 g) l H k = true := by
  match l, h with
  | [], h => cases h
  | [_], h => cases h
  | [_, _], h => cases h
  | [_, _, _], h => exact i _ _ _ h
  | _ :: _ :: _ :: _ :: _, h => cases h
theorem Zs.f34c {c : Cfg} {N : Nums} (W : Zs c N) : FnC c 11 34 (N.fd 34) ["sought", "near", "ranks"] (Zn (on3 c34)) := FnC.imp W.f34 (zC3 yN8)
section
variable {σ τ : Type} {H : AH} {x y z u v w : AV} {a b : CE} {c : CF} {l m : List AV} {kn : τ -> AH -> Bool} {kr : AV -> AH -> Bool}
theorem zO4 {f : AV -> σ -> CS σ} {st : σ} {C : σ -> CS τ} (h : forC f (iseq 7 (.ofNat 0) 1) st H (fun v H1 => C v H1 kn kr) kr = true) : seqC (forL (biC Yc (Ze (litC (aI 7)) nilL)) f st) C H kn kr = true := zR8 h
variable {k : AV -> AH -> Bool} {kt : Bool -> AH -> Bool} {i j : Nat}
theorem zi6 {g : Int -> Int -> (Int -> Bool) -> Bool} {r : Int} (h1 : x.t = 2) (h2 : y.t = 2) (hg : g x.i y.i (fun z => k (aI z) H) = true) : intK g H x y k = true := ZR h1 (ZR h2 hg)
theorem zJ7 (h1 : x.t = 2) (e1 : x.i = .ofNat i) (h2 : y.t = 2) (e2 : y.i = .ofNat j) (hk : k (aI (.ofNat (Nat.land i j))) H = true) : intK andG H x y k = true := zi6 (r := 0) h1 h2 (by rw [e1, e2]; exact hk)
theorem zJ6 (h1 : x.t = 2) (e1 : x.i = .ofNat i) (h2 : y.t = 2) (e2 : y.i = .negSucc j) (hk : k (aI (.ofNat (Nat.sub i (Nat.land i j)))) H = true) : intK andG H x y k = true := zi6 (r := 0) h1 h2 (by rw [e1, e2]; exact hk)
theorem yk0 (h1 : x.t = 2) (e1 : x.i = .ofNat i) (h2 : y.t = 2) (e2 : y.i = .ofNat j) (hi : i <= 1000000) (hj : j < 1000) (hk : k (aI (.ofNat (Nat.div i (Nat.pow 2 j)))) H = true) : intK shrG H x y k = true := zi6 (r := 0) h1 h2 (by
  rw [e1, e2]
  exact ZT (b := Nat.blt i 1000000000) (Nat.blt_eq.mpr (Nat.lt_of_le_of_lt hi (by decide))) (ZT (b := Nat.blt j 1000) (Nat.blt_eq.mpr hj) hk))
theorem yn9 (h1 : x.t = 2) (e1 : x.i = .ofNat i) (hk : k (aI (.negSucc i)) H = true) : invK H x k = true := ZR h1 (by rw [e1]; exact hk)
theorem zk7 (h1 : x.t = 2) (e1 : x.i = .ofNat (i + 1)) (hk : k (aI (.ofNat i)) H = true) : intK subG H x (aI 1) k = true := zi6 (r := 0) h1 rfl (by rw [e1]; show k (aI (subI (.ofNat (i + 1)) 1)) H = true; rw [show subI (.ofNat (i + 1)) 1 = .ofNat i from (Jx _ _).trans (Int.add_sub_cancel (i : Int) 1)]; exact hk)
theorem zS2 (h1 : x.t = 2) (e1 : x.i = .ofNat i) (h2 : y.t = 2) (e2 : y.i = .ofNat j) (hk : kt (Nat.beq i j) H = true) : eqK H x y kt = true := Ve h1 (ZR h2 (by rw [e1, e2]; exact hk))
theorem zJ8 {p : AV -> Bool} {l : List AV} (h : ∀ x ∈ l, p x = true) : allL p l = true := by
  induction l with
  | nil => rfl
  | cons x l ih => exact ZT (h x (List.mem_cons_self ..)) (ih fun y hy => h y (List.mem_cons_of_mem _ hy))
theorem yp8 {l : List AV} (hl : ∀ x ∈ l, x.t = 2) (hk : kt (isC l true fun _ _ => false) H = true) : eqK H (aL l) (aL []) kt = true := by
  cases l with
  | nil => exact hk
  | cons x l => exact ZT (zJ8 (p := isIB) fun y hy => by unfold isIB; rw [hl y hy]; rfl) hk
end
noncomputable def XF (xs : List (AV × Bool × AV)) : List AV := List.rec (motive := fun _ => List AV) [] (fun x _ ih => sel x.2.1 (x.2.2 :: ih) ih) xs
theorem zS7 {t : AV -> CT} {el : AV -> CE} {H : AH} (xs : List (AV × Bool × AV)) : ∀ {acc : List AV} {k : List AV -> AH -> Bool}, (∀ x ∈ xs, RT (t x.1) H x.2.1 /\ (x.2.1 = true -> RE (el x.1) H x.2.2)) -> k (app acc (XF xs)) H = true -> zx2 (fun v k => k v) t el (xs.map (·.1)) acc H k = true := by
  induction xs with
  | nil => intro acc k _ hk; rw [ZM, show XF [] = [] from rfl, List.append_nil] at hk; exact hk
  | cons x l ih =>
    intro acc k h hk
    obtain ⟨h1, h2⟩ := h x (List.mem_cons_self ..)
    have ht := fun y hy => h y (List.mem_cons_of_mem _ hy)
    rw [show XF (x :: l) = sel x.2.1 (x.2.2 :: XF l) (XF l) from rfl] at hk
    refine h1 _ ?_
    cases q : x.2.1 with
    | true =>
      rw [q] at hk
      refine h2 q _ (ih ht ?_)
      rw [ZM, ZM, List.append_assoc]
      rw [ZM] at hk
      exact hk
    | false => rw [q] at hk; exact ih ht hk
theorem zX4 {it : CE} {t : AV -> CT} {el : AV -> CE} {sv : AV} {H : AH} (xs : List (AV × Bool × AV)) (hi : RE it H sv) (h13 : sv.t = 13) (hs : sv.l.length < 100000) (e : xs.map (·.1) = sv.l) (h : ∀ x ∈ xs, RT (t x.1) H x.2.1 /\ (x.2.1 = true -> RE (el x.1) H x.2.2)) : RE (YM false srcK (fun v k => k v) it t el) H (aL (XF xs)) :=
  fun k hk => hi _ (Ve (n := sv.t) h13 (YN hs (e ▸ zS7 xs h hk)))
theorem zF0 {xs : List (AV × Bool × AV)} {P : AV -> Prop} (h : ∀ x ∈ xs, P x.2.2) : ∀ y ∈ XF xs, P y := by
  induction xs with
  | nil => exact fun _ h => nomatch h
  | cons x l ih =>
    have ih := ih fun y hy => h y (List.mem_cons_of_mem _ hy)
    rw [show XF (x :: l) = sel x.2.1 (x.2.2 :: XF l) (XF l) from rfl]
    cases x.2.1 with
    | false => exact ih
    | true => exact fun y hy => (List.mem_cons.mp hy).elim (fun e => e ▸ h x (List.mem_cons_self ..)) (ih y)
structure EnC (U K : List AV) (H : AH) (a2 a3 : AV) : Prop where
  u : a2.t = 11
  o : (hget H a2.m).t = 0
  l : (hget H a2.m).l = U
  k : a3.t = 13
  m : a3.l = K
def EnR (U K : List AV) (n L D : Nat) (b : Bool) : Prop := ∀ {H a0 a1 a2 a3 kn kr}, EnC U K H a2 a3 -> a0.t = 2 -> a0.i = .ofNat L -> a1.t = 2 -> a1.i = .ofNat D -> kr (aB b) H = true -> b32 n a0 a1 a2 a3 H kn kr = true
section
variable {U K : List AV} {H : AH} {a0 a1 a2 a3 : AV} {L D n : Nat} {kn : Unit -> AH -> Bool} {kr : AV -> AH -> Bool}
noncomputable def enT1 (a0 : AV) : CT := cmpK eqK (binK (intK andG) (litC a0) (binK (intK subG) (litC a0) (litC (aI 1)))) (litC (aI 0))
theorem zH5 (h : a0.t = 2) (e : a0.i = .ofNat L) : RT (enT1 a0) H (Nat.beq (Nat.land L (Nat.pred L)) 0) := by
  cases L with
  | zero => exact .cmp (.bin .lit (.bin .lit .lit fun k hk => zi6 (r := 0) (k := k) (y := aI 1) h rfl (by rw [e]; exact hk)) fun k hk => zJ6 (k := k) (y := aI (.negSucc 0)) h e rfl rfl hk) .lit fun k hk => zS2 (x := aI (.ofNat 0)) (y := aI 0) rfl rfl rfl rfl hk
  | succ L => exact .cmp (.bin .lit (.bin .lit .lit fun k hk => zk7 (k := k) h e hk) fun k hk => zJ7 (k := k) h e rfl rfl hk) .lit fun k hk => zS2 (y := aI 0) rfl rfl rfl rfl hk
noncomputable def nI (n : Nat) : AV := aI (.ofNat n)
theorem un_R {i : Nat} {x u : AV} (C : EnC U K H a2 a3) (hx : x.t = 2) (ex : x.i = .ofNat i) (hi : i <= 99) (hu : U[i]? = some u) : RE (subK Zk (litC a2) (litC x)) H u := .sub .lit .lit fun k hk => zz5 C.u C.o hx ex (Nat.lt_of_le_of_lt hi (by decide)) (C.l ▸ hu) hk
def AndE (U K : List AV) (L : Nat) (x : AV × Bool × AV) : Prop := x.2.1 = true /\ ∀ {H a0 a2 a3}, EnC U K H a2 a3 -> a0.t = 2 -> a0.i = .ofNat L -> RE (binK (intK andG) (litC a0) (subK Zk (litC a2) (litC x.1))) H x.2.2
theorem zS3 {c : AV} {k : Nat -> Bool} (h : zH7 U L c k = true) : ∃ v, AndE U K L (c, true, nI (Nat.land L v)) /\ k (Nat.land L v) = true := by
  obtain ⟨h1, j, h2, h⟩ := zr1 h
  obtain ⟨h3, h⟩ := gd_t (b := Nat.ble j (nat_lit 99)) h
  obtain ⟨u, h4, h⟩ := XA h
  obtain ⟨h5, v, h6, h⟩ := zr1 h
  exact ⟨v, ⟨rfl, fun {H a0 a2 a3} C ha e0 => .bin .lit (un_R C h1 h2 (Nat.le_of_ble_eq_true h3) h4) fun k hk => zJ7 ha e0 h5 h6 hk⟩, h⟩
theorem zH6 {l : List AV} : ∀ {k : List Nat -> Bool}, zo2 U L l k = true -> ∃ xs ps, xs.map (·.1) = l /\ (∀ x ∈ xs, AndE U K L x) /\ XF xs = ps.map nI /\ k ps = true := by
  induction l with
  | nil => exact fun h => ⟨[], [], rfl, fun _ h => (nomatch h), rfl, h⟩
  | cons c l ih =>
    intro k h
    have h : zH7 U L c (fun v => zo2 U L l fun ps => k (v :: ps)) = true := h
    obtain ⟨v, h1, h⟩ := zS3 h
    obtain ⟨xs, ps, e1, e2, e3, h⟩ := ih h
    refine ⟨(c, true, nI (Nat.land L v)) :: xs, Nat.land L v :: ps, congrArg (c :: ·) e1, fun x hx => ?_, congrArg (nI (Nat.land L v) :: ·) e3, h⟩
    rcases List.mem_cons.mp hx with rfl | hx
    · exact h1
    · exact e2 x hx
noncomputable def allB (xs : List (Nat × Bool)) : Bool := List.rec (motive := fun _ => Bool) true (fun x _ r => Bool.rec (motive := fun _ => Bool) false r x.2) xs
theorem yh1 {D : Nat} (ih : ∀ (p : Nat) (k : Bool -> Bool), enB U K n p D k = true -> ∃ b, EnR U K n p D b /\ k b = true) (ps : List Nat) : ∀ {k : Bool -> Bool}, yq6 (fun p => enB U K n p D) ps k = true -> ∃ xs : List (Nat × Bool), xs.map (·.1) = ps /\ (∀ x ∈ xs, EnR U K n x.1 D x.2) /\ k (allB xs) = true := by
  induction ps with
  | nil => exact fun h => ⟨[], rfl, fun _ h => (nomatch h), h⟩
  | cons p ps ih2 =>
    intro k h
    obtain ⟨b, hb, h⟩ := ih p _ h
    obtain ⟨xs, e1, e2, h⟩ := ih2 h
    refine ⟨(p, b) :: xs, congrArg (p :: ·) e1, fun x hx => ?_, h⟩
    rcases List.mem_cons.mp hx with rfl | hx
    · exact hb
    · exact e2 x hx
noncomputable def enC (rec : AV -> AV -> AV -> AV -> CS Unit) (a1 a2 a3 v6 : AV) : CE := YM false srcK (fun v k => k v) (litC v6) (fun (v10 : AV) => (notT (asT (ZC (Zn (on4 rec)) (Ze (litC v10) (Ze (binK (intK subG) (litC a1) (litC (aI 1))) (Ze (litC a2) (Ze (litC a3) nilL)))))))) (fun (v10 : AV) => (litC v10))
theorem yN1 {D : Nat} {xs : List (Nat × Bool)} (C : EnC U K H a2 a3) (h1 : a1.t = 2) (e1 : a1.i = .ofNat (D + 1)) (hs : xs.length < 100000) (hx : ∀ x ∈ xs, EnR U K n x.1 D x.2) : RT (cmpK eqK (enC (b32 n) a1 a2 a3 (aL ((xs.map (·.1)).map nI))) (Yo false nilL)) H (allB xs) := by
  have r : isC (XF (xs.map fun x => (nI x.1, notB x.2, nI x.1))) true (fun _ _ => false) = allB xs := by
    clear hx hs
    induction xs with
    | nil => rfl
    | cons x xs ih =>
      show isC (sel (notB x.2) (nI x.1 :: XF (xs.map fun x => (nI x.1, notB x.2, nI x.1))) (XF (xs.map fun x => (nI x.1, notB x.2, nI x.1)))) true _ = Bool.rec false (allB xs) x.2
      cases x.2 with
      | true => exact ih
      | false => rfl
  refine .cmp (zX4 (sv := aL ((xs.map (·.1)).map nI)) (xs.map fun x => (nI x.1, notB x.2, nI x.1)) .lit rfl (by show (List.map _ _).length < _; rw [List.length_map, List.length_map]; exact hs) (by rw [List.map_map, List.map_map]; rfl) fun y hy => ?_) (.disp .nil) fun k hk => yp8 (zF0 (P := fun y => y.t = 2) fun x hx => ?_) (by rw [r]; exact hk)
  · obtain ⟨x, hx', rfl⟩ := List.mem_map.mp hy
    refine ⟨.not (RT.as (x := aB x.2) (.call (l := [nI x.1, nI D, a2, a3]) (.cons .lit (.cons (.bin .lit .lit fun k hk => zk7 h1 e1 hk) (.cons .lit (.cons .lit .nil)))) fun k hk => ?_) rfl), fun _ => .lit⟩
    exact hx x hx' C rfl rfl rfl rfl hk
  · obtain ⟨x, _, rfl⟩ := List.mem_map.mp hx
    rfl
noncomputable def enS (rec : AV -> AV -> AV -> AV -> CS Unit) (a0 a1 a2 a3 v4 : AV) : CS Unit := seqC (asgC (binK ZW (Yo false (Ze (binK (intK andG) (litC a0) (unK invK (subK Zk (litC a2) (litC v4)))) nilL)) (YM false srcK (fun v k => k v) (subK Zk (litC a3) (litC v4)) (fun (_ : AV) => yesT) (fun (v7 : AV) => (binK (intK andG) (litC a0) (subK Zk (litC a2) (litC v7))))))) (fun v6 => seqC (ifC (cmpK eqK (enC rec a1 a2 a3 v6) (Yo false nilL)) (retC (litC (aB true))) (Zt ()) : CS (Unit)) (fun (_ : Unit) => Zt ()))
noncomputable def enT2 (a0 v4 : AV) : CT := cmpK eqK (binK (intK andG) (binK (intK shrG) (litC a0) (litC v4)) (litC (aI 1))) (litC (aI 1))
noncomputable def enL (rec : AV -> AV -> AV -> AV -> CS Unit) (a0 a1 a2 a3 v4 : AV) : CS Unit := seqC (ifC (enT2 a0 v4) (enS rec a0 a1 a2 a3 v4) (Zt ())) fun (_ : Unit) => Zt ()
theorem zH8 (rec : AV -> AV -> AV -> AV -> CS Unit) (a0 a1 a2 a3 : AV) : e32 rec a0 a1 a2 a3 = seqC (ifC (enT1 a0) (retC (orE (Jd (cmpK eqK (litC a0) (litC (aI 0)))) (Jd (cmpK (XR gtI) (litC a1) (litC (aI 0)))))) (Zt ())) fun (_ : Unit) => seqC (ifC (cmpK ltK (litC a1) (litC (aI 2))) (retC (litC (aB false))) (Zt ())) fun (_ : Unit) =>
    seqC (forL (biC Yc (Ze (litC (aI 7)) nilL)) (fun v4 (_ : Unit) => enL rec a0 a1 a2 a3 v4) ()) fun _ => retC (litC (aB false)) := rfl
theorem ys4 {l m : List AV} {k : AV -> AH -> Bool} (h1 : l.length < 100000) (h2 : m.length < 100000) (hk : k (aL (app l m)) H = true) : ZW H (aL l) (aL m) k = true := YN h1 (YN h2 hk)
theorem zE9 (xs : List (AV × Bool × AV)) : (XF xs).length <= xs.length := by
  induction xs with
  | nil => exact Nat.le_refl _
  | cons y ys ih =>
    rw [show XF (y :: ys) = sel y.2.1 (y.2.2 :: XF ys) (XF ys) from rfl]
    cases y.2.1
    · exact Nat.le_succ_of_le ih
    · exact Nat.succ_le_succ ih
def TryR (U K : List AV) (L n D i : Nat) (b : Bool) : Prop := ∀ {H a0 a1 a2 a3} {kr : AV -> AH -> Bool} {knu : Unit -> AH -> Bool}, EnC U K H a2 a3 -> a0.t = 2 -> a0.i = .ofNat L -> a1.t = 2 -> a1.i = .ofNat (D + 1) -> sel b (kr (aB true) H) (knu () H) = true -> enS (b32 n) a0 a1 a2 a3 (aI (.ofNat i)) H knu kr = true
theorem yh0 {D i : Nat} {k : Bool -> Bool} (ih : ∀ (p : Nat) (k : Bool -> Bool), enB U K n p D k = true -> ∃ b, EnR U K n p D b /\ k b = true) (hi : i < 7) (h : yq3 U K (fun p => enB U K n p D) L i k = true) : ∃ b, TryR U K L n D i b /\ k b = true := by
  obtain ⟨u, hu, h⟩ := XA h
  obtain ⟨ut, v, ui, h⟩ := zr1 h
  obtain ⟨w, hw, h⟩ := XA h
  obtain ⟨wt, wl, h⟩ := zE4 h
  obtain ⟨ys, ps, ey, hy, ep, h⟩ := zH6 (K := K) h
  obtain ⟨xs, ex, hx, h⟩ := yh1 ih _ h
  have hps : ps.length <= 1000 := by
    have h1 := zE9 ys
    rw [ep, List.length_map] at h1
    have h2 := congrArg List.length ey
    rw [List.length_map] at h2
    exact Nat.le_trans h1 (h2 ▸ wl)
  have hxs : xs.length <= 1001 := by
    have h2 := congrArg List.length ex
    rw [List.length_map] at h2
    rw [h2]
    exact Nat.succ_le_succ hps
  refine ⟨allB xs, fun {H a0 a1 a2 a3 kr knu} C h0 e0 h1 e1 hk => ?_, h⟩
  have un : RE (subK Zk (litC a2) (litC (aI (.ofNat i)))) H u := un_R C rfl rfl (Nat.le_of_lt (Nat.lt_trans hi (by decide))) hu
  refine zO5 (x := aL ((xs.map (·.1)).map nI)) (.bin (.disp (.cons (.bin .lit (.un un fun k hk => yn9 ut ui hk) fun k hk => zJ6 h0 e0 rfl rfl hk) .nil)) (zX4 (sv := w) ys (.sub .lit .lit fun k hk => Jv C.k rfl rfl (Nat.lt_trans hi (by decide)) (C.m ▸ hw) hk) wt (Nat.lt_of_le_of_lt wl (by decide)) ey fun x hx => ?_) fun k hk => ?_) (VK (yN1 C h1 e1 (Nat.lt_of_le_of_lt hxs (by decide)) hx) hk)
  · obtain ⟨q1, q2⟩ := hy x hx
    exact ⟨fun k hk => by rw [q1] at hk; exact hk, fun _ => q2 C h0 e0⟩
  · refine ys4 (show 1 < 100000 by decide) (by rw [ep, List.length_map]; exact Nat.lt_of_le_of_lt hps (by decide)) ?_
    rw [ep]
    rw [ex] at hk
    exact hk
theorem yq4 {i : Nat} (hL : L <= 1000000) (hi : i < 7) (h : a0.t = 2) (e : a0.i = .ofNat L) : RT (enT2 a0 (aI (.ofNat i))) H (zx0 L i) := .cmp (.bin (.bin .lit .lit fun k hk => yk0 (k := k) h e rfl rfl hL (Nat.lt_trans hi (by decide)) hk) .lit fun k hk => zJ7 (k := k) (y := aI (.ofNat 1)) rfl rfl rfl rfl hk) .lit fun k hk => zS2 (y := aI (.ofNat 1)) rfl rfl rfl rfl hk
def zT7 (U K : List AV) (L n D m i : Nat) (b : Bool) : Prop := ∀ {H a0 a1 a2 a3} {kr : AV -> AH -> Bool}, EnC U K H a2 a3 -> a0.t = 2 -> a0.i = .ofNat L -> a1.t = 2 -> a1.i = .ofNat (D + 1) -> kr (aB b) H = true -> forC (fun v4 (_ : Unit) => enL (b32 n) a0 a1 a2 a3 v4) (iseq m (.ofNat i) 1) () H (fun _ H1 => kr (aB false) H1) kr = true
theorem zE0 {D m i : Nat} {b : Bool} (hL : L <= 1000000) (hi : i < 7) (h1 : zx0 L i = true -> ∃ r, TryR U K L n D i r /\ (r = true -> b = true) /\ (r = false -> zT7 U K L n D m (i + 1) b)) (h2 : zx0 L i = false -> zT7 U K L n D m (i + 1) b) : zT7 U K L n D (m + 1) i b := fun {H a0 a1 a2 a3 kr} C h0 e0 q1 e1 hk => by
  refine VK (yq4 hL hi h0 e0) ?_
  cases e : zx0 L i with
  | true =>
    obtain ⟨r, t, r1, r2⟩ := h1 e
    refine t C h0 e0 q1 e1 ?_
    cases r with
    | true => rw [r1 rfl] at hk; exact hk
    | false => exact r2 rfl C h0 e0 q1 e1 hk
  | false => exact h2 e C h0 e0 q1 e1 hk
theorem zS4 {D : Nat} (ih : ∀ (p : Nat) (k : Bool -> Bool), enB U K n p D k = true -> ∃ b, EnR U K n p D b /\ k b = true) (hL : L <= 1000000) {kk : Bool -> Bool} : ∀ (m i : Nat), i + m = 7 -> zX1 U K (fun p => enB U K n p D) L kk m i = true -> ∃ b, kk b = true /\ zT7 U K L n D m i b := by
  intro m
  induction m with
  | zero => exact fun i _ h => ⟨false, h, fun _ _ _ _ _ h => h⟩
  | succ m ihm =>
    intro i hi h
    rcases YR (b := zx0 L i) h with ⟨e, h⟩ | ⟨e, h⟩
    · obtain ⟨r, t, h⟩ := yh0 ih (l7 hi) h
      cases r with
      | true => exact ⟨true, h, zE0 hL (l7 hi) (fun _ => ⟨true, t, fun _ => rfl, fun q => nomatch q⟩) fun q => nomatch e.symm.trans q⟩
      | false =>
        obtain ⟨b, hb, h⟩ := ihm (i + 1) (s7 hi) h
        exact ⟨b, hb, zE0 hL (l7 hi) (fun _ => ⟨false, t, fun q => (nomatch q), fun _ => h⟩) fun q => nomatch e.symm.trans q⟩
    · obtain ⟨b, hb, h⟩ := ihm (i + 1) (s7 hi) h
      exact ⟨b, hb, zE0 hL (l7 hi) (fun q => nomatch e.symm.trans q) fun _ => h⟩
theorem ym6 {x y : AV} {kt : Bool -> AH -> Bool} (h1 : x.t = 2) (h2 : y.t = 2) (hk : kt (ltB x.i y.i) H = true) : ltK H x y kt = true := zD7 h1 h2 hk
theorem yN2 : ∀ (n L D : Nat) {k : Bool -> Bool}, enB U K n L D k = true -> ∃ b, EnR U K n L D b /\ k b = true := by
  intro n
  induction n with
  | zero => intro L D k h; cases h
  | succ n ih =>
    intro L D k h
    rcases YR (b := Nat.beq (Nat.land L (Nat.pred L)) 0) h with ⟨e, h⟩ | ⟨e, h⟩
    · have go : ∀ {H : AH} {a0 a1 a2 a3 : AV} {kn : Unit -> AH -> Bool} {kr : AV -> AH -> Bool}, a0.t = 2 -> a0.i = .ofNat L -> a1.t = 2 -> a1.i = .ofNat D -> sel (Nat.beq L 0) (kr (aB true) H) (kr (aB (Nat.ble 1 D)) H) = true -> b32 (n + 1) a0 a1 a2 a3 H kn kr = true := fun {H a0 a1 a2 a3 kn kr} h0 e0 h1 e1 hk => by
        show e32 (b32 n) a0 a1 a2 a3 H kn kr = true
        rw [zH8]
        refine VK (zH5 h0 e0) (Vl e ?_)
        show eqK H a0 (aI (.ofNat 0)) (fun b H1 => kd (aB b).t 1 (sel (aB b).b (kr (aB b) H1) (Jd (cmpK (XR gtI) (litC a1) (litC (aI 0))) H1 kr))) = true
        refine zS2 h0 e0 rfl rfl (ZR rfl ?_)
        show sel (Nat.beq L 0) (kr (aB (Nat.beq L 0)) H) _ = true
        rcases YR hk with ⟨q, hk⟩ | ⟨q, hk⟩
        · rw [q]; exact hk
        · rw [q]
          refine yo4 (x := a1) (y := aI (.ofNat 0)) (k := fun b H1 => kr (aB b) H1) h1 rfl ?_
          rw [e1]
          exact hk
      rcases YR (b := Nat.beq L 0) h with ⟨q, h⟩ | ⟨q, h⟩
      · exact ⟨true, fun {H a0 a1 a2 a3 kn kr} _ h0 e0 h1 e1 hk => go h0 e0 h1 e1 (Vl q hk), h⟩
      · exact ⟨_, fun {H a0 a1 a2 a3 kn kr} _ h0 e0 h1 e1 hk => go h0 e0 h1 e1 (YT q hk), h⟩
    · rcases YR (b := Nat.ble 2 D) h with ⟨q, h⟩ | ⟨q, h⟩
      · obtain ⟨hL, h⟩ := gd_t (b := Nat.ble L 1000000) h
        have q2 := Nat.le_of_ble_eq_true q
        obtain ⟨m, rfl⟩ : ∃ m, D = m + 1 := ⟨D - 1, (Nat.sub_add_cancel (Nat.le_of_succ_le q2)).symm⟩
        obtain ⟨b, hb, r⟩ := zS4 (n := n) (D := m) (fun p k h => ih p m h) (Nat.le_of_ble_eq_true hL) 7 0 rfl h
        refine ⟨b, fun {H a0 a1 a2 a3 kn kr} C h0 e0 h1 e1 hk => ?_, hb⟩
        show e32 (b32 n) a0 a1 a2 a3 H kn kr = true
        rw [zH8]
        refine VK (zH5 h0 e0) (YT e (VJ (ym6 h1 rfl (YT ?_ (zO4 (r C h0 e0 h1 e1 hk))))))
        rw [e1]
        show Nat.blt (m + 1) 2 = false
        exact Bool.eq_false_iff.mpr fun z => absurd (Nat.blt_eq.mp z) (Nat.not_lt.mpr q2)
      · refine ⟨false, fun {H a0 a1 a2 a3 kn kr} C h0 e0 h1 e1 hk => ?_, h⟩
        show e32 (b32 n) a0 a1 a2 a3 H kn kr = true
        rw [zH8]
        refine VK (zH5 h0 e0) (YT e (VJ (ym6 h1 rfl (Vl ?_ hk))))
        rw [e1]
        show Nat.blt D 2 = true
        exact Nat.blt_eq.mpr (Nat.lt_of_not_le fun z => by rw [Nat.ble_eq.mpr z] at q; cases q)
end
theorem yN9 (a0 a1 a2 a3 : AV) {H : AH} {kn : Unit -> AH -> Bool} {kr : AV -> AH -> Bool} (h : c32 a0 a1 a2 a3 H kn kr = true) : b32 9 a0 a1 a2 a3 H kn kr = true := by
  obtain ⟨h0, h⟩ := kd_t (n := a0.t) (m := 2) h
  obtain ⟨L, e0, h⟩ := ZO (i := a0.i) h
  obtain ⟨h1, h⟩ := kd_t (n := a1.t) (m := 2) h
  obtain ⟨D, e1, h⟩ := ZO (i := a1.i) h
  obtain ⟨h2, h⟩ := kd_t (n := a2.t) (m := 11) h
  obtain ⟨h3, h⟩ := kd_t (n := (hget H a2.m).t) (m := 0) h
  obtain ⟨h4, h⟩ := kd_t (n := a3.t) (m := 13) h
  obtain ⟨b, hb, h⟩ := yN2 _ _ _ h
  exact hb ⟨h2, h3, rfl, h4, rfl⟩ h0 e0 h1 e1 h
theorem yc2 {f g : AV -> AV -> AV -> AV -> CS Unit} (i : ∀ a b c d {H : AH} {kn : Unit -> AH -> Bool} {kr : AV -> AH -> Bool}, f a b c d H kn kr = true -> g a b c d H kn kr = true) (l : List AV) (H : AH) (k : AV -> AH -> Bool) (h : Zn (on4 f) l H k = true) : Zn (on4 g) l H k = true := by
  match l, h with
  | [], h => cases h
  | [_], h => cases h
  | [_, _], h => cases h
  | [_, _, _], h => cases h
  | [_, _, _, _], h => exact i _ _ _ _ h
  | _ :: _ :: _ :: _ :: _ :: _, h => cases h
theorem Zs.f32c {c : Cfg} {N : Nums} (W : Zs c N) : FnC c 17 32 (N.fd 32) ["left", "depth", "unders", "kids"] (Zn (on4 c32)) := FnC.imp (W.f32 9) (yc2 yN9)
theorem s29 {c : Cfg} {N : Nums} (T : List Nat) (W : Zs c N) (X : zp3 c N T) (a0 a1 : AV) : SimS c 12 (Zv 29).names [("names", a0), ("size", a1)] (Ye 29) (fun _ : Unit => []) (b29 T a0 a1) :=
  (Zc (Zm zq1 (by decide +kernel)) (fun v1 =>
  (Zc (Jl (Γi := []) (Za (by rfl)) ⟨rfl, (by decide +kernel), (by decide +kernel), (by decide +kernel), YE⟩ (by decide +kernel) (fun (v3 : AV) => YQ) (fun (v3 : AV) => (ZD Zd)) (by decide +kernel) (by decide +kernel)) (fun v2 =>
  (Zc (Zm (ZD Zd) (by decide +kernel)) (fun v5 =>
  (Zc (Zm zq1 (by decide +kernel)) (fun v6 =>
  (Zc (g := fun (r7 : Unit) => ([("below", v6), ("told", v5), ("gone", v2), ("piles", v1), ("names", a0), ("size", a1)] : Ctx)) (ZY (g := fun (r7 : Unit) => ([("below", v6), ("told", v5), ("gone", v2), ("piles", v1), ("names", a0), ("size", a1)] : Ctx)) (Za (by rfl)) (by decide +kernel) Sub.refl (fun v8 (r7 : Unit) =>
  (Zc (g := fun (_ : Unit) => ([("name", v8), ("below", v6), ("told", v5), ("gone", v2), ("piles", v1), ("names", a0), ("size", a1)] : Ctx)) (Xc (x := ()) W.S (ZD Zd) (Za (by rfl)) (Za (by rfl)) Sub.refl) (fun _ =>
  (Zj () (Zf (by rfl) Sub.refl)))))) (fun (r7 : Unit) =>
  (Zc (g := fun (r9 : Unit) => ([("below", v6), ("told", v5), ("gone", v2), ("piles", v1), ("names", a0), ("size", a1)] : Ctx)) (ZY (g := fun (r9 : Unit) => ([("below", v6), ("told", v5), ("gone", v2), ("piles", v1), ("names", a0), ("size", a1)] : Ctx)) (ZF W.S ZL (.inr ⟨_, rfl⟩) (by rfl) (W.no _ (by decide)) (by decide +kernel) (Zb Zg (Zb (Xi Xz Zg) (Zb (Xi Xz Zg) Zd))) (by decide) (by decide)) (by decide +kernel) Sub.refl (fun v10 (r9 : Unit) =>
  (Zc (Zm (Zp W.S (W.D 16 rfl) W.f16 (by decide) (W.name (i := 16) rfl (by decide +kernel)) (by decide +kernel) (Zb (Zl (Zz Vc) (Za (by rfl)) Zg) (Zb Zg Zd)) (W.bp2 16 (by decide)) rfl (by decide)) (by decide +kernel)) (fun v11 =>
  (Zc (Zm (ZD Zd) (by decide +kernel)) (fun v12 =>
  (Zc (g := fun (r13 : Unit) => ([("row", v12), ("odd", v11), ("k", v10), ("below", v6), ("told", v5), ("gone", v2), ("piles", v1), ("names", a0), ("size", a1)] : Ctx)) (zc9 (g := fun (r13 : Unit) => ([("row", v12), ("odd", v11), ("k", v10), ("below", v6), ("told", v5), ("gone", v2), ("piles", v1), ("names", a0), ("size", a1)] : Ctx)) (zf4 W.S W.AF) (Zh W.get (Za (by rfl)) (Zh W.get (Za (by rfl)) (Za (by rfl)))) (by decide +kernel) Sub.refl (fun v14 (r13 : Unit) =>
  (Zc (g := fun (r15 : Unit) => ([("child", v14), ("row", v12), ("odd", v11), ("k", v10), ("below", v6), ("told", v5), ("gone", v2), ("piles", v1), ("names", a0), ("size", a1)] : Ctx)) (zc9 (g := fun (r15 : Unit) => ([("child", v14), ("row", v12), ("odd", v11), ("k", v10), ("below", v6), ("told", v5), ("gone", v2), ("piles", v1), ("names", a0), ("size", a1)] : Ctx)) (zf4 W.S W.AF) (Zh W.get (Za (by rfl)) (Za (by rfl))) (by decide +kernel) Sub.refl (fun v16 (r15 : Unit) =>
  (Zc (g := fun (_ : Unit) => ([("piece", v16), ("child", v14), ("row", v12), ("odd", v11), ("k", v10), ("below", v6), ("told", v5), ("gone", v2), ("piles", v1), ("names", a0), ("size", a1)] : Ctx)) (Yq (x := ()) (Xx PySem.F.slot_list_append (by kernel_rfl) YH (Za (by rfl)) (Zb (zl5 (Xd (Za (by rfl))) (Yv W.S (W.D 10 rfl) W.f10 (by decide) (W.name (i := 10) rfl (by decide +kernel)) (by decide +kernel) (Zb (Za (by rfl)) (Zb (Za (by rfl)) Zd)) (VI W.S (W.D 28 rfl) (W.name (i := 28) rfl (by decide +kernel)) (by decide +kernel) (by decide)) (W.kw2 10 (by decide)) rfl (by decide)) (Yv W.S (W.D 8 rfl) W.f8 (by decide) (W.name (i := 8) rfl (by decide +kernel)) (by decide +kernel) (Zb (Za (by rfl)) (Zb (Za (by rfl)) Zd)) (VI W.S (W.D 28 rfl) (W.name (i := 28) rfl (by decide +kernel)) (by decide +kernel) (by decide)) (W.kw2 8 (by decide)) rfl (by decide))) Zd)) Sub.refl) (fun _ =>
  (Zj () (Zf (by rfl) Sub.refl)))))) (fun (r15 : Unit) =>
  (Zj () (Zf (by rfl) Sub.refl)))))) (fun (r13 : Unit) =>
  (Zc (Zm (zu8 (d := 12 - 2) W.S W.m0 W.sup W.halI W.g0.1 W.g0.2 W.nA W.kA (by decide +kernel) W.p0 (Zb (Za (by rfl)) Zd) (by decide)) (by decide +kernel)) (fun v17 =>
  (Zc (Zm Zg (by decide +kernel)) (fun v18 =>
  (Zc (g := fun (r19 : AV) => ([("least", r19), ("pile", v17), ("row", v12), ("odd", v11), ("k", v10), ("below", v6), ("told", v5), ("gone", v2), ("piles", v1), ("names", a0), ("size", a1)] : Ctx)) (zc9 (g := fun (r19 : AV) => ([("least", r19), ("pile", v17), ("row", v12), ("odd", v11), ("k", v10), ("below", v6), ("told", v5), ("gone", v2), ("piles", v1), ("names", a0), ("size", a1)] : Ctx)) (zf4 W.S W.AF) (Za (by rfl)) (by decide +kernel) Sub.refl (fun v20 (r19 : AV) =>
  (Zc (g := fun (_ : Unit) => ([("piece", v20), ("least", r19), ("pile", v17), ("row", v12), ("odd", v11), ("k", v10), ("below", v6), ("told", v5), ("gone", v2), ("piles", v1), ("names", a0), ("size", a1)] : Ctx)) (Yq (x := ()) (Xx PySem.F.slot_list_append (by kernel_rfl) YH (Za (by rfl)) (Zb (XW W.S W.sup.toAccG W.m1.l W.f101 (by decide) (Za (by rfl)) (Zb (Zh W.get (Za (by rfl)) Zg) (Zb (Zh W.get (Za (by rfl)) Zg) Zd)) W.p1 rfl (by decide)) Zd)) Sub.refl) (fun _ =>
  (Zc (Zm (Zp W.S (W.D 28 rfl) W.f28 (by decide) (W.name (i := 28) rfl (by decide +kernel)) (by decide +kernel) (Zb (Za (by rfl)) Zd) W.bp28 rfl (by decide)) (by decide +kernel)) (fun v21 =>
  (Zc (g := fun (r22 : AV) => ([("least", r22), ("fall", v21), ("piece", v20), ("pile", v17), ("row", v12), ("odd", v11), ("k", v10), ("below", v6), ("told", v5), ("gone", v2), ("piles", v1), ("names", a0), ("size", a1)] : Ctx)) (ZJ (g := fun (r22 : AV) => ([("least", r22), ("fall", v21), ("piece", v20), ("pile", v17), ("row", v12), ("odd", v11), ("k", v10), ("below", v6), ("told", v5), ("gone", v2), ("piles", v1), ("names", a0), ("size", a1)] : Ctx)) (Xq (Xd (Zp W.S (W.D 17 rfl) W.f17 (by decide) (W.name (i := 17) rfl (by decide +kernel)) (by decide +kernel) (Zb Zg (Zb (Zp W.S (W.D 20 rfl) W.f20 (by decide) (W.name (i := 20) rfl (by decide +kernel)) (by decide +kernel) (Zb (Yv W.S (W.D 9 rfl) W.f9 (by decide) (W.name (i := 9) rfl (by decide +kernel)) (by decide +kernel) (Zb (Za (by rfl)) (Zb (Za (by rfl)) Zd)) (VI W.S (W.D 28 rfl) (W.name (i := 28) rfl (by decide +kernel)) (by decide +kernel) (by decide)) (W.kw2 9 (by decide)) rfl (by decide)) (Zb (Yv W.S (W.D 11 rfl) W.f11 (by decide) (W.name (i := 11) rfl (by decide +kernel)) (by decide +kernel) (Zb (Za (by rfl)) (Zb (Za (by rfl)) Zd)) (VI W.S (W.D 28 rfl) (W.name (i := 28) rfl (by decide +kernel)) (by decide +kernel) (by decide)) (W.kw2 11 (by decide)) rfl (by decide)) Zd)) (W.bp2 20 (by decide)) rfl (by decide)) Zd)) (W.bp2 17 (by decide)) rfl (by decide)))) (Zc (Zm (ZF W.S zX7 (.inl ⟨_, rfl⟩) (by rfl) (W.no _ (by decide)) (by decide +kernel) (Zb (Za (by rfl)) (Zb (ZF W.S (W.bl (d := 12 - 2)) (.inl ⟨_, rfl⟩) (by rfl) (W.no _ (by decide)) (by decide +kernel) (Zb (Zh W.get (Za (by rfl)) Zg) Zd) (by decide) (by decide)) Zd)) (by decide) (by decide)) (by decide +kernel)) (fun v23 =>
  (Zj v23 (Zi (by rfl) (Zi (by rfl) (Zi (by rfl) (Zf (by rfl) (Zf (by rfl) (Zf (by rfl) (Zf (by rfl) Sub.refl)))))))))) (Zj r19 (Zi (by rfl) (Zi (by rfl) (Zi (by rfl) (Zf (by rfl) (Zf (by rfl) (Zf (by rfl) Sub.refl)))))))) (fun (r22 : AV) =>
  (Zj r22 (Zi (by rfl) (Zf (by rfl) (Zf (by rfl) (Zf (by rfl) Sub.refl))))))))))))) (fun (r19 : AV) =>
  (Zc (Zm (Yv W.S (W.D 11 rfl) W.f11 (by decide) (W.name (i := 11) rfl (by decide +kernel)) (by decide +kernel) (Zb (Za (by rfl)) (Zb (Zp W.S (W.D 19 rfl) W.f19 (by decide) (W.name (i := 19) rfl (by decide +kernel)) (by decide +kernel) (Zb (Za (by rfl)) Zd) W.bp19 rfl (by decide)) (Zb Zg (Zb (XW W.S W.sup.toAccG W.m8.l W.f108 (by decide) (Za (by rfl)) Zd W.p8 rfl (by decide)) Zd)))) (VI W.S (W.D 28 rfl) (W.name (i := 28) rfl (by decide +kernel)) (by decide +kernel) (by decide)) (W.kw4 11 (by decide)) rfl (by decide)) (by decide +kernel)) (fun v24 =>
  (Zc (Zm (zM9 (d := 12) W.S W.lamD W.lam W.kl11 (by decide) (W.no _ (by decide)) (W.no _ (by decide)) ⟨(by decide +kernel), (by decide +kernel), (by decide +kernel), (by decide +kernel), (by decide +kernel), (by decide +kernel), (by decide +kernel), (by decide +kernel), (by decide +kernel), (by decide +kernel), (by decide +kernel), (by decide +kernel), (by decide +kernel), (by decide +kernel), (by decide +kernel), (by decide +kernel), (by decide +kernel), (by rw [W.ps]; decide +kernel), W.ps.symm, (by rw [W.ps]; decide +kernel)⟩ (by rfl) (by rfl) (by rfl) (by decide +kernel) (by decide +kernel) (by decide +kernel) (fun _ => rfl) (fun _ _ _ => zS9 (fun s u => BindsTo.of_eq (by with_unfolding_all rfl)))) (by decide +kernel)) (fun v25 =>
  (Zc (g := fun (_ : Unit) => ([("keep", v25), ("over", v24), ("least", r19), ("pile", v17), ("row", v12), ("odd", v11), ("k", v10), ("below", v6), ("told", v5), ("gone", v2), ("piles", v1), ("names", a0), ("size", a1)] : Ctx)) (Xc (x := ()) W.S (XW W.S W.sup.toAccG W.m2.l W.f102 (by decide) (Za (by rfl)) (Zb (Za (by rfl)) Zd) W.p2 rfl (by decide)) (Za (by rfl)) (Za (by rfl)) Sub.refl) (fun _ =>
  (Zc (g := fun (_ : Unit) => ([("keep", v25), ("over", v24), ("least", r19), ("pile", v17), ("row", v12), ("odd", v11), ("k", v10), ("below", v6), ("told", v5), ("gone", v2), ("piles", v1), ("names", a0), ("size", a1)] : Ctx)) (Yq (x := ()) (Xx PySem.F.slot_list_append (by kernel_rfl) YH (Za (by rfl)) (Zb (XW W.S W.sup.toAccG W.m1.l W.f101 (by decide) (Za (by rfl)) (Zb (Zl zd7 (Zy (by decide +kernel)) (Zl (ZI W.hh) (Zl (Zz JD) (Zl (ZI W.hh) (Za (by rfl)) (Za (by rfl))) (Za (by rfl))) Zg)) (Zb (Zh W.get (Zy (by decide +kernel)) (Za (by rfl))) Zd)) W.p1 rfl (by decide)) Zd)) Sub.refl) (fun _ =>
  (Zc (g := fun (_ : Unit) => ([("keep", v25), ("over", v24), ("least", r19), ("pile", v17), ("row", v12), ("odd", v11), ("k", v10), ("below", v6), ("told", v5), ("gone", v2), ("piles", v1), ("names", a0), ("size", a1)] : Ctx)) (Xc (x := ()) W.S (Za (by rfl)) (Za (by rfl)) (Zh W.get (Za (by rfl)) (Za (by rfl))) Sub.refl) (fun _ =>
  (Zc (g := fun (r26 : Unit) => ([("keep", v25), ("over", v24), ("least", r19), ("pile", v17), ("row", v12), ("odd", v11), ("k", v10), ("below", v6), ("told", v5), ("gone", v2), ("piles", v1), ("names", a0), ("size", a1)] : Ctx)) (ZJ (g := fun (r26 : Unit) => ([("keep", v25), ("over", v24), ("least", r19), ("pile", v17), ("row", v12), ("odd", v11), ("k", v10), ("below", v6), ("told", v5), ("gone", v2), ("piles", v1), ("names", a0), ("size", a1)] : Ctx)) (Zq zC5 (Za (by rfl)) Zg) (Zc (g := fun (_ : Unit) => ([("keep", v25), ("over", v24), ("least", r19), ("pile", v17), ("row", v12), ("odd", v11), ("k", v10), ("below", v6), ("told", v5), ("gone", v2), ("piles", v1), ("names", a0), ("size", a1)] : Ctx)) (Yq (x := ()) (Xx PySem.F.slot_list_append (by kernel_rfl) YH (Zh W.get (Za (by rfl)) (zA7 W.hh (Zp W.S (W.D 6 rfl) X.f6 (by decide) (W.name (i := 6) rfl (by decide +kernel)) (by decide +kernel) (Zb (Zh W.get (Za (by rfl)) (Za (by rfl))) Zd) W.bp6 rfl (by decide)))) (Zb (Zh W.get (Za (by rfl)) (Za (by rfl))) Zd)) Sub.refl) (fun _ =>
  (Zj () Sub.refl))) (Zj () Sub.refl)) (fun (r26 : Unit) =>
  (Zj () (Zf (by rfl) (Zf (by rfl) (Zf (by rfl) (Zf (by rfl) (Zf (by rfl) (Zf (by rfl) (Zf (by rfl) Sub.refl)))))))))))))))))))))))))))))))))) (fun (r9 : Unit) =>
  (Zo (Vj (Zb (Za (by rfl)) (Zb (Za (by rfl)) (Zb (Za (by rfl)) Zd)))))))))))))))))
theorem Zs.f29 {c : Cfg} {N : Nums} (W : Zs c N) {T : List Nat} (X : zp3 c N T) : FnC c 13 29 (N.fd 29) ["names", "size"] (Zn (on2 (b29 T ))) :=
  Yd W.S (W.D 29 rfl) (YK (fun a0 a1 => s29 T W X a0 a1)) ⟨by decide, (by decide +kernel), (by decide +kernel)⟩
noncomputable def b30 (T : List Nat) (a0 a1 a2 : AV) : CS Unit :=
  (seqC (asgC (Yo true (Ze (litC a0) nilL))) (fun v1 => (seqC (forL (biC Yc (Ze (litC (aI 7)) nilL)) (fun v3 (r2 : Unit) => (seqC (Xl (lmC Yn (litC v1) (Ze (iteE (cmpK eqK (subK Zk (litC v1) (unK negK (litC (aI 1)))) (subK Zk (litC a1) (litC (aI 0)))) (subK Zk (litC a1) (litC (aI 0))) (oneC (ZC (zb2 T) (Ze (subK Zk (litC v1) (unK negK (litC (aI 1)))) nilL)))) nilL)) ()) (fun (_ : Unit) => (Zt ())))) ()) (fun (r2 : Unit) => (seqC (asgC (subK Zk (litC a2) (subK Zk (litC a1) (litC (aI 0))))) (fun v4 => (seqC (asgC (litC (aI 8))) (fun v5 => (seqC (asgC (litC (aS []))) (fun v6 => (seqC (forL (biC Yc (Ze (litC (aI 7)) nilL)) (fun v8 (r7 : AV × AV × AV) => (seqC (asgC (kwC q9 [] (Ze (litC r7.2.2) (Ze (ZC (Zn (on1 b19)) (Ze (litC r7.1) nilL)) (Ze (litC (aI 0)) (Ze (za0 cntC (litC r7.2.2) nilL) nilL)))) (litC (aF 28)))) (fun v9 => (seqC (asgC (biC lenF (Ze (subK Zk (subK Zk (litC r7.2.2) (litC v9)) (litC (aI 0))) nilL))) (fun v10 => (seqC (asgC (ZC (Zn (on2 JP)) (Ze (litC r7.2.1) (Ze (subK Zk (subK Zk (litC r7.2.2) (litC v9)) (litC (aI 1))) nilL)))) (fun v11 => (seqC (asgC (subK Zk (litC a1) (ZC idxQ (Ze (litC (aS [116, 97, 98, 99, 100, 101, 102])) (Ze (subK Zk (subK Zk (litC r7.2.2) (litC v9)) (litC (aI 1))) nilL))))) (fun v12 => (seqC (asgC (biC strF (Ze (Yo false (Ze (ZC (VY T) (Ze (za6 (litC a0)) (Ze (litC v12) nilL))) (Ze (ZC (VY T) (Ze (za6 (litC a0)) (Ze (binK ZW (litC (aS [46])) (litC v12)) nilL))) nilL))) nilL))) (fun v13 => (seqC (ifC (cmpK eqK (litC v13) (litC (aS [91, 84, 114, 117, 101, 44, 32, 70, 97, 108, 115, 101, 93]))) (retC (litC v11)) (Zt ()) : CS (Unit)) (fun (r14 : Unit) => (seqC (ifC (cmpK eqK (litC v13) (litC (aS [91, 70, 97, 108, 115, 101, 44, 32, 84, 114, 117, 101, 93]))) (seqC (asgC (subK Zk (litC a2) (subK Zk (litC v1) (ZC (Zn (on2 b20)) (Ze (ZC idxQ (Ze (litC v1) (Ze (litC v12) nilL))) (Ze (litC (aI 1)) nilL)))))) (fun v16 => (Zt v16))) (seqC (ifC (cmpK neK (litC v13) (litC (aS [91, 70, 97, 108, 115, 101, 44, 32, 70, 97, 108, 115, 101, 93]))) (retC (litC (aS []))) (Zt ()) : CS (Unit)) (fun (r17 : Unit) => (Zt r7.2.2))) : CS (AV)) (fun (r15 : AV) => (Zt (v10, v11, r15))))))))))))))))) (v5, v6, v4)) (fun (r7 : AV × AV × AV) => (retC (litC (aS [])))))))))))))))
theorem s30 {c : Cfg} {N : Nums} (T : List Nat) (W : Zs c N) (X : zp3 c N T) (a0 a1 a2 : AV) : SimS c 14 (Zv 30).names [("sought", a0), ("names", a1), ("piles", a2)] (Ye 30) (fun _ : Unit => []) (b30 T a0 a1 a2) :=
  (Zc (Zm (ZD (Zb (Za (by rfl)) Zd)) (by decide +kernel)) (fun v1 =>
  (Zc (g := fun (r2 : Unit) => ([("ladder", v1), ("sought", a0), ("names", a1), ("piles", a2)] : Ctx)) (ZY (g := fun (r2 : Unit) => ([("ladder", v1), ("sought", a0), ("names", a1), ("piles", a2)] : Ctx)) (ZF W.S ZL (.inr ⟨_, rfl⟩) (by rfl) (W.no _ (by decide)) (by decide +kernel) (Zb Zg Zd) (by decide) (by decide)) (by decide +kernel) Sub.refl (fun v3 (r2 : Unit) =>
  (Zc (g := fun (_ : Unit) => ([("k", v3), ("ladder", v1), ("sought", a0), ("names", a1), ("piles", a2)] : Ctx)) (Yq (x := ()) (Xx PySem.F.slot_list_append (by kernel_rfl) YH (Za (by rfl)) (Zb (zl5 (Zq (Xe W.S (by decide)) (Zh W.get (Za (by rfl)) (Xi Xz Zg)) (Zh W.get (Za (by rfl)) Zg)) (Zh W.get (Za (by rfl)) Zg) (zA7 W.hh (Zp W.S (W.D 6 rfl) X.f6 (by decide) (W.name (i := 6) rfl (by decide +kernel)) (by decide +kernel) (Zb (Zh W.get (Za (by rfl)) (Xi Xz Zg)) Zd) W.bp6 rfl (by decide)))) Zd)) Sub.refl) (fun _ =>
  (Zj () (Zf (by rfl) Sub.refl)))))) (fun (r2 : Unit) =>
  (Zc (Zm (Zh W.get (Za (by rfl)) (Zh W.get (Za (by rfl)) Zg)) (by decide +kernel)) (fun v4 =>
  (Zc (Zm Zg (by decide +kernel)) (fun v5 =>
  (Zc (Zm (Zy (by decide +kernel)) (by decide +kernel)) (fun v6 =>
  (Zc (g := fun (r7 : AV × AV × AV) => ([("level", r7.1), ("asked", r7.2.1), ("pile", r7.2.2), ("ladder", v1), ("sought", a0), ("names", a1), ("piles", a2)] : Ctx)) (ZY (g := fun (r7 : AV × AV × AV) => ([("level", r7.1), ("asked", r7.2.1), ("pile", r7.2.2), ("ladder", v1), ("sought", a0), ("names", a1), ("piles", a2)] : Ctx)) (ZF W.S ZL (.inr ⟨_, rfl⟩) (by rfl) (W.no _ (by decide)) (by decide +kernel) (Zb Zg Zd) (by decide) (by decide)) (by decide +kernel) (Zi (by rfl) (Zi (by rfl) (Zf (by rfl) (Zf (by rfl) Sub.refl)))) (fun v8 (r7 : AV × AV × AV) =>
  (Zc (Zm (Yv W.S (W.D 9 rfl) W.f9 (by decide) (W.name (i := 9) rfl (by decide +kernel)) (by decide +kernel) (Zb (Za (by rfl)) (Zb (Zp W.S (W.D 19 rfl) W.f19 (by decide) (W.name (i := 19) rfl (by decide +kernel)) (by decide +kernel) (Zb (Za (by rfl)) Zd) W.bp19 rfl (by decide)) (Zb Zg (Zb (XW W.S W.sup.toAccG W.m8.l W.f108 (by decide) (Za (by rfl)) Zd W.p8 rfl (by decide)) Zd)))) (VI W.S (W.D 28 rfl) (W.name (i := 28) rfl (by decide +kernel)) (by decide +kernel) (by decide)) (W.kw4 9 (by decide)) rfl (by decide)) (by decide +kernel)) (fun v9 =>
  (Zc (Zm (ZF W.S (W.bl (d := 14 - 2)) (.inl ⟨_, rfl⟩) (by rfl) (W.no _ (by decide)) (by decide +kernel) (Zb (Zh W.get (Zh W.get (Za (by rfl)) (Za (by rfl))) Zg) Zd) (by decide) (by decide)) (by decide +kernel)) (fun v10 =>
  (Zc (Zm (Zp W.S (W.D 21 rfl) W.f21 (by decide) (W.name (i := 21) rfl (by decide +kernel)) (by decide +kernel) (Zb (Za (by rfl)) (Zb (Zh W.get (Zh W.get (Za (by rfl)) (Za (by rfl))) Zg) Zd)) (W.bp2 21 (by decide)) rfl (by decide)) (by decide +kernel)) (fun v11 =>
  (Zc (Zm (Zh W.get (Za (by rfl)) (Zp W.S (W.D 23 rfl) (W.f23 X.tk) (by decide) (W.name (i := 23) rfl (by decide +kernel)) (by decide +kernel) (Zb (Zy (by decide +kernel)) (Zb (Zh W.get (Zh W.get (Za (by rfl)) (Za (by rfl))) Zg) Zd)) (W.bp2 23 (by decide)) rfl (by decide))) (by decide +kernel)) (fun v12 =>
  (Zc (Zm (ZF W.S (W.bs (d := 14 - 8)) (.inr ⟨_, rfl⟩) (by rfl) (W.no _ (by decide)) (by decide +kernel) (Zb (ZD (Zb (Zp W.S (W.D 5 rfl) X.f5 (by decide) (W.name (i := 5) rfl (by decide +kernel)) (by decide +kernel) (Zb (zg8 W.hh (Za (by rfl))) (Zb (Za (by rfl)) Zd)) W.bp5 rfl (by decide)) (Zb (Zp W.S (W.D 5 rfl) X.f5 (by decide) (W.name (i := 5) rfl (by decide +kernel)) (by decide +kernel) (Zb (zg8 W.hh (Za (by rfl))) (Zb (Zl (ZI W.hh) (Zy (by decide +kernel)) (Za (by rfl))) Zd)) W.bp5 rfl (by decide)) Zd))) Zd) (by decide) (by decide)) (by decide +kernel)) (fun v13 =>
  (Zc (g := fun (r14 : Unit) => ([("here", v13), ("name", v12), ("asked", v11), ("level", v10), ("place", v9), ("k", v8), ("pile", r7.2.2), ("ladder", v1), ("sought", a0), ("names", a1), ("piles", a2)] : Ctx)) (ZJ (g := fun (r14 : Unit) => ([("here", v13), ("name", v12), ("asked", v11), ("level", v10), ("place", v9), ("k", v8), ("pile", r7.2.2), ("ladder", v1), ("sought", a0), ("names", a1), ("piles", a2)] : Ctx)) (Zq (Xe W.S (by decide)) (Za (by rfl)) (Zy (by decide +kernel))) (Zo (Za (by rfl))) (Zj () (Zi (by rfl) (Zi (by rfl) (Zi (by rfl) (Zi (by rfl) (Zi (by rfl) (Zi (by rfl) (Zf (by rfl) (Zf (by rfl) (Zf (by rfl) (Zf (by rfl) (Zf (by rfl) (Zf (by rfl) (Zf (by rfl) (Zf (by rfl) Sub.refl)))))))))))))))) (fun (r14 : Unit) =>
  (Zc (g := fun (r15 : AV) => ([("pile", r15), ("here", v13), ("name", v12), ("asked", v11), ("level", v10), ("place", v9), ("k", v8), ("ladder", v1), ("sought", a0), ("names", a1), ("piles", a2)] : Ctx)) (ZJ (g := fun (r15 : AV) => ([("pile", r15), ("here", v13), ("name", v12), ("asked", v11), ("level", v10), ("place", v9), ("k", v8), ("ladder", v1), ("sought", a0), ("names", a1), ("piles", a2)] : Ctx)) (Zq (Xe W.S (by decide)) (Za (by rfl)) (Zy (by decide +kernel))) (Zc (Zm (Zh W.get (Za (by rfl)) (Zh W.get (Za (by rfl)) (Zp W.S (W.D 20 rfl) W.f20 (by decide) (W.name (i := 20) rfl (by decide +kernel)) (by decide +kernel) (Zb (Zp W.S (W.D 23 rfl) (W.f23 X.tk) (by decide) (W.name (i := 23) rfl (by decide +kernel)) (by decide +kernel) (Zb (Za (by rfl)) (Zb (Za (by rfl)) Zd)) (W.bp2 23 (by decide)) rfl (by decide)) (Zb Zg Zd)) (W.bp2 20 (by decide)) rfl (by decide)))) (by decide +kernel)) (fun v16 =>
  (Zj v16 (Zi (by rfl) (Zi (by rfl) (Zi (by rfl) (Zi (by rfl) (Zi (by rfl) (Zi (by rfl) (Zi (by rfl) (Zf (by rfl) (Zf (by rfl) (Zf (by rfl) (Zf (by rfl) (Zf (by rfl) (Zf (by rfl) (Zf (by rfl) (Zf (by rfl) Sub.refl)))))))))))))))))) (Zc (g := fun (r17 : Unit) => ([("here", v13), ("name", v12), ("asked", v11), ("level", v10), ("place", v9), ("k", v8), ("pile", r7.2.2), ("ladder", v1), ("sought", a0), ("names", a1), ("piles", a2)] : Ctx)) (ZJ (g := fun (r17 : Unit) => ([("here", v13), ("name", v12), ("asked", v11), ("level", v10), ("place", v9), ("k", v8), ("pile", r7.2.2), ("ladder", v1), ("sought", a0), ("names", a1), ("piles", a2)] : Ctx)) (Zq (zC4 W.S (by decide)) (Za (by rfl)) (Zy (by decide +kernel))) (Zo (Zy (by decide +kernel))) (Zj () Sub.refl)) (fun (r17 : Unit) =>
  (Zj r7.2.2 (Zi (by rfl) (Zi (by rfl) (Zi (by rfl) (Zi (by rfl) (Zi (by rfl) (Zi (by rfl) (Zi (by rfl) (Zf (by rfl) (Zf (by rfl) (Zf (by rfl) (Zf (by rfl) (Zf (by rfl) (Zf (by rfl) (Zf (by rfl) Sub.refl)))))))))))))))))) (fun (r15 : AV) =>
  (Zj (v10, v11, r15) (Zi (by rfl) (Zi (by rfl) (Zi (by rfl) (Zf (by rfl) (Zf (by rfl) (Zf (by rfl) (Zf (by rfl) (Zf (by rfl) (Zf (by rfl) (Zf (by rfl) Sub.refl))))))))))))))))))))))))))) (fun (r7 : AV × AV × AV) =>
  (Zo (Zy (by decide +kernel)))))))))))))))
theorem Zs.f30 {c : Cfg} {N : Nums} (W : Zs c N) {T : List Nat} (X : zp3 c N T) : FnC c 15 30 (N.fd 30) ["sought", "names", "piles"] (Zn (on3 (b30 T ))) :=
  Yd W.S (W.D 30 rfl) (zl4 (fun a0 a1 a2 => s30 T W X a0 a1 a2)) ⟨by decide, (by decide +kernel), (by decide +kernel)⟩
noncomputable def tabS : List Nat := [116, 97, 98, 99, 100, 101, 102]
noncomputable def asL (T : List Nat) (a1 v1 : AV) : CS Unit := seqC (Xl (lmC Yn (litC v1) (Ze (iteE (cmpK eqK (subK Zk (litC v1) (unK negK (litC (aI 1)))) (subK Zk (litC a1) (litC (aI 0)))) (subK Zk (litC a1) (litC (aI 0))) (oneC (ZC (zb2 T) (Ze (subK Zk (litC v1) (unK negK (litC (aI 1)))) nilL)))) nilL)) ()) fun (_ : Unit) => Zt ()
noncomputable def asP (lv p : AV) : CE := kwC q9 [] (Ze (litC p) (Ze (ZC (Zn (on1 b19)) (Ze (litC lv) nilL)) (Ze (litC (aI 0)) (Ze (za0 cntC (litC p) nilL) nilL)))) (litC (aF 28))
noncomputable def asN (p v9 : AV) : CE := biC lenF (Ze (subK Zk (subK Zk (litC p) (litC v9)) (litC (aI 0))) nilL)
noncomputable def asC (s p v9 : AV) : CE := ZC (Zn (on2 JP)) (Ze (litC s) (Ze (subK Zk (subK Zk (litC p) (litC v9)) (litC (aI 1))) nilL))
noncomputable def asI (a1 p v9 : AV) : CE := subK Zk (litC a1) (ZC idxQ (Ze (litC (aS tabS)) (Ze (subK Zk (subK Zk (litC p) (litC v9)) (litC (aI 1))) nilL)))
noncomputable def asH (T : List Nat) (a0 w : AV) : CE := biC strF (Ze (Yo false (Ze (ZC (VY T) (Ze (za6 (litC a0)) (Ze (litC w) nilL))) (Ze (ZC (VY T) (Ze (za6 (litC a0)) (Ze (binK ZW (litC (aS [46])) (litC w)) nilL))) nilL))) nilL)
noncomputable def asD (a2 v1 w : AV) : CE := subK Zk (litC a2) (subK Zk (litC v1) (ZC (Zn (on2 b20)) (Ze (ZC idxQ (Ze (litC v1) (Ze (litC w) nilL))) (Ze (litC (aI 1)) nilL))))
noncomputable def asE (a2 v1 p v10 v11 w here : AV) : CS (AV × AV × AV) := seqC (ifC (cmpK eqK (litC here) (litC (aS [91, 84, 114, 117, 101, 44, 32, 70, 97, 108, 115, 101, 93]))) (retC (litC v11)) (Zt ()) : CS (Unit)) fun (_ : Unit) => seqC (ifC (cmpK eqK (litC here) (litC (aS [91, 70, 97, 108, 115, 101, 44, 32, 84, 114, 117, 101, 93]))) (seqC (asgC (asD a2 v1 w)) (fun v16 => (Zt v16)))
  (seqC (ifC (cmpK neK (litC here) (litC (aS [91, 70, 97, 108, 115, 101, 44, 32, 70, 97, 108, 115, 101, 93]))) (retC (litC (aS []))) (Zt ()) : CS (Unit)) (fun (_ : Unit) => (Zt p))) : CS (AV)) fun (r15 : AV) => Zt (v10, v11, r15)
noncomputable def asB (T : List Nat) (a0 a1 a2 v1 lv s p : AV) : CS (AV × AV × AV) := seqC (asgC (asP lv p)) fun v9 => seqC (asgC (asN p v9)) fun v10 => seqC (asgC (asC s p v9)) fun v11 => seqC (asgC (asI a1 p v9)) fun w => seqC (asgC (asH T a0 w)) fun here => asE a2 v1 p v10 v11 w here
theorem ys0 (T : List Nat) (a0 a1 a2 : AV) : b30 T a0 a1 a2 = seqC (asgC (Yo true (Ze (litC a0) nilL))) fun v1 => seqC (forL (biC Yc (Ze (litC (aI 7)) nilL)) (fun _ (_ : Unit) => asL T a1 v1) ()) fun (_ : Unit) => seqC (asgC (subK Zk (litC a2) (subK Zk (litC a1) (litC (aI 0))))) fun p => seqC (asgC (litC (aI 8))) fun lv => seqC (asgC (litC (aS []))) fun s =>
    seqC (forL (biC Yc (Ze (litC (aI 7)) nilL)) (fun _ (r7 : AV × AV × AV) => asB T a0 a1 a2 v1 r7.1 r7.2.1 r7.2.2) (lv, s, p)) fun _ => retC (litC (aS [])) := rfl
section
variable {T : List Nat} {H : AH} {a0 a1 a2 p v e b c w x0 y : AV} {i n q : Nat} {k : AV -> AH -> Bool}
theorem zR0 {kk : Nat -> Bool} (h : kk n = true) : yf4 (negI (.ofNat n)) kk = true := by cases n <;> exact h
theorem zs0 {z : Int} {kk : Nat -> Bool} (e : z = .ofNat n) (h : kk n = true) : YS z kk = true := by rw [e]; exact h
structure JW (H : AH) (p : AV) : Prop where
  t : p.t = 11
  o : (hget H p.m).t = 3
  d : (hget H (hget H p.m).d).t = 4
  s : (hget H p.m).l.length < 100000
structure zj9 (H : AH) (p v b c : AV) (i : Nat) : Prop where
  t : v.t = 2
  ei : v.i = .ofNat i
  e : ∃ e : AV, (hget H p.m).l[i]? = some e /\ e.t = 12 /\ e.l = [b, c]
theorem yv5 {lv : AV} (h1 : lv.t = 2) : RE (ZC (Zn (on1 b19)) (Ze (litC lv) nilL)) H (aI (negI lv.i)) := .call (l := [lv]) (.cons .lit .nil) fun k hk => show negK H lv k = true from ZR h1 hk
theorem yN4 (P : JW H p) : RE (za0 cntC (litC p) nilL) H (aI (.ofNat (lenN (hget H p.m).l))) := fun k hk => by
  show zv8 H p (fun r => cntC [aR r] H k) = true
  refine ZR P.t (ZR P.o (ZR P.d ?_))
  show kd (aR p.m).t 11 (kd (hget H p.m).t 3 (Yh (hget H p.m).l (k (aI (.ofNat (lenN (hget H p.m).l))) H))) = true
  exact ZR (n := (aR p.m).t) rfl (ZR P.o (YN P.s hk))
theorem yr3 {x lo hi key : AV} {f : Nat -> Nat} {kk : AV -> Bool} {m : Nat} (P : JW H p) (e1 : key.t = 9) (e2 : key.m = 28) (e3 : x.t = 2) (e4 : x.i = negI (.ofNat n)) (e5 : lo.t = 2) (e6 : lo.i = .ofNat 0) (e7 : hi.t = 2) (e8 : hi.i = .ofNat m) (h : bisN (hget H p.m).l (f n) kk 40 0 m lo = true) : bisQ p x lo hi key f H kk = true :=
  ZR e1 (ZR e2 (ZR e3 (by rw [e4]; exact zR0 (ZR e5 (zs0 e6 (ZR P.t (YN P.s (JJ (n := hi.t) (by rw [e7]; rfl) (ZR e7 (ZR P.o (zs0 e8 h)))))))))))
theorem yO8 {lv : AV} (P : JW H p) (h1 : lv.t = 2) (h2 : lv.i = .ofNat n) (h : bisN (hget H p.m).l n (fun v => k v H) 40 0 (lenN (hget H p.m).l) (aI 0) = true) : asP lv p H k = true := by
  have f : RF (Ze (litC p) (Ze (ZC (Zn (on1 b19)) (Ze (litC lv) nilL)) (Ze (litC (aI 0)) (Ze (za0 cntC (litC p) nilL) nilL)))) H [p, aI (negI lv.i), aI 0, aI (.ofNat (lenN (hget H p.m).l))] :=
    .cons .lit (.cons (yv5 h1) (.cons .lit (.cons (yN4 P) .nil)))
  refine f (fun l H1 => q9 (app l [aF 28]) H1 k) ?_
  exact yr3 (x := aI (negI lv.i)) (lo := aI 0) (hi := aI (.ofNat (lenN (hget H p.m).l))) (key := aF 28) (f := fun n => n) P rfl rfl rfl (congrArg negI h2) rfl rfl rfl rfl h
theorem zm1 (P : JW H p) (R : zj9 H p v b c i) : RE (subK Zk (subK Zk (litC p) (litC v)) (litC (aI 0))) H b /\ RE (subK Zk (subK Zk (litC p) (litC v)) (litC (aI 1))) H c := by
  obtain ⟨e, h1, h2, h3⟩ := R.e
  have hi : i < 1000000 := Nat.lt_trans (Nat.lt_trans (List.getElem?_eq_some_iff.mp h1).1 P.s) (by decide)
  have r : RE (subK Zk (litC p) (litC v)) H e := .sub .lit .lit fun k hk => by
    show kd2 p.t 13 _ (kd2 p.t 11 (kd2 (hget H p.m).t 0 _ (kd2 (hget H p.m).t 2 _ (kd2 (hget H p.m).t 1 _ (kd (hget H p.m).t 3 (kd v.t 2 (subL (hget H p.m).l v.i fun z => k z H)))))) _) = true
    rw [P.t, P.o, R.t, R.ei]
    exact Jw hi h1 hk
  refine ⟨.sub r .lit fun k hk => ?_, .sub r .lit fun k hk => ?_⟩
  · show kd2 e.t 13 _ (kd2 e.t 11 _ (kd2 e.t 12 (subL e.l 0 fun z => k z H) _)) = true
    rw [h2, h3]; exact hk
  · show kd2 e.t 13 _ (kd2 e.t 11 _ (kd2 e.t 12 (subL e.l 1 fun z => k z H) _)) = true
    rw [h2, h3]; exact hk
theorem yO9 (P : JW H p) (R : zj9 H p v b c i) (h : b.t = 3) (hs : b.s.length < 100000) : RE (asN p v) H (aI (.ofNat (lenN b.s))) := .bi (.cons (zm1 P R).1 .nil) fun k hk => by
  show kd2 b.t 13 _ (kd2 b.t 11 _ (kd2 b.t 12 _ (kd b.t 3 (Yh b.s (k (aI (.ofNat (lenN b.s))) H))))) = true
  rw [h]
  exact YN hs hk
theorem yP4 {s : List Nat} (P : JW H p) (R : zj9 H p v b c i) (h : c.t = 10) (hs : s.length < 100000) (hc : c.s.length < 100000) : RE (asC (aS s) p v) H (aS (app s c.s)) := .call (l := [aS s, c]) (.cons .lit (.cons (zm1 P R).2 .nil)) fun k hk => by
  refine VK (H := H) (A := YY) (B := Zt ()) (C := fun (_ : Unit) => retC (binK ZW (litC (aS s)) (litC c))) (kn := fun (_ : Unit) H1 => k aN H1) (kr := k) (.not (.as (x := aB true) (.bi (f := hasF) (l := [aS s, aS [95, 95, 103, 101, 116, 105, 116, 101, 109, 95, 95]]) (.cons .lit (.cons .lit .nil)) fun k hk => hk) rfl)) ?_
  show kd2 c.t 4 _ (kd2 c.t 3 _ (kd c.t 10 (Yh s (Yh c.s (k (aS (app s c.s)) H))))) = true
  rw [h]
  exact YN hs (YN hc hk)
def LetR (m : Nat) (k' : Nat -> Bool) : Prop := ∃ j, j < 7 /\ k' j = true /\ ∀ {H : AH} {k : AV -> AH -> Bool}, k (aI (.ofNat j)) H = true -> Zn (on2 (YV true)) [aS tabS, VF m] YP (XB k H) = true
theorem zn1 {m n j : Nat} {k' : Nat -> Bool} {r : Bool} (hj : j < 7) (hl : ∀ {H : AH} {k : AV -> AH -> Bool}, k (aI (.ofNat j)) H = true -> Zn (on2 (YV true)) [aS tabS, VF n] YP (XB k H) = true) (i : r = true -> LetR m k') (h : sel (Nat.beq m n) (k' j) r = true) : LetR m k' := by
  rcases YR h with ⟨e, q⟩ | ⟨_, q⟩
  · exact Nat.eq_of_beq_eq_true e ▸ ⟨j, hj, q, hl⟩
  · exact i q
theorem yv8 {m : Nat} {k' : Nat -> Bool} (h : letK m k' = true) : LetR m k' :=
  zn1 (n := 116) (j := 0) (by decide) (fun hk => hk) (zn1 (n := 97) (j := 1) (by decide) (fun hk => hk) (zn1 (n := 98) (j := 2) (by decide) (fun hk => hk) (zn1 (n := 99) (j := 3) (by decide) (fun hk => hk) (zn1 (n := 100) (j := 4) (by decide) (fun hk => hk) (zn1 (n := 101) (j := 5) (by decide) (fun hk => hk) (zn1 (n := 102) (j := 6) (r := false) (by decide) (fun hk => hk) (fun h => nomatch h))))))) h
theorem yo2 {x y : AV} (h1 : x.t = 11) (h : kd (hget H x.m).t 0 (gd (allL VS (hget H x.m).l) (kd y.t 4 (Zn (on2 (YV false)) [aL (hget H x.m).l, y] YP (XB k H)))) = true) : idxQ [x, y] H k = true := JJ (n := x.t) (m := 3) (by rw [h1]; rfl) (ZR h1 h)
theorem yo1 {x y : AV} (h1 : x.t = 3) (h : kd y.t 10 (gd (eqL y.s [y.m]) (Zn (on2 (YV true)) [x, VF y.m] YP (XB k H))) = true) : idxQ [x, y] H k = true := Ve (n := x.t) (m := 3) h1 h
theorem yP0 {j : Nat} (P : JW H p) (R : zj9 H p v b c i) (h : c.t = 10) (hs : eqL c.s [c.m] = true) (hj : ∀ {H : AH} {k : AV -> AH -> Bool}, k (aI (.ofNat j)) H = true -> Zn (on2 (YV true)) [aS tabS, VF c.m] YP (XB k H) = true) (h1 : a1.t = 13) (hj2 : j < 1000000) (hw : a1.l[j]? = some w) : RE (asI a1 p v) H w :=
  .sub .lit (.call (l := [aS tabS, c]) (.cons .lit (.cons (zm1 P R).2 .nil)) fun k hk => by
    exact yo1 rfl (ZR h (ZT hs (hj hk)))) fun k hk => Jv h1 rfl rfl hj2 hw hk
theorem yP1 (h0 : a0.t = 4) (h : w.t = 4) (hq : a0.m < 7) (hw : w.m < 7) : RE (asH T a0 w) H (aS (strL (Nat.beq a0.m w.m) (ancB T 7 a0.m w.m))) := by
  have up : RE (za6 (litC a0)) H (aUp a0.m) := fun k hk => ZR h0 hk
  have b1 := Nat.blt_eq.mpr hq
  have b2 := Nat.blt_eq.mpr hw
  have m1 : RE (VY T [aUp a0.m, w]) H (aB (Nat.beq a0.m w.m)) := fun k hk => ZR (n := (aUp a0.m).t) rfl (ZT (b := Nat.blt a0.m 7) b1 (Ve h (ZT b2 hk)))
  have m2 : RE (VY T [aUp a0.m, aDot w.m]) H (aB (ancB T 7 a0.m w.m)) := fun k hk => ZR (n := (aUp a0.m).t) rfl (ZT (b := Nat.blt a0.m 7) b1 (show gd (Nat.blt w.m 7) (k (aB (ancB T 7 a0.m w.m)) H) = true from ZT b2 hk))
  have dot : RE (binK ZW (litC (aS [46])) (litC w)) H (aDot w.m) := .bin .lit .lit fun k hk => by
    show kd2 w.t 4 (gd true (k (aDot w.m) H)) _ = true
    exact Ve h hk
  exact .bi (f := strF) (l := [aL [aB (Nat.beq a0.m w.m), aB (ancB T 7 a0.m w.m)]]) (.cons (.disp (.cons (.call (.cons up (.cons .lit .nil)) m1) (.cons (.call (.cons up (.cons dot .nil)) m2) .nil))) .nil) fun k hk => hk
def zf7 (x : AV) : Prop := x.t = 5 \/ (x.t = 4 /\ x.m < 7)
noncomputable def fndB (w : AV) : AV -> AV -> Unit -> CS Unit := fun i y _ => seqC (ifC (yf5 false y w) (retC (litC i)) (Zt ())) fun (_ : Unit) => Zt ()
theorem yk3 {kk : Bool -> Bool} (h : zf7 y) (hw : w.t = 4) (hm : w.m < 7) (hk : kk (Nat.beq y.m w.m) = true) : yb0 false y w kk = true := by
  refine ZR hw ?_
  rcases h with h | ⟨h, h7⟩
  · exact Ve h hk
  · exact JJ (by rw [h]; rfl) (ZR h (ZT (b := notB false) rfl (ZT (b := Nat.blt y.m 7) (Nat.blt_eq.mpr h7) (ZT (b := Nat.blt w.m 7) (Nat.blt_eq.mpr hm) hk))))
theorem ze8 {l : List AV} {j : Nat} {kn : Unit -> AH -> Bool} {kr : AV -> AH -> Bool} (h : zf7 y) (hw : w.t = 4) (hm : w.m < 7) (hk : sel (Nat.beq y.m w.m) (kr (aI (.ofNat j)) H) (forE (fndB w) l (j + 1) () H kn kr) = true) : forE (fndB w) (y :: l) j () H kn kr = true := yk3 (kk := fun z => sel z (kr (aI (.ofNat j)) H) (forE (fndB w) l (j + 1) () H kn kr)) h hw hm hk
theorem yx0 (hw : w.t = 4) (hm : w.m < 7) (l : List AV) : ∀ {x : AV} {k' : AV -> Bool}, fndK w.m l x k' = true -> (∀ y ∈ l, zf7 y) -> ∃ j y, (x :: l)[j]? = some y /\ k' y = true /\ ∀ {i : Nat} {kn : Unit -> AH -> Bool} {kr : AV -> AH -> Bool}, kr (aI (.ofNat (i + j + 1))) H = true -> forE (fndB w) l (i + 1) () H kn kr = true := by
  induction l with
  | nil => intro x k' h; cases h
  | cons y l ih =>
    intro x k' h hl
    rcases YR (b := Nat.beq y.m w.m) h with ⟨e, h⟩ | ⟨e, h⟩
    · exact ⟨0, x, rfl, h, fun {i kn kr} hk => ze8 (hl y (List.mem_cons_self ..)) hw hm (Vl e hk)⟩
    · obtain ⟨j, z, h1, h2, h3⟩ := ih h fun z hz => hl z (List.mem_cons_of_mem _ hz)
      exact ⟨j + 1, z, h1, h2, fun {i kn kr} hk => ze8 (hl y (List.mem_cons_self ..)) hw hm (YT e (h3 (i := i + 1) (by rw [Nat.add_right_comm i 1 j]; exact hk)))⟩
theorem zz6 {f : Op2} {x y : AV} {b : CE} (h : RE b H y) (hk : f H x y k = true) : subK f (litC x) b H k = true := h _ hk
theorem yg3 {σ : Type} {l : List AV} {F : AV -> AV -> σ -> CS σ} {st : σ} {kn : σ -> AH -> Bool} {kr : AV -> AH -> Bool} (h : forE F l 0 st H kn kr = true) : yg4 false (litC (aL l)) F st H kn kr = true := h
theorem yw8 {l : List AV} {kr : AV -> AH -> Bool} (h : forE (fndB w) l 0 () H (fun _ _ => false) kr = true) : YV false (aL l) w H (fun _ H1 => kr aN H1) kr = true := zb1 (yg3 h)
theorem yO7 {j : Nat} {k : AV -> AH -> Bool} (hk : k (aI (.ofNat j)) H = true) : Zn (on2 b20) [aI (.ofNat (j + 1)), aI 1] H k = true := show b20 (aI (.ofNat (j + 1))) (aI 1) H (fun _ H1 => k aN H1) k = true from yu5 (.bin .lit .lit fun k hk => zk7 (x := aI (.ofNat (j + 1))) rfl rfl hk) hk
theorem yP3 {r : Nat} {l : List AV} {j : Nat} {z : AV} (h : hget H r = oL (a0 :: l)) (hl : (a0 :: l).length < 1000) (h0 : zf7 a0) (hh : ∀ y ∈ l, zf7 y) (hne : Nat.beq a0.m w.m = false) (hw : w.t = 4) (hm : w.m < 7) (hj : (a0 :: l)[j]? = some y)
    (hf : ∀ {i : Nat} {kn : Unit -> AH -> Bool} {kr : AV -> AH -> Bool}, kr (aI (.ofNat (i + j + 1))) YP = true -> forE (fndB w) l (i + 1) () YP kn kr = true) (h2 : a2.t = 11) (h3 : (hget H a2.m).t = 2) (hk : VB (hget H a2.m).ks y.m (fun z => k z H) (hget H a2.m).l = true) : asD a2 (aR r) w H k = true := by
  have hy : zf7 y := by
    rcases List.mem_cons.mp (List.mem_of_getElem? hj) with rfl | q
    · exact h0
    · exact hh y q
  have hj' : j < 1000000 := Nat.lt_trans (Nat.lt_trans (List.getElem?_eq_some_iff.mp hj).1 hl) (by decide)
  have idx : RE (ZC idxQ (Ze (litC (aR r)) (Ze (litC w) nilL))) H (aI (.ofNat (j + 1))) := .call (l := [aR r, w]) (.cons .lit (.cons .lit .nil)) fun k hk => by
    refine yo2 (x := aR r) rfl ?_
    rw [show hget H (aR r).m = oL (a0 :: l) from h]
    refine ZR (n := 0) rfl (ZT (zJ8 (l := a0 :: l) fun x hx => ?_) (ZR hw ?_))
    · have hx : zf7 x := by
        rcases List.mem_cons.mp hx with rfl | q
        · exact h0
        · exact hh x q
      unfold VS
      rcases hx with q | ⟨q, _⟩ <;> rw [q] <;> rfl
    · show YV false (aL (a0 :: l)) w YP (fun _ H1 => XB k H aN H1) (XB k H) = true
      refine yw8 (ze8 h0 hw hm (YT hne (hf (i := 0) ?_)))
      show kd 2 2 (k (aI (.ofNat (0 + j + 1))) H) = true
      rw [Nat.zero_add]
      exact hk
  have sub : RE (ZC (Zn (on2 b20)) (Ze (ZC idxQ (Ze (litC (aR r)) (Ze (litC w) nilL))) (Ze (litC (aI 1)) nilL))) H (aI (.ofNat j)) := .call (l := [aI (.ofNat (j + 1)), aI 1]) (.cons idx (.cons .lit .nil)) fun k hk => yO7 hk
  refine zz6 (x := a2) (y := y) (.sub .lit sub fun k hk => XJ h hj' hj hk) ?_
  show kd2 a2.t 13 _ (kd2 a2.t 11 (kd2 (hget H a2.m).t 0 _ (kd2 (hget H a2.m).t 2 (kd2 y.t 4 (VB (hget H a2.m).ks y.m (fun z => k z H) (hget H a2.m).l) (kd y.t 5 (VB (hget H a2.m).ks y.m (fun z => k z H) (hget H a2.m).l))) _)) _) = true
  rw [h2, h3]
  rcases hy with q | ⟨q, _⟩ <;> rw [q] <;> exact hk
theorem yq0 {s t : List Nat} {kt : Bool -> AH -> Bool} (h : kt (eqL s t) H = true) : eqK H (aS s) (aS t) kt = true := h
theorem yv7 {s t : List Nat} {kt : Bool -> AH -> Bool} (h : kt (notB (eqL s t)) H = true) : neK H (aS s) (aS t) kt = true := h
theorem ya3 {x y : Bool} (h : sel true x y = true) : x = true := h
theorem ya4 {x y : Bool} (h : sel false x y = true) : y = true := h
theorem yu3 {t1 t2 t3 : CT} {b1 b2 b3 : Bool} {D : CE} {v10 v11 v12 : AV} {kn : AV × AV × AV -> AH -> Bool} {kr : AV -> AH -> Bool} (h1 : RT t1 H b1) (h2 : RT t2 H b2) (h3 : RT t3 H b3) (h : sel b1 (kr v11 H) (sel b2 (D H fun z H1 => kn (v10, v11, z) H1) (sel b3 (kr v12 H) (kn (v10, v11, p) H))) = true) :
    seqC (ifC t1 (retC (litC v11)) (Zt ())) (fun (_ : Unit) => seqC (ifC t2 (seqC (asgC D) fun v => Zt v) (seqC (ifC t3 (retC (litC v12)) (Zt ())) fun (_ : Unit) => Zt p)) fun (r : AV) => Zt (v10, v11, r)) H kn kr = true := by
  refine h1 _ ?_
  cases b1 with
  | true => exact h
  | false =>
    refine h2 _ ?_
    cases b2 with
    | true => exact h
    | false =>
      refine h3 _ ?_
      cases b3 with
      | true => exact h
      | false => exact h
theorem yP2 {v1 v10 v11 : AV} {x y : Bool} {kn : AV × AV × AV -> AH -> Bool} {kr : AV -> AH -> Bool} (h : sel x (sel y (kr (aS []) H) (kr v11 H)) (sel y (asD a2 v1 w H fun z H1 => kn (v10, v11, z) H1) (kn (v10, v11, p) H)) = true) : asE a2 v1 p v10 v11 w (aS (strL x y)) H kn kr = true := by
  refine yu3 (.cmp .lit .lit fun k hk => yq0 hk) (.cmp .lit .lit fun k hk => yq0 hk) (.cmp .lit .lit fun k hk => yv7 hk) ?_
  cases x with
  | true =>
    have h := ya3 h
    cases y with
    | true => exact YT rfl (YT rfl (Vl rfl (ya3 h)))
    | false => exact Vl rfl (ya4 h)
  | false =>
    have h := ya4 h
    cases y with
    | true => exact YT rfl (Vl rfl (ya3 h))
    | false => exact YT rfl (YT rfl (YT rfl (ya4 h)))
theorem zI8 {l : List AV} {X : Nat} {k k' : AV -> Bool} (hk : ∀ v, k v = true -> k' v = true) : ∀ (n lo hi : Nat) (v : AV), bisN l X k n lo hi v = true -> bisN l X k' n lo hi v = true := by
  intro n
  induction n with
  | zero => intro lo hi v h; cases h
  | succ n ih =>
    intro lo hi v h
    rcases YR (b := Nat.ble (Nat.succ lo) hi) h with ⟨e, h⟩ | ⟨e, h⟩
    · obtain ⟨p, hp, h⟩ := XA h
      obtain ⟨e1, h⟩ := kd_t (n := p.t) (m := 12) h
      obtain ⟨s, r, e2, h⟩ := JK (l := p.l) h
      obtain ⟨e3, h⟩ := kd_t (n := s.t) (m := 3) h
      obtain ⟨e4, h⟩ := gd_t (b := Nat.ble (Nat.succ (lenN s.s)) 100000) h
      refine Vl (b := Nat.ble (Nat.succ lo) hi) e (zm5 hp (ZR (n := p.t) (m := 12) e1 ?_))
      rw [e2]
      refine ZR (n := s.t) (m := 3) e3 (ZT (b := Nat.ble (Nat.succ (lenN s.s)) 100000) e4 ?_)
      rcases YR (b := Nat.ble X (lenN s.s)) h with ⟨q, h⟩ | ⟨q, h⟩
      · exact Vl (b := Nat.ble X (lenN s.s)) q (ih _ _ _ h)
      · exact YT (b := Nat.ble X (lenN s.s)) q (ih _ _ _ h)
    · exact YT (b := Nat.ble (Nat.succ lo) hi) e (hk _ h)
theorem zb5 {n : Nat} {k k' : AV -> Bool} (hk : ∀ v, k v = true -> k' v = true) (ks : List Nat) : ∀ {l : List AV}, VB ks n k l = true -> VB ks n k' l = true := by
  induction ks with
  | nil => intro l h; cases h
  | cons x ks ih =>
    intro l h
    obtain ⟨z, r, rfl, h⟩ := JK h
    rcases YR h with ⟨q, h⟩ | ⟨q, h⟩
    · exact Vl (b := Nat.beq x n) q (hk _ h)
    · exact YT (b := Nat.beq x n) q (ih h)
theorem zG2 {σ : Type} {f : AV -> σ -> CS σ} {st : σ} {kn : σ -> AH -> Bool} {kr : AV -> AH -> Bool} (h : f (aI (.ofNat i)) st H (fun st1 H1 => forC f (iseq n (.ofNat (i + 1)) 1) st1 H1 kn kr) kr = true) : forC f (iseq (n + 1) (.ofNat i) 1) st H kn kr = true := h
structure AskR (H H1 : AH) (a0 a1 a2 : AV) (r : List AV) : Prop where
  old : ∀ i, i < H.n -> hget H1 i = hget H i
  new : hget H1 H.n = oL (a0 :: r)
  t0 : a0.t = 4
  m0 : a0.m < 7
  t1 : a1.t = 13
  t2 : a2.t = 11
  m2 : a2.m < H.n
  o2 : (hget H a2.m).t = 2
  hr : ∀ y ∈ r, zf7 y
  lr : r.length = 7
theorem yb8 {k : List AV -> Bool} (h : yk7 H p k = true) : p.m < H.n /\ (hget H p.m).d < H.n /\ JW H p /\ k (hget H p.m).l = true := by
  obtain ⟨p1, h⟩ := kd_t (n := p.t) (m := 11) h
  obtain ⟨p2, h⟩ := gd_t (b := Nat.ble (Nat.succ p.m) H.n) h
  obtain ⟨p3, h⟩ := kd_t (n := (hget H p.m).t) (m := 3) h
  obtain ⟨p4, h⟩ := gd_t (b := Nat.ble (Nat.succ (hget H p.m).d) H.n) h
  obtain ⟨p5, h⟩ := kd_t (n := (hget H (hget H p.m).d).t) (m := 4) h
  obtain ⟨p6, h⟩ := gd_t (b := Nat.ble (lenN (hget H p.m).l) 99999) h
  exact ⟨Nat.le_of_ble_eq_true p2, Nat.le_of_ble_eq_true p4, ⟨p1, p3, p5, Nat.lt_of_le_of_lt (Zw (hget H p.m).l ▸ Nat.le_of_ble_eq_true p6) (by decide)⟩, h⟩
theorem JW.to {H1 : AH} (P : JW H p) (e : hget H1 p.m = hget H p.m) (e2 : hget H1 (hget H p.m).d = hget H (hget H p.m).d) : JW H1 p := ⟨P.t, e.symm ▸ P.o, by rw [e, e2]; exact P.d, e.symm ▸ P.s⟩
theorem yb9 {k : AV -> AV -> Bool} (h : yk8 e k = true) : ∃ b c, e.t = 12 /\ e.l = [b, c] /\ b.t = 3 /\ c.t = 10 /\ eqL c.s [c.m] = true /\ b.s.length < 100000 /\ k b c = true := by
  obtain ⟨e2, h⟩ := kd_t (n := e.t) (m := 12) h
  obtain ⟨b, c, e3, h⟩ := Vz (l := e.l) h
  obtain ⟨b1, h⟩ := kd_t (n := b.t) (m := 3) h
  obtain ⟨c1, h⟩ := kd_t (n := c.t) (m := 10) h
  obtain ⟨c2, h⟩ := gd_t (b := eqL c.s [c.m]) h
  obtain ⟨b2, h⟩ := gd_t (b := Nat.ble (lenN b.s) 99999) h
  exact ⟨b, c, e2, e3, b1, c1, c2, Nat.lt_of_le_of_lt (Zw b.s ▸ Nat.le_of_ble_eq_true b2) (by decide), h⟩
theorem zn6 {k : Bool} (h : zR4 w k = true) : w.t = 4 /\ w.m < 7 /\ k = true :=
  ⟨(kd_t (n := w.t) (m := 4) h).1, Nat.lt_succ_of_le (Nat.le_of_ble_eq_true (gd_t (b := Nat.ble w.m 6) (kd_t (n := w.t) (m := 4) h).2).1), (gd_t (b := Nat.ble w.m 6) (kd_t (n := w.t) (m := 4) h).2).2⟩
theorem as5 {τ : Type} {B C D : CE} {F : AV -> AV -> AV -> AV -> CS τ} {A2 : AV -> CE} {v10 v11 w h : AV} {kn : τ -> AH -> Bool} {kr : AV -> AH -> Bool} (hB : RE B H v10) (hC : RE C H v11) (hD : RE D H w) (hE : RE (A2 w) H h) (hF : F v10 v11 w h H kn kr = true) :
    seqC (asgC B) (fun v10 => seqC (asgC C) fun v11 => seqC (asgC D) fun w => seqC (asgC (A2 w)) fun h => F v10 v11 w h) H kn kr = true := hB _ (hC _ (hD _ (hE _ hF)))
theorem zT3 {H1 : AH} {r : List AV} {k : List Nat -> Bool} {kr : AV -> AH -> Bool} {F : Nat -> List Nat -> AV -> Bool} {kn : AV × AV × AV -> AH -> Bool} {i lv : Nat} {s : List Nat} {lvA : AV} (R : AskR H H1 a0 a1 a2 r) (hk : ∀ s, k s = true -> kr (aS s) H1 = true) (hi : i < 7) (hs : s.length <= i) (l1 : lvA.t = 2) (l2 : lvA.i = .ofNat lv)
    (hF : ∀ lv s p, s.length <= i + 1 -> F lv s p = true -> kn (aI (.ofNat lv), aS s, p) H1 = true) (h : askW T a1.l r a0.m a0 H (hget H a2.m).ks (hget H a2.m).l k F lv s p = true) : asB T a0 a1 a2 (aR H.n) lvA (aS s) p H1 kn kr = true := by
  obtain ⟨p2, p4, P0, h⟩ := yb8 h
  have ep := R.old _ p2
  have P := P0.to ep (R.old _ p4)
  unfold asB
  refine VL (yO8 P l1 l2 ?_)
  rw [ep]
  refine zI8 (fun v h => ?_) _ _ _ _ h
  obtain ⟨v1, j, v2, h⟩ := zr1 h
  obtain ⟨e, e1, h⟩ := XA h
  obtain ⟨b, c, e2, e3, b1, c1, c2, hb, h⟩ := yb9 h
  obtain ⟨m, m7, h, m1⟩ := yv8 h
  obtain ⟨w, w1, h⟩ := XA h
  obtain ⟨w2, w3, h⟩ := zn6 h
  have hc : c.s.length = 1 := by rw [YL.mp c2]; rfl
  have hs' : (app s c.s).length <= i + 1 := by rw [ZM, List.length_append, hc]; exact Nat.succ_le_succ hs
  have Q : zj9 H1 p v b c j := ⟨v1, v2, e, ep.symm ▸ e1, e2, e3⟩
  refine as5 (F := asE a2 (aR H.n) p) (A2 := asH T a0) (yO9 P Q b1 hb) (yP4 P Q c1 (Nat.lt_of_le_of_lt hs (Nat.lt_trans hi (by decide))) (by rw [hc]; decide)) (yP0 P Q c1 c2 m1 R.t1 (Nat.lt_trans m7 (by decide)) w1) (yP1 R.t0 w2 R.m0 w3) (yP2 ?_)
  rcases YR (b := Nat.beq a0.m w.m) h with ⟨q, h⟩ | ⟨q, h⟩
  · refine Vl q ?_
    rcases YR (b := ancB T 7 a0.m w.m) h with ⟨q, h⟩ | ⟨q, h⟩
    · exact Vl q (hk _ h)
    · exact YT q (hk _ h)
  · refine YT q ?_
    rcases YR (b := ancB T 7 a0.m w.m) h with ⟨q2, h⟩ | ⟨q2, h⟩
    · obtain ⟨j', y, y1, y2, y3⟩ := yx0 (H := YP) w2 w3 r h R.hr
      refine Vl q2 (yP3 (l := r) (z := y) R.new (by rw [List.length_cons, R.lr]; decide) (.inr ⟨R.t0, R.m0⟩) R.hr q w2 w3 y1 y3 R.t2 ((R.old _ R.m2).symm ▸ R.o2) ?_)
      rw [R.old _ R.m2]
      exact zb5 (fun p' h => hF _ _ _ hs' h) _ y2
    · exact YT q2 (hF _ _ _ hs' h)
theorem zT4 {H1 : AH} {r : List AV} {k : List Nat -> Bool} {kr : AV -> AH -> Bool} (R : AskR H H1 a0 a1 a2 r) (hk : ∀ s, k s = true -> kr (aS s) H1 = true) : ∀ (n i lv : Nat) (s : List Nat) (p lvA : AV), i + n = 7 -> s.length <= i -> lvA.t = 2 -> lvA.i = .ofNat lv -> askF T a1.l r a0.m a0 H (hget H a2.m).ks (hget H a2.m).l k n lv s p = true ->
    forC (fun _ (r7 : AV × AV × AV) => asB T a0 a1 a2 (aR H.n) r7.1 r7.2.1 r7.2.2) (iseq n (.ofNat i) 1) (lvA, aS s, p) H1 (fun _ H2 => kr (aS []) H2) kr = true := by
  intro n
  induction n with
  | zero => exact fun i lv s p lvA _ _ _ _ h => hk _ h
  | succ n ih => exact fun i lv s p lvA hi hs l1 l2 h => zG2 (zT3 (F := askF T a1.l r a0.m a0 H (hget H a2.m).ks (hget H a2.m).l k n) R hk (l7 hi) hs l1 l2 (fun lv s p hs h => ih (i + 1) lv s p _ (s7 hi) hs rfl rfl h) h)
theorem zM5 {r : Nat} {L : List AV} {z : AV} (h : hget H r = oL (app L [z])) (hl : L.length < 1000) : RE (subK Zk (litC (aR r)) (unK negK (litC (aI 1)))) H z := .sub .lit (.un .lit fun k hk => ZR (n := (aI 1).t) rfl hk) fun k hk => by
  have e : (app L [z]).length = L.length + 1 := by rw [ZM, List.length_append]; rfl
  show kd2 (hget H r).t 0 (zr0 (.negSucc 0) (lenN (hget H r).l) fun j => nthK (fun z => k z H) (hget H r).l j) _ = true
  rw [h]
  refine Ve (n := 0) rfl ?_
  show gd (Nat.blt 0 (lenN (app L [z]))) (gd (Nat.blt 0 1000000) (nthK (fun z => k z H) (app L [z]) (Nat.sub (lenN (app L [z])) 1))) = true
  rw [Zw, e]
  refine ZT (Nat.blt_eq.mpr (Nat.succ_pos _)) (ZT rfl (zm5 (z := z) ?_ hk))
  rw [ZM]
  exact List.getElem?_concat_length
theorem yN0 {kt : Bool -> AH -> Bool} (h : y.t = 4 \/ y.t = 5) (hx : x0.t = 4) (hk : kt (Nat.beq y.m x0.m) H = true) : eqK H y x0 kt = true := by
  show kd2 y.t 2 _ (kd2 y.t 4 (kd2 x0.t 4 (kt (Nat.beq y.m x0.m) H) _) (kd2 y.t 5 (kd2 x0.t 4 (kt (Nat.beq y.m x0.m) H) _) _)) = true
  rw [hx]
  rcases h with h | h <;> rw [h] <;> exact hk
theorem yw2 {t : CT} {r : Bool} {a b : CE} {z : AV} (h : RT t H r) (h1 : r = true -> RE a H z) (h2 : r = false -> RE b H z) : RE (iteE t a b) H z := fun k hk => h _ (by
  cases r with
  | true => exact h1 rfl k hk
  | false => exact h2 rfl k hk)
theorem yu8 {a : CE} {z : AV} (h : RE a H z) (e : z.t = 6) : RE (oneC a) H (aHof z.m) := fun k hk => h _ (ZR e hk)
theorem yb5 {j : Nat} (h : y.t = 4 \/ y.t = 5) (e : y.m = j + 1) (h7 : j < 6) : RE (zb2 T [y]) H (aDot (nthD T (j + 1))) := fun k hk => by
  show Ja y (fun j => isZ j false fun i => gd (Nat.blt (Nat.succ i) 7) (k (aDot (nthD T (Nat.succ i))) H)) = true
  have main : isZ y.m false (fun i => gd (Nat.blt (Nat.succ i) 7) (k (aDot (nthD T (Nat.succ i))) H)) = true := by
    rw [e]
    exact ZT (b := Nat.blt (Nat.succ j) 7) (Nat.blt_eq.mpr (Nat.succ_lt_succ h7)) hk
  rcases h with q | q
  · exact Ve q main
  · exact JJ (by rw [q]; rfl) (ZR q main)
def IsH (y : AV) : Prop := y.t = 4 \/ y.t = 5
theorem ys2 {L : List AV} {z : AV} {kn : Unit -> AH -> Bool} {kr : AV -> AH -> Bool} (hn : H.n < 8000) (h1 : a1.t = 13) (hx : a1.l[0]? = some x0) (hx4 : x0.t = 4) (hy : IsH y) (hl : L.length < 1000) (hz : Nat.beq y.m x0.m = true -> z = x0) (hz2 : Nat.beq y.m x0.m = false -> ∃ j, y.m = j + 1 /\ j < 6 /\ z = aHof (nthD T (j + 1)))
    (hk : kn () (Ym H (oL (app (app L [y]) [z]))) = true) : asL T a1 (aR H.n) (Ym H (oL (app L [y]))) kn kr = true := by
  have hg : hget (Ym H (oL (app L [y]))) H.n = oL (app L [y]) := Xs (Nat.le_of_lt hn)
  have n0 : RE (subK Zk (litC a1) (litC (aI 0))) (Ym H (oL (app L [y]))) x0 := .sub .lit .lit fun k hk => Jv (n := 0) h1 rfl rfl (by decide) hx hk
  have l1 := zM5 hg hl
  refine zb1 (zE1 (args := [z]) hg (fun kl hkl => RF.cons (x := z) (yw2 (.cmp l1 n0 fun k hk => yN0 hy hx4 hk) (fun q => hz q ▸ n0) fun q => ?_) .nil kl hkl) ?_)
  · obtain ⟨j, e1, e2, e3⟩ := hz2 q
    rw [e3]
    exact yu8 (z := aDot (nthD T (j + 1))) (.call (.cons l1 .nil) (yb5 hy e1 e2)) rfl
  · refine YN (by rw [ZM, List.length_append]; exact Nat.lt_trans (Nat.succ_lt_succ hl) (by decide)) ?_
    show kn () (hset (Ym H (oL (app L [y]))) H.n (oL (app (app L [y]) [z]))) = true
    rw [zd4]
    exact hk
theorem zJ3 (L r : List AV) (y : AV) : app (app L [y]) r = app L (y :: r) := by rw [ZM, ZM, ZM, List.append_assoc]; rfl
theorem zQ2 {kr : AV -> AH -> Bool} (hn : H.n < 8000) (h1 : a1.t = 13) (hx : a1.l[0]? = some x0) (hx4 : x0.t = 4) (hx7 : x0.m < 7) : ∀ (n i j : Nat) (L : List AV) (y : AV) (k : List AV -> Bool), i + n = 7 -> L.length = i -> IsH y -> y.m = j -> ladF T x0 x0.m n j k = true ->
    ∃ r, k r = true /\ r.length = n /\ (∀ z ∈ r, zf7 z) /\ ∀ {kn : Unit -> AH -> Bool}, kn () (Ym H (oL (app L (y :: r)))) = true -> forC (fun _ (_ : Unit) => asL T a1 (aR H.n)) (iseq n (.ofNat i) 1) () (Ym H (oL (app L [y]))) kn kr = true := by
  intro n
  induction n with
  | zero => exact fun i j L y k _ _ _ _ h => ⟨[], h, rfl, fun _ h => (nomatch h), fun h => h⟩
  | succ n ih =>
    intro i j L y k hi hL hy hj h
    have hL7 : L.length < 1000 := hL ▸ Nat.lt_trans (l7 hi) (by decide)
    have hL1 : (app L [y]).length = i + 1 := by rw [ZM, List.length_append, hL]; rfl
    rcases YR (b := Nat.beq j x0.m) h with ⟨q, h⟩ | ⟨q, h⟩
    · obtain ⟨r, k1, k2, k3, k4⟩ := ih (i + 1) x0.m (app L [y]) x0 _ (s7 hi) hL1 (.inl hx4) rfl h
      refine ⟨x0 :: r, k1, congrArg Nat.succ k2, fun z hz => (List.mem_cons.mp hz).elim (fun e => e ▸ .inr ⟨hx4, hx7⟩) (k3 z), fun {kn} hk => ?_⟩
      rw [<- zJ3] at hk
      exact zG2 (ys2 hn h1 hx hx4 hy hL7 (fun _ => rfl) (fun e => by rw [hj, q] at e; cases e) (k4 hk))
    · cases j with
      | zero => cases h
      | succ j =>
        obtain ⟨h7, h⟩ := gd_t (b := Nat.ble (j + 1) 6) h
        obtain ⟨r, k1, k2, k3, k4⟩ := ih (i + 1) _ (app L [y]) (aHof (nthD T (j + 1))) _ (s7 hi) hL1 (.inr rfl) rfl h
        refine ⟨aHof (nthD T (j + 1)) :: r, k1, congrArg Nat.succ k2, fun z hz => (List.mem_cons.mp hz).elim (fun e => e ▸ .inl rfl) (k3 z), fun {kn} hk => ?_⟩
        rw [<- zJ3] at hk
        exact zG2 (ys2 hn h1 hx hx4 hy hL7 (fun e => by rw [hj, q] at e; cases e) (fun _ => ⟨j, hj, Nat.le_of_ble_eq_true h7, rfl⟩) (k4 hk))
end
theorem yi9 {H : AH} {x : AV} {k : AV -> AH -> Bool} (h : k x H = true) : litC x H k = true := h
theorem zM6 {H : AH} {a y : AV} {k : AV -> AH -> Bool} (h2 : a.t = 11) (h3 : (hget H a.m).t = 2) (hy : y.t = 4) (hk : VB (hget H a.m).ks y.m (fun z => k z H) (hget H a.m).l = true) : Zk H a y k = true := by
  show kd2 a.t 13 _ (kd2 a.t 11 (kd2 (hget H a.m).t 0 _ (kd2 (hget H a.m).t 2 (kd2 y.t 4 (VB (hget H a.m).ks y.m (fun z => k z H) (hget H a.m).l) _) _)) _) = true
  rw [h2, h3, hy]
  exact hk
theorem yO0 (T : List Nat) (a0 a1 a2 : AV) {H : AH} {kn : Unit -> AH -> Bool} {kr : AV -> AH -> Bool} (h : c30 T a0 a1 a2 H kn kr = true) : b30 T a0 a1 a2 H kn kr = true := by
  obtain ⟨hn, h⟩ := gd_t (b := Nat.ble (Nat.succ H.n) 8000) h
  obtain ⟨t0, m0, h⟩ := zn6 h
  obtain ⟨t1, h⟩ := kd_t (n := a1.t) (m := 13) h
  obtain ⟨x0, l1, e1, h⟩ := JK (l := a1.l) h
  obtain ⟨x4, x7, h⟩ := zn6 h
  obtain ⟨t2, h⟩ := kd_t (n := a2.t) (m := 11) h
  obtain ⟨m2, h⟩ := gd_t (b := Nat.ble (Nat.succ a2.m) H.n) h
  obtain ⟨o2, h⟩ := kd_t (n := (hget H a2.m).t) (m := 2) h
  have hn := Nat.le_of_ble_eq_true hn
  have m2 := Nat.le_of_ble_eq_true m2
  have hx : a1.l[0]? = some x0 := by rw [e1]; rfl
  obtain ⟨r, h, lr, hr, go⟩ := zQ2 (H := H) (kr := kr) hn t1 hx x4 x7 7 0 a0.m [] a0 _ rfl rfl (.inl t0) rfl h
  have R : AskR H (Ym H (oL (a0 :: r))) a0 a1 a2 r := ⟨fun i hi => (Yz (Nat.le_of_lt hn)).trans (if_neg (Nat.ne_of_lt hi)), Xs (Nat.le_of_lt hn), t0, m0, t1, t2, m2, o2, hr, lr⟩
  rw [ys0]
  refine zd2 (l := [a0]) (fun _ h => h) hn (zb1 (zR8 (go ?_)))
  refine VL (zz6 (x := a2) (y := x0) (.sub .lit .lit fun k hk => Jv (n := 0) t1 rfl rfl (by decide) hx hk) ?_)
  rw [show app [] (a0 :: r) = a0 :: r from rfl]
  refine zM6 t2 ((R.old _ m2).symm ▸ o2) x4 ?_
  rw [R.old _ m2]
  have main : ∀ p, askF T a1.l r a0.m a0 H (hget H a2.m).ks (hget H a2.m).l (fun s => kr (aS s) (Ym H (oL (a0 :: r)))) 7 8 [] p = true -> forC (fun _ (r7 : AV × AV × AV) => asB T a0 a1 a2 (aR H.n) r7.1 r7.2.1 r7.2.2) (iseq 7 (.ofNat 0) 1) (aI 8, aS [], p) (Ym H (oL (a0 :: r))) (fun _ H2 => kr (aS []) H2) kr = true :=
    fun p h => zT4 R (fun s h => h) 7 0 8 [] p (aI 8) rfl (Nat.le_refl _) rfl rfl h
  refine zb5 (fun p h => ?_) _ h
  refine VL (yi9 (VL (yi9 (zb1 (zR8 ?_)))))
  exact main p h
theorem Zs.f30c {c : Cfg} {N : Nums} (W : Zs c N) {T : List Nat} (X : zp3 c N T) : FnC c 15 30 (N.fd 30) ["sought", "names", "piles"] (Zn (on3 (c30 T))) := FnC.imp (W.f30 X) (zC3 (yO0 T))
set_option maxHeartbeats 4000000 in
theorem s36 {c : Cfg} {N : Nums} (T : List Nat) (W : Zs c N) (X : zp3 c N T) (a0 a1 a2 : AV) : SimS c 40 (Zv 36).names [("size", a2), ("names", a1), ("above", a0)] ((Ye 36).drop 4) (fun _ : Unit => []) (b36 T a0 a1 a2) :=
  (Zc (zc6 (Zp W.S (W.D 29 rfl) (W.f29 X) (by decide) (W.name (i := 29) rfl (by decide +kernel)) (by decide +kernel) (Zb (Za (by rfl)) (Zb (Za (by rfl)) Zd)) W.bp29 rfl (by decide)) (by decide +kernel) (by decide +kernel) (by decide +kernel)) (fun (r1 : AV × AV × AV) =>
  (Zc (zq5 (YG (Γi := [("above", a0)]) (ZF W.S ZL (.inr ⟨_, rfl⟩) (by rfl) (W.no _ (by decide)) (by decide +kernel) (Zb Zg Zd) (by decide) (by decide)) ⟨rfl, (by decide +kernel), (by decide +kernel), (by decide +kernel), (ZV (by rfl) (by decide +kernel) YE)⟩ (by decide +kernel) (fun (v3 : AV) => YQ) (fun (v3 : AV) => (YG (Γi := [("k", v3), ("above", a0)]) (ZF W.S ZL (.inr ⟨_, rfl⟩) (by rfl) (W.no _ (by decide)) (by decide +kernel) (Zb (Zl (ZI W.hh) (Za (by rfl)) Zg) (Zb Zg Zd)) (by decide) (by decide)) ⟨rfl, (by decide +kernel), (by decide +kernel), (by decide +kernel), (ZV (by rfl) (by decide +kernel) (ZV (by rfl) (by decide +kernel) YE))⟩ (by decide +kernel) (fun (v4 : AV) => (Jn (Zq (Xe W.S (by decide)) (Zh W.get (Za (by rfl)) (Za (by rfl))) (Za (by rfl))))) (fun (v4 : AV) => (Za (by rfl)))))) (by decide +kernel)) (fun v2 =>
  (Zc (Zm (Zp W.S (W.D 31 rfl) W.f31 (by decide) (W.name (i := 31) rfl (by decide +kernel)) (by decide +kernel) (Zb (Za (by rfl)) Zd) W.bp31 rfl (by decide)) (by decide +kernel)) (fun v7 =>
  (Zc (g := fun (r8 : Unit) => ([("unders", v7), ("kids", v2), ("told", r1.2.2), ("gone", r1.2.1), ("piles", r1.1), ("size", a2), ("names", a1), ("above", a0)] : Ctx)) (ZY (g := fun (r8 : Unit) => ([("unders", v7), ("kids", v2), ("told", r1.2.2), ("gone", r1.2.1), ("piles", r1.1), ("size", a2), ("names", a1), ("above", a0)] : Ctx)) (ZF W.S ZL (.inr ⟨_, rfl⟩) (by rfl) (W.no _ (by decide)) (by decide +kernel) (Zb Zg Zd) (by decide) (by decide)) (by decide +kernel) Sub.refl (fun v9 (r8 : Unit) =>
  (Zc (Zm (ZF W.S (W.bl (d := 40 - 2)) (.inl ⟨_, rfl⟩) (by rfl) (W.no _ (by decide)) (by decide +kernel) (Zb (Zh W.get (Zh W.get (Zh W.get (Za (by rfl)) (Zh W.get (Za (by rfl)) (Za (by rfl)))) Zg) Zg) Zd) (by decide) (by decide)) (by decide +kernel)) (fun v10 =>
  (Zc (g := fun (r11 : Unit) => ([("most", v10), ("k", v9), ("unders", v7), ("kids", v2), ("told", r1.2.2), ("gone", r1.2.1), ("piles", r1.1), ("size", a2), ("names", a1), ("above", a0)] : Ctx)) (ZJ (g := fun (r11 : Unit) => ([("most", v10), ("k", v9), ("unders", v7), ("kids", v2), ("told", r1.2.2), ("gone", r1.2.1), ("piles", r1.1), ("size", a2), ("names", a1), ("above", a0)] : Ctx)) (zd0 (Xq (Xd (Zp W.S (W.D 32 rfl) W.f32c (by decide) (W.name (i := 32) rfl (by decide +kernel)) (by decide +kernel) (Zb (Zh W.get (Za (by rfl)) (Za (by rfl))) (Zb (Za (by rfl)) (Zb (Za (by rfl)) (Zb (Za (by rfl)) Zd)))) W.bp32 rfl (by decide)))) (Xd (Zp W.S (W.D 32 rfl) W.f32c (by decide) (W.name (i := 32) rfl (by decide +kernel)) (by decide +kernel) (Zb (Zh W.get (Za (by rfl)) (Za (by rfl))) (Zb (Zl (Zz JD) (Za (by rfl)) Zg) (Zb (Za (by rfl)) (Zb (Za (by rfl)) Zd)))) W.bp32 rfl (by decide)))) (Zo ZU) (Zj () Sub.refl)) (fun (r11 : Unit) =>
  (Zj () (Zf (by rfl) (Zf (by rfl) Sub.refl))))))))) (fun (r8 : Unit) =>
  (Zc (zc6 (Zp W.S (W.D 33 rfl) W.f33 (by decide) (W.name (i := 33) rfl (by decide +kernel)) (by decide +kernel) (Zb (Za (by rfl)) Zd) W.bp33 rfl (by decide)) (by decide +kernel) (by decide +kernel) (by decide +kernel)) (fun (r12 : AV × AV × AV) =>
  (Zc (Jl (Γi := [("kids", v2), ("above", a0)]) (ZF W.S ZL (.inr ⟨_, rfl⟩) (by rfl) (W.no _ (by decide)) (by decide +kernel) (Zb Zg Zd) (by decide) (by decide)) ⟨rfl, (by decide +kernel), (by decide +kernel), (by decide +kernel), (ZV (by rfl) (by decide +kernel) (ZV (by rfl) (by decide +kernel) YE))⟩ (by decide +kernel) (fun (v14 : AV) => YQ) (fun (v14 : AV) => (Zl (ZI W.hh) (Zh W.get (Za (by rfl)) (Za (by rfl))) (yj8 (ZD (Zb (Zh W.get (Za (by rfl)) (Za (by rfl))) Zd)) (Za (by rfl))))) (by decide +kernel) (by decide +kernel)) (fun v13 =>
  (Zc (g := fun (r16 : Unit) => ([("near", v13), ("lost", r12.2.2), ("seen", r12.2.1), ("ranks", r12.1), ("unders", v7), ("kids", v2), ("told", r1.2.2), ("gone", r1.2.1), ("piles", r1.1), ("size", a2), ("names", a1), ("above", a0)] : Ctx)) (ZY (g := fun (r16 : Unit) => ([("near", v13), ("lost", r12.2.2), ("seen", r12.2.1), ("ranks", r12.1), ("unders", v7), ("kids", v2), ("told", r1.2.2), ("gone", r1.2.1), ("piles", r1.1), ("size", a2), ("names", a1), ("above", a0)] : Ctx)) (ZF W.S ZL (.inr ⟨_, rfl⟩) (by rfl) (W.no _ (by decide)) (by decide +kernel) (Zb Zg Zd) (by decide) (by decide)) (by decide +kernel) Sub.refl (fun v17 (r16 : Unit) =>
  (Zc (g := fun (r18 : Unit) => ([("k", v17), ("near", v13), ("lost", r12.2.2), ("seen", r12.2.1), ("ranks", r12.1), ("unders", v7), ("kids", v2), ("told", r1.2.2), ("gone", r1.2.1), ("piles", r1.1), ("size", a2), ("names", a1), ("above", a0)] : Ctx)) (ZJ (g := fun (r18 : Unit) => ([("k", v17), ("near", v13), ("lost", r12.2.2), ("seen", r12.2.1), ("ranks", r12.1), ("unders", v7), ("kids", v2), ("told", r1.2.2), ("gone", r1.2.1), ("piles", r1.1), ("size", a2), ("names", a1), ("above", a0)] : Ctx)) (Zq (zC4 W.S (by decide)) (Zp W.S (W.D 30 rfl) (W.f30c X) (by decide) (W.name (i := 30) rfl (by decide +kernel)) (by decide +kernel) (Zb (Zh W.get (Za (by rfl)) (Za (by rfl))) (Zb (Za (by rfl)) (Zb (Za (by rfl)) Zd))) W.bp30 rfl (by decide)) (Zp W.S (W.D 34 rfl) W.f34c (by decide) (W.name (i := 34) rfl (by decide +kernel)) (by decide +kernel) (Zb (Za (by rfl)) (Zb (Za (by rfl)) (Zb (Za (by rfl)) Zd))) W.bp34 rfl (by decide))) (Zo ZU) (Zj () Sub.refl)) (fun (r18 : Unit) =>
  (Zc (Zm (Zh W.get (Za (by rfl)) (Zh W.get (Za (by rfl)) (Za (by rfl)))) (by decide +kernel)) (fun v19 =>
  (Zc (Zm (zq0 (Zb (YG (Γi := [("k", v17), ("seen", r12.2.1)]) (zl3 (zp8 W.S (W.no _ (by decide)) (by decide +kernel) (Zb (Zh W.get (Za (by rfl)) (Za (by rfl))) Zd))) ⟨rfl, (by decide +kernel), (by decide +kernel), (by decide +kernel), (ZV (by rfl) (by decide +kernel) (ZV (by rfl) (by decide +kernel) YE))⟩ (by decide +kernel) (fun (v21 : AV) => YQ) (fun (v21 : AV) => (Zl (ZI W.hh) (Zl zd7 (Zy (by decide +kernel)) (Za (by rfl))) (Zh W.get (Zy (by decide +kernel)) (Zh W.get (Zh W.get (Za (by rfl)) (Za (by rfl))) (Za (by rfl))))))) Zd)) (by decide +kernel)) (fun v20 =>
  (Zc (g := fun (r23 : Unit) => ([("text", v20), ("pile", v19), ("k", v17), ("near", v13), ("lost", r12.2.2), ("seen", r12.2.1), ("ranks", r12.1), ("unders", v7), ("kids", v2), ("told", r1.2.2), ("gone", r1.2.1), ("piles", r1.1), ("size", a2), ("names", a1), ("above", a0)] : Ctx)) (ZJ (g := fun (r23 : Unit) => ([("text", v20), ("pile", v19), ("k", v17), ("near", v13), ("lost", r12.2.2), ("seen", r12.2.1), ("ranks", r12.1), ("unders", v7), ("kids", v2), ("told", r1.2.2), ("gone", r1.2.1), ("piles", r1.1), ("size", a2), ("names", a1), ("above", a0)] : Ctx)) (Zq (zC4 W.S (by decide)) (ZD (Zb (ZF W.S (W.bs (d := 40 - 8)) (.inr ⟨_, rfl⟩) (by rfl) (W.no _ (by decide)) (by decide +kernel) (Zb (Za (by rfl)) Zd) (by decide) (by decide)) (Zb (ZF W.S (W.bl (d := 40 - 2)) (.inl ⟨_, rfl⟩) (by rfl) (W.no _ (by decide)) (by decide +kernel) (Zb (Za (by rfl)) Zd) (by decide) (by decide)) (Zb (XW W.S W.sup.toAccG W.m8.l W.f108 (by decide) (Za (by rfl)) Zd W.p8 rfl (by decide)) (Zb (Zh W.get (Za (by rfl)) (Za (by rfl))) Zd))))) (ZD (Zb (Za (by rfl)) (Zb (Zl (ZI W.hh) (Za (by rfl)) (ZF W.S (W.bl (d := 40 - 2)) (.inl ⟨_, rfl⟩) (by rfl) (W.no _ (by decide)) (by decide +kernel) (Zb (Za (by rfl)) Zd) (by decide) (by decide))) (Zb (ZF W.S (W.bl (d := 40 - 2)) (.inl ⟨_, rfl⟩) (by rfl) (W.no _ (by decide)) (by decide +kernel) (Zb (Zh W.get (Za (by rfl)) (Za (by rfl))) Zd) (by decide) (by decide)) (Zb (Zh W.get (Za (by rfl)) (Za (by rfl))) Zd)))))) (Zo ZU) (Zj () Sub.refl)) (fun (r23 : Unit) =>
  (Zj () (Zf (by rfl) (Zf (by rfl) (Zf (by rfl) Sub.refl)))))))))))))) (fun (r16 : Unit) =>
  (Zc (g := fun (r24 : Unit) => ([("near", v13), ("lost", r12.2.2), ("seen", r12.2.1), ("ranks", r12.1), ("unders", v7), ("kids", v2), ("told", r1.2.2), ("gone", r1.2.1), ("piles", r1.1), ("size", a2), ("names", a1), ("above", a0)] : Ctx)) (ZJ (g := fun (r24 : Unit) => ([("near", v13), ("lost", r12.2.2), ("seen", r12.2.1), ("ranks", r12.1), ("unders", v7), ("kids", v2), ("told", r1.2.2), ("gone", r1.2.1), ("piles", r1.1), ("size", a2), ("names", a1), ("above", a0)] : Ctx)) (Zq (zC4 W.S (by decide)) (Zp W.S (W.D 22 rfl) (W.f22 X.O) (by decide) (W.name (i := 22) rfl (by decide +kernel)) (by decide +kernel) (Zb (Zl (ZI W.hh) (Za (by rfl)) (ZD (Zb (Za (by rfl)) Zd))) (Zb Xp Zd)) (W.bp2 22 (by decide)) rfl (by decide)) (ZF W.S (W.bl (d := 40 - 2)) (.inl ⟨_, rfl⟩) (by rfl) (W.no _ (by decide)) (by decide +kernel) (Zb (Za (by rfl)) Zd) (by decide) (by decide))) (Zo ZU) (Zj () Sub.refl)) (fun (r24 : Unit) =>
  (Zo (Vk (Xe W.S (by decide)) (Zp W.S (W.D 35 rfl) X.f35 (by decide) (W.name (i := 35) rfl (by decide +kernel)) (by decide +kernel) (Zb (Zh W.get (Za (by rfl)) Zg) (Zb (Zh W.get (Za (by rfl)) Zg) Zd)) W.bp35 rfl (by decide)) (Zy (by decide +kernel))))))))))))))))))))
noncomputable def suf3 (n : Nat) : List Nat := isZ n [] fun m => isZ m [55] fun _ => [45, 65]
noncomputable def zn0 (y : Int) (i : Nat) : Int := Nat.rec (motive := fun _ => Int) (fdI y 3) (fun _ x => fdI x 3) i
noncomputable def sxAt (y : Int) (i : Nat) : Nat := ((zn0 y i).fmod 3).toNat
noncomputable def topN (n : Nat) : List Nat := isZ n [108, 111, 99, 97, 108] fun m => isZ m [98, 46, 99, 111, 109] fun _ => [99, 46, 55, 97, 55]
noncomputable def yj4 (y : Int) : List Nat := topN (y.fmod 3).toNat
noncomputable def nmB (T : List Nat) (y : Int) (f : Nat) : Nat -> List Nat := Nat.rec (motive := fun _ => Nat -> List Nat) (fun _ => yj4 y) (fun _ ih k => isZ k (yj4 y) fun i => (97 + i) :: (suf3 (sxAt y i) ++ 46 :: ih (nthD T (i + 1)))) f
noncomputable def nmOf (T : List Nat) (y : Int) (k : Nat) : List Nat := nmB T y k k
structure Jb (T : List Nat) : Prop where
  len : T.length = 7
  lt : ∀ k, 1 <= k -> k < 7 -> nthD T k < k
theorem zP6 {T : List Nat} {y : Int} (h : Jb T) (f : Nat) : ∀ (g k : Nat), k < 7 -> k <= f -> k <= g -> nmB T y f k = nmB T y g k := by
  induction f with
  | zero => intro g k _ hf _; obtain rfl := Nat.le_zero.mp hf; cases g <;> rfl
  | succ f ih =>
    intro g k hk hf hg
    cases k with
    | zero => cases g <;> rfl
    | succ k =>
      cases g with
      | zero => cases hg
      | succ g =>
        have hp := h.lt (k + 1) (Nat.succ_pos k) hk
        show (97 + k) :: (suf3 (sxAt y k) ++ 46 :: nmB T y f (nthD T (k + 1))) = (97 + k) :: (suf3 (sxAt y k) ++ 46 :: nmB T y g (nthD T (k + 1)))
        rw [ih g _ (Nat.lt_trans hp hk) (Nat.le_of_lt_succ (Nat.lt_of_lt_of_le hp hf)) (Nat.le_of_lt_succ (Nat.lt_of_lt_of_le hp hg))]
theorem zc2 (n : Nat) : suf3 n ∈ sufs /\ (suf3 n).length <= 2 := by
  match n with
  | 0 => exact ⟨by decide, by decide⟩
  | 1 => exact ⟨by decide, by decide⟩
  | n + 2 => exact ⟨show [45, 65] ∈ sufs by decide, Nat.le_refl 2⟩
theorem zV6 {T : List Nat} {y : Int} (h : Jb T) (k : Nat) (h7 : k + 1 < 7) : nmOf T y (k + 1) = (97 + k) :: (suf3 (sxAt y k) ++ 46 :: nmOf T y (nthD T (k + 1))) := by
  have hp := h.lt (k + 1) (Nat.succ_pos k) h7
  show (97 + k) :: (suf3 (sxAt y k) ++ 46 :: nmB T y k (nthD T (k + 1))) = _
  rw [zP6 h k (nthD T (k + 1)) _ (Nat.lt_trans hp h7) (Nat.le_of_lt_succ hp) (Nat.le_refl _)]
  rfl
theorem zY8 (n : Nat) : topN n ∈ tops := by
  match n with
  | 0 => decide
  | 1 => decide
  | n + 2 => exact show [99, 46, 55, 97, 55] ∈ tops by decide
theorem zP5 {T : List Nat} {y : Int} (h : Jb T) : NmOk T (nmOf T y) := by
  refine ⟨zY8 _, fun k h1 h7 => ⟨h.lt k h1 h7, ?_⟩⟩
  obtain ⟨k, rfl⟩ := Nat.exists_eq_add_of_le' h1
  exact ⟨suf3 (sxAt y k), (zc2 _).1, by rw [zV6 h k h7, show 96 + (k + 1) = 97 + k from (Nat.add_right_comm 96 k 1)]⟩
theorem zk1 (n : Nat) : Jb (Va n) := by
  refine ⟨rfl, fun k h1 h7 => ?_⟩
  match k, h1, h7 with
  | 1, _, _ => exact Nat.mod_lt _ (by decide)
  | 2, _, _ => exact Nat.mod_lt _ (by decide)
  | 3, _, _ => exact Nat.mod_lt _ (by decide)
  | 4, _, _ => exact Nat.mod_lt _ (by decide)
  | 5, _, _ => exact Nat.mod_lt _ (by decide)
  | 6, _, _ => exact Nat.mod_lt _ (by decide)
theorem zD1 {l : List Nat} {k : Nat} (h : k < l.length) : (Yu l)[k]? = some (aI (.ofNat (nthD l k))) := by
  rw [XX, List.getElem?_map, List.getElem?_eq_getElem h]
  induction l generalizing k with
  | nil => cases h
  | cons x l ih => cases k; rfl; exact ih (Nat.lt_of_succ_lt_succ h)
noncomputable def XC (n : Nat) : List AV := (List.range n).map aX
theorem zn5 (n : Nat) : app (XC n) [aX n] = XC (n + 1) := by rw [ZM]; unfold XC; rw [List.range_succ, List.map_append]; rfl
theorem zw4 {n i : Nat} (h : i < n) : (XC n)[i]? = some (aX i) := by unfold XC; rw [List.getElem?_map, List.getElem?_range h]; rfl
theorem zw3 (n : Nat) : (XC n).length = n := by unfold XC; rw [List.length_map, List.length_range]
section
variable {H : AH} {k : AV -> AH -> Bool} {i n m : Nat} {a s : List Nat}
theorem zZ3 (h : i < 6) : Zk H (aS [116, 97, 98, 99, 100, 101, 102]) (aI (.ofNat (i + 1))) k = k (aC (97 + i)) H := by
  match i, h with
  | 0, _ => rfl
  | 1, _ => rfl
  | 2, _ => rfl
  | 3, _ => rfl
  | 4, _ => rfl
  | 5, _ => rfl
theorem zZ4 (h : n < 3) : Zk H (aL [aS [], aS [55], aS [45, 65]]) (aI (.ofNat n)) k = k (aS (suf3 n)) H := by
  match n, h with
  | 0, _ => rfl
  | 1, _ => rfl
  | 2, _ => rfl
theorem zZ2 (h : n < 3) : Zk H (aL [aV [108, 111, 99, 97, 108], aV [98, 46, 99, 111, 109], aV [99, 46, 55, 97, 55]]) (aI (.ofNat n)) k = k (aV (topN n)) H := by
  match n, h with
  | 0, _ => rfl
  | 1, _ => rfl
  | 2, _ => rfl
theorem yP7 (hs : s.length < 1000) (hk : k (aS (m :: s)) H = true) : ZW H (aC m) (aS s) k = true := YZ (l := [m]) (show 1 < 100000 by decide) (YZ (l := s) (Nat.lt_trans hs (by decide)) hk)
theorem yP5 (ha : a.length < 1000) (hk : k (aS (app a [46])) H = true) : ZW H (aS a) (aS [46]) k = true := YZ (l := a) (Nat.lt_trans ha (by decide)) (YZ (l := [46]) (by decide) hk)
theorem zp7 {n : Nat} : (suf3 n).length < 999 := Nat.lt_of_le_of_lt (zc2 n).2 (by decide)
end
section
variable {T : List Nat} {y : Int} {H : AH} {r : Nat} {nm : Nat -> Str} {kn : Unit -> AH -> Bool} {kr : AV -> AH -> Bool}
structure zt8 (T : List Nat) (q r i : Nat) (H0 H : AH) : Prop where
  hh : H.h = i + 1
  gq : hget H q = oL (XC (i + 1))
  gr : hget H r = oL (Yu T)
  ss : za4 q H0 H
theorem zv7 {f : AV -> AV -> CS AV} {q : Nat} {H0 : AH} (hf : ∀ {i : Nat} {H : AH} {kn : AV -> AH -> Bool} {kr : AV -> AH -> Bool}, i < 6 -> zt8 T q r i H0 H -> (∀ H', zt8 T q r (i + 1) H0 H' -> kn (aI (zn0 y (i + 1))) H' = true) -> f (aI (.ofNat (i + 1))) (aI (zn0 y i)) H kn kr = true)
    (n : Nat) : ∀ {i : Nat} {H : AH} {kn : AV -> AH -> Bool}, i + n = 6 -> zt8 T q r i H0 H -> (∀ v H', zt8 T q r 6 H0 H' -> kn v H' = true) -> forC f (iseq n (.ofNat (i + 1)) 1) (aI (zn0 y i)) H kn kr = true := by
  induction n with
  | zero => intro i H kn hi J hk; obtain rfl := hi; exact hk _ _ J
  | succ n ih =>
    intro i H kn hi J hk
    exact hf (by omega) J fun H' J' => ih (i := i + 1) (by omega) J' hk
theorem yh2 {x : Int} {m : Nat} {k : AV -> AH -> Bool} (h : 0 < m) (h2 : m <= 1000000) (hk : k (aI (fdI x m)) H = true) : intK divG H (aI x) (aI (.ofNat m)) k = true := zs1 (kk := fun j => k (aI (fdI x j)) H) h h2 hk
theorem zD3 (hT : Jb T) (hnm : ∀ k, k < 7 -> nm k = txt (nmOf T y k)) (hn : H.n < 8000) (hh : H.h = 0) (hr : hget H r = oL (Yu T)) (hrn : r < H.n)
    (hk : ∀ H', H'.n = H.n + 1 -> (∀ j, j < H.n -> hget H' j = hget H j) -> hget H' H.n = oL (XC 7) -> H'.h = 7 -> kr (aR H.n) H' = true) : b27 nm (aI y) (aR r) H kn kr = true := by
  have hn' : (hup H).n <= 8000 := Nat.le_of_lt hn
  have hn2 : H.n <= 8000 := hn'
  obtain ⟨_, hy⟩ := zi9 (x := y) (m := 3) (by decide)
  delta b27 seqC asgC Yo Ze litC nilL mkL sel forL biC retC binK subK yi0
  refine ze0 (m := 3) (by decide) (by decide) ?_
  refine (zZ2 hy).trans ?_
  refine ZR rfl ?_
  refine ZR hh ?_
  refine ZT (pB_i (hnm 0 (by decide))) ?_
  show newK (oL [aX H.h]) (hup H) _ = true
  rw [hh]
  refine zD0 (H := hup H) hn ?_
  refine yh2 (m := 3) (by decide) (by decide) ?_
  refine zW1 ?_
  show forC _ (iseq 6 (.ofNat (0 + 1)) 1) (aI (zn0 y 0)) (Ym (hup H) (oL [aX 0])) _ kr = true
  have hrq : r ≠ H.n := Nat.ne_of_lt hrn
  refine zv7 (T := T) (q := H.n) (r := r) (H0 := Ym (hup H) (oL [aX 0])) (fun {i H1 kn kr} hi J hkn => ?_) 6 (Nat.zero_add 6) ⟨congrArg Nat.succ hh, Xs hn', ?_, ⟨rfl, fun _ _ => rfl⟩⟩ fun v H' J => ?_
  · have hp := hT.lt (i + 1) (Nat.succ_pos i) (Nat.succ_lt_succ hi)
    have hp7 := Nat.lt_trans hp (Nat.succ_lt_succ hi)
    have hpar := zV6 (y := y) hT i (Nat.succ_lt_succ hi)
    obtain ⟨_, hs⟩ := zi9 (x := zn0 y i) (m := 3) (by decide)
    have Np := Yr (zP5 (y := y) hT) _ hp7
    delta Xl lmC yf9
    refine ZR (n := (aR H.n).t) (m := 11) rfl ?_
    refine ZR (by show (hget H1 H.n).t = 0; rw [J.gq]; rfl) ?_
    refine (zZ3 hi).trans ?_
    refine ze0 (m := 3) (by decide) (by decide) ?_
    refine (zZ4 hs).trans ?_
    refine yP7 (Nat.lt_succ_of_lt zp7) ?_
    refine yP5 (Nat.succ_lt_succ zp7) ?_
    refine XJ J.gr (Nat.lt_trans (Nat.succ_lt_succ hi) (by decide)) (zD1 (by rw [hT.len]; exact Nat.succ_lt_succ hi)) ?_
    refine XJ J.gq (Nat.lt_trans hp7 (by decide)) (zw4 hp) ?_
    refine ZT (b := pB (zV9 nm H1.h ((97 + i) :: app (suf3 (sxAt y i)) [46]) (nthD T (i + 1)))) (pB_i ?_) ?_
    · have l2 := (Np.tx hp7).2
      have l1 := Np.len1
      have l3 := (zc2 (sxAt y i)).2
      rw [J.hh]
      refine ⟨?_, Nat.succ_ne_zero _, ?_, ?_⟩
      · rw [hnm _ (Nat.succ_lt_succ hi), hnm _ hp7, hpar, ZM, XV, ZM]
        simp
      · rw [hnm _ hp7, ZN]; omega
      · rw [hnm _ hp7, ZN, ZM, List.length_cons, List.length_append]; show _ + 1 + 1 + _ <= _; omega
    · show kd (hget H1 H.n).t 0 (Yn (hget H1 H.n).l [aX H1.h] fun l' => kn (aI (zn0 y (i + 1))) (hset (hup H1) H.n (oL l'))) = true
      rw [J.gq, J.hh]
      refine YN (l := XC (i + 1)) (by rw [zw3]; exact Nat.lt_trans (Nat.succ_lt_succ hi) (by decide)) ?_
      refine hkn _ ⟨congrArg Nat.succ J.hh, ?_, ?_, ?_⟩
      · exact (zn8 hn2).trans (congrArg oL (zn5 _))
      · exact (VA hn2).trans ((if_neg hrq).trans J.gr)
      · exact ⟨J.ss.n, fun j hj => (VA hn2).trans ((if_neg hj).trans (J.ss.j j hj))⟩
  · exact (Yz hn').trans ((if_neg hrq).trans hr)
  · exact hk H' (za4.push hn' J.ss).1 (za4.push hn' J.ss).2 J.gq J.hh
end
noncomputable abbrev Cfg.re (c : Cfg) (ht : Nat -> Tok) (t0 : Nat) : Cfg := { c with ht := ht, t0 := t0 }
theorem zn3 {H : AH} {q : Nat} {k : Bool} (h : zQ7 H q k = true) : (hget H q).t = 5 /\ k = true := kd_t h
theorem zk4 {i : Nat} (h : i < 3) : hget tabH i = oT i := by
  match i, h with
  | 0, _ => rfl
  | 1, _ => rfl
  | 2, _ => rfl
theorem yv1 {v : AV} {H : AH} (h : okB v H = true) : v.t = 1 /\ v.b = true /\ ∀ i, i < 3 -> (hget H i).t = 5 := by
  obtain ⟨e, h⟩ := kd_t h
  rcases YR h with ⟨eb, h⟩ | ⟨_, h⟩
  · obtain ⟨h0, h⟩ := zn3 h
    obtain ⟨h1, h⟩ := zn3 h
    exact ⟨e, eb, fun i hi => match i, hi with
      | 0, _ => h0
      | 1, _ => h1
      | 2, _ => (zn3 h).1⟩
  · cases h
section
variable {c c' : Cfg} {W W' W₀ : Wd} {s s' : Shared} {H : AH} {X : List Addr} {env : Env} {Γ Γ' : Ctx}
theorem asg1 {f : AV -> CS Unit} {a : CE} {x : AV} {kn : AV -> AH -> Bool} {kr : AV -> AH -> Bool} (ha : ∀ k : AV -> AH -> Bool, k x H = true -> a H k = true) (hk : f x H (fun _ H1 => kn aN H1) kn = true) : asgC (ZC (Zn (on1 f)) (Ze a nilL)) H kn kr = true := ha _ hk
theorem asg2 {f : AV -> AV -> CS Unit} {a : CE} {x y : AV} {kn : AV -> AH -> Bool} {kr : AV -> AH -> Bool} (ha : ∀ k : AV -> AH -> Bool, k x H = true -> a H k = true) (hk : f x y H (fun _ H1 => kn aN H1) kn = true) : asgC (ZC (Zn (on2 f)) (Ze a (Ze (litC y) nilL))) H kn kr = true := ha _ hk
theorem Ext.shr (x : Ext X W W' s s') (e : W₀.ρ = W.ρ) : Ext X W₀ W₀ s s' := ⟨.refl _, fun _ => .inl, fun _ _ => .inl, fun _ _ h h2 o => x.kp _ _ (x.notin (e ▸ h) o) h2 o, x.al, x.gk⟩
theorem VRs.conv {f g : Nat -> AV} {l : List Nat} : ∀ {vs : List Value}, (∀ k, k ∈ l -> ∀ v, VR c W (f k) v -> VR c' W' (g k) v) -> VRs c W (l.map f) vs -> VRs c' W' (l.map g) vs := by
  induction l with
  | nil => exact fun _ h => h
  | cons k l ih => exact fun h ⟨v, r, e, hv, ht⟩ => ⟨v, r, e, h k (List.mem_cons_self ..) v hv, ih (fun j hj => h j (List.mem_cons_of_mem _ hj)) ht⟩
theorem VRs.mem {x : AV} {l : List AV} : ∀ {vs : List Value}, VRs c W l vs -> x ∈ l -> ∃ v, VR c W x v := by
  induction l with
  | nil => exact fun _ h => nomatch h
  | cons y l ih => exact fun ⟨v, r, _, hv, ht⟩ h => (List.mem_cons.mp h).elim (fun e => ⟨v, e ▸ hv⟩) (ih ht)
theorem FrR.re {ht : Nat -> Tok} {t0 : Nat} (F : FrR c W s env Γ) (hf : ∀ a, a ∉ W.ρ -> W.μ a = none -> a ∉ W'.ρ /\ W'.μ a = none) (hv : ∀ x av', Γ'.lookup x = some av' -> ∃ av, Γ.lookup x = some av /\ ∀ v, VR c W av v -> VR (c.re ht t0) W' av' v) : FrR (c.re ht t0) W' s env Γ' := by
  obtain ⟨m, hn, hm⟩ := F.ns
  refine ⟨F.kind, F.glob, F.blt, ⟨(hf _ F.loc.r F.loc.m).1, (hf _ F.loc.r F.loc.m).2, F.loc.b⟩, ⟨m, hn, fun y av h1 h2 => ?_⟩, fun y av h1 h2 => ?_, F.own, fun p hp => ?_, F.apart, F.src⟩
  · obtain ⟨av0, h3, h4⟩ := hv y av h1
    exact (hm y av0 h3 h2).imp fun v h => ⟨h.1, h4 v h.2⟩
  · obtain ⟨av0, h3, h4⟩ := hv y av h1
    obtain ⟨h5, a, v, h6, h7, h8⟩ := F.cells y av0 h3 h2
    exact ⟨h5, a, v, h6, h7, h4 v h8⟩
  · obtain ⟨h1, h2, h3⟩ := F.cellAt p hp
    exact ⟨(hf _ h1 h2).1, (hf _ h1 h2).2, h3⟩
end
noncomputable def lawT (l : List Int) : List Nat := Va (((XD l 0 [119, 1765, 2]).getD 0 0).fmod 720).toNat
noncomputable def lawY (l : List Int) : Int := (XD l 0 [119, 1765, 2]).getD 1 0
noncomputable def lawZ (l : List Int) : Int := (((XD l 0 [119, 1765, 2]).getD 2 0).fmod (4 : Nat)).toNat
noncomputable def lawμ (W : Wd) (T : List Nat) (a4 a5 : Addr) : Addr -> Option AV := fun a => if a = a4 then some (aL (Yu T)) else if a = a5 then some (aL zs2) else (W.μ a).filter fun x => Nat.beq x.t 15
theorem yu6 {c : Cfg} {N : Nums} (W : Zs c N) (a0 : AV) : ∃ s1 s2 s3 s4, Ye 36 = s1 :: s2 :: s3 :: s4 :: (Ye 36).drop 4 /\
    Sim1 c 40 (Zv 36).names [("script", a0)] s1 (fun v1 => [("cells", v1), ("script", a0)]) (asgC (ZC (Zn (on1 b25)) (Ze (litC a0) nilL))) /\
    (∀ v1, Sim1 c 40 (Zv 36).names [("cells", v1), ("script", a0)] s2 (fun v2 => [("above", v2), ("cells", v1), ("script", a0)]) (asgC (ZC (Zn (on1 b26)) (Ze (subK Zk (litC v1) (litC (aI 0))) nilL)))) /\
    (∀ v1 v2, Sim1 c 40 (Zv 36).names [("above", v2), ("cells", v1), ("script", a0)] s3 (fun v3 => [("names", v3), ("above", v2), ("cells", v1), ("script", a0)]) (asgC (ZC (Zn (on2 (b27 c.hn))) (Ze (subK Zk (litC v1) (litC (aI 1))) (Ze (litC v2) nilL))))) /\
    (∀ v1 v2 v3, Sim1 c 40 (Zv 36).names [("names", v3), ("above", v2), ("cells", v1), ("script", a0)] s4 (fun v4 => [("size", v4), ("names", v3), ("above", v2), ("cells", v1), ("script", a0)]) (asgC (binK (intK modG) (subK Zk (litC v1) (litC (aI 2))) (litC (aI 4))))) :=
  ⟨_, _, _, _, rfl, Zm (Zp W.S (W.D 25 rfl) W.f25 (by decide) (W.name (i := 25) rfl (by decide +kernel)) (by decide +kernel) (Zb (Za (by rfl)) Zd) W.bp25 rfl (by decide)) (by decide +kernel),
    fun v1 => Zm (Zp W.S (W.D 26 rfl) W.f26 (by decide) (W.name (i := 26) rfl (by decide +kernel)) (by decide +kernel) (Zb (Zh W.get (Za (by rfl)) Zg) Zd) W.bp26 rfl (by decide)) (by decide +kernel),
    fun v1 v2 => Zm (Zp W.S (W.D 27 rfl) W.f27 (by decide) (W.name (i := 27) rfl (by decide +kernel)) (by decide +kernel) (Zb (Zh W.get (Za (by rfl)) Zg) (Zb (Za (by rfl)) Zd)) W.bp27 rfl (by decide)) (by decide +kernel),
    fun v1 v2 v3 => Zm (Zl (Zz Vc) (Zh W.get (Za (by rfl)) Zg) Zg) (by decide +kernel)⟩
theorem ym9 {c : Cfg} {W : Wd} {ρ : List Addr} {s : Shared} {H : AH} {A : Around} {env : Env} {T : List Nat} {z : Int} {Γ : Ctx} (hρ : ρ.length = 3) (hnd : ρ.Nodup) (hix : ∀ (i : Nat) (a : Addr), ρ[i]? = some a -> W.ρ[i]? = some a) (hn : H.n = 6)
    (ht0 : ∀ i, i < 3 -> hget H i = oT i) (h4 : hget H 4 = oL (Yu T)) (h5 : hget H 5 = oL (XC 7)) (hz : z = c.sz) (hnb : nsIn c.K cStatics sharingNotToldKey = some none)
    (D : Rdy c 40 (Zv 36).names (("size", aI z) :: ("names", aR 5) :: ("above", aR 4) :: Γ) A env W s H) :
    ∃ ht t0 W', W'.ρ = ρ /\ Toks (c.re ht t0) false /\ Rdy (c.re ht t0) 40 (Zv 36).names [("size", aZ 0), ("names", aL zs2), ("above", aL (Yu T))] A env W' s tabH := by
  have R := D.R
  have hlen : W.ρ.length = 6 := R.cnt.symm.trans hn
  obtain ⟨a4, ha4⟩ : ∃ a, W.ρ[4]? = some a := ⟨_, List.getElem?_eq_getElem (by rw [hlen]; decide)⟩
  obtain ⟨a5, ha5⟩ : ∃ a, W.ρ[5]? = some a := ⟨_, List.getElem?_eq_getElem (by rw [hlen]; decide)⟩
  have ix := fun i a (h : W.ρ[i]? = some a) => List.getElem?_eq_some_iff.mp h
  have inj : ∀ {i j a}, W.ρ[i]? = some a -> W.ρ[j]? = some a -> i = j := fun {i j a} hi hj => (List.getElem?_inj (ix _ _ hi).1 R.nd).mp (hi.trans hj.symm)
  have sub : ∀ a, a ∈ ρ -> ∃ i, i < 3 /\ W.ρ[i]? = some a := fun a h => let ⟨i, hi⟩ := List.getElem?_of_mem h; ⟨i, hρ ▸ (List.getElem?_eq_some_iff.mp hi).1, hix i a hi⟩
  have n4 : a4 ∉ ρ := fun h => let ⟨i, hi, e⟩ := sub _ h; absurd (inj e ha4) (by omega)
  have n5 : a5 ∉ ρ := fun h => let ⟨i, hi, e⟩ := sub _ h; absurd (inj e ha5) (by omega)
  have n45 : a5 ≠ a4 := fun e => absurd (inj ha4 (e ▸ ha5)) (by decide)
  obtain ⟨o4, g4, r4⟩ := R.obj 4 a4 ha4
  obtain ⟨o5, g5, r5⟩ := R.obj 5 a5 ha5
  rw [h4] at r4
  rw [h5] at r5
  obtain ⟨v4, m4, rfl, w4⟩ := r4
  obtain ⟨v5, m5, rfl, w5⟩ := r5
  have hh : ∀ k, k < 7 -> ∃ t, W.ht k = some t := fun k hk => by
    obtain ⟨v, t, _, h⟩ := w5.mem (List.mem_map_of_mem (List.mem_range.mpr hk))
    exact ⟨t, h⟩
  have hm : ∀ a, a ≠ a4 -> a ≠ a5 -> lawμ W T a4 a5 a = (W.μ a).filter fun x => Nat.beq x.t 15 := fun a e1 e2 => (if_neg e1).trans (if_neg e2)
  have e4 : lawμ W T a4 a5 a4 = some (aL (Yu T)) := if_pos rfl
  have e5 : lawμ W T a4 a5 a5 = some (aL zs2) := (if_neg n45).trans (if_pos rfl)
  have keep : ∀ a q, W.μ a = some (aK q) -> lawμ W T a4 a5 a = some (aK q) := fun a q h => by
    have out := (R.frz a _ h).1
    rw [hm a (fun e => out (e ▸ List.mem_of_getElem? ha4)) (fun e => out (e ▸ List.mem_of_getElem? ha5)), h]
    rfl
  have none' : ∀ a, a ∉ W.ρ -> W.μ a = none -> a ∉ ρ /\ lawμ W T a4 a5 a = none := fun a h1 h2 => ⟨fun h => let ⟨_, _, e⟩ := sub _ h; h1 (List.mem_of_getElem? e), by
    rw [hm a (fun e => h1 (e ▸ List.mem_of_getElem? ha4)) (fun e => h1 (e ▸ List.mem_of_getElem? ha5)), h2]; rfl⟩
  refine ⟨fun k => (W.ht (if k < 7 then k else 0)).getD 0, s.toks, ⟨ρ, lawμ W T a4 a5, s.toks, fun _ => none⟩, rfl, ⟨fun k => ?_, fun _ i k hi hk e => ?_, hnb⟩, D.hA, D.hs, D.F.re none' fun x av' hx => ?_, ?_⟩
  · have hk : (if k < 7 then k else 0) < 7 := by split; assumption; decide
    obtain ⟨t, e⟩ := hh _ hk
    show (W.ht _).getD 0 ≠ 0 /\ (W.ht _).getD 0 < s.toks
    rw [e]
    exact ⟨(R.hts.ok _ _ e).1, Nat.lt_of_lt_of_le (R.hts.ok _ _ e).2 R.tok.2.2⟩
  · obtain ⟨t, e1⟩ := hh i hi
    obtain ⟨u, e2⟩ := hh k hk
    have e : (W.ht (if i < 7 then i else 0)).getD 0 = (W.ht (if k < 7 then k else 0)).getD 0 := e
    rw [if_pos hi, if_pos hk, e1, e2] at e
    exact R.hts.inj i k t e1 (e2.trans (congrArg some (show u = t from e.symm)))
  · rcases ZE hx with ⟨rfl, rfl⟩ | ⟨n1, hx⟩
    · exact ⟨aI z, by rfl, fun v h => h.imp fun t e => by rw [e, hz]; exact congrArg (Value.int · t) (Int.add_zero _).symm⟩
    rcases ZE hx with ⟨rfl, rfl⟩ | ⟨n2, hx⟩
    · exact ⟨aR 5, by rfl, fun v ⟨a, e, h⟩ => ⟨a5, e.trans (congrArg Value.ref (Option.some.inj (h.symm.trans ha5))), e5⟩⟩
    rcases ZE hx with ⟨rfl, rfl⟩ | ⟨n3, hx⟩
    · exact ⟨aR 4, by rfl, fun v ⟨a, e, h⟩ => ⟨a4, e.trans (congrArg Value.ref (Option.some.inj (h.symm.trans ha4))), e4⟩⟩
    · cases hx
  · refine ⟨hρ.symm, by show 3 <= 8000; decide, hnd, ⟨fun _ _ h => (nomatch h), fun _ _ _ h => (nomatch h), fun _ _ => rfl⟩, fun i a hi => ?_, fun a x hx => ?_, fun a o e => ⟨(R.st a o e).1, fun h => ?_⟩, Nat.lt_of_lt_of_le R.tok.1 (Nat.le_trans R.tok.2.1 R.tok.2.2), Nat.le_refl _, Nat.le_refl _⟩
    · have h3 : i < 3 := hρ ▸ (List.getElem?_eq_some_iff.mp hi).1
      obtain ⟨o, ho, r⟩ := R.obj i a (hix i a hi)
      rw [ht0 i h3] at r
      obtain ⟨h1, ps, h2, h3', h6⟩ := r
      refine ⟨o, ho, ?_⟩
      rw [zk4 h3]
      refine ⟨?_, ps, h2, h3', fun pos v hv => (h6 pos v hv).imp fun b hb => ⟨hb.1, keep b i hb.2⟩⟩
      exact hi.trans ((hix i a hi).symm.trans h1)
    · by_cases q4 : a = a4
      · subst q4
        cases e4.symm.trans hx
        refine ⟨n4, _, g4, v4, m4, rfl, ?_⟩
        rw [XX] at w4
        show VRs _ _ (Yu T) v4
        rw [XX]
        refine VRs.conv ?_ w4
        exact fun _ _ _ h => h
      by_cases q5 : a = a5
      · subst q5
        cases e5.symm.trans hx
        refine ⟨n5, _, g5, v5, m5, rfl, ?_⟩
        refine VRs.conv (l := List.range 7) (g := VF) ?_ w5
        intro k hk v ⟨t, e, h⟩
        have hk := List.mem_range.mp hk
        refine e.trans (congrArg (Value.str _) ?_)
        show t = (W.ht (if k < 7 then k else 0)).getD 0
        rw [if_pos hk, show W.ht k = some t from h]
        rfl
      · have hx : lawμ W T a4 a5 a = some x := hx
        rw [hm a q4 q5] at hx
        obtain ⟨hy, h15⟩ := Option.filter_eq_some_iff.mp hx
        have h15 := Nat.eq_of_beq_eq_true h15
        obtain ⟨out, o, ho, r⟩ := R.frz a x hy
        refine ⟨fun h => let ⟨_, _, e⟩ := sub _ h; out (List.mem_of_getElem? e), o, ho, ?_⟩
        unfold FZ
        rw [h15]
        exact r.at h15
    · obtain ⟨i, _, hi⟩ := sub _ h
      exact (R.st a o e).2 (List.mem_of_getElem? hi)
theorem ye3 {c : Cfg} {N : Nums} {l : List Int} {A : Around} {env : Env} {W : Wd} {s : Shared} (F : ∀ ht t0, Zs (c.re ht t0) N) (hz : lawZ l = c.sz) (hl : l.length < 1000) (hnb : nsIn c.K cStatics sharingNotToldKey = some none)
    (hnm : ∀ k, k < 7 -> c.hn k = txt (nmOf (lawT l) (lawY l) k)) (hev : lawB (lawT l) = true) (hρ : W.ρ.length = 3) (D : Rdy c 40 (Zv 36).names [("script", aL (l.map aI))] A env W s tabH) :
    wpAny c.M A (execs (Ye 36) env) (fun fl s' => fl = .ret (.bool true) /\ Ext (ownA env) W W s s' /\ ∀ a ∈ W.ρ, ∃ ps, s'.heap.get? a = some { cls := .none, data := .fields ps }) NoE s := by
  have W0 : Zs c N := F c.ht c.t0
  obtain ⟨s1, s2, s3, s4, e, S1, S2, S3, S4⟩ := yu6 W0 (aL (l.map aI))
  rw [e]
  have hT : Jb (lawT l) := zk1 _
  have hlen : (XD l 0 [119, 1765, 2]).length = 3 := zx4 l
  have at' : ∀ {i : Nat}, i < 3 -> _ := fun {i} h => ze7 (l := XD l 0 [119, 1765, 2]) (i := i) (hlen ▸ h)
  refine SimP.go S1 D (kn := fun v H' => pB (v = aR 3 /\ H'.n = 4 /\ (∀ j, j < 3 -> hget H' j = hget tabH j) /\ H'.h = 0 /\ hget H' 3 = oL ((XD l 0 [119, 1765, 2]).map aI))) (asg1 (fun k h => h) (zI2 hl (by decide) fun H' h1 h2 h3 h4 => pB_i ⟨rfl, h1, h2, h3, h4⟩)) fun v H1 W1 t1 k1 X1 D1 => ?_
  obtain ⟨rfl, n1, j1, h1, g1⟩ := pB_e k1
  refine SimP.go (S2 _) D1 (kn := fun v H' => pB (v = aR 4 /\ H'.n = 5 /\ (∀ j, j < 4 -> hget H' j = hget H1 j) /\ H'.h = 0 /\ hget H' 4 = oL (Yu (lawT l)))) (asg1 (x := aI _) (fun k h => XJ (i := 0) g1 (by decide) (at' (by decide)) h) (zK4 (by rw [n1]; decide) fun H' q1 q2 q3 q4 => by rw [n1] at q1 q2 q4 ⊢; exact pB_i ⟨rfl, q1, q2, q3.trans h1, q4⟩)) fun v H2 W2 t2 k2 X2 D2 => ?_
  obtain ⟨rfl, n2, j2, h2, g2⟩ := pB_e k2
  have c2 := (j2 3 (by decide)).trans g1
  refine SimP.go (S3 _ _) D2 (kn := fun v H' => pB (v = aR 5 /\ H'.n = 6 /\ (∀ j, j < 5 -> hget H' j = hget H2 j) /\ hget H' 5 = oL (XC 7))) (asg2 (x := aI (lawY l)) (fun k h => XJ (i := 1) c2 (by decide) (at' (by decide)) h) (zD3 hT hnm (by rw [n2]; decide) h2 g2 (by rw [n2]; decide) fun H' q1 q2 q3 _ => by rw [n2] at q1 q2 q3 ⊢; exact pB_i ⟨rfl, q1, q2, q3⟩)) fun v H3 W3 t3 k3 X3 D3 => ?_
  obtain ⟨rfl, n3, j3, g3⟩ := pB_e k3
  refine SimP.go (S4 _ _ _) D3 (kn := fun v H' => pB (v = aI (lawZ l) /\ H' = H3)) ?_ fun v H4 W4 t4 k4 X4 D4 => ?_
  · show Zk H3 (aR 3) (aI (.ofNat 2)) (fun v H => intK modG H v (aI (.ofNat 4)) fun v H' => pB (v = aI (lawZ l) /\ H' = H3)) = true
    refine XJ ((j3 3 (by decide)).trans c2) (by decide) (at' (by decide)) ?_
    exact ze0 (m := 4) (by decide) (by decide) (pB_i ⟨rfl, rfl⟩)
  obtain ⟨rfl, rfl⟩ := pB_e k4
  have X := ((X1.trans X2).trans X3).trans X4
  obtain ⟨ht, t0, W5, e5, TK, D5⟩ := ym9 hρ D.R.nd X.le.ix n3 (fun i hi => ((j3 i (Nat.lt_trans hi (by decide))).trans (j2 i (Nat.lt_trans hi (by decide)))).trans ((j1 i hi).trans (zk4 hi))) ((j3 4 (by decide)).trans g2) g3 hz hnb D4
  have W5f := F ht t0
  have hnok := zP5 (y := lawY l) hT
  have hf := zw5 W5f ⟨hnok, hnm⟩ ⟨W5f.hh, fun k hk => ?_⟩ TK
  · refine wpAny_mono (s36 (lawT l) W5f hf _ _ _ A env W5 t4 tabH (fun _ _ => false) okB D5 hev) (fun fl s' p => ?_) noe
    cases p with
    | next _ _ _ h => cases h
    | ret y H6 W6 h X6 R6 r =>
      obtain ⟨h1, h2, h3⟩ := yv1 h
      refine ⟨by rw [r.at h1, h2], (X.shr rfl).trans (X6.shr e5.symm), fun a ha => ?_⟩
      obtain ⟨i, hi⟩ := List.getElem?_of_mem ha
      obtain ⟨o, ho, q⟩ := R6.obj i a (X6.le.ix i a (e5 ▸ hi))
      obtain ⟨_, ps, rfl, _⟩ := q.at (h3 i (hρ ▸ (List.getElem?_eq_some_iff.mp hi).1))
      exact ⟨ps, ho⟩
  · show PyData.strOk (c.hn k) = true
    rw [hnm k hk]
    unfold PyData.strOk
    rw [Array.all_eq_true_iff_forall_mem]
    intro x hx
    have := Jr ((Yr hnok k hk).tx hk).1.asc x (by simpa [txt] using hx)
    simp only [decide_eq_true_eq]
    omega
noncomputable def faOf (i : Nat) : Addr := (List.lookup i [(4, 50), (5, 57), (6, 64), (8, 73), (9, 82), (10, 91), (11, 100), (16, 190), (17, 197), (18, 204), (19, 211), (20, 218), (21, 225), (22, 232), (23, 239), (25, 246), (26, 253), (27, 260), (28, 267), (29, 272), (30, 279), (31, 284), (32, 289), (33, 294), (34, 299), (35, 306), (36, 311),
  (100, 117), (101, 124), (102, 132), (104, 146), (105, 153), (108, 176)]).getD 0
noncomputable def tpOf (q : Nat) : Addr := isZ q 141 fun m => isZ m 148 fun _ => 269
noncomputable def tqOf (q : Nat) : Str := isZ q ("_Accumulator.__len__" ++ ".<locals>." ++ "<genexpr>") fun m => isZ m ("_Accumulator.__str__" ++ ".<locals>." ++ "<genexpr>") fun _ => "_law_piles" ++ ".<locals>." ++ "<lambda>"
structure JIn where
  w : World
  hb : Addr -> Option Obj
  hn : Nat -> Str
  sz : Int
  loose : List Str
  mg : Str -> Option Value
  mb : Str -> Option Value
noncomputable abbrev KJ (x : JIn) : Frag := Mine.aux.heap_1_39 x.w.params
noncomputable def cfgJ (x : JIn) (ht : Nat -> Tok) (t0 : Nat) : Cfg where
  prog := PySem.Challenge.pw_xr0018_01
  w := x.w
  hb := x.hb
  hn := x.hn
  sz := x.sz
  fa := faOf
  cA := 179
  K := KJ x
  loose := x.loose
  mg := x.mg
  mb := x.mb
  tq := tqOf
  tp := tpOf
  ps := (Zv 29).names
  pc := .ref 271
  pq := "_law_piles" ++ ".<locals>."
  t0 := t0
  ht := ht
noncomputable def fdD (d : Data) : FuncData := match d with
  | .func fd => fd
  | _ => ⟨"", "", ⟨[], [], none, [], [], none, []⟩, .stmts [], default, 0, [], .none, .none, .none, .none, none, .none, .none, 0⟩
noncomputable def Xf (K : Frag) (a : Addr) : Obj := (K.lookup a).getD { cls := .none, data := .plain }
noncomputable def fdOf (K : Frag) (a : Addr) : FuncData := fdD (Xf K a).data
noncomputable def mp2 {α β : Type} (g : α -> β) (l : List α) : List β := List.rec (motive := fun _ => List β) [] (fun a _ r => g a :: r) l
theorem zr4 {α β : Type} {f g : α -> β} {l : List α} (h : l.map f = mp2 g l) : ∀ a ∈ l, f a = g a := by
  induction l with
  | nil => exact fun _ h => nomatch h
  | cons a l ih => exact fun b hb => (List.mem_cons.mp hb).elim (fun e => e ▸ (List.cons.inj h).1) (ih (List.cons.inj h).2 b)
noncomputable abbrev GotF : Type := Data × Bool × Addr × List (Str × Addr) × Addr × Scope × FuncBody × Arguments
noncomputable def gotF (K : Frag) (a : Addr) : GotF := ((Xf K a).data, codeIn K (fdOf K a).code (fdOf K a).qualname, (fdOf K a).globals, (fdOf K a).closure, (fdOf K a).builtins, (fdOf K a).scope, (fdOf K a).body, (fdOf K a).params)
noncomputable def zL8 (K : Frag) (a : Addr) (sc : Scope) (b : List Stmt) (p : Arguments) : GotF := (.func (fdOf K a), true, mainGlobals, [], builtinsNs, sc, .stmts b, p)
theorem yl7 {K : Frag} {a : Addr} {fd : FuncData} (h : (Xf K a).data = .func fd) : ∃ o, K.lookup a = some o /\ o.data = .func fd := by
  unfold Xf at h
  cases e : K.lookup a with
  | none => rw [e] at h; cases h
  | some o => rw [e] at h; exact ⟨o, rfl, h⟩
theorem zW6 {c : Cfg} {f : Nat} {sc : Scope} {b : List Stmt} {p : Arguments} (h : gotF c.K (c.fa f) = zL8 c.K (c.fa f) sc b p) (hs : sc.isCoroutine = false /\ sc.isGenerator = false /\ sc.kind = .function)
    (src : sc.names = c.ps -> (fdOf c.K (c.fa f)).code = c.pc /\ (fdOf c.K (c.fa f)).qualname ++ ".<locals>." = c.pq) :
    FnO c f (fdOf c.K (c.fa f)) /\ (fdOf c.K (c.fa f)).body = .stmts b /\ (fdOf c.K (c.fa f)).scope = sc /\ (fdOf c.K (c.fa f)).params = p := by
  unfold gotF zL8 at h
  simp only [Prod.mk.injEq] at h
  obtain ⟨h1, h2, h3, h4, h5, h6, h7, h8⟩ := h
  exact ⟨⟨yl7 h1, h2, h3, h4, h5, by rw [h6]; exact hs.1, by rw [h6]; exact hs.2.1, by rw [h6]; exact hs.2.2, by rw [h6]; exact src⟩, h7, h6, h8⟩
noncomputable abbrev defL : List Nat := [4, 5, 6, 8, 9, 10, 11, 16, 17, 18, 19, 20, 21, 22, 23, 25, 26, 27, 28, 29, 30, 31, 32, 33, 34, 35, 36]
theorem yk2 : ∀ i ∈ defL, (Zv i).isCoroutine = false /\ (Zv i).isGenerator = false /\ (Zv i).kind = .function /\ (i ≠ 29 -> (Zv i).names ≠ (Zv 29).names) := by decide +kernel
section
variable (x : JIn)
theorem yg2 : defL.map (fun i => (gotF (KJ x) (faOf i), (fdOf (KJ x) (faOf i)).name, nsIn (KJ x) mainGlobals (fdOf (KJ x) (faOf i)).name)) = mp2 (fun i => (zL8 (KJ x) (faOf i) (Zv i) (Ye i) (zG5 i), zG4 i, some (some (.ref (faOf i))))) defL := by kernel_rfl
theorem yo8 : (fdOf (KJ x) 272).code = .ref 271 /\ (fdOf (KJ x) 272).qualname ++ ".<locals>." = "_law_piles" ++ ".<locals>." := ⟨by kernel_rfl, by kernel_rfl⟩
variable (ht : Nat -> Tok) (t0 : Nat)
theorem yh3 (i : Nat) (h : zR2 i = true) : Def (cfgJ x ht t0) i (fdOf (KJ x) (faOf i)) := by
  have h := List.contains_iff_mem.mp h
  obtain ⟨s1, s2, s3, s4⟩ := yk2 i h
  have g := zr4 (yg2 x) i h
  simp only [Prod.mk.injEq] at g
  obtain ⟨g1, g2, g3⟩ := g
  obtain ⟨A, e1, e2, e3⟩ := zW6 (c := cfgJ x ht t0) (f := i) g1 ⟨s1, s2, s3⟩ fun e => by
    by_cases q : i = 29
    · subst q; exact yo8 x
    · exact absurd e (s4 q)
  exact ⟨⟨A, g3⟩, g2, e1, e2, e3⟩
end
noncomputable def zh1 (v : Value) : Addr := match v with
  | .ref a => a
  | _ => 0
noncomputable def zw7 (d : Data) : Array Value := match d with
  | .fields vs => vs
  | _ => #[]
noncomputable def yj7 (v : Value) : Str × Tok := match v with
  | .str x t => (x, t)
  | _ => ("", 0)
theorem yh7 {K : Frag} {a C : Addr} (h : K.lookup a = some (Xf K a)) (hd : (Xf K a).data = .cell (some (.ref C))) : ∃ cl cld csl, K.lookup a = some ⟨cl, cld, .cell (some (.ref C)), csl⟩ := ⟨_, _, _, h.trans (by rw [<- hd])⟩
noncomputable abbrev cdOf (K : Frag) (a : Addr) : Addr := zh1 (fdOf K a).code
noncomputable abbrev flAt (K : Frag) (a : Addr) : Array Value := zw7 (Xf K (cdOf K a)).data
noncomputable abbrev zG9 (K : Frag) (a : Addr) : Str × Tok := yj7 ((flAt K a)[2]?.getD .none)
theorem zG8 {K : Frag} {a : Addr} {f : Str} (h : ((fdOf K a).code, K.lookup (cdOf K a), (Xf K (cdOf K a)).data, (flAt K a)[2]?, f == (zG9 K a).1) = (Value.ref (cdOf K a), some (Xf K (cdOf K a)), Data.fields (flAt K a), some (Value.str (zG9 K a).1 (zG9 K a).2), true)) :
    ∃ cda ccl cdd vs ccs file tf, (fdOf K a).code = .ref cda /\ K.lookup cda = some ⟨ccl, cdd, .fields vs, ccs⟩ /\ vs[2]? = some (.str file tf) /\ (f == file) = true := by
  simp only [Prod.mk.injEq] at h
  obtain ⟨h1, h2, h3, h4, h5⟩ := h
  exact ⟨_, _, _, _, _, _, _, h1, h2.trans (by rw [<- h3]), h4, h5⟩
section
variable (x : JIn) (ht : Nat -> Tok) (t0 : Nat)
theorem yN5 : (clsIn (KJ x) 179).isSome = true /\ ((clsIn (KJ x) 179).getD default).hasDict = true /\ ((clsIn (KJ x) 179).getD default).mro = [.ref 179, .type "list", .type "object"] := ⟨by kernel_rfl, by kernel_rfl, by kernel_rfl⟩
theorem ym2 : ∃ cd, clsIn (cfgJ x ht t0).K (cfgJ x ht t0).cA = some cd /\ cd.hasDict = true /\ cd.mro = [.ref (cfgJ x ht t0).cA, .type "list", .type "object"] := by
  obtain ⟨h1, h2, h3⟩ := yN5 x
  obtain ⟨cd, e⟩ := Option.isSome_iff_exists.mp h1
  rw [e] at h2 h3
  exact ⟨cd, e, h2, h3⟩
theorem yu4 : SupF (cfgJ x ht t0) := ⟨⟨⟨⟨by kernel_rfl, by kernel_rfl, by kernel_rfl, by kernel_rfl⟩, by kernel_rfl, by kernel_rfl, (ym2 x ht t0).imp fun _ h => ⟨h.1, h.2.1⟩⟩, by kernel_rfl, ym2 x ht t0, by kernel_rfl, by kernel_rfl, by kernel_rfl⟩, by kernel_rfl, by kernel_rfl, by kernel_rfl, by kernel_rfl, by kernel_rfl⟩
noncomputable def yj1 (K : Frag) (a : Addr) (sc : Scope) (b : List Stmt) (p : Arguments) : GotF := (.func (fdOf K a), true, mainGlobals, [(Str.ofString "__class__", 104)], builtinsNs, sc, .stmts b, p)
theorem zU1 {i f : Nat} {name : Str} (h : gotF (KJ x) (faOf f) = yj1 (KJ x) (faOf f) (Yk i) (VO i) (zh7 i)) (h2 : findIn (KJ x) (.ref 179) name = some (some (.ref (faOf f)))) (h3 : typeIn (KJ x) (.ref (faOf f)) = some (.type "function"))
    (h4 : ∃ cda ccl cdd vs ccs file tf, (fdOf (KJ x) (faOf f)).code = .ref cda /\ (KJ x).lookup cda = some ⟨ccl, cdd, .fields vs, ccs⟩ /\ vs[2]? = some (.str file tf) /\ ((cfgJ x ht t0).prog.main.file == file) = true) : Jg (cfgJ x ht t0) i f (fdOf (KJ x) (faOf f)) name 104 := by
  unfold gotF yj1 at h
  simp only [Prod.mk.injEq] at h
  obtain ⟨q1, q2, q3, q4, q5, q6, q7, q8⟩ := h
  exact ⟨yl7 q1, q2, q3, q4, yh7 (by kernel_rfl) (by kernel_rfl), q5, h2, h3, q7, q6, q8, h4⟩
theorem m0_j : Jg (cfgJ x ht t0) 0 100 (fdOf (KJ x) 117) "__init__" 104 := zU1 x ht t0 (i := 0) (f := 100) (by kernel_rfl) (by kernel_rfl) (by kernel_rfl) (zG8 (by kernel_rfl))
theorem m8_j : Jg (cfgJ x ht t0) 8 108 (fdOf (KJ x) 176) "part_count" 104 := zU1 x ht t0 (i := 8) (f := 108) (by kernel_rfl) (by kernel_rfl) (by kernel_rfl) (zG8 (by kernel_rfl))
theorem sc_m : ∀ i ∈ [1, 2, 4, 5], (Yk i).isCoroutine = false /\ (Yk i).isGenerator = false /\ (Yk i).kind = .function /\ (Yk i).names ≠ (Zv 29).names := by decide +kernel
theorem zr5 {i f : Nat} {name : Str} (hi : i ∈ [1, 2, 4, 5]) (h : (gotF (KJ x) (faOf f), findIn (KJ x) (.ref 179) name, typeIn (KJ x) (.ref (faOf f))) = (zL8 (KJ x) (faOf f) (Yk i) (VO i) (zh7 i), some (some (.ref (faOf f))), some (.type "function"))) : VH (cfgJ x ht t0) i f (fdOf (KJ x) (faOf f)) name := by
  obtain ⟨s1, s2, s3, s4⟩ := sc_m i hi
  simp only [Prod.mk.injEq] at h
  obtain ⟨A, e1, e2, e3⟩ := zW6 (c := cfgJ x ht t0) (f := f) h.1 ⟨s1, s2, s3⟩ fun e => absurd e s4
  exact ⟨A, h.2.1, h.2.2, e1, e2, e3⟩
theorem m1_j : VH (cfgJ x ht t0) 1 101 (fdOf (KJ x) 124) "push" := zr5 x ht t0 (i := 1) (f := 101) (by decide) (by kernel_rfl)
theorem m2_j : VH (cfgJ x ht t0) 2 102 (fdOf (KJ x) 132) "pop_from" := zr5 x ht t0 (i := 2) (f := 102) (by decide) (by kernel_rfl)
theorem m4_j (hk : x.hb 141 = none) : Jc (cfgJ x ht t0) 4 104 0 (fdOf (KJ x) 146) "__len__" 145 := ⟨zr5 x ht t0 (i := 4) (f := 104) (by decide) (by kernel_rfl), by kernel_rfl, by kernel_rfl, by kernel_rfl, hk, (by decide : (141 : Addr) ≠ mainGlobals), (by decide : (141 : Addr) ≠ cStatics), (by decide : (141 : Addr) ≠ builtinsNs)⟩
theorem m5_j (hk : x.hb 148 = none) : Jc (cfgJ x ht t0) 5 105 1 (fdOf (KJ x) 153) "__str__" 152 := ⟨zr5 x ht t0 (i := 5) (f := 105) (by decide) (by kernel_rfl), by kernel_rfl, by kernel_rfl, by kernel_rfl, hk, (by decide : (148 : Addr) ≠ mainGlobals), (by decide : (148 : Addr) ≠ cStatics), (by decide : (148 : Addr) ≠ builtinsNs)⟩
noncomputable abbrev bpL : List (Nat × List Str) := [(4, ["text"]), (5, ["A", "B"]), (6, ["h"]), (16, ["a", "b"]), (17, ["a", "b"]), (18, ["a", "b"]), (20, ["a", "b"]), (21, ["a", "b"]), (22, ["a", "b"]), (23, ["a", "b"]), (19, ["a"]), (25, ["script"]), (26, ["cell"]), (27, ["cell", "above"]), (28, ["piece"]), (29, ["names", "size"]),
  (30, ["sought", "names", "piles"]), (31, ["above"]), (32, ["left", "depth", "unders", "kids"]), (33, ["kids"]), (34, ["sought", "near", "ranks"]), (35, ["name", "top"]), (36, ["script"]), (101, ["self", "fws", "string"]), (104, ["self"]), (105, ["self"]), (108, ["self"])]
theorem yo7 (a b c d : Value) : bpL.map (fun p => bindArgs (fdOf (KJ x) (faOf p.1)) ⟨[a, b, c, d].take p.2.length, []⟩) = mp2 (fun p => pure (p.2.zip ([a, b, c, d].take p.2.length))) bpL := by kernel_rfl
theorem Jk {l : List Value} {n : Nat} (h : l.length = n + 1) : ∃ a t, l = a :: t /\ t.length = n := by
  cases l with
  | nil => cases h
  | cons a t => exact ⟨a, t, rfl, Nat.succ.inj h⟩
theorem zM2 {vals : List Value} {n : Nat} (h : vals.length = n) (hn : n <= 4) : ∃ a b c d, vals = [a, b, c, d].take n := by
  have e : vals = (vals ++ List.replicate (4 - n) Value.none).take n := (List.take_left' h).symm
  have hl : (vals ++ List.replicate (4 - n) Value.none).length = 4 := by rw [List.length_append, List.length_replicate, h]; exact Nat.add_sub_of_le hn
  generalize vals ++ List.replicate (4 - n) Value.none = l at e hl
  obtain ⟨a, l1, rfl, h1⟩ := Jk hl
  obtain ⟨b, l2, rfl, h2⟩ := Jk h1
  obtain ⟨c, l3, rfl, h3⟩ := Jk h2
  obtain ⟨d, l4, rfl, h4⟩ := Jk h3
  obtain rfl := List.length_eq_zero_iff.mp h4
  exact ⟨a, b, c, d, e⟩
theorem yr1 : ∀ p ∈ bpL, p.2.length <= 4 := by decide +kernel
theorem bp_m {i : Nat} {names : List Str} (hm : (i, names) ∈ bpL) : ZA (fdOf (KJ x) (faOf i)) names := fun s vals hl => by
  obtain ⟨a, b, c, d, e⟩ := zM2 hl (yr1 _ hm)
  have h := zr4 (yo7 x a b c d) _ hm
  simp only at h
  subst e
  exact .of_eq h
theorem bp_j (k : Nat) {i : Nat} {names : List Str} (h : bpL[k]? = some (i, names)) : ZA (fdOf (KJ x) (faOf i)) names := bp_m x (List.mem_of_getElem? h)
end
noncomputable def zO6 (d : Data) : Array Value × Nat := match d with
  | .seq v n => (v, n)
  | _ => (#[], 0)
noncomputable def intT (v : Value) : Tok := match v with
  | .int _ t => t
  | _ => 0
noncomputable def yn7 (d : Data) : Bool := match d with
  | .dict .. => true
  | _ => false
structure Dfl (K : Frag) (fd : FuncData) (items : Array Value) : Prop where
  mk :: (e : ∃ T o n, fd.defaults = .ref T /\ K.lookup T = some o /\ o.data = .seq items n)
noncomputable abbrev dfA (K : Frag) (fd : FuncData) : Obj := Xf K (zh1 fd.defaults)
noncomputable abbrev dfV (K : Frag) (fd : FuncData) : Array Value := (zO6 (dfA K fd).data).1
noncomputable abbrev DflT : Type := Value × Option Obj × Data
noncomputable def dflG (K : Frag) (fd : FuncData) : DflT := (fd.defaults, K.lookup (zh1 fd.defaults), (dfA K fd).data)
noncomputable def dflW (K : Frag) (fd : FuncData) (items : Array Value) : DflT := (.ref (zh1 fd.defaults), some (dfA K fd), .seq items (zO6 (dfA K fd).data).2)
theorem zX3 {K : Frag} {fd : FuncData} {items : Array Value} (h : dflG K fd = dflW K fd items) : Dfl K fd items := by
  unfold dflG dflW at h
  simp only [Prod.mk.injEq] at h
  exact ⟨_, _, _, h⟩
theorem yv9 {c : Cfg} {fd : FuncData} {e1 e2 e3 e4 e5 : Option PySem.Expr} {p1 p2 p3 p4 p5 : Pos} {kd : List (Option PySem.Expr)} {dd : List PySem.Expr} {t : Tok} (hK : ∀ {W H} {s : Shared}, Rel c W H s -> c.K.In s.heap) {K : Frag} (eK : c.K = K)
    (hp : fd.params = ⟨[], [⟨"a", e1, p1⟩, ⟨"x", e2, p2⟩, ⟨"lo", e3, p3⟩, ⟨"hi", e4, p4⟩], none, [⟨"key", e5, p5⟩], kd, none, dd⟩) (hn : Dfl K fd #[.int 0 t, .none]) : Xo c fd 2 [aI 0, aN] /\ Xo c fd 4 [] := by
  obtain ⟨T, o, n, hd, ho, hs⟩ := hn
  subst eK
  obtain ⟨nm, qn, params, body, scope, gl, cl, defs, kwd, doc, pm, an, cd, ct, bl⟩ := fd
  simp only at hp hd
  subst hp; subst hd
  refine ⟨fun {W H s vs v} R hl => ?_, fun {W H s vs v} R hl => ?_⟩
  · obtain ⟨a, b, _, _, rfl⟩ := zM2 hl (by decide)
    exact ⟨[.int 0 t, .none], BindsTo.of_defaults rfl (hK R _ _ ho) hs (by with_unfolding_all rfl) (by with_unfolding_all rfl), _, _, rfl, ⟨t, rfl⟩, _, _, rfl, rfl, rfl⟩
  · obtain ⟨a, b, e, f, rfl⟩ := zM2 hl (by decide)
    exact ⟨[], BindsTo.of_defaults rfl (hK R _ _ ho) hs (by with_unfolding_all rfl) (by with_unfolding_all rfl), rfl⟩
theorem yk9 : ∀ i, i ∈ [8, 9, 10, 11] -> ∃ e1 p1 e2 p2 e3 p3 e4 p4 e5 p5 kd dd, zG5 i = ⟨[], [⟨"a", e1, p1⟩, ⟨"x", e2, p2⟩, ⟨"lo", e3, p3⟩, ⟨"hi", e4, p4⟩], none, [⟨"key", e5, p5⟩], kd, none, dd⟩ := by
  intro i h
  simp only [List.mem_cons, List.not_mem_nil, or_false] at h
  rcases h with rfl | rfl | rfl | rfl <;> exact ⟨_, _, _, _, _, _, _, _, _, _, _, _, rfl⟩
theorem yO1 {K : Frag} {fd : FuncData} {s : Shared} {u : Value} (hp : fd.params = zh7 0) (hn : Dfl K fd #[u]) (hin : K.In s.heap) (a b : Value) : BindsTo s fd ⟨[a, b], []⟩ [("self", a), ("initial_size", b)] := by
  obtain ⟨T, o, n, hd, ho, hs⟩ := hn
  obtain ⟨nm, qn, params, body, scope, gl, cl, defs, kwd, doc, pm, an, cd, ct, bl⟩ := fd
  simp only at hp hd
  subst hp; subst hd
  exact BindsTo.of_defaults rfl (hin _ _ ho) hs (by with_unfolding_all rfl) (by with_unfolding_all rfl)
theorem bpM2 {c : Cfg} {fd : FuncData} {u : Value} (hp : fd.params = zh7 2) (hn : Dfl c.K fd #[u]) : Xw c fd ["self", "i"] := by
  intro s hin vals h
  obtain ⟨a, b, _, _, rfl⟩ := zM2 h (by decide)
  obtain ⟨T, o, n, hd, ho, hs⟩ := hn
  obtain ⟨nm, qn, params, body, scope, gl, cl, defs, kwd, doc, pm, an, cd, ct, bl⟩ := fd
  simp only at hp hd
  subst hp; subst hd
  exact BindsTo.of_defaults rfl (hin _ _ ho) hs (by with_unfolding_all rfl) (by with_unfolding_all rfl)
structure JOk (x : JIn) : Prop where
  K : ∀ a o, (KJ x).lookup a = some o -> x.hb a = some o
  T : ∀ h : Heap, (∀ a o, x.hb a = some o -> h.get? a = some o) -> TopRead PySem.Challenge.pw_xr0018_01 x.loose x.mg x.mb h
  sys : ∃ o, x.hb sysModules = some o
  b1 : x.hb 141 = none
  b2 : x.hb 148 = none
  b3 : x.hb 269 = none
  sh : ∀ k, (x.hn k).length < 100000
  hi : ∀ i j, x.hn i = x.hn j -> i = j
  sz : 0 <= x.sz /\ x.sz < 1000000
  bm : ∃ bm ob, x.hb bm = some ob /\ ob.data = .plain /\ ∀ h : Heap, (∀ a o, x.hb a = some o -> h.get? a = some o) -> BMod h mainGlobals x.mg bm ob
theorem zV3 {fd : FuncData} (h : ZA fd ["self"]) (s : Shared) (q : Addr) : BindsTo s fd ⟨[.ref q], []⟩ [("self", .ref q)] := h s [.ref q] rfl
noncomputable abbrev noL : List Str := ["len", "max", "range", "list", "sum", "str", "sorted", "enumerate", "hasattr"]
section
variable (x : JIn)
noncomputable def yq7 : Value := ((nsIn (KJ x) mainGlobals "EMPTYSTRING").getD none).getD .none
noncomputable abbrev yv2 (bm : Addr) (ob : Obj) : Nums := ⟨fun i => fdOf (KJ x) (faOf i), fun i => fdOf (KJ x) (faOf (Nat.add 100 i)), 43, 104, 145, 152, 271, bm, ob, (yj7 (yq7 x)).2⟩
theorem yo5 : noL.map (fun y => nsIn (KJ x) mainGlobals y) = mp2 (fun _ => some none) noL := by kernel_rfl
theorem yo6 : [8, 9, 10, 11].map (fun i => dflG (KJ x) (fdOf (KJ x) (faOf i))) = mp2 (fun i => dflW (KJ x) (fdOf (KJ x) (faOf i)) #[.int 0 (intT ((dfV (KJ x) (fdOf (KJ x) (faOf i)))[0]?.getD .none)), .none]) [8, 9, 10, 11] := by kernel_rfl
theorem df_m (a : Addr) (h : dflG (KJ x) (fdOf (KJ x) a) = dflW (KJ x) (fdOf (KJ x) a) #[(dfV (KJ x) (fdOf (KJ x) a))[0]?.getD .none]) : ∃ u, Dfl (KJ x) (fdOf (KJ x) a) #[u] := ⟨_, zX3 h⟩
theorem p0_j : ∀ (s : Shared), (KJ x).In s.heap -> ∀ (q : Addr) (v : Value), BindsTo s (fdOf (KJ x) (faOf 100)) ⟨[.ref q, v], []⟩ [("self", .ref q), ("initial_size", v)] := fun s hk q v => (df_m x 117 (by kernel_rfl)).elim fun u h => yO1 (m0_j x (fun _ => 0) 0).params h hk (.ref q) v
theorem p2_j (ht : Nat -> Tok) (t0 : Nat) : Xw (cfgJ x ht t0) (fdOf (KJ x) (faOf 102)) ["self", "i"] := (df_m x 132 (by kernel_rfl)).elim fun u h => bpM2 (c := cfgJ x ht t0) (m2_j x ht t0).params h
theorem p4_j : ∀ (s : Shared) (q : Addr), BindsTo s (fdOf (KJ x) (faOf 104)) ⟨[.ref q], []⟩ [("self", .ref q)] := by intro s q; exact @zV3 _ (bp_j x 24 (i := 104) (names := ["self"]) rfl) s q
theorem p5_j : ∀ (s : Shared) (q : Addr), BindsTo s (fdOf (KJ x) (faOf 105)) ⟨[.ref q], []⟩ [("self", .ref q)] := by intro s q; exact @zV3 _ (bp_j x 25 (i := 105) (names := ["self"]) rfl) s q
theorem yu7 : Jh (fun a => (KJ x).lookup a) 43 := ⟨Xf (KJ x) 43, zw7 (Xf (KJ x) 43).data, zh1 ((zw7 (Xf (KJ x) 43).data).getD 5 .none), Xf (KJ x) (zh1 ((zw7 (Xf (KJ x) 43).data).getD 5 .none)), (zO6 (Xf (KJ x) (zh1 ((zw7 (Xf (KJ x) 43).data).getD 5 .none))).data).1, (zO6 (Xf (KJ x) (zh1 ((zw7 (Xf (KJ x) 43).data).getD 5 .none))).data).2,
  by kernel_rfl, by kernel_rfl, by kernel_rfl, by kernel_rfl, by kernel_rfl, by kernel_rfl, by kernel_rfl, by kernel_rfl, by kernel_rfl, by kernel_rfl⟩
theorem g0_j : (fdOf (KJ x) 117).scope.isCoroutine = false /\ (fdOf (KJ x) 117).scope.isGenerator = false := ⟨by kernel_rfl, by kernel_rfl⟩
theorem g8_j : (fdOf (KJ x) 176).scope.isCoroutine = false /\ (fdOf (KJ x) 176).scope.isGenerator = false := ⟨by kernel_rfl, by kernel_rfl⟩
theorem yo9 : (KJ x).lookup mainGlobals = some (Xf (KJ x) mainGlobals) /\ yn7 (Xf (KJ x) mainGlobals).data = true := ⟨by kernel_rfl, by kernel_rfl⟩
theorem zU2 {x : JIn} (O : JOk x) (ht : Nat -> Tok) (t0 : Nat) : Stat (cfgJ x ht t0) := ⟨O.K, O.T, O.sys, O.hi⟩
set_option maxHeartbeats 1000000 in
theorem yg9 {x : JIn} (O : JOk x) : ∃ N, ∀ ht t0, Zs (cfgJ x ht t0) N := by
  obtain ⟨bm, ob, hb, hp, hB⟩ := O.bm
  have hbg : bm ≠ mainGlobals := fun e => by
    obtain ⟨h1, h2⟩ := yo9 x
    have h3 : some ob = _ := hb.symm.trans ((congrArg x.hb e).trans (O.K _ _ h1))
    rw [<- Option.some.inj h3, hp] at h2
    cases h2
  have hbt : bm ≠ (269 : Addr) := fun e => by
    have h3 := O.b3
    rw [show (269 : Addr) = bm from e.symm, hb] at h3
    cases h3
  have kw : ∀ i, i ∈ [8, 9, 10, 11] -> ∀ {c : Cfg}, (∀ {W H} {s : Shared}, Rel c W H s -> c.K.In s.heap) -> c.K = KJ x -> Xo c (fdOf (KJ x) (faOf i)) 2 [aI 0, aN] /\ Xo c (fdOf (KJ x) (faOf i)) 4 [] := fun i hi {c} hK eK => by
    obtain ⟨e1, p1, e2, p2, e3, p3, e4, p4, e5, p5, kd, dd, e⟩ := yk9 i hi
    exact yv9 hK eK ((yh3 x (fun _ => 0) 0 i ((by decide : ∀ i ∈ [8, 9, 10, 11], zR2 i = true) i hi)).params.trans e) (zX3 (zr4 (yo6 x) i hi))
  refine ⟨yv2 x bm ob, fun ht t0 => ?_⟩
  have S := zU2 O ht t0
  exact {
    S := S
    hh := O.sh
    D := yh3 x ht t0
    bp4 := bp_j x 0 (i := 4) (names := ["text"]) rfl
    bp5 := bp_j x 1 (i := 5) (names := ["A", "B"]) rfl
    bp6 := bp_j x 2 (i := 6) (names := ["h"]) rfl
    bp2 := fun i h => bp_m x ((by decide +kernel : ∀ i ∈ [16, 17, 18, 20, 21, 22, 23], (i, [Str.ofString "a", Str.ofString "b"]) ∈ bpL) i h)
    bp19 := bp_j x 10 (i := 19) (names := ["a"]) rfl
    bp25 := bp_j x 11 (i := 25) (names := ["script"]) rfl
    bp26 := bp_j x 12 (i := 26) (names := ["cell"]) rfl
    bp27 := bp_j x 13 (i := 27) (names := ["cell", "above"]) rfl
    bp28 := bp_j x 14 (i := 28) (names := ["piece"]) rfl
    bp29 := bp_j x 15 (i := 29) (names := ["names", "size"]) rfl
    bp30 := bp_j x 16 (i := 30) (names := ["sought", "names", "piles"]) rfl
    bp31 := bp_j x 17 (i := 31) (names := ["above"]) rfl
    bp32 := bp_j x 18 (i := 32) (names := ["left", "depth", "unders", "kids"]) rfl
    bp33 := bp_j x 19 (i := 33) (names := ["kids"]) rfl
    bp34 := bp_j x 20 (i := 34) (names := ["sought", "near", "ranks"]) rfl
    bp35 := bp_j x 21 (i := 35) (names := ["name", "top"]) rfl
    kw2 := fun i h => (kw i h (c := cfgJ x ht t0) (fun R => R.in S) rfl).1
    kw4 := fun i h => (kw i ((by decide : ∀ i ∈ [9, 11], i ∈ [8, 9, 10, 11]) i h) (c := cfgJ x ht t0) (fun R => R.in S) rfl).2
    kl11 := fun s la p hk => (kw 11 (by decide) (c := (cfgJ x ht t0).lam s la p) (fun R a o e => (R.st a o (hk a o e)).1) rfl).1
    no := fun y h => zr4 (yo5 x) y h
    pat := yu7 x
    npat := by kernel_rfl
    sup := yu4 x ht t0
    hap := by kernel_rfl
    hset := by kernel_rfl
    halI := by kernel_rfl
    halL := by kernel_rfl
    m0 := m0_j x ht t0
    m8 := m8_j x ht t0
    m1 := m1_j x ht t0
    m2 := m2_j x ht t0
    m4 := m4_j x ht t0 O.b1
    m5 := m5_j x ht t0 O.b2
    g0 := g0_j x
    g8 := g8_j x
    p0 := p0_j x
    p1 := (bp_j x 23 (i := 101) (names := ["self", "fws", "string"]) rfl).K
    p2 := p2_j x ht t0
    p4 := fun s q => @p4_j x s q
    p5 := fun s q => @p5_j x s q
    p8 := (bp_j x 26 (i := 108) (names := ["self"]) rfl).K
    lam := ⟨rfl, by kernel_rfl, by kernel_rfl, (by decide : mainGlobals ≠ (269 : Addr)), ⟨hB⟩, hbt, hbg⟩
    nE := by kernel_rfl
    nA := by kernel_rfl
    kA := by kernel_rfl
    sz := O.sz
    ps := rfl }
end
def Xv {α : Type} (t : Sem α) : Prop := ∀ {M : Model} {Γ : PySem.Ctx} {Q : α -> Pos -> Shared -> Prop} {E : Value -> Pos -> Shared -> Prop} {p : Pos} {s : Shared}, Sem.wp M Γ t Q E p s -> Sem.wp M Γ t (fun a p' s' => s.toks + 1 <= s'.toks /\ Q a p' s') E p s
theorem Xv.left {α β : Type} {m : Sem α} {f : α -> Sem β} (h : Xv m) : Xv (m >>= f) := by
  intro M Γ Q E p s w
  rw [Sem.wp_bind'] at w ⊢
  refine Sem.wp_mono M Γ m (fun a p' s' q => ?_) (fun _ _ _ q => q) p s (h w)
  exact Sem.wp_mono M Γ (f a) (fun _ _ _ q => q) (fun _ _ _ q => q.2) p' s' (zk0 (f a) q.2 q.1)
theorem Xv.right {α β : Type} {m : Sem α} {f : α -> Sem β} (h : ∀ a, Xv (f a)) : Xv (m >>= f) := by
  intro M Γ Q E p s w
  rw [Sem.wp_bind'] at w ⊢
  refine Sem.wp_mono M Γ m (fun a p' s' q => ?_) (fun _ _ _ q => q.2) p s (zk0 m w (Nat.le_refl _))
  exact Sem.wp_mono M Γ (f a) (fun _ _ _ r => ⟨Nat.le_trans (Nat.succ_le_succ q.1) r.1, r.2⟩) (fun _ _ _ q => q) p' s' (h a q.2)
theorem zk3 : Xv fresh := fun w => ⟨Nat.le_refl _, w⟩
theorem zz3 (a : Addr) (x : Str) (v : Value) : Xv (nsSet a x v) := Xv.right fun _ => Xv.left (Xv.left zk3)
theorem zk2 {env : Env} {x : Str} {v : Value} (hk : env.scope.kind = .function) (hx : env.scope.names.lookup x = some .local) : Xv (storeName env x v) := by
  unfold storeName
  have e : env.kindOf x = some .local := hx
  rw [e, hk]
  show Xv (nsSet env.locals x v)
  exact zz3 _ _ _
theorem zH2 {M : Model} {A : Around} {E : Value -> Shared -> Prop} {s : Shared} {scope : Scope} {globals : Addr} {binds : List (Str × Value)} {qual : Str} {func : Option Addr} {code : Value} {builtins : Addr} {Q : Env -> Shared -> Prop} {x0 : Str} {v0 : Value} {r0 : List (Str × Value)}
    (hk : scope.kind = .function) (hz : binds = (x0, v0) :: r0) (hx0 : scope.names.lookup x0 = some .local) (h : wpAny M A (newFunctionEnv scope globals [] binds qual func code none builtins) (fun env s' => s.toks + 1 <= s'.toks -> Q env s') E s) :
    wpAny M A (newFunctionEnv scope globals [] binds qual func code none builtins) Q E s := by
  have T : Xv (newFunctionEnv scope globals [] binds qual func code none builtins) := by
    subst hz
    simp only [newFunctionEnv, Option.isSome_none, Bool.false_eq_true, if_false, List.forIn_cons]
    refine Xv.right fun _ => Xv.right fun _ => Xv.left (Xv.left (Xv.left (zk2 hk hx0)))
  exact fun Γ p hΓ => Sem.wp_mono M Γ _ (fun _ _ _ q => q.2 q.1) (fun _ _ _ q => q) p s (T (h Γ p hΓ))
noncomputable abbrev upS (s : Shared) : Shared := { s with toks := s.toks + 1 }
theorem InCallC.up {s s' : Shared} {L : Addr} {m cm : Str -> Option Value} {cs : List (Str × Addr)} (y : InCallC s L m cs cm s') : InCallC (upS s) L m cs cm s' := ⟨⟨y.toInCall.same, y.toInCall.ns, y.toInCall.keep, y.toInCall.fresh⟩, y.cell, y.apart, y.above⟩
theorem zS8 {c : Cfg} {d f : Nat} {fd : FuncData} {body : List Stmt} {A : Around} {s : Shared} {W : Wd} {H : AH} {Q : Flow -> Shared -> Prop} {names : List Str} {avs : List AV} {vals : List Value} {x0 : Str} {v0 : Value} {r0 : List (Str × Value)}
    (S : Stat c) (At : FnO c f fd) (hbody : fd.body = .stmts body) (hrun : ∀ {A : Around} {env : Env} {s1 : Shared}, Rdy c d fd.scope.names (names.zip avs) A env W s1 H -> wpAny c.M A (execs body env) (fun fl s2 => fl = .ret (.bool true) /\ Ext (ownA env) W W s1 s2 /\ Q fl s2) NoE s1)
    (hA : AOk (d + 1) A) (R : Rel c W H (upS s)) (hv : VRs c W avs vals) (hz : names.zip vals = (x0, v0) :: r0) (hx0 : fd.scope.names.lookup x0 = some .local) (hbind : ZA fd names) (hl : vals.length = names.length) (N : Vq fd.scope names) :
    codeAny c.M A (.call (.ref (c.fa f)) ⟨vals, []⟩) (fun r s' => r = .ok (.ret (.bool true)) /\ Ext [] W W (upS s) s' /\ Q (.ret (.bool true)) s') s := by
  obtain ⟨o, ho, hd⟩ := At.ob
  have X : c.K.In s.heap := Rel.in (s := upS s) S R
  have T : TopRead c.prog c.loose c.mg c.mb s.heap := Rel.top (s := upS s) S R
  refine codeAny_call_function (Nat.lt_of_le_of_lt (Nat.le_add_right A.depth (d + 1)) hA.dp) (X _ _ ho) hd At.co At.gen hbody (codeRec_of X At.cd) (hbind s vals hl _ _ _ _ ?_)
  rw [At.clo, At.blt, At.glob]
  refine zH2 At.kd hz hx0 (wpAny_newFunctionEnv_cells At.kd (zs8 N) fun env he s' y le => ⟨T.nolimit.keeps y.toInCall.keep, codeAny_func ?_⟩)
  obtain ⟨F, R1, hext⟩ := zs7 At R hv N he (InCallC.up y) le
  refine wpAny_mono (hrun ⟨hA.deeper, by rw [he]; rfl, F, R1⟩) (fun fl s2 p => ?_) noe
  obtain ⟨rfl, X2, q⟩ := p
  exact ⟨rfl, hext X2, q⟩
noncomputable def yk1 (l : List Int) : Nat := (((XD l 0 [119, 1765, 2]).getD 0 0).fmod 720).toNat
theorem ya5 (l : List Int) : yk1 l < 720 := (zi9 (x := (XD l 0 [119, 1765, 2]).getD 0 0) (m := 720) (by decide)).2
noncomputable def nmJ (l : List Int) (k : Nat) : List Nat := if k < 7 then nmOf (lawT l) (lawY l) k else [k]
noncomputable def hnJ (l : List Int) (k : Nat) : Str := txt (nmJ l k)
theorem zm8 (l : List Int) (k : Nat) : (nmJ l k).length < 100 /\ (k < 7 -> 2 <= (nmJ l k).length) := by
  unfold nmJ
  by_cases h : k < 7
  · rw [if_pos h]
    have := Yr (zP5 (y := lawY l) (show Jb (lawT l) from zk1 _)) k h
    exact ⟨Nat.lt_of_le_of_lt this.len2 (by omega), fun _ => Nat.le_trans (by decide) this.len1⟩
  · rw [if_neg h]
    exact ⟨by show 1 < 100; decide, fun e => absurd e h⟩
theorem yg0 (l : List Int) (i j : Nat) (h : hnJ l i = hnJ l j) : i = j := by
  have h : nmJ l i = nmJ l j := congrArg (fun x : Str => x.cps.toList) h
  have li := (zm8 l i).2
  have lj := (zm8 l j).2
  unfold nmJ at h li lj
  by_cases hi : i < 7
  · by_cases hj : j < 7
    · rw [if_pos hi, if_pos hj] at h
      exact zV7 (zP5 (show Jb (lawT l) from zk1 _)) hi hj h
    · rw [if_neg hj] at h
      have := li hi
      rw [h] at this
      exact absurd this (by decide : ¬ 2 <= 1)
  · by_cases hj : j < 7
    · rw [if_neg hi] at h
      have := lj hj
      rw [<- h] at this
      exact absurd this (by decide : ¬ 2 <= 1)
    · rw [if_neg hi, if_neg hj] at h
      exact (List.cons.inj h).1
noncomputable abbrev Ju : List (Addr × Addr) := [(145, 141), (152, 148), (271, 269)]
theorem yf6 {P : Params} {h : Heap} {c : Cfg} {W : Wd} {l : List Int} : ∀ {vs : List Value}, WellAll P h vs (ofPys (l.map PyData.int)) -> VRs c W (l.map aI) vs := by
  induction l with
  | nil => intro vs w; cases w; rfl
  | cons i l ih =>
    intro vs w
    cases w with
    | cons a b =>
      cases a
      exact ⟨_, _, rfl, ⟨_, rfl⟩, ih b⟩
structure yi8 (w : World) (s₁ : Shared) (loose : List Str) (mg mb : Str -> Option Value) (l : List Int) (a : Addr) : Prop where
  X : (Mine.aux.heap_1_39 w.params).In s₁.heap
  tabs : TabsAt Ju s₁.heap
  T : TopRead topProg loose mg mb (ghostOf s₁.heap Ju)
  sys : ∃ o, (ghostOf s₁.heap Ju).get? sysModules = some o
  bm : ∃ bm ob, BMod (ghostOf s₁.heap Ju) mainGlobals mg bm ob
  len : l.length <= 63
  arg : Well w.params s₁.heap (.ref a) (ofPy (.list (l.map PyData.int)))
section
variable {w : World} {s₁ : Shared} {loose : List Str} {mg mb : Str -> Option Value} {l : List Int} {a : Addr}
noncomputable abbrev xJ (w : World) (s₁ : Shared) (loose : List Str) (mg mb : Str -> Option Value) (l : List Int) : JIn := ⟨w, (ghostOf s₁.heap Ju).get?, hnJ l, lawZ l, loose, mg, mb⟩
theorem jok (N : yi8 w s₁ loose mg mb l a) : JOk (xJ w s₁ loose mg mb l) where
  K := ghost_K N.tabs N.X (by kernel_rfl)
  T := fun h hk => by
    have T := N.T
    exact ⟨T.g.keeps hk, T.b.keeps hk, T.nolimit.keeps hk, T.builtins, fun x h1 h2 _ _ _ => T.free x h1 h2 (by intro q; cases q) (by intro q; cases q) (by intro q; cases q)⟩
  sys := N.sys
  b1 := hideAll_none _ (by decide)
  b2 := hideAll_none _ (by decide)
  b3 := hideAll_none _ (by decide)
  sh := fun k => Nat.lt_trans (show (nmJ l k).toArray.size < 100 from List.size_toArray .. ▸ (zm8 l k).1) (by decide)
  hi := yg0 l
  sz := ⟨Int.natCast_nonneg _, Int.ofNat_lt.mpr (Nat.lt_trans (zi9 (x := (XD l 0 [119, 1765, 2]).getD 2 0) (m := 4) (by decide)).2 (by decide))⟩
  bm := let ⟨bm, ob, B⟩ := N.bm; ⟨bm, ob, B.obj, B.data, fun h hk => B.keeps hk⟩
theorem zI4 : AOk 41 callerA := ⟨rfl, by decide, by decide, ⟨[], rfl⟩, rfl⟩
noncomputable abbrev zj2 (l : List Int) (a : Addr) : Wd := ⟨[141, 148, 269], fun b => if b = a then some (aL (l.map aI)) else none, 1, fun _ => none⟩
set_option maxHeartbeats 1000000 in
theorem zQ1 (EV : ∀ n, n < 720 -> lawB (Va n) = true) (N : yi8 w s₁ loose mg mb l a) :
    codeAny (model PySem.Challenge.pw_xr0018_01 w) callerA (.call (.ref 311) ⟨[.ref a], []⟩) (fun r s' => r = .ok (.ret (.bool true)) /\ Ext [] (zj2 l a) (zj2 l a) (upS s₁) s' /\ ∀ b ∈ [141, 148, 269], ∃ ps, s'.heap.get? b = some { cls := .none, data := .fields ps }) s₁ := by
  obtain ⟨NN, F⟩ := yg9 (jok N)
  have S := zU2 (jok N) (fun _ => 0) 1
  have D := yh3 (xJ w s₁ loose mg mb l) (fun _ => 0) 1 36 rfl
  have hw := N.arg
  simp only [ofPy] at hw
  cases hw with
  | list e wa =>
    have na : a ∉ [141, 148, 269] := fun hm => by
      obtain ⟨q, hq, rfl⟩ := List.mem_map.mp (show a ∈ Ju.map (·.2) from hm)
      rw [(N.tabs q hq).2] at e
      cases e
    have R : Rel (cfgJ (xJ w s₁ loose mg mb l) (fun _ => 0) 1) (zj2 l a) tabH (upS s₁) := by
      refine ⟨rfl, by show 3 <= 8000; decide, (by decide : ([141, 148, 269] : List Addr).Nodup), ⟨fun _ _ h => (nomatch h), fun _ _ _ h => (nomatch h), fun _ _ => rfl⟩, fun i b hi => ?_, fun b x hx => ?_, fun b o q => ⟨of_hideAll _ q, fun hm => ?_⟩, Nat.one_pos, Nat.le_refl _, Nat.le_add_left 1 s₁.toks⟩
      · have h3 : i < 3 := (List.getElem?_eq_some_iff.mp hi).1
        have hb : b = tpOf i := by
          match i, h3, hi with
          | 0, _, hi => exact (Option.some.inj hi).symm
          | 1, _, hi => exact (Option.some.inj hi).symm
          | 2, _, hi => exact (Option.some.inj hi).symm
        obtain ⟨q, hq, hqb⟩ := List.mem_map.mp (show b ∈ Ju.map (·.2) from List.mem_of_getElem? hi)
        rw [zk4 h3]
        exact ⟨_, hqb ▸ (N.tabs q hq).2, hi.trans (congrArg some hb), #[], rfl, trivial, fun pos v hv => (nomatch hv)⟩
      · by_cases q : b = a
        · subst q
          cases (if_pos rfl).symm.trans hx
          exact ⟨na, _, e, _, _, rfl, yf6 wa⟩
        · cases (if_neg q).symm.trans hx
      · exact nomatch (hideAll_none _ hm).symm.trans (show (ghostOf s₁.heap Ju).get? b = some o from q)
    have hx : (fdOf (KJ (xJ w s₁ loose mg mb l)) (faOf 36)).scope.names.lookup ("script" : Str) = some .local := by rw [D.scope]; decide +kernel
    have hN : Vq (fdOf (KJ (xJ w s₁ loose mg mb l)) (faOf 36)).scope ["script"] := by rw [D.scope]; exact ⟨by decide, by decide +kernel, by decide +kernel⟩
    have hv : VRs (cfgJ (xJ w s₁ loose mg mb l) (fun _ => 0) 1) (zj2 l a) [aL (l.map aI)] [.ref a] := ⟨_, _, rfl, ⟨a, rfl, if_pos rfl⟩, rfl⟩
    have key := fun h => @zS8 (cfgJ (xJ w s₁ loose mg mb l) (fun _ => 0) 1) 40 36 _ _ callerA s₁ (zj2 l a) tabH (fun _ s' => ∀ b ∈ [141, 148, 269], ∃ ps, s'.heap.get? b = some { cls := .none, data := .fields ps }) ["script"] [aL (l.map aI)] [.ref a] "script" (.ref a) []
      S D.at'.toFnO D.body h zI4 R hv rfl hx (bp_j (xJ w s₁ loose mg mb l) 22 (i := 36) (names := ["script"]) rfl) rfl hN
    refine key fun {A env s1} Dy => ?_
    rw [D.scope] at Dy
    exact ye3 (N := NN) (l := l) (fun ht t0 => F ht t0) rfl (Nat.lt_of_le_of_lt N.len (by decide)) (by kernel_rfl) (fun k hk => congrArg txt (if_pos hk)) (EV _ (ya5 l)) rfl Dy
end
theorem zZ0 {w : World} {h : Heap} (X : (Mine.aux.heap_1_39 w.params).In h) (hT : ∀ P ∈ [141, 148, 269], h.get? P = some (tabObj #[])) : TabsAt Ju h := by
  intro q hq
  simp only [List.mem_cons, List.not_mem_nil, or_false] at hq
  rcases hq with rfl | rfl | rfl
  · exact ⟨codeHd_of_K (c := 145) (P := 141) X (by kernel_rfl), hT 141 (by decide)⟩
  · exact ⟨codeHd_of_K (c := 152) (P := 148) X (by kernel_rfl), hT 148 (by decide)⟩
  · exact ⟨codeHd_of_K (c := 271) (P := 269) X (by kernel_rfl), hT 269 (by decide)⟩
theorem law_good (EV : ∀ n, n < 720 -> lawB (Va n) = true) {w : World} {s₁ : Shared} {mg mb : Str -> Option Value} {loose : List Str} {p : Program} {mean : ExcName -> Option Value} {l : List Int} {a fa : Addr} {c : ClaimW} {cl : Str -> Option Addr} {mean' : ExcName -> Option Value} {args : List WData}
    (X : (Mine.aux.heap_1_39 w.params).In s₁.heap) (hT : ∀ P ∈ [141, 148, 269], s₁.heap.get? P = some (tabObj #[])) (T : Top p loose mean mg mb s₁.heap) (imp : importsNone p = true) (hg : s₁.gens = #[]) (hlen : l.length <= 63)
    (arg : Well w.params s₁.heap (.ref a) (ofPy (.list (l.map PyData.int)))) (hmg : mg "law" = some (.ref fa)) (hr : ∀ cls, c.raises args cls = false) (hp : c.post args (.bool true) args = true) :
    codeAny (model PySem.Challenge.pw_xr0018_01 w) callerA (.call (.ref fa) ⟨[.ref a], []⟩) (GoodWG c cl mean' args s₁) s₁ := by
  have hT9 := zZ0 X hT
  have T' := ghost_top hT9 T
  have hfa := (mg_of X T.g (show nsIn (Mine.aux.heap_1_39 w.params) mainGlobals "law" = some (some (.ref 311)) by kernel_rfl)).symm.trans hmg
  cases hfa
  have N : yi8 w s₁ (loose ++ (recsOf p).map (·.name) ++ (litsOf p).map (·.1) ++ (clssOf p loose).map (·.name)) mg mb l a := {
    X := X
    tabs := hT9
    T := topRead_of T'
    sys := by
      obtain ⟨mm, hm, _⟩ := (T.seer imp).mods
      have hm' := ghost_ns hT9 hm
      unfold Heap.Ns at hm'
      obtain ⟨es, n, ho⟩ := hm'
      cases e : (ghostOf s₁.heap Ju).get? sysModules with
      | some o => exact ⟨o, rfl⟩
      | none => simp [e] at ho
    bm := bmod_of_top T'
    len := hlen
    arg := arg }
  refine codeAny_mono (zQ1 EV N) fun r s' p => ?_
  obtain ⟨rfl, E, hps⟩ := p
  refine ⟨.inl ⟨_, .bool true, [], rfl, hr, .bool true, hp, fun _ => ⟨List.nodup_nil, fun _ h => nomatch h⟩⟩, ⟨fun b o e => ?_, fun b o e => E.al b o e⟩, E.gk.os, E.gk.gens (by show AllBare s₁.gens; rw [hg]; intro y hy; simp at hy)⟩
  by_cases hb : b ∈ [141, 148, 269]
  · obtain ⟨q, hq, rfl⟩ := List.mem_map.mp (show b ∈ Ju.map (·.2) from hb)
    have e2 := (hT9 q hq).2
    rw [e] at e2
    cases e2
    obtain ⟨ps, hp'⟩ := hps q.2 hb
    exact .inr (.inl ⟨((hT9 q hq).1.tab (hT9 q hq).2).isCodeTable, rfl, #[], ps, rfl, by simpa using hp'⟩)
  · exact .inl (E.kp b o hb (fun h => nomatch h) e)
end Mine
end
section
namespace Mine
open PySem PySem.W PySem.Calls PyProof.Rows
set_option maxHeartbeats 8000000
set_option Elab.async true in
theorem top : PySem.Challenge.rw_xr0018_01.Holds := by
  w_on
  refine aux fun said => ?_
  o_head (Mine.hk Mine.aux.heap_1_39 [2, 3, 32, 34, 35, 37, 38, 42, 43, 44, 46, 47, 49, 50, 51, 53, 54, 56, 57, 58, 60, 61, 63, 64, 65, 66, 67, 69, 70, 72, 73, 74, 75, 76, 78, 79, 81, 82, 83, 84, 85, 87, 88, 90, 91, 92, 93, 94, 96, 97, 99, 100, 101, 104, 109, 110, 111, 113, 114, 116, 117, 118, 120, 121, 123, 124, 125, 126, 128, 129, 131, 132, 133, 135, 136, 138, 139, 140, 142, 143, 145, 146, 147, 149, 150, 152, 153, 154, 155, 157, 158, 160, 161, 162, 164, 165, 167, 168, 169, 170, 172, 173, 175, 176, 177, 178, 179, 180, 181, 184, 186, 187, 189, 190, 191, 193, 194, 196, 197, 198, 200, 201, 203, 204, 205, 207, 208, 210, 211, 212, 214, 215, 217, 218, 219, 221, 222, 224, 225, 226, 228, 229, 231, 232, 233, 235, 236, 238, 239, 240, 242, 243, 245, 246, 247, 249, 250, 252, 253, 254, 256, 257, 259, 260, 261, 263, 264, 266, 267, 268, 271, 272, 273, 275, 276, 278, 279, 280, 283, 284, 285, 288, 289, 290, 293, 294, 295, 298, 299, 300, 302, 303, 305, 306, 307, 310, 311] (fun _ => by kernel_rfl))
  case hw => w_witness2
  w_on
  intro w s₀ s₁ mg mb G Y fa o pm cd doc dV kV ho hd hcd hD hmg hg args vals as hpre hlay hrd hwl hlo
  have KX := km_in_of Y
  km_tabs Y
  refine Ground.open G ?_
  intro T B D TE TW
  try (refine guard_noD D (by decide +kernel) ?_; clear D)
  wrow_args hpre hlay hrd hwl hlo
  all_goals (first | refine callC_kw (enter_call ?_) | refine enter_call ?_)
  rename Well _ _ _ _ => w1
  exact Mine.law_good yx3 KX hT8 T (by decide +kernel) hg (by omega) w1 hmg (fun _ => by rfl) (by kernel_rfl)
end Mine
end
theorem PySem.Challenge.cw_xr0018_01_holds : PySem.Challenge.rw_xr0018_01.Holds :=
  Mine.top

