import PyProof.Rows.All
import OpenK.KCall
import Open.Head
import Open.Line
import OpenK.KCell
import KE.KLam
import KE.KRevSl
import KE.KSuperObj
import Wide.FinOn
import OpenK.AllK
import Wide.All
import PySem.Challenge.RW_sc0091_01
set_option Elab.async false
set_option linter.all false
set_option compiler.extract_closed false
set_option backward.eqns.nonrecursive false
set_option backward.eqns.deepRecursiveSplit false
set_option genSizeOf false
set_option bootstrap.genMatcherCode false
set_option tactic.hygienic false
set_option backward.match.sparseCases false
set_option backward.defeqAttrib.useBackward true
namespace Mine
@[elab_as_elim] theorem rwx {α : Sort _} {a b : α} {P : α → Prop} (h : a = b) (q : P b) : P a := h ▸ q
@[elab_as_elim] theorem rwy {α : Sort _} {a b : α} {P : α → Prop} (h : b = a) (q : P b) : P a := h ▸ q
def exl (xs : Array Lean.Syntax) : Option (Array Lean.Syntax) :=
  let t : List (Lean.Name × Nat) := [(`E, 25), (`T, 7), (`EL, 2), (`SS, 14), (`SL, 2), (`EO, 3)]
  if xs.any fun x => (t.lookup x[2].getId).isSome then some (xs.flatMap fun x => match t.lookup x[2].getId with
    | some n => (Array.range n).map fun i => .node .none ``Lean.Parser.Tactic.simpLemma #[.node .none `null #[], .node .none `null #[], Lean.mkIdent (.str `Mine ("x" ++ x[2].getId.toString ++ toString (i + 1)))]
    | none => #[x])
  else none
end Mine
open Lean in
local macro_rules
  | `(tactic| simp only [$xs,*] $[$l:location]?) => do
    let some ys := Mine.exl xs.getElems | Macro.throwUnsupported
    let ys := ys.map fun y => ⟨y⟩
    `(tactic| simp only [$[$ys],*] $[$l]?)
  | `(tactic| dsimp only [$xs,*] $[$l:location]?) => do
    let some ys := Mine.exl xs.getElems | Macro.throwUnsupported
    let ys := ys.map fun y => ⟨y⟩
    `(tactic| dsimp only [$[$ys],*] $[$l]?)
open Lean.Parser.Tactic in
local macro_rules
  | `(tactic| rewrite [← $t:term]) => `(tactic| first | refine Mine.rwy $t ?_ | refine Mine.rwy ($t _) ?_ | rewrite [← $t:term] at ⊢)
  | `(tactic| rewrite [$t:term]) => `(tactic| first | refine Mine.rwx $t ?_ | refine Mine.rwx ($t _) ?_ | refine Mine.rwx ($t _ _) ?_ | rewrite [$t:term] at ⊢)
  | `(tactic| rewrite [$r:rwRule, $rs:rwRule,*]) => `(tactic| (rewrite [$r:rwRule]; rewrite [$rs:rwRule,*]))
set_option maxRecDepth 100000
open PySem PySem.W PyProof.Rows PySem.Calls
namespace Mine
@[elab_as_elim] theorem lenE {α:Type _} {l:List α} {n:Nat} {R:List α->Prop} (h:l.length=n+1) (k:∀ a r,r.length=n->R (a::r)):R l:=by
 cases l with
 | nil=>cases h
 | cons a r=>exact k a r (Nat.succ.inj h)
theorem len0 {α:Type _} {l:List α} (h:l.length=0):l=[]:=List.length_eq_zero_iff.mp h
theorem qKw (x:Int):(max 0 x).toNat=x.toNat:=by
 cases x with
 | ofNat k=>exact congrArg Int.toNat (Int.max_eq_right (Int.natCast_nonneg k))
 | negSucc k=>exact (congrArg Int.toNat (Int.max_eq_left (Int.le_of_lt (Int.negSucc_lt_zero k)))).trans rfl
theorem ar1 {n:Nat} {i:Int}:(max 0 (min i ↑n)).toNat=min (min i.toNat n) n:=by
 rw [qKw,Nat.min_eq_left (Nat.min_le_right _ _)]
 by_cases h:i≤n
 · rw [Int.min_eq_left h,Nat.min_eq_left (Int.toNat_le.mpr h)]
 · have h:=Int.le_of_lt (Int.not_le.mp h)
   rw [Int.min_eq_right h,Int.toNat_natCast]; exact (Nat.min_eq_right ((Int.le_toNat (Int.le_trans (Int.natCast_nonneg n) h)).mpr h)).symm
theorem ar2 {n:Nat} {i:Int} (h:i<0):(max 0 (min (i+n) ↑n)).toNat=min (↑n+i).toNat n:=by
 have e:i+n≤n:=Int.add_le_of_le_sub_right (Int.le_trans (Int.le_of_lt h) (Int.le_of_eq (Int.sub_self _).symm))
 rw [Int.min_eq_left e,qKw,Int.add_comm]; exact (Nat.min_eq_left (Int.toNat_le.mpr (Int.add_comm i n ▸ e))).symm
theorem ar3 {n j:Nat} (h:j<n):n+1-(j+1)<n+1-j:=Nat.sub_lt_sub_left (Nat.lt_succ_of_lt h) (Nat.lt_succ_self j)
theorem ar4 {a b:Int} (h1:-2 ^ 60≤a) (h2:a≤2 ^ 60) (h3:-2 ^ 60≤b) (h4:b≤2 ^ 60) :  (((-9223372036854775808≤a/\a<9223372036854775808)/\-9223372036854775808≤b/\b<9223372036854775808)/\-9223372036854775808≤max (b-a) 0/\max (b-a) 0<9223372036854775808) /\
 (max (b-a) 0=0\/-9223372036854775808≤b/\b<9223372036854775808):=by
 have x:∀ {c:Int},-2 ^ 60≤c->-9223372036854775808≤c:=fun h=>Int.le_trans (by decide) h
 have y:∀ {c:Int},c≤2 ^ 60->c<9223372036854775808:=fun h=>Int.lt_of_le_of_lt h (by decide)
 exact ⟨⟨⟨⟨x h1,y h2⟩,x h3,y h4⟩,Int.le_trans (by decide) (Int.le_max_right _ _),Int.max_lt.mpr ⟨Int.lt_of_le_of_lt (Int.sub_le_sub h4 h1) (by decide),by decide⟩⟩,.inr ⟨x h3,y h4⟩⟩
theorem ar5 {t z lo:Nat} (h2:lo≤t-z):lo+(t-z-lo)=t-z:=Nat.add_sub_cancel' h2
theorem ar6 {x:Int} {m:Nat} (h:x<m) (hm:0<m):x.toNat<m:=by
 cases x with
 | ofNat k=>exact Int.ofNat_lt.mp h
 | negSucc k=>exact hm
theorem ar8 {a:Nat}:min (a-2) (a+1)≤a:=Nat.le_trans (Nat.min_le_left _ _) (Nat.sub_le _ _)
theorem ar9 {n:Nat} (h:n≠0):(-1+(n:Int)).toNat=n-1:=by
 cases n with
 | zero=>exact absurd rfl h
 | succ k=>rw [Int.natCast_succ,Int.add_comm,Int.add_neg_cancel_right]; rfl
theorem ar10 {j i:Nat} (h:j≤100000):min i j+1+(j-(i+1))≤16777216:=Nat.le_trans (Nat.add_le_add (Nat.succ_le_succ (Nat.min_le_right _ _)) (Nat.sub_le _ _)) (Nat.le_trans (Nat.add_le_add (Nat.succ_le_succ h) h) (by decide))
theorem ar11 {j i:Nat} (h:j≤100000):min i j+1+(j-i)≤16777216:=Nat.le_trans (Nat.add_le_add (Nat.succ_le_succ (Nat.min_le_right _ _)) (Nat.sub_le _ _)) (Nat.le_trans (Nat.add_le_add (Nat.succ_le_succ h) h) (by decide))
theorem ar12 {i L:Nat} (h:L≤189):min i L+(L-i+1)≤15000000:=Nat.le_trans (Nat.add_le_add (Nat.min_le_right _ _) (Nat.succ_le_succ (Nat.sub_le _ _))) (Nat.le_trans (Nat.add_le_add h (Nat.succ_le_succ h)) (by decide))
theorem ar13 {i L k:Nat} (h:L≤189):min i L+(L-k)≤15000000:=Nat.le_trans (Nat.add_le_add (Nat.min_le_right _ _) (Nat.sub_le _ _)) (Nat.le_trans (Nat.add_le_add h h) (by decide))
theorem ar14 {i L k:Nat} (h:L≤189):min i L+(L-k+1)≤15000000:=Nat.le_trans (Nat.add_le_add (Nat.min_le_right _ _) (Nat.succ_le_succ (Nat.sub_le _ _))) (Nat.le_trans (Nat.add_le_add h (Nat.succ_le_succ h)) (by decide))
theorem ar15 {x:Nat} {j:Int} (h:j≤x):min (max 0 j).toNat x=j.toNat:=by rw [qKw]; exact Nat.min_eq_left (Int.toNat_le.mpr h)
theorem ar16 {r d:Nat} (h:d≤2):r+3-d=r+(3-d):=Nat.add_sub_assoc (Nat.le_succ_of_le h) r
theorem ar17 {k i:Nat} (h:i>k):k+1+(i-(k+1))=i:=Nat.add_sub_cancel' h
theorem ar19 {t lo x y:Nat} (h:lo≤t) (e:t-lo=x+y):t=lo+(x+y):=e ▸ (Nat.add_sub_cancel' h).symm
theorem ar20 {t lo x y:Nat} (h:lo≤t) (e:t-lo=x+y):t-y=lo+x:=by rw [ar19 h e,← Nat.add_assoc,Nat.add_sub_cancel]
theorem ar21 {t lo x y:Nat} (h:lo≤t) (e:t-lo=x+y):lo≤t-y:=ar20 h e ▸ Nat.le_add_right _ _
theorem ar22 {t lo x y:Nat} (h:lo≤t) (e:t-lo=x+y):y≤t:=ar19 h e ▸ Nat.le_trans (Nat.le_add_left _ _) (Nat.le_add_left _ _)
theorem ar23 {x:Int} (h0:0≤x) (h:x<3):1≤(1+x).toNat/\(1+x).toNat≤3:=by
 cases x with
 | ofNat k =>
  rw [show (1+Int.ofNat k).toNat=1+k from by rw [show (1:Int)+Int.ofNat k=((1+k:Nat):Int) from rfl,Int.toNat_natCast]]
  exact ⟨Nat.le_add_right _ _,Nat.add_comm k 1 ▸ Int.ofNat_lt.mp h⟩
 | negSucc k=>exact absurd h0 (Int.not_le.mpr (Int.negSucc_lt_zero k))
theorem ar24 {s:Nat} {j:Int} (h:0≤j):s≤((s:Int)-j).toNat+j.toNat:=by
 cases j with
 | ofNat k=>rw [show ((s:Int)-Int.ofNat k).toNat=s-k from Int.toNat_sub s k]; exact Nat.le_add_of_sub_le (Nat.le_refl _)
 | negSucc k=>exact absurd h (Int.not_le.mpr (Int.negSucc_lt_zero k))
theorem ar25 {i L:Nat} (h:i<L):min i L+(L-(i+1)+1)=L:=by rw [Nat.min_eq_left (Nat.le_of_lt h),Nat.add_comm _ 1,← Nat.add_assoc]; exact Nat.add_sub_cancel' h
theorem ar26 {i L:Nat} (h:i<L+1):min i L+(L-i+1)=L+1:=by rw [Nat.min_eq_left (Nat.le_of_lt_succ h),← Nat.add_assoc,Nat.add_sub_cancel' (Nat.le_of_lt_succ h)]
theorem ar27 {a b:Nat}:((a:Int)+(b:Int)).toNat=a+b:=rfl
theorem ar28 {lo i:Nat} (h:lo≤i):lo+(i-lo)=i:=Nat.add_sub_cancel' h
theorem ar29 {n i m:Nat} (h:i+(n+1)=m):i<m:=h ▸ Nat.lt_add_of_pos_right (Nat.succ_pos n)
theorem ar30 {s w:Nat} (h:min 3 (s-w)=3):w+3≤s:=Nat.add_comm w 3 ▸ Nat.add_le_of_le_sub (Nat.le_of_lt (Nat.lt_of_sub_pos (Nat.lt_of_lt_of_le (by decide) (h ▸ Nat.min_le_right 3 (s-w):3≤s-w)))) (h ▸ Nat.min_le_right 3 (s-w))
theorem ar31 {a b i:Nat} (hb:i≤b) (h:min a (b-i)=a):i+a≤b:=Nat.add_comm a i ▸ Nat.add_le_of_le_sub hb (h ▸ Nat.min_le_right a (b-i))
theorem ar32 {h i j:Nat} (h1:¬ j<h) (h2:¬ h+i=j):¬ i=j-h:=fun e=>h2 (e ▸ Nat.add_sub_cancel' (Nat.not_lt.mp h1))
theorem ar33 {w lo hi j:Nat} (h1:lo≤j) (h2:j+w≤hi):lo≤j/\j<lo+(hi+1-lo):=⟨h1,(Nat.add_sub_cancel' (Nat.le_succ_of_le (Nat.le_trans h1 (Nat.le_trans (Nat.le_add_right _ _) h2)))).symm ▸ Nat.lt_succ_of_le (Nat.le_trans (Nat.le_add_right _ _) h2)⟩
theorem ar34 {w lo hi j:Nat} (h1:lo≤j) (h2:j+w≤hi):lo≤j/\j<lo+(hi+1-w-lo):=by
 have e:j<hi+1-w:=Nat.lt_sub_of_add_lt (Nat.lt_succ_of_le h2)
 exact ⟨h1,(Nat.add_sub_cancel' (Nat.le_trans h1 (Nat.le_of_lt e))).symm ▸ e⟩
theorem ar35 {w lo hi i:Nat} (h:lo≤i/\i<lo+(hi+1-w-lo)):i+w≤hi:=by
 have h2:lo≤hi+1-w:=(Nat.le_total lo (hi+1-w)).elim id fun g=>absurd h.2 (by rw [Nat.sub_eq_zero_of_le g]; exact Nat.not_lt.mpr h.1)
 exact Nat.le_of_lt_succ (Nat.add_lt_of_lt_sub (Nat.add_sub_cancel' h2 ▸ h.2))
theorem ar36 {x:Int} (h1:-2 ^ 63≤x) (h2:x<2 ^ 63):-9223372036854775808≤x/\x<9223372036854775808:=⟨h1,h2⟩
theorem ar37 {n:Nat}:((n+1:Nat) + -1:Int).toNat=n:=by rw [Int.natCast_succ,Int.add_neg_cancel_right]; rfl
theorem ar38 {a b:Nat} {P:Prop} (h:a≤b/\P):(b:Int)-(a:Int)=((b-a:Nat):Int):=(Int.ofNat_sub h.1).symm
theorem ar39 {n:Nat} (h:n≠0):n-1<n:=Nat.sub_lt (Nat.pos_of_ne_zero h) (by decide)
theorem ar40 {n:Nat} (h:n-1<n):n-1+1=n:=Nat.succ_pred_eq_of_pos (Nat.zero_lt_of_lt h)
theorem ar41 {m:Nat}:min 7 m≤8:=Nat.le_trans (Nat.min_le_left _ _) (by decide)
theorem ar42 {a b:Nat}:a≤b+(a-b):=Nat.add_comm (a-b) b ▸ Nat.le_add_of_sub_le (Nat.le_refl _)
theorem ar43 {a w c:Nat} (h:a+9*(c+1)≤16000000) (hp:w≤8):a+w≤16000000:=Nat.le_trans (Nat.add_le_add_left (Nat.le_trans hp (Nat.le_trans (by decide) (Nat.mul_le_mul_left 9 (Nat.succ_le_succ (Nat.zero_le c))))) a) h
theorem ar44 {l a b c:Nat} (h:l+a+b+c≤16000000):l+(a+(b+1) / 2)≤16777216:=Nat.le_trans (Nat.add_le_add_left (Nat.add_le_add_left (Nat.le_trans (Nat.div_le_self _ _) (Nat.le_refl _)) _) _) (by rw [← Nat.add_assoc,← Nat.add_assoc]; exact Nat.le_trans (Nat.succ_le_succ (Nat.le_trans (Nat.le_add_right _ c) h)) (by decide))
theorem ar45 {j:Nat} (h:j≤100000) {i:Nat}:min i j≤16777215:=Nat.le_trans (Nat.min_le_right _ _) (Nat.le_trans h (by decide))
theorem ar46 {m:Nat}:((m:Int)+1 + -3).toNat=m-2:=by
 rw [show (m:Int)+1 + -3=(m:Int)-(2:Nat) from by rw [Int.add_assoc]; rfl]; exact Int.toNat_sub m 2
theorem ar47 {c a j:Nat} (h:j<c-a):a+j<c:=Nat.add_comm j a ▸ Nat.add_lt_of_lt_sub h
theorem ar48 {c a:Nat} (h:a≤c):a+(c-a+3)=c+3:=by rw [← Nat.add_assoc,Nat.add_sub_cancel' h]
theorem ar49 {c a:Nat} (h:a≤c):c=a+(c-a):=(Nat.add_sub_cancel' h).symm
theorem ar50 {i w z t:Nat} (h:i+w≤t-z):i+w≤t:=Nat.le_trans h (Nat.sub_le _ _)
theorem ar51 {n:Nat}:((n:Int)+4 + -3).toNat=n+1:=by rw [Int.add_assoc]; rfl
theorem ar52 {a b:Nat} (h:min a b=a):a≤b:=h ▸ Nat.min_le_right a b
theorem ar53 {u b:Nat} (h:u≤10*b) (hb:b≤600):u+200<9900:=Nat.lt_of_le_of_lt (Nat.add_le_add_right (Nat.le_trans h (Nat.mul_le_mul_left 10 hb)) _) (by decide)
theorem ar54 {j:Nat} (h:j≤100000):((j:Int)+1-0).toNat≤16777216:=by rw [Int.sub_zero]; exact Nat.le_trans (Nat.succ_le_succ h) (by decide)
theorem ar55 {k x y a:Nat} (h:x≤k*a) (h2:y≤k):y+x≤k*a+k:=Nat.add_comm y x ▸ Nat.add_le_add h h2
theorem ar56 {a b n:Nat} (h:a+3*(n+1)≤16000000) (h2:b≤a+3):b+3*n≤16000000:=Nat.le_trans (Nat.add_le_add_right h2 _) (by rw [Nat.add_assoc,Nat.add_comm 3]; exact h)
theorem ar57 {a b n:Nat} (h:a+3*(n+1)≤1000000) (h2:b≤3):a+b≤16777216:=Nat.le_trans (Nat.add_le_add_left (Nat.le_trans h2 (Nat.le_mul_of_pos_right 3 (Nat.succ_pos n))) a) (Nat.le_trans h (by decide))
theorem as1 {a b n m:Nat} (h:a+b≤n) (d:n≤m):a≤m:=Nat.le_trans (Nat.le_add_right _ _) (Nat.le_trans h d)
theorem as2 {a b n m:Nat} (h:a+b≤n) (d:n≤m):b≤m:=Nat.le_trans (Nat.le_add_left _ _) (Nat.le_trans h d)
theorem as3 {a b n m:Nat} (h:a+b≤n) (d:n<m):a<m:=Nat.lt_of_le_of_lt (Nat.le_trans (Nat.le_add_right _ _) h) d
theorem as5 {a n m:Nat} (h:a≤n) (d:n+n≤m):a+a≤m:=Nat.le_trans (Nat.add_le_add h h) d
theorem as6 {a n m:Nat} (h:a≤n) (d:n+1+n+n≤m):a+1+a+a≤m:=Nat.le_trans (Nat.add_le_add (Nat.add_le_add (Nat.succ_le_succ h) h) h) d
theorem as7 {a n m k:Nat} (h:a≤n) (d:n+1+n+n+k≤m):a+1+a+a+k≤m:=Nat.le_trans (Nat.add_le_add_right (Nat.add_le_add (Nat.add_le_add (Nat.succ_le_succ h) h) h) k) d
theorem as8 {i j k n m:Nat} (h:j≤n) (d:n+n≤m):min i j+(j-k)≤m:=Nat.le_trans (Nat.add_le_add (Nat.min_le_right _ _) (Nat.sub_le _ _)) (as5 h d)
theorem as10 {a c k n t m:Nat} (h:a≤c+k*n) (h2:n≤t) (d:c+k*t≤m):a≤m:=Nat.le_trans h (Nat.le_trans (Nat.add_le_add_left (Nat.mul_le_mul_left k h2) c) d)
theorem as11 {i n l:Nat} (h:i+(n+1)=l):i+1+n=l:=(Nat.add_right_comm i 1 n).trans h
theorem as12 {i n l m:Nat} (h:i+(n+1)=l) (e:m=l):i<m:=e ▸ ar29 h
theorem as13 {i n l t:Nat} (h:i+(n+1)=l) (hl:l≤t):i≤t:=Nat.le_trans (Nat.le_of_lt (ar29 h)) hl
theorem as14 {i n l m:Nat} (h:i+(n+1)=l) (e:m=l):i<min m l:=Nat.lt_min.mpr ⟨as12 h e,ar29 h⟩
theorem as15 {i n l m:Nat} (h:i+(n+1)=l) (e:m=l):i<min l m:=Nat.lt_min.mpr ⟨ar29 h,as12 h e⟩
theorem as16 {i l m:Nat} (h:i+0=l):min m l≤i:=h ▸ Nat.min_le_right _ _
theorem as17 {i l m:Nat} (h:i+0=l):min l m≤i:=h ▸ Nat.min_le_left _ _
theorem as18 {a b n m:Nat} (h:a≤b) (h2:b+1≤n) (d:n≤m):a<m:=Nat.lt_of_lt_of_le (Nat.lt_of_le_of_lt h h2) d
theorem as19 {u b:Nat} (h:u≤10*b):u+3≤10*(b+1):=Nat.add_le_add h (by decide:3≤10)
theorem as20 {u b:Nat} (h2:b≤610) (h:u≤10*b):u+3<9900:=Nat.lt_of_le_of_lt (Nat.add_le_add_right (Nat.le_trans h (Nat.mul_le_mul_left 10 h2)) _) (by decide)
theorem as21 {n:Nat} (h:¬ n>2):n<3:=Nat.lt_succ_of_le (Nat.not_lt.mp h)
theorem as22 {n:Nat} (h:n>2):¬ n<3:=Nat.not_lt.mpr h
theorem as23 {n:Nat}:n % 3≤2:=Nat.le_of_lt_succ (Nat.mod_lt _ (by decide))
theorem as24 {n:Nat}:n % 3≤n:=Nat.mod_le _ _
theorem as25 {n:Nat} (h:n % 2=1):2*(n / 2)+1=n:=h ▸ Nat.div_add_mod n 2
theorem as26 {r:Nat} (h:r % 3=0):¬ (r+1) % 3=0:=by rw [Nat.add_mod,h]; decide
theorem as27 {r:Nat} (h:r % 3=0):¬ (r+1+1) % 3=0:=by rw [Nat.add_assoc,Nat.add_mod,h]; decide
theorem as28 {r:Nat} (h:r % 3=0):(r+1+1+1) % 3=0:=by rw [Nat.add_assoc,Nat.add_assoc,Nat.add_mod,h]
theorem as31 {a n:Nat} {z:Int} (h:a≤n) (d:(n:Int)<z):(a:Int)<z:=Int.lt_of_le_of_lt (Int.ofNat_le.mpr h) d
theorem as32 {a n:Nat} {z:Int} (h:a≤n) (d:(n:Int)≤z):(a:Int)≤z:=Int.le_trans (Int.ofNat_le.mpr h) d
theorem as34 {a n:Nat} {z:Int} {P:Prop} (h:a≤n/\P) (d:(n:Int)<z):¬ z≤(a:Int):=Int.not_le.mpr (as31 h.1 d)
theorem as36 {n:Nat} (h:n≠0):0<(n:Int):=Int.ofNat_lt.mpr (Nat.pos_of_ne_zero h)
theorem as37 {n:Nat} (h:0<n):0<(n:Int):=Int.ofNat_lt.mpr h
theorem as38 {s:Nat} {i:Int} (h:0≤(s:Int)+i):-(s:Int)≤i:=by
 have:=Int.add_le_add_left h (-(s:Int))
 rwa [Int.add_zero,Int.neg_add_cancel_left] at this
theorem as39 {n:Int} (h:n<1):n.toNat=0:=Int.toNat_of_nonpos (Int.le_of_lt_add_one h)
theorem as41 {a b n:Nat} (h:a+(b+1)≤n):a+1+b≤n:=Nat.add_right_comm a 1 b ▸ h
theorem as43 {a b n m:Nat} (h:a+(b+1)≤n) (d:n≤m+1):b≤m:=Nat.le_of_succ_le_succ (Nat.le_trans (Nat.le_add_left (b+1) a) (Nat.le_trans h d))
theorem as44 {l k:Nat}:k+l / 2≤l+k:=Nat.add_comm l k ▸ Nat.add_le_add_left (Nat.div_le_self _ _) _
theorem as46 {x l k n:Nat} (h:x≤l+1+k+9*n):x≤l+k+9*(n+1):=Nat.le_trans h (by rw [Nat.add_right_comm l 1 k,Nat.add_assoc]; exact Nat.add_le_add_left (Nat.add_comm 1 (9*n) ▸ Nat.add_le_add_left (by decide:1≤9) (9*n)) _)
theorem as47 {x l k n:Nat} (h:x≤l+(k+1)+9*n):x≤l+k+9*(n+1):=as46 (Nat.add_right_comm l 1 k ▸ h)
theorem as48 {x n:Nat} (h:x≤9*n):x+1+1≤2+9*n:=Nat.add_comm 2 (9*n) ▸ Nat.add_le_add_right h 2
theorem as49 {a b n:Nat} (h:a≤9) (h2:b≤9*n):a+b≤9*(n+1):=Nat.add_comm a b ▸ Nat.add_le_add h2 h
theorem as50 {j n:Nat} (h:j≤n) (h2:¬ j<n):j=n:=Nat.le_antisymm h (Nat.not_lt.mp h2)
theorem as51 {v j n m:Nat} (h:v≤j) (h2:j<n) (h3:n≤m):v≤m:=Nat.le_trans h (Nat.le_trans (Nat.le_of_lt h2) h3)
theorem as52 {l f:Nat} (h:l*(f+1)+f≤1000000):f+l*(f+1)≤16000000:=Nat.add_comm f _ ▸ Nat.le_trans h (by decide)
theorem as53 {l f:Nat} (h:l*(f+1)+f≤1000000):l≤1000000:=Nat.le_trans (Nat.le_mul_of_pos_right l (Nat.succ_pos f)) (Nat.le_trans (Nat.le_add_right _ _) h)
theorem as54 {v w a b n:Nat} {P:Prop} (h1:v=a) (h2:w=b) (h:a+b≤n/\P):v+w≤n:=h1 ▸ h2 ▸ h.1
theorem as55 {v n j:Nat} (h:v=n) (hj:j<v):j<n:=h ▸ hj
theorem as57 {a b:Nat} (h:min a b=a):0+a≤b:=(Nat.zero_add a).symm ▸ ar52 h
theorem as58 {k n l:Nat} (h:k<n) (e:l=n):k<l:=e ▸ h
theorem as59 {w l:Nat} (e:l=w+1):min w l=w:=Nat.min_eq_left (e ▸ Nat.le_succ w)
theorem as60 {n:Nat} (h:n>1):min 1 n=1:=Nat.min_eq_left (Nat.le_of_lt h)
theorem as61 {a b c n m:Nat} (h:a+b+c≤n) (d:n+1≤m):c+1≤m:=Nat.le_trans (Nat.succ_le_succ (Nat.le_trans (Nat.le_add_left _ _) h)) d
theorem as62 {a b c n:Nat} (h:a+b+c≤n):a+(b+c)≤n:=Nat.add_assoc a b c ▸ h
theorem as63 {a b c n m:Nat} (h:a+b+c≤n) (d:0+1+n≤m):0+1+b≤m:=Nat.le_trans (Nat.add_le_add_left (Nat.le_trans (Nat.le_trans (Nat.le_add_left _ a) (Nat.le_add_right _ c)) h) _) d
theorem as64 {a b k n m:Nat} (h:a+b≤n) (hk:k≤1) (d:n+1≤m):a+k≤m:=Nat.le_trans (Nat.add_le_add (Nat.le_trans (Nat.le_add_right _ _) h) hk) d
theorem as65 {a b k n m:Nat} (h:a+b≤n) (hk:k≤1) (d:n+1≤m):a+k+b≤m:=Nat.add_right_comm a k b ▸ Nat.le_trans (Nat.add_le_add h hk) d
theorem as67 {x k n m:Nat} (h:x≤n+1) (h2:n≤k) (d:k+1≤m):x≤m:=Nat.le_trans h (Nat.le_trans (Nat.succ_le_succ h2) d)
theorem as69 {n j h:Nat} (h1:j<h):¬ h+n=j:=fun e=>absurd h1 (Nat.not_lt.mpr (e ▸ Nat.le_add_right h n))
theorem as71 {g n:Nat} (h:g≤n) {t:Nat} (e:t=n+1):(g:Int)+1≤(t:Int):=e ▸ Int.ofNat_le.mpr (Nat.succ_le_succ h)
theorem as73 {n:Nat}:0≤((n+1:Nat):Int) + -1:=by rw [Int.natCast_succ,Int.add_neg_cancel_right]; exact Int.natCast_nonneg n
theorem at1 {r:Nat} (h:r % 3+1<3):(r+1) % 3=r % 3+1:=(Nat.add_mod r 1 3).trans (Nat.mod_eq_of_lt h)
theorem at2 {r l:Nat} (h:r % 3=0\/r % 3+(l+1)<3):¬ (r+1) % 3=0:=by
 have hm:r % 3+1<3:=h.elim (fun e=>e.symm ▸ (by decide:0+1<3)) fun g=>Nat.lt_of_le_of_lt (Nat.add_le_add_left (Nat.le_add_left 1 l) _) g
 rw [at1 hm]; exact Nat.succ_ne_zero _
theorem at3 {r l:Nat} (h1:l+1<3) (h:r % 3=0\/r % 3+(l+1)<3):(r+1) % 3=0\/(r+1) % 3+l<3 :=
 .inr (h.elim (fun e=>by rw [Nat.add_mod,e]; exact Nat.add_comm l 1 ▸ h1) fun g=>by rw [at1 (Nat.lt_of_le_of_lt (Nat.add_le_add_left (Nat.le_add_left 1 l) _) g),Nat.add_assoc,Nat.add_comm 1 l]; exact g)
theorem at4 {x:Int} (h0:0≤x) (h:x<3):-(2 ^ 63:Int)≤1+x/\1+x<2 ^ 63/\1*(1+x).toNat≤16777216 :=
 ⟨Int.le_trans (by decide) (Int.add_le_add (Int.le_refl 1) h0),Int.lt_trans (Int.add_lt_add_left h 1) (by decide),(Nat.one_mul _).symm ▸ Nat.le_trans (ar23 h0 h).2 (by decide)⟩
theorem at5 {x:Int} (h:x>32):¬ x.toNat+1=33:=fun e=>by
 have:=Int.toNat_of_nonneg (Int.le_of_lt (Int.lt_trans (by decide:(0:Int)<32) h))
 rw [Nat.succ.inj e] at this
 rw [← this] at h
 exact absurd h (Int.lt_irrefl 32)
theorem at6 {x:Int} (h:¬ x>32):¬ x.toNat+0=33:=fun e=>absurd (e ▸ Int.toNat_le.mpr (Int.not_lt.mp h):33≤32) (by decide)
theorem at7 {c n:Nat} {z:Int} (h:c<n) (d:(n:Int)≤z):(c:Int)≤z:=Int.le_trans (Int.ofNat_le.mpr (Nat.le_of_lt h)) d
theorem at8 {c m n k:Nat} {z:Int} (h:c≤n) (hm:m≤k) (d:((n+k:Nat):Int)≤z):(c:Int)+(m:Int)≤z:=Int.le_trans (Int.ofNat_le.mpr (Nat.add_le_add h hm)) d
theorem au1 {a n m:Nat} (h:a≤n) (d:n+1+n≤m):a+1+a≤m:=Nat.le_trans (Nat.add_le_add (Nat.succ_le_succ h) h) d
theorem au2 {s fl n x:Nat} (h:s+fl+(n+1)*(fl+1)≤16000000) (h2:x≤s+fl+1):x+fl+n*(fl+1)≤16000000:=by
 refine Nat.le_trans (Nat.add_le_add_right (Nat.add_le_add_right h2 fl) _) ?_
 rw [Nat.succ_mul,Nat.add_comm (n*(fl+1)),← Nat.add_assoc] at h
 rw [Nat.add_right_comm (s+fl) 1 fl]; exact h
theorem au3 {t lo x w y z:Nat} (h:lo≤t) (e:t-lo=x+(w+y+z)):lo+x+w≤t:=by
 rw [ar19 h e,Nat.add_assoc lo x]
 exact Nat.add_le_add_left (Nat.add_le_add_left (Nat.le_trans (Nat.le_add_right _ _) (Nat.le_add_right _ _)) _) _
theorem fm2 {n:Nat}:(n:Int).fmod 2=((n % 2:Nat):Int):=Int.fmod_eq_emod_of_nonneg _ (by decide)
theorem au5 {l a b c m:Nat} (h:l+a+b+c≤16000000) (e:m=l+(a+(b+1) / 2)):m+c≤16777216:=by
 rw [e]
 refine Nat.le_trans (Nat.add_le_add_right (Nat.add_le_add_left (Nat.add_le_add_left (Nat.div_le_self _ _) _) _) _) ?_
 rw [← Nat.add_assoc,← Nat.add_assoc,Nat.add_right_comm _ 1 c]
 exact Nat.le_trans (Nat.succ_le_succ h) (by decide)
theorem au6 {a b c d x n:Nat} (h:a+b+c+9*(n+1)≤15000000) (h8:d≤8) (h2:x≤a+b+c+d+1):x+9*n≤15000000:=by
 refine Nat.le_trans (Nat.add_le_add_right (Nat.le_trans h2 (Nat.succ_le_succ (Nat.add_le_add_left h8 _))) _) ?_
 rw [Nat.mul_succ,Nat.add_comm (9*n),← Nat.add_assoc] at h
 exact h
theorem au7 {l k:Nat}:(l+2*k) / 2=k+l / 2:=(Nat.add_mul_div_left l k (by decide:0<2)).trans (Nat.add_comm _ _)
theorem au8 {l k:Nat} (h:l % 2=0):l+1+2*k=2*(k+(l+1) / 2)+1:=by
 rw [Nat.mul_add,Nat.add_assoc (2*k),as25 (show (l+1) % 2=1 by rw [Nat.add_mod,h])]; exact Nat.add_comm _ _
theorem au9 {l k:Nat} (h:l % 2=1):l+1+2*k=2*(k+(l+1) / 2):=by
 rw [Nat.mul_add,Nat.mul_div_cancel' (Nat.dvd_of_mod_eq_zero (by rw [Nat.add_mod,h]))]; exact Nat.add_comm _ _
theorem au10 {a b c n:Nat} {P:Prop} (h:a+4*(n+1)≤15000000) (hp:c≤1) (hs:b≤a+3+c/\P):b+4*n≤15000000:=by
 refine Nat.le_trans (Nat.add_le_add_right (Nat.le_trans hs.1 (Nat.add_le_add_left hp _)) _) ?_
 rw [Nat.mul_succ,Nat.add_comm (4*n),← Nat.add_assoc] at h
 exact h
theorem au12 {a b n:Nat} {P Q:Prop} (h:a+(n+1)≤16000000) (hs:P/\Q/\b≤a+1):b+n≤16000000:=Nat.le_trans (Nat.add_le_add_right hs.2.2 _) (Nat.add_right_comm a 1 n ▸ h)
theorem au13 {l k n:Nat}:k+(l+1) / 2≤l+k+9*(n+1):=by
 refine Nat.le_trans (Nat.add_le_add_left (Nat.div_le_self _ _) _) ?_
 rw [Nat.add_comm l k,Nat.add_assoc k l]
 exact Nat.add_le_add_left (Nat.add_le_add_left (Nat.le_trans (by decide:1≤9*1) (Nat.mul_le_mul_left 9 (Nat.succ_le_succ (Nat.zero_le n)))) _) _
theorem au14 {l k n a x:Nat} (h:a≤8) (h2:x≤0+0+9*n):k+(l+1) / 2+(a+x)≤l+k+9*(n+1):=by
 rw [Nat.mul_succ,Nat.add_comm l k]
 refine Nat.le_trans (Nat.add_le_add (Nat.add_le_add_left (Nat.div_le_self _ _) _) (Nat.add_le_add h h2)) ?_
 rw [Nat.add_comm 8,← Nat.add_assoc,← Nat.add_assoc,show k+(l+1)+(0+0)=k+l+1 from rfl,Nat.add_right_comm _ 1]
 exact Nat.le_refl _
theorem au15 {k a b n N:Nat} (h:a+k*(n+1)≤N) (h2:b≤k):a+b+k*n≤N:=by
 rw [Nat.mul_succ,Nat.add_comm (k*n),← Nat.add_assoc] at h
 exact Nat.le_trans (Nat.add_le_add_right (Nat.add_le_add_left h2 a) _) h
theorem au16 {A x f:Nat} (h:x≤A):x+1≤A+(f+1):=Nat.add_le_add h (Nat.le_add_left 1 f)
theorem au17 {A x f:Nat} (h:x≤A):f+x≤A+(f+1)+(f+1)+(f+1):=Nat.add_comm x f ▸ Nat.le_trans (Nat.add_le_add h (Nat.le_succ f)) (Nat.le_trans (Nat.le_add_right _ _) (Nat.le_add_right _ _))
theorem au18 {t:Int} {n:Nat} (h:t=((n % 3:Nat):Int)):t≤1000:=h ▸ Int.ofNat_le.mpr (Nat.le_trans as23 (by decide))
theorem au19 {j p n:Nat} (h:j+p≤16000000):j+n % 3+p≤16777216:=Nat.add_right_comm j p (n % 3) ▸ Nat.le_trans (Nat.add_le_add h as23) (by decide)
theorem au20 {j p n:Nat} (h:j+p≤16000000):j+n % 3≤16777216:=Nat.le_trans (Nat.le_add_right _ p) (au19 h)
theorem au21 {t p q r:Nat} {P Q:Prop} (h:t+(r+1)≤16777216) (hp:P/\p+q≤r+1/\Q):t+p+q≤16777216:=Nat.add_assoc t p q ▸ Nat.le_trans (Nat.add_le_add_left hp.2.1 _) h
theorem au22 {q r:Nat} {P Q:Prop} (hp:P/\Q/\q≤r):q+1<r+1+1:=Nat.succ_lt_succ (Nat.lt_succ_of_le hp.2.2)
theorem au24 {w o e:Nat} (h:o=w+e):min w o=w:=Nat.min_eq_left (h ▸ Nat.le_add_right _ _)
theorem au25 {x n l:Nat} (h:x≤0+0+9*n) (h2:n≤l):x≤9*l:=Nat.le_trans h ((Nat.zero_add _).symm ▸ Nat.mul_le_mul_left 9 h2)
theorem au26 {a b:Int} (h:a<b):b-a-1+1=((b-a).toNat:Int):=(Int.sub_add_cancel _ 1).trans (Int.toNat_of_nonneg (Int.sub_nonneg.mpr (Int.le_of_lt h))).symm
theorem au27 {a b:Int} (h:¬ a<b):0=((b-a).toNat:Int):=by rw [Int.toNat_of_nonpos (Int.sub_nonpos_of_le (Int.not_lt.mp h))]; rfl
theorem au28 {x n:Nat} {P:Prop} (h:P/\x≤n+1):P/\x≤n+1+1:=⟨h.1,Nat.le_succ_of_le h.2⟩
theorem au29 {x:Int}:x.fmod 128≤1114111:=Int.le_trans (Int.le_of_lt (Int.fmod_lt_of_pos _ (by decide))) (by decide)
theorem au30 {ls l k c:Nat}:ls+(k+(l+1) / 2+c)≤ls+l+k+c+1:=by
 refine Nat.le_trans (Nat.add_le_add_left (Nat.add_le_add_right (Nat.add_le_add_left (Nat.div_le_self _ _) _) _) _) ?_
 rw [Nat.add_assoc ls,Nat.add_comm l k,← Nat.add_assoc k l 1,Nat.add_right_comm _ 1 c,← Nat.add_assoc ls]
 exact Nat.le_of_eq (by rw [Nat.add_assoc ls (k+l) c,Nat.add_assoc ls])
theorem au31 {a b c n:Nat} (h:a≤b+n) (h2:b≤c+1):a≤c+(n+1):=Nat.le_trans h (Nat.add_right_comm c n 1 ▸ Nat.add_right_comm c 1 n ▸ Nat.add_le_add_right h2 n)
theorem au32 {x:Int} {n:Nat} (h0:0≤x) (h:x.toNat<n):x<(n:Int):=(Int.toNat_lt h0).mp h
theorem au33 {t W g:Nat} (h:t=W+1) (h2:g≤W):g≤min g t:=Nat.le_min.mpr ⟨Nat.le_refl g,h ▸ Nat.le_succ_of_le h2⟩
theorem au34 {a b c:Nat}:a+(b % 3+c)≤a+3+c:=(Nat.add_assoc a 3 c).symm ▸ Nat.add_le_add_left (Nat.add_le_add_right (Nat.le_trans as23 (by decide)) _) _
theorem au35 {p a r:Nat} (h:p≤0+r):p≤a+(r+1+1+1):=Nat.le_trans h (by rw [Nat.zero_add]; exact Nat.le_trans (Nat.le_add_right r 3) (Nat.le_add_left _ a))
theorem au37 {a b c:Nat} (h:a+b+c≤15000000):a+(c+b / 2)≤16777216:=by
 refine Nat.le_trans (Nat.add_le_add_left (Nat.add_le_add_left (Nat.div_le_self _ _) _) _) ?_
 rw [Nat.add_comm c b,← Nat.add_assoc]
 exact Nat.le_trans h (by decide)
theorem au36 {a b c:Nat} (h:a+b+c≤15000000):(0+1)*(c+b / 2)≤16777216:=(Nat.one_mul _).symm ▸ Nat.le_trans (Nat.le_add_left _ a) (au37 h)
theorem au38 {r y x:Nat} (h:r≤y) (e:x+1+y=r+1):x=0:=by
 rw [Nat.add_right_comm] at e
 exact Nat.eq_zero_of_le_zero (Nat.le_of_add_le_add_right (b:=y) ((Nat.zero_add y).symm ▸ Nat.succ.inj e ▸ h))
theorem au39 {a b c n:Nat} (h:a+b+(n+1)≤c):a+(b+1)+n≤c:=Nat.add_right_comm (a+b) 1 n ▸ h
theorem au40 {h n l:Nat} (h1:h≤n) (h2:n≤l):min h n≤l:=Nat.le_trans (Nat.min_le_right _ _) h2
theorem au41 {a b:Nat} (h:b+4=a) (h2:a≤1000000):b+(0+1+1+1+1)≤16777216:=Nat.le_trans (Nat.le_of_eq h) (Nat.le_trans h2 (by decide))
theorem au42 {a n:Nat} (h:a<n):(a:Int)≤(n:Int):=Int.ofNat_le.mpr (Nat.le_of_lt h)
theorem au43 {a n:Nat} (h:a<n):(a:Int)+1≤(n:Int):=Int.ofNat_le.mpr h
theorem au44 {a n:Nat} (h:a<n+1):(a:Int)≤(n:Int):=Int.ofNat_le.mpr (Nat.le_of_lt_succ h)
theorem au45 {g n t:Nat} (h:g≤n) (e:t=n+1):(g:Int)≤(t:Int):=e ▸ Int.ofNat_le.mpr (Nat.le_succ_of_le h)
theorem au46 {a n:Nat} {z:Int} (h:a≤n) (d:(n:Int)+1≤z):(a:Int)+1≤z:=Int.le_trans (Int.add_le_add_right (Int.ofNat_le.mpr h) 1) d
theorem au47 {t j n m:Nat} (e:t=j+1) (h:j≤n) (d:n+1≤m):t≤m:=e ▸ Nat.le_trans (Nat.succ_le_succ h) d
theorem cps {G:Prop} (h:∀ X:Prop,(G->X)->X):G:=h G id
theorem x02 {P0 P1:Prop} {X:Prop} (h:P0/\P1) (k:P0->P1->X):X:=k h.1 h.2
theorem x03 {P0 P1 P2:Prop} {X:Prop} (h:P0/\P1/\P2) (k:P0->P1->P2->X):X:=k h.1 h.2.1 h.2.2
theorem x04 {P0 P1 P2 P3:Prop} {X:Prop} (h:P0/\P1/\P2/\P3) (k:P0->P1->P2->P3->X):X:=k h.1 h.2.1 h.2.2.1 h.2.2.2
theorem x05 {P0 P1 P2 P3 P4:Prop} {X:Prop} (h:P0/\P1/\P2/\P3/\P4) (k:P0->P1->P2->P3->P4->X):X:=k h.1 h.2.1 h.2.2.1 h.2.2.2.1 h.2.2.2.2
theorem x06 {P0 P1 P2 P3 P4 P5:Prop} {X:Prop} (h:P0/\P1/\P2/\P3/\P4/\P5) (k:P0->P1->P2->P3->P4->P5->X):X:=k h.1 h.2.1 h.2.2.1 h.2.2.2.1 h.2.2.2.2.1 h.2.2.2.2.2
theorem x07 {P0 P1 P2 P3 P4 P5 P6:Prop} {X:Prop} (h:P0/\P1/\P2/\P3/\P4/\P5/\P6) (k:P0->P1->P2->P3->P4->P5->P6->X):X:=k h.1 h.2.1 h.2.2.1 h.2.2.2.1 h.2.2.2.2.1 h.2.2.2.2.2.1 h.2.2.2.2.2.2
theorem x09 {P0 P1 P2 P3 P4 P5 P6 P7 P8:Prop} {X:Prop} (h:P0/\P1/\P2/\P3/\P4/\P5/\P6/\P7/\P8) (k:P0->P1->P2->P3->P4->P5->P6->P7->P8->X):X:=k h.1 h.2.1 h.2.2.1 h.2.2.2.1 h.2.2.2.2.1 h.2.2.2.2.2.1 h.2.2.2.2.2.2.1 h.2.2.2.2.2.2.2.1 h.2.2.2.2.2.2.2.2
theorem x11 {α:Sort _} {P0:α->Prop} {X:Prop} (h:∃ x0,P0 x0) (k:∀ x0,P0 x0->X):X:=h.elim fun x0 h=>k x0 h
theorem x12 {α:Sort _} {P0 P1:α->Prop} {X:Prop} (h:∃ x0,P0 x0/\P1 x0) (k:∀ x0,P0 x0->P1 x0->X):X:=h.elim fun x0 h=>k x0 h.1 h.2
theorem x13 {α:Sort _} {P0 P1 P2:α->Prop} {X:Prop} (h:∃ x0,P0 x0/\P1 x0/\P2 x0) (k:∀ x0,P0 x0->P1 x0->P2 x0->X):X:=h.elim fun x0 h=>k x0 h.1 h.2.1 h.2.2
theorem x14 {α:Sort _} {P0 P1 P2 P3:α->Prop} {X:Prop} (h:∃ x0,P0 x0/\P1 x0/\P2 x0/\P3 x0) (k:∀ x0,P0 x0->P1 x0->P2 x0->P3 x0->X):X:=h.elim fun x0 h=>k x0 h.1 h.2.1 h.2.2.1 h.2.2.2
theorem x15 {α:Sort _} {P0 P1 P2 P3 P4:α->Prop} {X:Prop} (h:∃ x0,P0 x0/\P1 x0/\P2 x0/\P3 x0/\P4 x0) (k:∀ x0,P0 x0->P1 x0->P2 x0->P3 x0->P4 x0->X):X:=h.elim fun x0 h=>k x0 h.1 h.2.1 h.2.2.1 h.2.2.2.1 h.2.2.2.2
theorem x16 {α:Sort _} {P0 P1 P2 P3 P4 P5:α->Prop} {X:Prop} (h:∃ x0,P0 x0/\P1 x0/\P2 x0/\P3 x0/\P4 x0/\P5 x0) (k:∀ x0,P0 x0->P1 x0->P2 x0->P3 x0->P4 x0->P5 x0->X):X:=h.elim fun x0 h=>k x0 h.1 h.2.1 h.2.2.1 h.2.2.2.1 h.2.2.2.2.1 h.2.2.2.2.2
theorem x21 {α β:Sort _} {P0:α->β->Prop} {X:Prop} (h:∃ x0 x1,P0 x0 x1) (k:∀ x0 x1,P0 x0 x1->X):X:=h.elim fun x0 h=>h.elim fun x1 h=>k x0 x1 h
theorem x22 {α β:Sort _} {P0 P1:α->β->Prop} {X:Prop} (h:∃ x0 x1,P0 x0 x1/\P1 x0 x1) (k:∀ x0 x1,P0 x0 x1->P1 x0 x1->X):X:=h.elim fun x0 h=>h.elim fun x1 h=>k x0 x1 h.1 h.2
theorem x23 {α β:Sort _} {P0 P1 P2:α->β->Prop} {X:Prop} (h:∃ x0 x1,P0 x0 x1/\P1 x0 x1/\P2 x0 x1) (k:∀ x0 x1,P0 x0 x1->P1 x0 x1->P2 x0 x1->X):X:=h.elim fun x0 h=>h.elim fun x1 h=>k x0 x1 h.1 h.2.1 h.2.2
theorem x24 {α β:Sort _} {P0 P1 P2 P3:α->β->Prop} {X:Prop} (h:∃ x0 x1,P0 x0 x1/\P1 x0 x1/\P2 x0 x1/\P3 x0 x1) (k:∀ x0 x1,P0 x0 x1->P1 x0 x1->P2 x0 x1->P3 x0 x1->X):X:=h.elim fun x0 h=>h.elim fun x1 h=>k x0 x1 h.1 h.2.1 h.2.2.1 h.2.2.2
theorem x25 {α β:Sort _} {P0 P1 P2 P3 P4:α->β->Prop} {X:Prop} (h:∃ x0 x1,P0 x0 x1/\P1 x0 x1/\P2 x0 x1/\P3 x0 x1/\P4 x0 x1) (k:∀ x0 x1,P0 x0 x1->P1 x0 x1->P2 x0 x1->P3 x0 x1->P4 x0 x1->X):X:=h.elim fun x0 h=>h.elim fun x1 h=>k x0 x1 h.1 h.2.1 h.2.2.1 h.2.2.2.1 h.2.2.2.2
theorem x26 {α β:Sort _} {P0 P1 P2 P3 P4 P5:α->β->Prop} {X:Prop} (h:∃ x0 x1,P0 x0 x1/\P1 x0 x1/\P2 x0 x1/\P3 x0 x1/\P4 x0 x1/\P5 x0 x1) (k:∀ x0 x1,P0 x0 x1->P1 x0 x1->P2 x0 x1->P3 x0 x1->P4 x0 x1->P5 x0 x1->X):X:=h.elim fun x0 h=>h.elim fun x1 h=>k x0 x1 h.1 h.2.1 h.2.2.1 h.2.2.2.1 h.2.2.2.2.1 h.2.2.2.2.2
theorem x27 {α β:Sort _} {P0 P1 P2 P3 P4 P5 P6:α->β->Prop} {X:Prop} (h:∃ x0 x1,P0 x0 x1/\P1 x0 x1/\P2 x0 x1/\P3 x0 x1/\P4 x0 x1/\P5 x0 x1/\P6 x0 x1) (k:∀ x0 x1,P0 x0 x1->P1 x0 x1->P2 x0 x1->P3 x0 x1->P4 x0 x1->P5 x0 x1->P6 x0 x1->X):X:=h.elim fun x0 h=>h.elim fun x1 h=>k x0 x1 h.1 h.2.1 h.2.2.1 h.2.2.2.1 h.2.2.2.2.1 h.2.2.2.2.2.1 h.2.2.2.2.2.2
theorem x31 {α β γ:Sort _} {P0:α->β->γ->Prop} {X:Prop} (h:∃ x0 x1 x2,P0 x0 x1 x2) (k:∀ x0 x1 x2,P0 x0 x1 x2->X):X:=h.elim fun x0 h=>h.elim fun x1 h=>h.elim fun x2 h=>k x0 x1 x2 h
theorem x32 {α β γ:Sort _} {P0 P1:α->β->γ->Prop} {X:Prop} (h:∃ x0 x1 x2,P0 x0 x1 x2/\P1 x0 x1 x2) (k:∀ x0 x1 x2,P0 x0 x1 x2->P1 x0 x1 x2->X):X:=h.elim fun x0 h=>h.elim fun x1 h=>h.elim fun x2 h=>k x0 x1 x2 h.1 h.2
theorem x33 {α β γ:Sort _} {P0 P1 P2:α->β->γ->Prop} {X:Prop} (h:∃ x0 x1 x2,P0 x0 x1 x2/\P1 x0 x1 x2/\P2 x0 x1 x2) (k:∀ x0 x1 x2,P0 x0 x1 x2->P1 x0 x1 x2->P2 x0 x1 x2->X):X:=h.elim fun x0 h=>h.elim fun x1 h=>h.elim fun x2 h=>k x0 x1 x2 h.1 h.2.1 h.2.2
theorem x34 {α β γ:Sort _} {P0 P1 P2 P3:α->β->γ->Prop} {X:Prop} (h:∃ x0 x1 x2,P0 x0 x1 x2/\P1 x0 x1 x2/\P2 x0 x1 x2/\P3 x0 x1 x2) (k:∀ x0 x1 x2,P0 x0 x1 x2->P1 x0 x1 x2->P2 x0 x1 x2->P3 x0 x1 x2->X):X:=h.elim fun x0 h=>h.elim fun x1 h=>h.elim fun x2 h=>k x0 x1 x2 h.1 h.2.1 h.2.2.1 h.2.2.2
theorem x35 {α β γ:Sort _} {P0 P1 P2 P3 P4:α->β->γ->Prop} {X:Prop} (h:∃ x0 x1 x2,P0 x0 x1 x2/\P1 x0 x1 x2/\P2 x0 x1 x2/\P3 x0 x1 x2/\P4 x0 x1 x2) (k:∀ x0 x1 x2,P0 x0 x1 x2->P1 x0 x1 x2->P2 x0 x1 x2->P3 x0 x1 x2->P4 x0 x1 x2->X):X:=h.elim fun x0 h=>h.elim fun x1 h=>h.elim fun x2 h=>k x0 x1 x2 h.1 h.2.1 h.2.2.1 h.2.2.2.1 h.2.2.2.2
theorem x36 {α β γ:Sort _} {P0 P1 P2 P3 P4 P5:α->β->γ->Prop} {X:Prop} (h:∃ x0 x1 x2,P0 x0 x1 x2/\P1 x0 x1 x2/\P2 x0 x1 x2/\P3 x0 x1 x2/\P4 x0 x1 x2/\P5 x0 x1 x2) (k:∀ x0 x1 x2,P0 x0 x1 x2->P1 x0 x1 x2->P2 x0 x1 x2->P3 x0 x1 x2->P4 x0 x1 x2->P5 x0 x1 x2->X):X:=h.elim fun x0 h=>h.elim fun x1 h=>h.elim fun x2 h=>k x0 x1 x2 h.1 h.2.1 h.2.2.1 h.2.2.2.1 h.2.2.2.2.1 h.2.2.2.2.2
theorem x41 {α β γ δ:Sort _} {P0:α->β->γ->δ->Prop} {X:Prop} (h:∃ x0 x1 x2 x3,P0 x0 x1 x2 x3) (k:∀ x0 x1 x2 x3,P0 x0 x1 x2 x3->X):X:=h.elim fun x0 h=>h.elim fun x1 h=>h.elim fun x2 h=>h.elim fun x3 h=>k x0 x1 x2 x3 h
theorem x42 {α β γ δ:Sort _} {P0 P1:α->β->γ->δ->Prop} {X:Prop} (h:∃ x0 x1 x2 x3,P0 x0 x1 x2 x3/\P1 x0 x1 x2 x3) (k:∀ x0 x1 x2 x3,P0 x0 x1 x2 x3->P1 x0 x1 x2 x3->X):X:=h.elim fun x0 h=>h.elim fun x1 h=>h.elim fun x2 h=>h.elim fun x3 h=>k x0 x1 x2 x3 h.1 h.2
theorem x43 {α β γ δ:Sort _} {P0 P1 P2:α->β->γ->δ->Prop} {X:Prop} (h:∃ x0 x1 x2 x3,P0 x0 x1 x2 x3/\P1 x0 x1 x2 x3/\P2 x0 x1 x2 x3) (k:∀ x0 x1 x2 x3,P0 x0 x1 x2 x3->P1 x0 x1 x2 x3->P2 x0 x1 x2 x3->X):X:=h.elim fun x0 h=>h.elim fun x1 h=>h.elim fun x2 h=>h.elim fun x3 h=>k x0 x1 x2 x3 h.1 h.2.1 h.2.2
theorem x44 {α β γ δ:Sort _} {P0 P1 P2 P3:α->β->γ->δ->Prop} {X:Prop} (h:∃ x0 x1 x2 x3,P0 x0 x1 x2 x3/\P1 x0 x1 x2 x3/\P2 x0 x1 x2 x3/\P3 x0 x1 x2 x3) (k:∀ x0 x1 x2 x3,P0 x0 x1 x2 x3->P1 x0 x1 x2 x3->P2 x0 x1 x2 x3->P3 x0 x1 x2 x3->X):X:=h.elim fun x0 h=>h.elim fun x1 h=>h.elim fun x2 h=>h.elim fun x3 h=>k x0 x1 x2 x3 h.1 h.2.1 h.2.2.1 h.2.2.2
theorem x45 {α β γ δ:Sort _} {P0 P1 P2 P3 P4:α->β->γ->δ->Prop} {X:Prop} (h:∃ x0 x1 x2 x3,P0 x0 x1 x2 x3/\P1 x0 x1 x2 x3/\P2 x0 x1 x2 x3/\P3 x0 x1 x2 x3/\P4 x0 x1 x2 x3) (k:∀ x0 x1 x2 x3,P0 x0 x1 x2 x3->P1 x0 x1 x2 x3->P2 x0 x1 x2 x3->P3 x0 x1 x2 x3->P4 x0 x1 x2 x3->X):X:=h.elim fun x0 h=>h.elim fun x1 h=>h.elim fun x2 h=>h.elim fun x3 h=>k x0 x1 x2 x3 h.1 h.2.1 h.2.2.1 h.2.2.2.1 h.2.2.2.2
theorem x48 {α β γ δ:Sort _} {P0 P1 P2 P3 P4 P5 P6 P7:α->β->γ->δ->Prop} {X:Prop} (h:∃ x0 x1 x2 x3,P0 x0 x1 x2 x3/\P1 x0 x1 x2 x3/\P2 x0 x1 x2 x3/\P3 x0 x1 x2 x3/\P4 x0 x1 x2 x3/\P5 x0 x1 x2 x3/\P6 x0 x1 x2 x3/\P7 x0 x1 x2 x3) (k:∀ x0 x1 x2 x3,P0 x0 x1 x2 x3->P1 x0 x1 x2 x3->P2 x0 x1 x2 x3->P3 x0 x1 x2 x3->P4 x0 x1 x2 x3->P5 x0 x1 x2 x3->P6 x0 x1 x2 x3->P7 x0 x1 x2 x3->X):X:=h.elim fun x0 h=>h.elim fun x1 h=>h.elim fun x2 h=>h.elim fun x3 h=>k x0 x1 x2 x3 h.1 h.2.1 h.2.2.1 h.2.2.2.1 h.2.2.2.2.1 h.2.2.2.2.2.1 h.2.2.2.2.2.2.1 h.2.2.2.2.2.2.2
theorem qPN {α β γ δ:Sort _} {P0 P1 P2 P3 P4 P5 P6 P7 P8 P9 P10 P11:α->β->γ->δ->Prop} {X:Prop} (h:∃ x0 x1 x2 x3,P0 x0 x1 x2 x3/\P1 x0 x1 x2 x3/\P2 x0 x1 x2 x3/\P3 x0 x1 x2 x3/\P4 x0 x1 x2 x3/\P5 x0 x1 x2 x3/\P6 x0 x1 x2 x3/\P7 x0 x1 x2 x3/\P8 x0 x1 x2 x3/\P9 x0 x1 x2 x3/\P10 x0 x1 x2 x3/\P11 x0 x1 x2 x3) (k:∀ x0 x1 x2 x3,P0 x0 x1 x2 x3->P1 x0 x1 x2 x3->P2 x0 x1 x2 x3->P3 x0 x1 x2 x3->P4 x0 x1 x2 x3->P5 x0 x1 x2 x3->P6 x0 x1 x2 x3->P7 x0 x1 x2 x3->P8 x0 x1 x2 x3->P9 x0 x1 x2 x3->P10 x0 x1 x2 x3->P11 x0 x1 x2 x3->X):X:=h.elim fun x0 h=>h.elim fun x1 h=>h.elim fun x2 h=>h.elim fun x3 h=>k x0 x1 x2 x3 h.1 h.2.1 h.2.2.1 h.2.2.2.1 h.2.2.2.2.1 h.2.2.2.2.2.1 h.2.2.2.2.2.2.1 h.2.2.2.2.2.2.2.1 h.2.2.2.2.2.2.2.2.1 h.2.2.2.2.2.2.2.2.2.1 h.2.2.2.2.2.2.2.2.2.2.1 h.2.2.2.2.2.2.2.2.2.2.2
theorem x51 {α β γ δ ε:Sort _} {P0:α->β->γ->δ->ε->Prop} {X:Prop} (h:∃ x0 x1 x2 x3 x4,P0 x0 x1 x2 x3 x4) (k:∀ x0 x1 x2 x3 x4,P0 x0 x1 x2 x3 x4->X):X:=h.elim fun x0 h=>h.elim fun x1 h=>h.elim fun x2 h=>h.elim fun x3 h=>h.elim fun x4 h=>k x0 x1 x2 x3 x4 h
theorem x52 {α β γ δ ε:Sort _} {P0 P1:α->β->γ->δ->ε->Prop} {X:Prop} (h:∃ x0 x1 x2 x3 x4,P0 x0 x1 x2 x3 x4/\P1 x0 x1 x2 x3 x4) (k:∀ x0 x1 x2 x3 x4,P0 x0 x1 x2 x3 x4->P1 x0 x1 x2 x3 x4->X):X:=h.elim fun x0 h=>h.elim fun x1 h=>h.elim fun x2 h=>h.elim fun x3 h=>h.elim fun x4 h=>k x0 x1 x2 x3 x4 h.1 h.2
theorem x53 {α β γ δ ε:Sort _} {P0 P1 P2:α->β->γ->δ->ε->Prop} {X:Prop} (h:∃ x0 x1 x2 x3 x4,P0 x0 x1 x2 x3 x4/\P1 x0 x1 x2 x3 x4/\P2 x0 x1 x2 x3 x4) (k:∀ x0 x1 x2 x3 x4,P0 x0 x1 x2 x3 x4->P1 x0 x1 x2 x3 x4->P2 x0 x1 x2 x3 x4->X):X:=h.elim fun x0 h=>h.elim fun x1 h=>h.elim fun x2 h=>h.elim fun x3 h=>h.elim fun x4 h=>k x0 x1 x2 x3 x4 h.1 h.2.1 h.2.2
theorem x67 {α β γ δ ε ζ:Sort _} {P0 P1 P2 P3 P4 P5 P6:α->β->γ->δ->ε->ζ->Prop} {X:Prop} (h:∃ x0 x1 x2 x3 x4 x5,P0 x0 x1 x2 x3 x4 x5/\P1 x0 x1 x2 x3 x4 x5/\P2 x0 x1 x2 x3 x4 x5/\P3 x0 x1 x2 x3 x4 x5/\P4 x0 x1 x2 x3 x4 x5/\P5 x0 x1 x2 x3 x4 x5/\P6 x0 x1 x2 x3 x4 x5) (k:∀ x0 x1 x2 x3 x4 x5,P0 x0 x1 x2 x3 x4 x5->P1 x0 x1 x2 x3 x4 x5->P2 x0 x1 x2 x3 x4 x5->P3 x0 x1 x2 x3 x4 x5->P4 x0 x1 x2 x3 x4 x5->P5 x0 x1 x2 x3 x4 x5->P6 x0 x1 x2 x3 x4 x5->X):X:=h.elim fun x0 h=>h.elim fun x1 h=>h.elim fun x2 h=>h.elim fun x3 h=>h.elim fun x4 h=>h.elim fun x5 h=>k x0 x1 x2 x3 x4 x5 h.1 h.2.1 h.2.2.1 h.2.2.2.1 h.2.2.2.2.1 h.2.2.2.2.2.1 h.2.2.2.2.2.2
theorem x68 {α β γ δ ε ζ:Sort _} {P0 P1 P2 P3 P4 P5 P6 P7:α->β->γ->δ->ε->ζ->Prop} {X:Prop} (h:∃ x0 x1 x2 x3 x4 x5,P0 x0 x1 x2 x3 x4 x5/\P1 x0 x1 x2 x3 x4 x5/\P2 x0 x1 x2 x3 x4 x5/\P3 x0 x1 x2 x3 x4 x5/\P4 x0 x1 x2 x3 x4 x5/\P5 x0 x1 x2 x3 x4 x5/\P6 x0 x1 x2 x3 x4 x5/\P7 x0 x1 x2 x3 x4 x5) (k:∀ x0 x1 x2 x3 x4 x5,P0 x0 x1 x2 x3 x4 x5->P1 x0 x1 x2 x3 x4 x5->P2 x0 x1 x2 x3 x4 x5->P3 x0 x1 x2 x3 x4 x5->P4 x0 x1 x2 x3 x4 x5->P5 x0 x1 x2 x3 x4 x5->P6 x0 x1 x2 x3 x4 x5->P7 x0 x1 x2 x3 x4 x5->X):X:=h.elim fun x0 h=>h.elim fun x1 h=>h.elim fun x2 h=>h.elim fun x3 h=>h.elim fun x4 h=>h.elim fun x5 h=>k x0 x1 x2 x3 x4 x5 h.1 h.2.1 h.2.2.1 h.2.2.2.1 h.2.2.2.2.1 h.2.2.2.2.2.1 h.2.2.2.2.2.2.1 h.2.2.2.2.2.2.2
theorem x69 {α β γ δ ε ζ:Sort _} {P0 P1 P2 P3 P4 P5 P6 P7 P8:α->β->γ->δ->ε->ζ->Prop} {X:Prop} (h:∃ x0 x1 x2 x3 x4 x5,P0 x0 x1 x2 x3 x4 x5/\P1 x0 x1 x2 x3 x4 x5/\P2 x0 x1 x2 x3 x4 x5/\P3 x0 x1 x2 x3 x4 x5/\P4 x0 x1 x2 x3 x4 x5/\P5 x0 x1 x2 x3 x4 x5/\P6 x0 x1 x2 x3 x4 x5/\P7 x0 x1 x2 x3 x4 x5/\P8 x0 x1 x2 x3 x4 x5) (k:∀ x0 x1 x2 x3 x4 x5,P0 x0 x1 x2 x3 x4 x5->P1 x0 x1 x2 x3 x4 x5->P2 x0 x1 x2 x3 x4 x5->P3 x0 x1 x2 x3 x4 x5->P4 x0 x1 x2 x3 x4 x5->P5 x0 x1 x2 x3 x4 x5->P6 x0 x1 x2 x3 x4 x5->P7 x0 x1 x2 x3 x4 x5->P8 x0 x1 x2 x3 x4 x5->X):X:=h.elim fun x0 h=>h.elim fun x1 h=>h.elim fun x2 h=>h.elim fun x3 h=>h.elim fun x4 h=>h.elim fun x5 h=>k x0 x1 x2 x3 x4 x5 h.1 h.2.1 h.2.2.1 h.2.2.2.1 h.2.2.2.2.1 h.2.2.2.2.2.1 h.2.2.2.2.2.2.1 h.2.2.2.2.2.2.2.1 h.2.2.2.2.2.2.2.2
theorem qPM {α β γ δ ε ζ η:Sort _} {P0 P1 P2 P3 P4 P5 P6 P7 P8 P9:α->β->γ->δ->ε->ζ->η->Prop} {X:Prop} (h:∃ x0 x1 x2 x3 x4 x5 x6,P0 x0 x1 x2 x3 x4 x5 x6/\P1 x0 x1 x2 x3 x4 x5 x6/\P2 x0 x1 x2 x3 x4 x5 x6/\P3 x0 x1 x2 x3 x4 x5 x6/\P4 x0 x1 x2 x3 x4 x5 x6/\P5 x0 x1 x2 x3 x4 x5 x6/\P6 x0 x1 x2 x3 x4 x5 x6/\P7 x0 x1 x2 x3 x4 x5 x6/\P8 x0 x1 x2 x3 x4 x5 x6/\P9 x0 x1 x2 x3 x4 x5 x6) (k:∀ x0 x1 x2 x3 x4 x5 x6,P0 x0 x1 x2 x3 x4 x5 x6->P1 x0 x1 x2 x3 x4 x5 x6->P2 x0 x1 x2 x3 x4 x5 x6->P3 x0 x1 x2 x3 x4 x5 x6->P4 x0 x1 x2 x3 x4 x5 x6->P5 x0 x1 x2 x3 x4 x5 x6->P6 x0 x1 x2 x3 x4 x5 x6->P7 x0 x1 x2 x3 x4 x5 x6->P8 x0 x1 x2 x3 x4 x5 x6->P9 x0 x1 x2 x3 x4 x5 x6->X):X:=h.elim fun x0 h=>h.elim fun x1 h=>h.elim fun x2 h=>h.elim fun x3 h=>h.elim fun x4 h=>h.elim fun x5 h=>h.elim fun x6 h=>k x0 x1 x2 x3 x4 x5 x6 h.1 h.2.1 h.2.2.1 h.2.2.2.1 h.2.2.2.2.1 h.2.2.2.2.2.1 h.2.2.2.2.2.2.1 h.2.2.2.2.2.2.2.1 h.2.2.2.2.2.2.2.2.1 h.2.2.2.2.2.2.2.2.2
section
variable {α β:Type _}
noncomputable def one?:List α->Option α
 | [x]=>some x
 | _=>none
noncomputable def two?:List α->Option (α×α)
 | [x,y]=>some (x,y)
 | _=>none
noncomputable def gd (c:Bool) (a:Option β):Option β:=if c=true then a else none
noncomputable def orOn (o:Option α) (n:Option β) (s:α->Option β):Option β:=match o with
 | none=>n
 | some a=>s a
end
section
variable {α β:Type _} {P:Prop} {m:β} {R:β->Prop}
theorem nos (h:none=some m):P:=nomatch h
theorem okE {a:β} (h:some a=some m) (p:R a):R m:=Option.some.inj h ▸ p
theorem qAC {o:Option α} {f:α->Option β} (h:o.bind f=some m) (k:∀ a,o=some a->f a=some m->P):P:=by
 cases o with
 | none=>exact nos h
 | some a=>exact k a rfl h
theorem mapE {o:Option α} {f:α->β} (h:o.map f=some m) (k:∀ a,o=some a->R (f a)):R m:=by
 cases o with
 | none=>exact nos h
 | some a=>exact okE h (k a rfl)
theorem gdE {c:Bool} {a:Option β} (h:gd c a=some m) (k:c=true->a=some m->P):P:=by
 cases c with
 | true=>exact k rfl h
 | false=>exact nos h
theorem iteE {c:Bool} {a b:Option β} (h:(if c=true then a else b)=some m) (k1:c=true->a=some m->P) (k2:b=some m->P):P:=by
 cases c with
 | true=>exact k1 rfl h
 | false=>exact k2 h
theorem qO7 {c:Bool} {a b:Option β} (h:(if c=true then a else b)=some m) (k1:c=true->a=some m->P) (k2:c=false->b=some m->P):P:=by
 cases c with
 | true=>exact k1 rfl h
 | false=>exact k2 rfl h
theorem orE {o:Option α} {n:Option β} {s:α->Option β} (h:orOn o n s=some m) (k1:n=some m->P) (k2:∀ a,o=some a->s a=some m->P):P:=by
 cases o with
 | none=>exact k1 h
 | some a=>exact k2 a rfl h
theorem andE {a b:Bool} (h:(a && b)=true) (k:a=true->b=true->P):P:=k ((Bool.and_eq_true a b ▸ h).1) ((Bool.and_eq_true a b ▸ h).2)
theorem one?_eq:∀ {l:List α} {x:α},one? l=some x->l=[x]
 | [],_,h=>nos h
 | [_],_,h=>okE (R:=fun x=>[_]=[x]) h rfl
 | _::_::_,_,h=>nos h
theorem two?_eq:∀ {l:List α} {x:α×α},two? l=some x->l=[x.1,x.2]
 | [],_,h=>nos h
 | [_],_,h=>nos h
 | [_,_],_,h=>okE (R:=fun x:α×α=>[_,_]=[x.1,x.2]) h rfl
 | _::_::_::_,_,h=>nos h
theorem qCq {l:List α} (h:l.isEmpty=true):l=[]:=List.isEmpty_iff.mp h
end
noncomputable abbrev P91:Program:=PySem.Challenge.pw_sc0091_01
section
mutual
noncomputable def ev (den:Code->Sem Fin) (prog:Program) (w:World):Nat->{α:Type}->Ctx->Sem α->Pos->SharedT->Option (Except Value α×Pos×SharedT)
 | 0,_,_,_,_,_=>none
 | n+1,_,Γ,t,p,s=>match t with
  | .pure a=>some (.ok a,p,s)
  | .raise e=>some (.error e,p,s)
  | .rule _ k=>ev den prog w n Γ (k ()) p s
  | .at p' k=>ev den prog w n Γ (k ()) p' s
  | .load a _ k=>gd (Nat.blt a s.n) ((s.tree.get a).bind fun o=>(alive o).bind fun o'=>ev den prog w n Γ (k o') p s)
  | .update a _ f k=>gd (Nat.blt a s.n) ((s.tree.get a).bind fun o=>(alive o).bind fun o'=>ev den prog w n Γ (k ()) p { s with tree:=s.tree.set a f })
  | .alloc o k=>gd ((s.tree.ins s.n o).get s.n).isSome (ev den prog w n Γ (k s.n) p { s with tree:=s.tree.ins s.n o,n:=s.n+1 })
  | .loadIfAlive a k=>if Nat.blt a s.n=true then (s.tree.get a).bind fun o=>ev den prog w n Γ (k (alive o)) p s else ev den prog w n Γ (k none) p s
  | .point _ k=>ev den prog w n Γ (k ()) p s
  | .fresh k=>ev den prog w n Γ (k s.toks) p { s with toks:=s.toks+1 }
  | .ask k=>ev den prog w n Γ (k ⟨prog,w.params⟩) p s
  | .handled own k=>ev den prog w n Γ (k (if own then Γ.own else Γ.handled)) p s
  | .stack k=>ev den prog w n Γ (k ((Γ.code,p)::Γ.below)) p s
  | .thread k=>ev den prog w n Γ (k 0) p s
  | .call c h _ _ k=>(evC den prog w n (Γ.enter c h p) p s).bind fun q=>ev den prog w n Γ (k q.1) p q.2
  | _=>none
noncomputable def evC (den:Code->Sem Fin) (prog:Program) (w:World):Nat->Ctx->Pos->SharedT->Option (Result×SharedT)
 | 0,_,_,_=>none
 | n+1,Γ,p,s=>(ev den prog w n Γ (den Γ.code) p s).bind fun q=>match q.1 with
  | .ok f=>(match f with
   | .done f=>some (.ok f,q.2.2)
   | .again c=>gd c.quiet (evC den prog w n (Γ.goto c) q.2.1 q.2.2))
  | .error e=>some (.error e,q.2.2)
end
noncomputable def EvOk (den:Code->Sem Fin) (prog:Program) (w:World) (n:Nat):Prop:=∀ {α:Type} {Γ:Ctx} {t:Sem α} {p:Pos} {s:SharedT} {q:Except Value α×Pos×SharedT},ev den prog w n Γ t p s=some q ->
 Sem.wp ⟨den,prog,w⟩ Γ t (fun a p' x=>q.1=.ok a/\p'=q.2.1/\x=q.2.2.abs) (fun e p' x=>q.1=.error e/\p'=q.2.1/\x=q.2.2.abs) p s.abs
noncomputable def qKy (den:Code->Sem Fin) (prog:Program) (w:World) (n:Nat):Prop:=∀ {Γ:Ctx} {p:Pos} {s:SharedT} {q:Result×SharedT},evC den prog w n Γ p s=some q->wpCode ⟨den,prog,w⟩ Γ (fun r x=>r=q.1/\x=q.2.abs) p s.abs
theorem abs_get' {s:SharedT} {a:Addr} {o o':Obj} (h:Nat.blt a s.n=true) (g:s.tree.get a=some o) (al:alive o=some o'):s.abs.heap.get? a=some o' :=
 (abs_get (Nat.le_of_ble_eq_true h) g).trans al
section
variable {den:Code->Sem Fin} {prog:Program} {w:World} {n:Nat}
theorem qMv (ih1:EvOk den prog w n) (ih2:qKy den prog w n):EvOk den prog w (n+1):=by
 intro α Γ t p s q h
 cases t with
 | pure a=>cases h; exact ⟨rfl,rfl,rfl⟩
 | raise e=>cases h; exact ⟨rfl,rfl,rfl⟩
 | rule tag k=>exact ih1 (t:=k ()) h
 | «at» q k=>exact ih1 (t:=k ()) (p:=q) h
 | point l k=>exact ih1 (t:=k ()) h
 | fresh k=>exact ih1 (t:=k s.toks) h
 | ask k=>exact ih1 (t:=k ⟨prog,w.params⟩) h
 | handled own k=>exact ih1 (t:=k (if own then Γ.own else Γ.handled)) h
 | stack k=>exact ih1 (t:=k ((Γ.code,p)::Γ.below)) h
 | thread k=>exact ih1 (t:=k 0) h
 | load a q k=>exact gdE h fun hb h=>qAC h fun o hg h=>qAC h fun o' ha h=>⟨o',abs_get' hb hg ha,ih1 h⟩
 | loadIfAlive a k =>
  refine qO7 h (fun hb h=>qAC h fun o hg h=>?_) fun hb h=>?_
  · have e:s.abs.heap.get? a=alive o:=abs_get (Nat.le_of_ble_eq_true hb) hg
    show Sem.wp _ _ (k (s.abs.heap.get? a)) _ _ _ _
    rw [e]
    exact ih1 h
  · show Sem.wp _ _ (k (s.abs.heap.get? a)) _ _ _ _
    have e:s.abs.heap.get? a=none:=abs_get_none fun q=>by rw [show Nat.blt a s.n=true from Nat.ble_eq_true_of_le q] at hb; cases hb
    rw [e]
    exact ih1 h
 | update a q f k =>
  refine gdE h fun hb h=>qAC h fun o hg h=>qAC h fun o' ha h=>⟨by rw [abs_get' hb hg ha]; rfl,?_⟩
  have e:({ s with tree:=s.tree.set a f }:SharedT).abs={ s.abs with heap:=s.abs.heap.update a f }:=by
   simp only [SharedT.abs,absHeap_set hg]
  exact e ▸ ih1 h
 | alloc o k =>
  refine gdE h fun hb h=>?_
  have e:({ s with tree:=s.tree.ins s.n o,n:=s.n+1 }:SharedT).abs={ s.abs with heap:=s.abs.heap.push o }:=by
   simp only [SharedT.abs,absHeap_ins hb]
  have e2:s.abs.heap.objs.size=s.n:=absHeap_size _ _ _
  show Sem.wp _ _ (k s.abs.heap.objs.size) _ _ _ _
  rw [e2]
  exact e ▸ ih1 h
 | call c hd g l k=>exact qAC h fun r hc h=>wpCode_mono (by rintro r' s' ⟨rfl,rfl⟩; exact ih1 h) (ih2 hc)
 | _=>exact nos h
theorem qLP (ih1:EvOk den prog w n) (ih2:qKy den prog w n):qKy den prog w (n+1):=by
 intro Γ p s q h
 rw [wpCode_iff_wp]
 refine qAC h fun r hr q1_=>?_
 clear h
 obtain ⟨r,p',s'⟩:=r
 cases r with
 | error e =>
  cases q1_
  refine Sem.wp_mono _ _ _ ?_ ?_ _ _ (ih1 hr)
  · rintro a q' x ⟨e,_,rfl⟩; cases e
  · rintro a q' x ⟨e,_,rfl⟩; cases e; exact ⟨rfl,rfl⟩
 | ok f =>
  cases f with
  | done f =>
   cases q1_
   refine Sem.wp_mono _ _ _ ?_ ?_ _ _ (ih1 hr)
   · rintro a q' x ⟨e,_,rfl⟩; cases e; exact ⟨rfl,rfl⟩
   · rintro a q' x ⟨e,_,rfl⟩; cases e
  | again c =>
   refine gdE q1_ fun hq q1_=>Sem.wp_mono _ _ _ ?_ ?_ _ _ (ih1 hr)
   · rintro a q' x ⟨e,rfl,rfl⟩; cases e; exact ⟨hq,ih2 q1_⟩
   · rintro a q' x ⟨e,_,rfl⟩; cases e
theorem qNI:∀ n,EvOk den prog w n/\qKy den prog w n:=by
 intro n
 induction n with
 | zero=>exact ⟨fun h=>nos h,fun h=>nos h⟩
 | succ n ih=>exact ⟨qMv ih.1 ih.2,qLP ih.1 ih.2⟩
end
end
noncomputable def den':Code->Sem Fin:=PySem.W.Fast.tw11892475500146522536 PySem.W.Fast.tw14364793385576792824
noncomputable def qNt:List Obj->Nat->BT->BT
 | [],_,t=>t
 | o::r,n,t=>qNt r (n+1) (t.ins n o)
noncomputable def S0 (w:World) (os:OsState):SharedT:=⟨qNt (boot_heap w.params).objs.toList 0 .nil,11,(boot_heap w.params).life,#[],boot_drawn,boot_toks,os⟩
noncomputable def Γ0:Ctx:=⟨.builtin "claim.caller" {},none,none,[],none⟩
noncomputable def pre1 (w:World) (os:OsState):=ev den' P91 w 1000 Γ0 (do let code ← PySem.W.Fast.tw17154629097778926822 P91.main; let frame ← PySem.W.Fast.tw12822647523644345616 code mainNs mainNs; pure (code,frame)) default (S0 w os)
noncomputable def envT (code:Value) (frame:Addr):Env:={ scope:=P91.main.scope,locals:=mainNs,globals:=mainNs,cells:=[],code,frame:=some frame }
noncomputable def qPZ (w:World) (os:OsState) (k:Nat):Option (Except Value Flow×Pos×SharedT) :=
 match pre1 w os with
 | some (.ok (code,frame),pos,s)=>ev den' P91 w 20000 (Γ0.enter (.body (behindTheImports P91) (envT code frame)) none pos) (PySem.W.Fast.tw12563942051412417395 ((behindTheImports P91).take k) (envT code frame)) pos s
 | _=>none
theorem bo:∀ w:World,(fencedOpening treeTable P91 w 600).map (fun s=>(s.heap,s.gens,s.drawn,s.toks))=some (boot_heap w.params,Array.mk [],boot_drawn,boot_toks) :=
 boot_open (by kernel_rfl) rfl (fun s=>rfl)
theorem s0abs (w:World) (os:OsState):(S0 w os).abs=⟨boot_heap w.params,Array.mk [],boot_drawn,boot_toks,os⟩:=by kernel_rfl
noncomputable def qAH (h:Heap) (l:List Obj):Heap:=⟨h.objs++l.toArray,h.life⟩
theorem qCP (h:Heap):qAH h []=h:=by cases h; simp [qAH]
theorem qDJ (h:Heap) (l:List Obj) (o:Obj):(qAH h l).push o=qAH h (l++[o]):=by
 show (⟨(h.objs++l.toArray).push o,h.life⟩:Heap)=⟨h.objs++(l++[o]).toArray,h.life⟩
 congr 1
 apply Array.toList_inj.mp
 simp
theorem qFb (h:Heap) (l:List Obj):(qAH h l).objs.size=h.objs.size+l.length:=by simp [qAH]
theorem qHt (h:Heap) (l:List Obj) (i:Nat):(qAH h l).objs[h.objs.size+i]?=l[i]?:=by
 show (h.objs++l.toArray)[h.objs.size+i]?=l[i]?
 rw [Array.getElem?_append_right (by exact Nat.le_add_right _ _),Nat.add_sub_cancel_left,List.getElem?_toArray]
theorem qF9 {l:List Obj} {i:Nat} {o:Obj} {f g:Obj->Obj} (hl:l[i]?=some o) (h:f o=g o):l.modify i f=l.modify i g:=by
 apply List.ext_getElem?
 intro j
 by_cases hj:i=j
 · subst hj; simp [List.getElem?_modify,hl,h]
 · simp [List.getElem?_modify,hj]
theorem qA5 {h:Heap} {l:List Obj} {i:Nat} {o:Obj} (e:l[i]?=some o) (hf:o.isFreed=false):(qAH h l).get? (h.objs.size+i)=some o:=by
 unfold Heap.get?
 rw [qHt,e]
 clear e
 obtain ⟨a,b,d,s⟩:=o
 cases d <;> first | rfl | simp [Obj.isFreed] at hf
theorem qCM (h:Heap) (l:List Obj) (i:Nat) (f:Obj->Obj):(qAH h l).update (h.objs.size+i) f=qAH h (l.modify i f):=by
 show (⟨(h.objs++l.toArray).modify (h.objs.size+i) f,h.life⟩:Heap)=⟨h.objs++(l.modify i f).toArray,h.life⟩
 congr 1
 apply Array.ext_getElem?
 intro j
 rw [Array.getElem?_modify]
 by_cases hj:j<h.objs.size
 · rw [if_neg (by exact as69 ‹_›),Array.getElem?_append_left hj,Array.getElem?_append_left hj]
 · rw [Array.getElem?_append_right (by exact Nat.not_lt.mp ‹_›),Array.getElem?_append_right (by exact Nat.not_lt.mp ‹_›),List.getElem?_toArray,List.getElem?_toArray,List.getElem?_modify]
   by_cases e:h.objs.size+i=j
   · clear hj
     subst e; simp
   · rw [if_neg e]
     have:i≠j-h.objs.size:=by exact ar32 ‹_› ‹_›
     simp [this]
noncomputable abbrev dO (es:List DictEntry) (ep:Nat):Obj:={ cls:=.type "dict",data:=.dict es.toArray ep }
noncomputable def qL3 (es:List DictEntry):Prop:=∀ e∈es,∃ k t,e.key=.int k t/\e.hash=hashInt k
noncomputable def Fresh (k:Int) (es:List DictEntry):Prop:=∀ e∈es,Value.isInt k e.key=false
section
variable {prog:Program} {w₀:World} {A:Around} {E:Value->Shared->Prop} {s:Shared}
theorem qFj {d:Addr} {es:List DictEntry} {ep:Nat} {k:Int} {t:Tok} {Q:Option Nat->Shared->Prop} (ho:s.heap.get? d=some (dO es ep)) (hi:qL3 es) (hf:Fresh k es) (q:Q none s) :
 wpAny (model prog w₀) A (dictFind d (.int k t) (hashInt k)) Q E s:=by
 refine wpAny_dictFind_int ho rfl (fun e he=>hi e (by simpa using he)) ?_
 have:(es.toArray.findIdx? fun e=>Value.isInt k e.key)=none:=by
  rw [Array.findIdx?_eq_none_iff]
  intro e he
  exact hf e (by simpa using he)
 rw [this]; exact q
theorem dset {h₀:Heap} {l:List Obj} {i:Nat} {es:List DictEntry} {ep:Nat} {k:Int} {t:Tok} {v:Value} {Q:Unit->Shared->Prop} (hs:s.heap=qAH h₀ l) (hl:l[i]?=some (dO es ep)) (hi:qL3 es) (hf:Fresh k es) (hz:es.length≤16777216)
 (q:Q () { s with heap:=qAH h₀ (l.modify i fun _=>dO (es++[⟨hashInt k,.int k t,v⟩]) (ep+1)),toks:=s.toks+1 }):wpAny (model prog w₀) A (dictSet (h₀.objs.size+i) (.int k t) v) Q E s:=by
 have ho:s.heap.get? (h₀.objs.size+i)=some (dO es ep):=by rw [hs]; exact qA5 hl rfl
 unfold dictSet
 refine wpAny_holding (wpAny_bind (wpAny_pyHash_int ?_))
 unfold dictSetHashed
 refine wpAny_holding (wpAny_bind (qFj (s:={ s with toks:=s.toks+1 }) ho hi hf ?_))
 refine wpAny_bind (wpAny_rule (wpAny_updateDictKeys (s:={ s with toks:=s.toks+1 }) ho rfl ?_ (by rw [sizeLine_eq]; simpa using hz)))
 show Q () { s with heap:=s.heap.update (h₀.objs.size+i) _,toks:=s.toks+1 }
 rw [hs,qCM]
 have e:l.modify i (Obj.mapDictKeys fun x=>x.push ⟨hashInt k,.int k t,v⟩)=l.modify i fun _=>dO (es++[⟨hashInt k,.int k t,v⟩]) (ep+1):=by
  refine qF9 hl ?_
  show (⟨.type "dict",none,.dict (es.toArray.push ⟨hashInt k,.int k t,v⟩) (ep+1),#[]⟩:Obj)=dO (es++[⟨hashInt k,.int k t,v⟩]) (ep+1)
  rw [List.push_toArray]
 rw [e]; exact q
theorem dput {h₀:Heap} {l:List Obj} {i:Nat} {es:List DictEntry} {ep:Nat} {k:Int} {t:Tok} {v:Value} {Q:Unit->Shared->Prop} (hs:s.heap=qAH h₀ l) (hl:l[i]?=some (dO es ep)) (hi:qL3 es) (hf:Fresh k es) (hz:es.length≤16777216)
 (q:Q () { s with heap:=qAH h₀ (l.modify i fun _=>dO (es++[⟨hashInt k,.int k t,v⟩]) (ep+1)) }):wpAny (model prog w₀) A (dictPut (h₀.objs.size+i) (hashInt k) (.int k t) v) Q E s:=by
 have ho:s.heap.get? (h₀.objs.size+i)=some (dO es ep):=by rw [hs]; exact qA5 hl rfl
 unfold dictPut
 refine wpAny_bind (qFj ho hi hf ?_)
 refine wpAny_updateDictKeys ho rfl ?_ (by rw [sizeLine_eq]; simpa using hz)
 show Q () { s with heap:=s.heap.update (h₀.objs.size+i) _ }
 rw [hs,qCM]
 have e:l.modify i (Obj.mapDictKeys fun x=>x.push ⟨hashInt k,.int k t,v⟩)=l.modify i fun _=>dO (es++[⟨hashInt k,.int k t,v⟩]) (ep+1):=by
  refine qF9 hl ?_
  show (⟨.type "dict",none,.dict (es.toArray.push ⟨hashInt k,.int k t,v⟩) (ep+1),#[]⟩:Obj)=dO (es++[⟨hashInt k,.int k t,v⟩]) (ep+1)
  rw [List.push_toArray]
 rw [e]; exact q
end
section
variable {prog:Program} {w₀:World} {A:Around} {E:Value->Shared->Prop} {s:Shared}
structure ItemOk (prog:Program) (w₀:World) (it:Sem Value×Sem Value) (p:Int×Str):Prop where
 k:∀ (A:Around) (s:Shared) (Q:Value->Shared->Prop) (E:Value->Shared->Prop),Q (.int p.1 s.toks) { s with toks:=s.toks+1 }->wpAny (model prog w₀) A it.1 Q E s
 v:∀ (A:Around) (s:Shared) (Q:Value->Shared->Prop) (E:Value->Shared->Prop),Q (.str p.2 s.toks) { s with toks:=s.toks+1 }->wpAny (model prog w₀) A it.2 Q E s
inductive ItemsOk (prog:Program) (w₀:World):List (Sem Value×Sem Value)->List (Int×Str)->Prop
 | nil:ItemsOk prog w₀ [] []
 | cons {it p its ps}:ItemOk prog w₀ it p->ItemsOk prog w₀ its ps->ItemsOk prog w₀ (it::its) (p::ps)
theorem ItemsOk.len {its:List (Sem Value×Sem Value)} {ps:List (Int×Str)} (h:ItemsOk prog w₀ its ps):its.length=ps.length:=by
 induction h with
 | nil=>rfl
 | cons _ _ ih=>exact congrArg (· + 1) ih
theorem ItemsOk.snoc {its:List (Sem Value×Sem Value)} {ps:List (Int×Str)} {it:Sem Value×Sem Value} {p:Int×Str} (h:ItemsOk prog w₀ its ps) (h':ItemOk prog w₀ it p):ItemsOk prog w₀ (its++[it]) (ps++[p]):=by
 induction h with
 | nil=>exact .cons h' .nil
 | cons h _ ih=>exact .cons h ih
noncomputable def entL:Nat->List (Int×Str)->List DictEntry
 | _,[]=>[]
 | T,(k,v)::r=>⟨hashInt k,.int k T,.str v (T+1)⟩::entL (T+3) r
noncomputable def entS:Nat->List (Int×Str)->List DictEntry
 | _,[]=>[]
 | T,(k,v)::r=>⟨hashInt k,.int k T,.str v (T+1)⟩::entS (T+2) r
theorem qLT (T:Nat) (ps:List (Int×Str)):(entL T ps).length=ps.length:=by
 induction ps generalizing T with
 | nil=>rfl
 | cons p r ih=>exact congrArg (· + 1) (ih (T+3))
theorem qLi (T:Nat) (ps:List (Int×Str)):(entS T ps).length=ps.length:=by
 induction ps generalizing T with
 | nil=>rfl
 | cons p r ih=>exact congrArg (· + 1) (ih (T+2))
noncomputable def Kz (es:List DictEntry) (ks:List Int):Prop:=∀ e∈es,∃ k t,e.key=.int k t/\e.hash=hashInt k/\k∈ks
theorem Kz.int {es:List DictEntry} {ks:List Int} (h:Kz es ks):qL3 es:=fun e he=>let ⟨k,t,h1,h2,_⟩:=h e he; ⟨k,t,h1,h2⟩
theorem Kz.fresh {es:List DictEntry} {ks:List Int} (h:Kz es ks) {k:Int} (hk:k ∉ ks):Fresh k es:=fun e he=>by
 refine x23 (h e he) fun k' t h1 _ h3=>?_
 rw [h1]
 show (k' == k)=false
 rw [beq_eq_false_iff_ne]
 intro q
 exact hk (q ▸ h3)
theorem Kz.snoc {es:List DictEntry} {ks:List Int} (h:Kz es ks) (k:Int) (t:Tok) (v:Value):Kz (es++[⟨hashInt k,.int k t,v⟩]) (ks++[k]):=fun e he=>by
 rcases List.mem_append.mp he with he | he
 · refine x23 (h e he) fun k' t' h1 h2 h3=>?_
   exact ⟨k',t',h1,h2,List.mem_append_left _ h3⟩
 · simp at he; subst he
   exact ⟨k,t,rfl,rfl,by simp⟩
theorem Kz.app {es fs:List DictEntry} {ks ls:List Int} (h:Kz es ks) (h':Kz fs ls):Kz (es++fs) (ks++ls):=fun e he=>by
 rcases List.mem_append.mp he with he | he
 · refine x23 (h e he) fun k' t' h1 h2 h3=>?_
   exact ⟨k',t',h1,h2,List.mem_append_left _ h3⟩
 · refine x23 (h' e he) fun k' t' h1 h2 h3=>?_
   exact ⟨k',t',h1,h2,List.mem_append_right _ h3⟩
theorem qKM:∀ (ps:List (Int×Str)) (T:Nat),Kz (entL T ps) (ps.map (·.1))
 | [],_=>fun e he=>by simp [entL] at he
 | (k,v)::r,T=>fun e he=>by
  rcases List.mem_cons.mp he with rfl | he
  · exact ⟨k,T,rfl,rfl,by simp⟩
  · refine x23 (qKM r (T+3) e he) fun k' t' h1 h2 h3=>?_
    exact ⟨k',t',h1,h2,List.mem_cons_of_mem _ h3⟩
theorem qKT:∀ (ps:List (Int×Str)) (T:Nat),Kz (entS T ps) (ps.map (·.1))
 | [],_=>fun e he=>by simp [entS] at he
 | (k,v)::r,T=>fun e he=>by
  rcases List.mem_cons.mp he with rfl | he
  · exact ⟨k,T,rfl,rfl,by simp⟩
  · refine x23 (qKT r (T+2) e he) fun k' t' h1 h2 h3=>?_
    exact ⟨k',t',h1,h2,List.mem_cons_of_mem _ h3⟩
theorem qDp (l:List Obj) (x:Obj) (f:Obj->Obj):(l++[x]).modify l.length f=l++[f x]:=by
 apply List.ext_getElem?
 intro j
 rw [List.getElem?_modify]
 by_cases h:l.length=j
 · subst h; simp
 · rcases Nat.lt_or_ge j l.length with hj | hj
   · rw [List.getElem?_append_left hj,List.getElem?_append_left hj]; simp [h]
   · rw [List.getElem?_eq_none (by simp; lia),List.getElem?_eq_none (by simp; lia)]; rfl
theorem qEr (l:List Obj) (x:Obj):(l++[x])[l.length]?=some x:=by simp
set_option tactic.hygienic true in
theorem qKc {h₀:Heap} {l:List Obj} (f:Sem Value×Sem Value->PUnit->Sem (ForInStep PUnit))
 (hf:∀ k v u,f (k,v) u=(do let kv ← k; let vv ← holding [kv] v; holding [kv,vv] (dictSet (h₀.objs.size+l.length) kv vv); pure (.yield ⟨⟩))) :
 ∀ (its:List (Sem Value×Sem Value)) (ps:List (Int×Str)),ItemsOk prog w₀ its ps->∀ (es:List DictEntry) (ep:Nat) (ks:List Int) (s:Shared) (Q:PUnit->Shared->Prop),s.heap=qAH h₀ (l++[dO es ep])->Kz es ks ->
  (∀ p∈ps,p.1 ∉ ks)->(ps.map (·.1)).Nodup->es.length+ps.length≤16777216 ->
  Q ⟨⟩ { s with heap:=qAH h₀ (l++[dO (es++entL s.toks ps) (ep+ps.length)]),toks:=s.toks+3*ps.length }->wpAny (model prog w₀) A (forIn its ⟨⟩ f) Q E s:=by
 intro its ps h
 induction h with
 | nil =>
  intro es ep ks s Q hs hk hn hnd hz q
  rw [List.forIn_nil]
  refine wpAny_pure ?_
  simpa [entL,← hs] using q
 | cons h1 r ih =>
  rename_i it p its ps
  obtain ⟨ik,iv⟩:=it
  obtain ⟨k,v⟩:=p
  intro es ep ks s Q hs hk hn hnd hz q
  simp only [List.map_cons,List.nodup_cons] at hnd
  rw [List.forIn_cons,hf]
  refine wpAny_bind (wpAny_bind (h1.k A s _ _ (wpAny_bind (wpAny_holding (h1.v A _ _ _ (wpAny_bind (wpAny_holding ?_)))))))
  refine dset (s:={ s with toks:=s.toks+1+1 }) (h₀:=h₀) (i:=l.length) hs (qEr l _) hk.int (hk.fresh (hn _ List.mem_cons_self)) (by simp at hz; (exact Nat.le_trans (Nat.le_add_right _ _) ‹_›)) (wpAny_pure ?_)
  rw [qDp]
  refine ih _ (ep+1) (ks++[k]) _ Q rfl (hk.snoc k s.toks _) (fun p hp=>?_) hnd.2 (by simp at hz ⊢; (exact as41 ‹_›)) ?_
  · rw [List.mem_append]
    rintro (q | q)
    · exact hn p (List.mem_cons_of_mem _ hp) q
    · simp at q; exact hnd.1 (List.mem_map.mpr ⟨p,hp,q⟩)
  · have e1:ep+1+ps.length=ep+(ps.length+1):=by lia
    have e2:s.toks+1+1+1+3*ps.length=s.toks+3*(ps.length+1):=by lia
    simpa [entL,e1,e2,List.append_assoc] using q
set_option tactic.hygienic true in
theorem qIa:∀ (its:List (Sem Value×Sem Value)) (ps:List (Int×Str)),ItemsOk prog w₀ its ps->∀ (s:Shared) (Q:List (Value×Value)->Shared->Prop),
 Q ((entS s.toks ps).map fun e=>(e.key,e.val)) { s with toks:=s.toks+2*ps.length }->wpAny (model prog w₀) A (evalPairs its) Q E s:=by
 intro its ps h
 induction h with
 | nil=>intro s Q q; exact wpAny_pure (by simpa [entS] using q)
 | cons h1 r ih =>
  rename_i it p its ps
  obtain ⟨ik,iv⟩:=it
  obtain ⟨k,v⟩:=p
  intro s Q q
  unfold evalPairs
  refine wpAny_bind (h1.k A s _ _ (wpAny_bind (wpAny_holding (h1.v A _ _ _ (wpAny_bind (wpAny_holding (ih _ _ (wpAny_pure ?_))))))))
  have e2:s.toks+1+1+2*ps.length=s.toks+2*(ps.length+1):=by lia
  simpa [entS,e2] using q
theorem qIJ {h₀:Heap} {l:List Obj} (f:Value×Value->PUnit->Sem (ForInStep PUnit)) (hf:∀ k v u,f (k,v) u=(do dictSet (h₀.objs.size+l.length) k v; pure (.yield ⟨⟩))) :
 ∀ (ps:List (Int×Str)) (T:Nat) (es:List DictEntry) (ep:Nat) (ks:List Int) (s:Shared) (Q:PUnit->Shared->Prop),s.heap=qAH h₀ (l++[dO es ep])->Kz es ks->(∀ p∈ps,p.1 ∉ ks)->(ps.map (·.1)).Nodup->es.length+ps.length≤16777216 ->
  Q ⟨⟩ { s with heap:=qAH h₀ (l++[dO (es++entS T ps) (ep+ps.length)]),toks:=s.toks+ps.length }->wpAny (model prog w₀) A (forIn ((entS T ps).map fun e=>(e.key,e.val)) ⟨⟩ f) Q E s:=by
 intro ps
 induction ps with
 | nil =>
  intro T es ep ks s Q hs hk hn hnd hz q
  show wpAny _ A (forIn [] _ f) _ _ _
  rw [List.forIn_nil]
  refine wpAny_pure ?_
  simpa [entS,← hs] using q
 | cons p ps ih =>
  obtain ⟨k,v⟩:=p
  intro T es ep ks s Q hs hk hn hnd hz q
  simp only [List.map_cons,List.nodup_cons] at hnd
  show wpAny _ A (forIn ((.int k T,.str v (T+1))::(entS (T+2) ps).map fun e=>(e.key,e.val)) _ f) _ _ _
  rw [List.forIn_cons,hf]
  refine wpAny_bind (wpAny_bind ?_)
  refine dset (h₀:=h₀) (i:=l.length) hs (qEr l _) hk.int (hk.fresh (hn _ List.mem_cons_self)) (by simp at hz; (exact Nat.le_trans (Nat.le_add_right _ _) ‹_›)) (wpAny_pure ?_)
  rw [qDp]
  refine ih (T+2) _ (ep+1) (ks++[k]) _ Q rfl (hk.snoc k T _) (fun p hp=>?_) hnd.2 (by simp at hz ⊢; (exact as41 ‹_›)) ?_
  · rw [List.mem_append]
    rintro (q | q)
    · exact hn p (List.mem_cons_of_mem _ hp) q
    · simp at q; exact hnd.1 (List.mem_map.mpr ⟨p,hp,q⟩)
  · have e1:ep+1+ps.length=ep+(ps.length+1):=by lia
    have e2:s.toks+1+ps.length=s.toks+(ps.length+1):=by lia
    simpa [entS,e1,e2,List.append_assoc] using q
noncomputable def entR (T:Nat) (ps:List (Int×Str)):List DictEntry:=if ps.length≤15 then entS T ps else entL T ps
theorem qCF (T:Nat) (ps:List (Int×Str)):(entR T ps).length=ps.length:=by unfold entR; split; exact qLi _ _; exact qLT _ _
theorem qJ4 (T:Nat) (ps:List (Int×Str)):Kz (entR T ps) (ps.map (·.1)):=by unfold entR; split; exact qKT _ _; exact qKM _ _
theorem qHM {h₀:Heap} {l:List Obj} {its:List (Sem Value×Sem Value)} {ps:List (Int×Str)} (h:ItemsOk prog w₀ its ps) (hs:s.heap=qAH h₀ l) (hnd:(ps.map (·.1)).Nodup) (hz:ps.length≤16777216) {Q:Addr->Shared->Prop}
 (q:Q (h₀.objs.size+l.length) { s with heap:=qAH h₀ (l++[dO (entR s.toks ps) ps.length]),toks:=s.toks+3*ps.length }):wpAny (model prog w₀) A (subDict its) Q E s:=by
 unfold subDict
 refine wpAny_bind (wpAny_alloc ?_)
 have hsz:s.heap.objs.size=h₀.objs.size+l.length:=by rw [hs,qFb]
 have hp:s.heap.push { cls:=.type "dict",data:=.dict #[] }=qAH h₀ (l++[dO [] 0]):=by rw [hs,qDJ]
 rw [hsz,hp]
 refine wpAny_bind (wpAny_holding ?_)
 unfold entR at q
 rw [h.len]
 have kz0:Kz ([]:List DictEntry) []:=fun e he=>by simp at he
 by_cases hc:ps.length≤15
 · rw [if_pos hc] at q ⊢
   refine wpAny_bind (qIa its ps h _ _ (wpAny_holding (wpAny_bind ?_)))
   refine qIJ (l:=l) (h₀:=h₀) _ (fun k v u=>rfl) ps s.toks [] 0 [] _ _ rfl kz0 (fun p _=>by simp) hnd (by simpa using hz) (wpAny_pure (wpAny_pure ?_))
   have e:s.toks+2*ps.length+ps.length=s.toks+3*ps.length:=by lia
   simpa [e] using q
 · rw [if_neg hc] at q ⊢
   refine wpAny_bind (wpAny_rule (wpAny_bind ?_))
   refine qKc (l:=l) (h₀:=h₀) _ (fun k v u=>rfl) its ps h [] 0 [] _ _ rfl kz0 (fun p _=>by simp) hnd (by simpa using hz) (wpAny_pure (wpAny_pure ?_))
   simpa using q
end
section
variable {prog:Program} {w₀:World} {A:Around} {E:Value->Shared->Prop} {s:Shared}
inductive EntsOf:List DictEntry->List (Int×Str)->Prop
 | nil:EntsOf [] []
 | cons {k v t u es ps}:EntsOf es ps->EntsOf (⟨hashInt k,.int k t,.str v u⟩::es) ((k,v)::ps)
theorem qNK:∀ (ps:List (Int×Str)) (T:Nat),EntsOf (entL T ps) ps:=by
 intro L9
 induction L9 with
 | nil =>
  intro _
  exact .nil
 | cons p9 r ih9 =>
  obtain ⟨k,v⟩:=p9
  intro T
  exact .cons (ih9 (T+3))
theorem qM2:∀ (ps:List (Int×Str)) (T:Nat),EntsOf (entS T ps) ps:=by
 intro L9
 induction L9 with
 | nil =>
  intro _
  exact .nil
 | cons p9 r ih9 =>
  obtain ⟨k,v⟩:=p9
  intro T
  exact .cons (ih9 (T+2))
theorem qMs (T:Nat) (ps:List (Int×Str)):EntsOf (entR T ps) ps:=by unfold entR; split; exact qM2 _ _; exact qNK _ _
theorem qB0 {l:List Obj} {j:Nat} (h:j≠0) (f:Obj->Obj):(l.modify 0 f)[j]?=l[j]?:=by
 rw [List.getElem?_modify]
 simp [Ne.symm h]
theorem qDN {l:List Obj} {o:Obj} (h:l[0]?=some o) (f:Obj->Obj):(l.modify 0 f)[0]?=some (f o):=by
 rw [List.getElem?_modify,h]; rfl
theorem qE3 (l:List Obj) (f g:Obj->Obj):(l.modify 0 f).modify 0 g=l.modify 0 (g ∘ f):=by
 cases l <;> rfl
set_option tactic.hygienic true in
theorem qIp {h₀:Heap} {l:List Obj} {j:Nat} (hj:j≠0) {sub:List DictEntry} {ep0:Nat} (hl:l[j]?=some (dO sub ep0)) (h0:∃ o,l[0]?=some o) (f:Nat->PUnit->Sem (ForInStep PUnit))
 (turn:∀ (i:Nat) (u:PUnit) (e:DictEntry) (s:Shared) (es:List DictEntry) (ep:Nat) (Q:ForInStep PUnit->Shared->Prop),s.heap=qAH h₀ (l.modify 0 fun _=>dO es ep)->sub[i]?=some e ->
   wpAny (model prog w₀) A (dictPut (h₀.objs.size+0) e.hash e.key e.val) (fun _ s'=>s'.heap.get? (h₀.objs.size+j)=some (dO sub ep0)/\Q (.yield ⟨⟩) s') E s->wpAny (model prog w₀) A (f i u) Q E s) :
 ∀ (fs:List DictEntry) (ps:List (Int×Str)),EntsOf fs ps->∀ (i:Nat) (es:List DictEntry) (ep:Nat) (ks:List Int) (s:Shared) (Q:PUnit->Shared->Prop),(∀ m,sub[i+m]?=fs[m]?)->s.heap=qAH h₀ (l.modify 0 fun _=>dO es ep)->Kz es ks ->
  (∀ p∈ps,p.1 ∉ ks)->(ps.map (·.1)).Nodup->es.length+ps.length≤16777216 ->
  Q ⟨⟩ { s with heap:=qAH h₀ (l.modify 0 fun _=>dO (es++fs) (ep+fs.length)) }->wpAny (model prog w₀) A (forIn (List.range' i fs.length) ⟨⟩ f) Q E s:=by
 intro fs ps h
 induction h with
 | nil =>
  intro i es ep ks s Q hsub hs hk hn hnd hz q
  show wpAny _ A (forIn [] _ f) _ _ _
  rw [List.forIn_nil]
  refine wpAny_pure ?_
  simpa [← hs] using q
 | cons r ih =>
  rename_i k v t u fs ps
  intro i es ep ks s Q hsub hs hk hn hnd hz q
  simp only [List.map_cons,List.nodup_cons] at hnd
  show wpAny _ A (forIn (i::List.range' (i+1) fs.length) _ f) _ _ _
  rw [List.forIn_cons]
  refine wpAny_bind (turn i _ ⟨hashInt k,.int k t,.str v u⟩ s es ep _ hs (by have:=hsub 0; exact this) ?_)
  refine x11 h0 fun o0 ho0=>?_
  refine dput (h₀:=h₀) (i:=0) hs (qDN ho0 _) hk.int (hk.fresh (hn _ List.mem_cons_self)) (by simp at hz; (exact Nat.le_trans (Nat.le_add_right _ _) ‹_›)) ⟨?_,?_⟩
  · show (qAH h₀ _).get? _=_
    exact qA5 (by rw [qB0 hj,qB0 hj]; exact hl) rfl
  · rw [qE3]
    refine ih (i+1) _ (ep+1) (ks++[k]) _ Q (fun m=>?_) rfl (hk.snoc k t _) (fun p hp=>?_) hnd.2 (by simp at hz ⊢; (exact as41 ‹_›)) ?_
    · have:=hsub (m+1)
      rw [show i+1+m=i+(m+1) by lia,this]; rfl
    · rw [List.mem_append]
      rintro (q | q)
      · exact hn p (List.mem_cons_of_mem _ hp) q
      · simp at q; exact hnd.1 (List.mem_map.mpr ⟨p,hp,q⟩)
    · have e1:ep+1+fs.length=ep+(fs.length+1):=by lia
      simpa [e1,List.append_assoc] using q
theorem qKj {h₀:Heap} {l:List Obj} {j:Nat} (hj:j≠0) {es fs:List DictEntry} {ep ep0:Nat} {ps:List (Int×Str)} {ks:List Int} (hl:l[j]?=some (dO fs ep0)) (h0:l[0]?=some (dO es ep)) (hne:es≠[]) (hs:s.heap=qAH h₀ l) (he:EntsOf fs ps) (hk:Kz es ks)
 (hn:∀ p∈ps,p.1 ∉ ks) (hnd:(ps.map (·.1)).Nodup) (hz:es.length+ps.length≤16777216) (hsys:(h₀.objs.size+j == sysModules)=false) {Q:Unit->Shared->Prop} (q:Q () { s with heap:=qAH h₀ (l.modify 0 fun _=>dO (es++fs) (ep+fs.length)) }) :
 wpAny (model prog w₀) A (mergeMapping (h₀.objs.size+0) (.ref (h₀.objs.size+j)) false) Q E s:=by
 have ho:s.heap.get? (h₀.objs.size+j)=some (dO fs ep0):=by rw [hs]; exact qA5 hl rfl
 have hm:s.heap.get? (h₀.objs.size+0)=some (dO es ep):=by rw [hs]; exact qA5 h0 rfl
 have hT:s.TypeIs (.ref (h₀.objs.size+j)) "dict" := ⟨_,ho,rfl⟩
 unfold mergeMapping
 refine wpAny_bind (wpAny_isInstance hT isSubtype_dict_dict ?_)
 rw [if_pos rfl]
 refine wpAny_bind (wpAny_specialOf hT PySem.F.slot_dict_iter.lookup (wpAny_bind (wpAny_pure ?_)))
 rw [show (some (Value.builtin "dict.__iter__") == some (Value.builtin "dict.__iter__"))=true from beq_self_eq_true _]
 dsimp only
 rw [hsys]
 simp only [Bool.false_eq_true,if_false]
 refine wpAny_bind (wpAny_dictEntries hm rfl ?_)
 have hemp:es.toArray.isEmpty=false:=by
  clear hT hm ho q hsys hz hnd hn hk he hs h0 hl hj
  cases es with
  | nil=>exact absurd rfl hne
  | cons _ _=>rfl
 rw [hemp]
 simp only [Bool.false_eq_true,if_false]
 refine wpAny_bind (wpAny_dictEntries ho rfl (wpAny_bind (wpAny_dictEpoch ho rfl (wpAny_bind ?_))))
 have e0:l=l.modify 0 fun _=>dO es ep:=by
  apply List.ext_getElem?
  intro i
  by_cases hi:i=0
  · subst hi; rw [qDN h0,h0]
  · rw [qB0 hi]
 rw [show fs.toArray.size=fs.length by rfl,List.range_eq_range']
 refine qIp (h₀:=h₀) (l:=l) (prog:=prog) (w₀:=w₀) hj hl ⟨_,h0⟩ _ (fun i u e s es' ep' Q hs' hi hq=>?_) fs ps he 0 es ep ks s _ (fun m=>by simp) (by rw [hs]; exact congrArg _ e0) hk hn hnd hz (wpAny_pure q)
 have ho':s.heap.get? (h₀.objs.size+j)=some (dO fs ep0):=by rw [hs']; exact qA5 (by rw [qB0 hj]; exact hl) rfl
 refine wpAny_bind (wpAny_dictEntries ho' rfl ?_)
 have hi':fs.toArray[i]?=some e:=by simpa using hi
 rw [hi']
 dsimp only
 refine wpAny_bind (wpAny_holding ?_)
 refine wpAny_mono hq (fun _ s' h=>?_) fun _ _ h=>h
 refine wpAny_bind (wpAny_dictEpoch h.1 rfl ?_)
 rw [if_neg (by simp)]
 exact wpAny_pure h.2
end
set_option genInjectivity false in
structure DS where
 objs:List Obj
 es:List DictEntry
 ep:Nat
 toks:Nat
 run:List (Int×Str)
noncomputable def DS.flush (d:DS):DS:=match d.run with
 | []=>d
 | _::_=>match d.objs with
  | []=>⟨[dO (entR d.toks d.run) d.run.length],entR d.toks d.run,d.run.length,d.toks+3*d.run.length,[]⟩
  | _::r=>⟨dO (d.es++entR d.toks d.run) (d.ep+d.run.length)::(r++[dO (entR d.toks d.run) d.run.length]),d.es++entR d.toks d.run,d.ep+d.run.length,d.toks+3*d.run.length,[]⟩
noncomputable def DS.put (d:DS) (p:Int×Str):DS:={ d with run:=d.run++[p] }
noncomputable def DS.step (d:DS) (p:Int×Str):DS:=if (d.put p).run.length == 17 then (d.put p).flush else d.put p
noncomputable def qDG (h₀:Heap) (d:DS):Option Addr:=match d.objs with
 | []=>none
 | _::_=>some (h₀.objs.size+0)
section
variable {prog:Program} {w₀:World} {A:Around} {E:Value->Shared->Prop} {s:Shared}
structure Inv (prog:Program) (w₀:World) (h₀:Heap) (s₀:Shared) (d:DS) (ks:List Int) (its:List (Sem Value×Sem Value)) (s:Shared):Prop where
 s_:s={ s₀ with heap:=qAH h₀ d.objs,toks:=d.toks }
 its_:ItemsOk prog w₀ its d.run
 main:∀ o r,d.objs=o::r->o=dO d.es d.ep/\d.es≠[]
 kz:Kz d.es ks
 run:∀ p∈d.run,p.1 ∉ ks
 nd:(d.run.map (·.1)).Nodup
 le:d.es.length+d.run.length≤16777216
 none_:d.objs=[]->d.es=[]
theorem qNV {T:Nat} {ps:List (Int×Str)} (h:ps≠[]):entR T ps≠[]:=fun e=>h (List.length_eq_zero_iff.mp (by rw [← qCF T ps,e]; rfl))
theorem qLO (d:DS):d.flush.es.length≤d.es.length+d.run.length:=by
 obtain ⟨objs,es,ep,toks,run⟩:=d
 cases run with
 | nil=>exact Nat.le_add_right _ _
 | cons p run =>
  cases objs with
  | nil =>
   show (entR toks (p::run)).length≤es.length+(p::run).length
   rw [qCF]; exact Nat.le_add_left _ _
  | cons o r =>
   show (es++entR toks (p::run)).length≤es.length+(p::run).length
   rw [List.length_append,qCF]; exact Nat.le_refl _
theorem qKL {h₀:Heap} {s₀:Shared} {d:DS} {ks:List Int} {its:List (Sem Value×Sem Value)} {s:Shared} (I:Inv prog w₀ h₀ s₀ d ks its s) (hne:d.run≠[]) :
 Inv prog w₀ h₀ s₀ d.flush (ks++d.run.map (·.1)) [] { s₀ with heap:=qAH h₀ d.flush.objs,toks:=d.flush.toks }:=by
 obtain ⟨objs,es,ep,toks,run⟩:=d
 cases run with
 | nil=>exact absurd rfl hne
 | cons p run =>
  have hl:=I.le
  cases objs with
  | nil =>
   have he:es=[]:=I.none_ rfl
   clear I
   subst he
   refine ⟨rfl,.nil,fun o r e=>?_,?_,fun p hp=>(nomatch hp),List.nodup_nil,?_,fun e=>(nomatch e)⟩
   · cases e; exact ⟨rfl,qNV hne⟩
   · exact fun e he=>let ⟨k,t,h1,h2,h3⟩:=qJ4 toks (p::run) e he; ⟨k,t,h1,h2,List.mem_append_right _ h3⟩
   · show (entR toks (p::run)).length+0≤_
     rw [qCF]; simpa using hl
  | cons o r =>
   obtain ⟨_,h2⟩:=I.main o r rfl
   refine ⟨rfl,.nil,fun o' r' e=>?_,I.kz.app (qJ4 toks (p::run)),fun p hp=>(nomatch hp),List.nodup_nil,?_,fun e=>(nomatch e)⟩
   · cases e
     refine ⟨rfl,fun e=>h2 (List.append_eq_nil_iff.mp e).1⟩
   · show (es++entR toks (p::run)).length+0≤_
     rw [List.length_append,qCF]; exact hl
theorem qGJ (d:DS):d.flush.run=[]:=by
 obtain ⟨objs,es,ep,toks,rn⟩:=d
 cases rn <;> cases objs <;> rfl
theorem qIR {h₀:Heap} {d:DS} (h:d.run≠[]):some (h₀.objs.size+0)=qDG h₀ d.flush:=by
 obtain ⟨objs,es,ep,toks,rn⟩:=d
 cases rn <;> cases objs <;> first | exact absurd rfl h | rfl
theorem qIP {d:DS} (h:d.run≠[]):d.flush.objs≠[]:=by
 obtain ⟨objs,es,ep,toks,rn⟩:=d
 cases rn <;> cases objs <;> first | exact absurd rfl h | exact nofun
theorem qFS (d:DS) (p:Int×Str):(d.put p).run≠[]:=List.append_ne_nil_of_right_ne_nil _ nofun
theorem Inv.push {h₀:Heap} {s₀:Shared} {d:DS} {ks:List Int} {its:List (Sem Value×Sem Value)} {s:Shared} {it:Sem Value×Sem Value} {p:Int×Str} (I:Inv prog w₀ h₀ s₀ d ks its s) (h1:ItemOk prog w₀ it p) (hk:p.1 ∉ ks) (hn:((d.put p).run.map (·.1)).Nodup) (hl:d.es.length+(d.run.length+1)≤16777216):Inv prog w₀ h₀ s₀ (d.put p) ks (its++[it]) s :=
 ⟨I.s_,I.its_.snoc h1,I.main,I.kz,fun p' hp'=>(List.mem_append.mp hp').elim (I.run p') fun h=>List.mem_singleton.mp h ▸ hk,hn,(List.length_append (as:=d.run) (bs:=[p])).symm ▸ hl,I.none_⟩
inductive LI (prog:Program) (w₀:World) (h₀:Heap) (s₀:Shared) (fin:DS) (L:List (Option (Sem Value)×Sem Value)) (main:Option Addr) (run:List (Sem Value×Sem Value)) (s:Shared):Prop
 | mk {d:DS} {ks:List Int} {its:List (Sem Value×Sem Value)} {ps:List (Int×Str)} (he:L=its.map fun x=>(some x.1,x.2)) (ok:ItemsOk prog w₀ its ps) (I:Inv prog w₀ h₀ s₀ d ks run s) (hm:main=qDG h₀ d) (hf:ps.foldl DS.step d=fin)
  (hk:∀ p∈ps,p.1 ∉ ks) (hn:((d.run++ps).map (·.1)).Nodup) (hl:d.es.length+d.run.length+ps.length≤16777216) (hx:ps=[]->d.run≠[]\/d.objs≠[])
theorem LI.dest {h₀:Heap} {s₀:Shared} {fin:DS} {x:Option (Sem Value)×Sem Value} {L:List (Option (Sem Value)×Sem Value)} {main:Option Addr} {run:List (Sem Value×Sem Value)} {s:Shared} {X:Prop} (h:LI prog w₀ h₀ s₀ fin (x::L) main run s)
 (k:∀ d ks it p,x=(some it.1,it.2)->main=qDG h₀ d->Inv prog w₀ h₀ s₀ (d.put p) ks (run++[it]) s->(((run++[it]).length == 17)=true->LI prog w₀ h₀ s₀ fin L (some (h₀.objs.size+0)) [] { s₀ with heap:=qAH h₀ (d.put p).flush.objs,toks:=(d.put p).flush.toks }) ->
   (((run++[it]).length == 17)≠true->LI prog w₀ h₀ s₀ fin L (qDG h₀ d) (run++[it]) s)->X):X:=by
 obtain ⟨he,ok,I,hm,hf,hk,hn,hl,hx⟩:=h
 clear hx
 cases ok with
 | nil=>cases he
 | @cons it p its ps h1 h2 =>
  have hn:(((d.put p).run++ps).map (·.1)).Nodup:=(List.append_assoc d.run [p] ps).symm ▸ hn
  have n0:=hn
  rw [List.map_append] at hn
  have hk2:=fun p' (hp':p'∈ps)=>hk p' (List.mem_cons_of_mem _ hp')
  have hl2:d.es.length+(d.run.length+1)+ps.length≤16777216:=by simp at hl; (exact au39 ‹_›)
  have J:=I.push h1 (hk _ List.mem_cons_self) (List.nodup_append.mp hn).1 (Nat.le_trans (Nat.le_add_right _ _) hl2)
  have e17:=J.its_.len
  clear hk hl I h1
  refine k d ks it p (List.cons.inj he).1 hm J (fun h17=>?_) fun h17=>?_
  · rw [e17] at h17
    refine ⟨(List.cons.inj he).2,h2,qKL J (qFS _ _),qIR (qFS _ _),(congrArg (fun d=>ps.foldl DS.step d) (if_pos h17).symm).trans hf,fun p' hp' q=>?_,?_,?_,fun _=>.inr (qIP (qFS _ _))⟩
    · exact (List.mem_append.mp q).elim (hk2 p' hp') fun q=>(List.nodup_append.mp hn).2.2 _ q _ (List.mem_map.mpr ⟨p',hp',rfl⟩) rfl
    · rw [qGJ]; exact (List.nodup_append.mp hn).2.1
    · rw [qGJ]
      exact Nat.le_trans (Nat.add_le_add_right (qLO _) _) ((List.length_append (as:=d.run) (bs:=[p])).symm ▸ hl2)
  · rw [e17] at h17
    exact ⟨(List.cons.inj he).2,h2,J,rfl,(congrArg (fun d=>ps.foldl DS.step d) (if_neg h17).symm).trans hf,hk2,n0,(List.length_append (as:=d.run) (bs:=[p])).symm ▸ hl2,fun _=>.inl (qFS _ _)⟩
set_option tactic.hygienic true in
set_option tactic.hygienic true in
theorem display {h₀:Heap} {s₀:Shared} (hbig:sysModules<h₀.objs.size) {ps:List (Int×Str)} (hnd:(ps.map (·.1)).Nodup) (hlen:ps.length≤16777216) (hne:ps≠[]) {items:List (Option (Sem Value)×Sem Value)} {its:List (Sem Value×Sem Value)}
 (hits:items=its.map fun x=>(some x.1,x.2)) (hok:ItemsOk prog w₀ its ps) (h₀e:s₀.heap=h₀) {Q:Value->Shared->Prop}
 (q:Q (.ref (h₀.objs.size+0)) { s₀ with heap:=qAH h₀ (ps.foldl DS.step ⟨[],[],0,s₀.toks,[]⟩).flush.objs,toks:=(ps.foldl DS.step ⟨[],[],0,s₀.toks,[]⟩).flush.toks }):wpAny (model prog w₀) A (dictDisplay items) Q E s₀:=by
 subst hits
 unfold dictDisplay
 extract_lets fl
 have flush_ok:∀ (d:DS) (ks:List Int) (its:List (Sem Value×Sem Value)) (s:Shared) (Q:Option Addr->Shared->Prop),Inv prog w₀ h₀ s₀ d ks its s->d.run≠[] ->
  Q (some (h₀.objs.size+0)) { s₀ with heap:=qAH h₀ d.flush.objs,toks:=d.flush.toks }->wpAny (model prog w₀) A (fl its (qDG h₀ d)) Q E s:=by
  intro d ks its s Q I hr q
  simp only [fl]
  have hi:its.isEmpty=false:=by
   cases its with
   | nil=>have:=I.its_.len; exact absurd (List.length_eq_zero_iff.mp this.symm) hr
   | cons _ _=>rfl
  rw [hi]
  simp only [Bool.false_eq_true,if_false]
  obtain ⟨objs,es,ep,toks,run⟩:=d
  have hs:=I.s_
  cases run with
  | nil=>exact absurd rfl hr
  | cons p run =>
   have hle:(p::run).length≤16777216:=by have:=I.le; simp at this ⊢; (exact as43 ‹_› (by decide))
   clear hr hi h₀e hok hne hlen hnd
   cases objs with
   | nil =>
    show wpAny _ A (subDict its >>= fun a=>pure (some a)) _ _ _
    refine wpAny_bind (qHM I.its_ (h₀:=h₀) (l:=[]) (by rw [hs]) I.nd hle (wpAny_pure ?_))
    subst hs
    exact q
   | cons o r =>
    obtain ⟨h1,h2⟩:=I.main o r rfl
    show wpAny _ A (_ >>= _) _ _ _
    refine wpAny_bind (wpAny_holding (qHM I.its_ (h₀:=h₀) (l:=o::r) (by rw [hs]) I.nd hle (wpAny_bind (wpAny_onRaise ?_))))
    have h1':o=dO es ep:=h1
    subst hs
    subst h1'
    refine wpAny_holding (qKj (h₀:=h₀) (l:=dO es ep::r++[dO (entR toks (p::run)) (p::run).length]) (j:=(dO es ep::r).length) (by simp) (es:=es) (fs:=entR toks (p::run)) (ep:=ep) (ep0:=(p::run).length) (ps:=p::run) (ks:=ks)
     (qEr _ _) rfl h2 rfl (qMs _ _) I.kz I.run I.nd (by exact I.le) ?_ (wpAny_pure ?_))
    · rw [beq_eq_false_iff_ne]
      exact Nat.ne_of_gt (Nat.lt_of_lt_of_le hbig (Nat.le_add_right _ _))
    · rw [qCF]
      exact q
 refine (fun fin (hfin:fin=ps.foldl DS.step ⟨[],[],0,s₀.toks,[]⟩)=>?_) _ rfl
 rw [← hfin] at q
 refine wpAny_bind (wpAny_mono (wpAny_forIn_list _ (fun rest (r:Option Addr×List (Sem Value×Sem Value)) s'=>LI prog w₀ h₀ s₀ fin rest r.1 r.2 s') (fun (r:Option Addr×List (Sem Value×Sem Value)) s'=>LI prog w₀ h₀ s₀ fin [] r.1 r.2 s') (fun x rest r s' h=>?_) (fun r s' h=>h) _ _ ?_) (fun r s' h=>?_) fun _ _ h=>h)
 · refine h.dest fun d ks it p e1 hm J k1 k2=>?_
   clear h
   obtain ⟨main,run⟩:=r
   subst e1
   have hm:main=qDG h₀ d:=hm
   subst hm
   dsimp only at *
   by_cases h17:((run++[(it.1,it.2)]).length == 17)=true
   · rw [if_pos h17]
     exact wpAny_bind (flush_ok (d.put p) ks (run++[it]) s' _ J (qFS _ _) (wpAny_pure (k1 h17)))
   · rw [if_neg h17]
     exact wpAny_pure (k2 h17)
 · refine .mk (d:=⟨[],[],0,s₀.toks,[]⟩) (ks:=[]) rfl hok ⟨?_,.nil,fun o r e=>(nomatch e),fun e he=>(nomatch he),fun p hp=>(nomatch hp),List.nodup_nil,Nat.zero_le _,fun _=>rfl⟩ rfl hfin.symm (fun p _=>List.not_mem_nil) hnd ((Nat.zero_add ps.length).symm ▸ hlen) fun e=>absurd e hne
   show s₀={ s₀ with heap:=qAH h₀ [],toks:=s₀.toks }
   rw [qCP,← h₀e]
 · clear hfin
   obtain @⟨d,ks,its,ps,he,ok,I,hm,hf,_,_,_,hx⟩:=h
   cases List.map_eq_nil_iff.mp he.symm
   cases ok
   have hf:_=fin:=hf
   subst hf
   obtain ⟨main,run⟩:=r
   have hm:main=qDG h₀ _:=hm
   subst hm
   dsimp only at *
   by_cases hr:DS.run d=[]
   · have hi:run=[]:=by have:=I.its_.len; rw [hr] at this; exact List.length_eq_zero_iff.mp this
     subst hi
     refine wpAny_bind ?_
     show wpAny _ A (pure (qDG h₀ d)) _ _ _
     refine wpAny_pure ?_
     have hs:=I.s_
     clear I flush_ok
     clear hm hf
     obtain ⟨objs,es,ep,toks,rn⟩:=d
     cases hr
     cases objs with
     | nil=>exact (hx rfl).elim (absurd rfl) (absurd rfl)
     | cons o r =>
      refine wpAny_pure ?_
      rw [hs]
      exact q
   · exact wpAny_bind (flush_ok d _ run s' _ I hr (wpAny_pure q))
end
noncomputable def kOf:Option Expr->Option Int
 | some e=>(match e with
  | .Constant c _ _=>(match c with | .int i=>some i | _=>none)
  | _=>none)
 | none=>none
noncomputable def vOf:Expr->Option Str
 | .Constant c _ _=>(match c with | .str s=>some s | _=>none)
 | _=>none
noncomputable def qCY:List (Option Expr)->List Expr->Option (List (Int×Str))
 | [],vs=>gd vs.isEmpty (some [])
 | k::ks,vs=>vs.head?.bind fun v=>(kOf k).bind fun i=>(vOf v).bind fun s=>(qCY ks vs.tail).bind fun r=>some ((i,s)::r)
noncomputable def upTo:Int->List (Int×Str)->Bool
 | _,[]=>true
 | a,p::r=>decide (a<p.1) && upTo p.1 r
noncomputable def qKo:List Obj->Nat->BT->Option BT
 | [],_,t=>some t
 | o::r,n,t=>gd ((t.ins n o).get n).isSome (qKo r (n+1) (t.ins n o))
noncomputable def qGz (ps:List (Int×Str)) (tk:Nat):DS:=(ps.foldl DS.step ⟨[],[],0,tk,[]⟩).flush
noncomputable def qI2 (ps:List (Int×Str)) (s:SharedT):Option SharedT :=
 gd (Nat.blt sysModules s.n && upTo (-1) ps && Nat.ble ps.length 16777216 && !ps.isEmpty) ((qKo (qGz ps s.toks).objs s.n s.tree).bind fun t=>some { s with tree:=t,n:=s.n+(qGz ps s.toks).objs.length,toks:=(qGz ps s.toks).toks })
noncomputable def nmOf:Expr->Option (Str×Pos)
 | .Name x q=>some (x,q)
 | _=>none
noncomputable def dcOf:Expr->Option (List (Option Expr)×List Expr×Pos)
 | .Dict ks vs p=>some (ks,vs,p)
 | _=>none
noncomputable def asOf:Stmt->Option (List Expr×Expr×Pos)
 | .Assign ts v p=>some (ts,v,p)
 | _=>none
set_option genInjectivity false in
structure S8 where
 (x:Str) (q:Pos) (ks:List (Option Expr)) (vs:List Expr) (dp sp:Pos)
noncomputable def stmt8 (p:Program):Option S8:=((behindTheImports p)[8]?:Option Stmt).bind fun s=>(asOf s).bind fun a=>(one? a.1).bind fun t=>(nmOf t).bind fun n=>(dcOf a.2.1).bind fun d=>some ⟨n.1,n.2,d.1,d.2.1,d.2.2,a.2.2⟩
noncomputable abbrev qDc:=PySem.W.Fast.tw12563942051412417395
noncomputable def envG (P:Program) (code:Value) (frame:Addr):Env:={ scope:=P.main.scope,locals:=mainNs,globals:=mainNs,cells:=[],code,frame:=some frame }
noncomputable def preG (P:Program) (w:World) (s:SharedT):=ev den' P w 1000 Γ0 (do let code ← PySem.W.Fast.tw17154629097778926822 P.main; let frame ← PySem.W.Fast.tw12822647523644345616 code mainNs mainNs; pure (code,frame)) default s
noncomputable def okOf {α:Type} (o:Option (Except Value α×Pos×SharedT)):Option (α×Pos×SharedT):=o.bind fun q=>match q.1 with
 | .ok a=>some (a,q.2)
 | .error _=>none
noncomputable def qEf:Flow->Bool
 | .next=>true
 | _=>false
set_option genInjectivity false in
structure HdG where
 (code:Value) (frame:Addr) (pos p1:Pos) (s s1 s2:SharedT) (d:S8) (ps:List (Int×Str))
noncomputable abbrev bodyΓ (P:Program) (code:Value) (frame:Addr) (pos:Pos):Ctx:=Γ0.enter (.body (behindTheImports P) (envG P code frame)) none pos
noncomputable def qO4 (P:Program) (w:World) (s₀:SharedT):Option HdG:=(okOf (preG P w s₀)).bind fun a =>
 (okOf (ev den' P w 20000 (bodyΓ P a.1.1 a.1.2 a.2.1) (qDc ((behindTheImports P).take 8) (envG P a.1.1 a.1.2)) a.2.1 a.2.2)).bind fun b=>gd (qEf b.1)
   ((stmt8 P).bind fun d=>(qCY d.ks d.vs).bind fun ps=>(qI2 ps b.2.2).bind fun s2=>some ⟨a.1.1,a.1.2,a.2.1,b.2.1,a.2.2,b.2.2,s2,d,ps⟩)
noncomputable def qNu (P:Program) (w:World) (g:HdG) (p:Pos):Option SharedT :=
 (okOf (ev den' P w 20000 (bodyΓ P g.code g.frame g.pos) (assign (.Name g.d.x g.d.q) (envG P g.code g.frame) (.ref g.s1.n)) p g.s2)).bind fun e =>
   (okOf (ev den' P w 20000 (bodyΓ P g.code g.frame g.pos) (qDc ((behindTheImports P).drop 9) (envG P g.code g.frame)) e.2.1 e.2.2)).bind fun f=>gd (qEf f.1) (some f.2.2)
noncomputable def qLL (P:Program) (w:World) (s₀:SharedT) (p:Pos):Option SharedT:=(qO4 P w s₀).bind fun g=>qNu P w g p
noncomputable def qJr (w:World) (os:OsState) (p:Pos):Option SharedT:=qLL P91 w (S0 w os) p
theorem qOA:denote table=den':=by
 rw [table_eq_tree,PySem.W.Fast.te11892475500146522536,PySem.W.Fast.te14364793385576792824]
 rfl
theorem qDv:@execs=qDc:=PySem.W.Fast.te12563942051412417395
theorem qDm {M:Model} {Γ:Ctx} {env:Env} {Q:Flow->Pos->Shared->Prop} {E:Value->Pos->Shared->Prop}:∀ (a b:List Stmt) (p:Pos) (s:Shared),
 Sem.wp M Γ (execs a env) (fun f p s=>match f with | .next=>Sem.wp M Γ (execs b env) Q E p s | f=>Q f p s) E p s->Sem.wp M Γ (execs (a++b) env) Q E p s:=by
 intro L9
 induction L9 with
 | nil =>
  intro b p s h
  exact h
 | cons st a ih9 =>
  intro b p s h
  rw [List.cons_append,execs_cons,Sem.wp_bind']
  rw [execs_cons,Sem.wp_bind'] at h
  refine Sem.wp_mono M Γ _ (fun f p' s' h'=>?_) (fun _ _ _ h'=>h') _ _ h
  cases f with
  | next=>exact ih9 b p' s' h'
  | brk=>exact h'
  | cont=>exact h'
  | ret v=>exact h'
set_option tactic.hygienic true in
theorem qNn {k:Option Expr} {i:Int} (h:kOf k=some i):∃ u q,k=some (.Constant (.int i) u q):=by
 cases k with
 | none=>exact nos h
 | some e =>
  cases e <;> first | exact nos h | skip
  rename_i c u q
  cases c <;> first | exact nos h | exact okE (R:=fun i=>∃ u q,some (Expr.Constant (.int _) _ _)=some (.Constant (.int i) u q)) h ⟨_,_,rfl⟩
set_option tactic.hygienic true in
theorem qNw {e:Expr} {s:Str} (h:vOf e=some s):∃ u q,e=.Constant (.str s) u q:=by
 cases e <;> first | exact nos h | skip
 rename_i c u q
 cases c <;> first | exact nos h | exact okE (R:=fun s=>∃ u q,Expr.Constant (.str _) _ _=.Constant (.str s) u q) h ⟨_,_,rfl⟩
theorem qGj {prog:Program} {w:World} {env:Env} (pos:Pos):∀ (ks:List (Option Expr)) (vs:List Expr) (ps:List (Int×Str)),qCY ks vs=some ps ->
 ∃ its,(evalEachOpt ks env).zip ((evalEach vs env).map fun v=>do let x ← v; standAt pos; pure x)=its.map (fun x=>(some x.1,x.2))/\ItemsOk prog w its ps:=by
 intro ks
 induction ks with
 | nil =>
  intro vs ps h
  refine gdE h fun hn q1_=>?_
  clear h
  cases q1_
  exact ⟨[],rfl,.nil⟩
 | cons k ks ih =>
  intro vs ps h
  refine qAC h fun v hv h=>qAC h fun i hi h=>qAC h fun x hx h=>qAC h fun r hr h=>?_
  cases h
  refine x21 (qNn hi) fun u0 q0 eq2=>?_
  clear h hi
  subst eq2
  refine x21 (qNw hx) fun u1 q1 eq2=>?_
  clear h hx
  subst eq2
  cases vs with
  | nil=>cases hv
  | cons v vs =>
   cases hv
   refine x12 (ih vs r hr) fun its h1 h2=>?_
   refine ⟨(eval (.Constant (.int i) u0 q0) env,do let x ← eval (.Constant (.str x) u1 q1) env; standAt pos; pure x)::its,?_,.cons ⟨fun A s Q E q=>wpAny_Constant_int (env:=env) (k:=u0) (pos:=q0) q,fun A s Q E q=>wpAny_bind (wpAny_Constant_str (env:=env) (k:=u1) (pos:=q1) (wpAny_bind (wpAny_standAt (wpAny_pure q))))⟩ h2⟩
   exact congrArg (List.cons _) h1
theorem qNQ:∀ (ps:List (Int×Str)) (a:Int),upTo a ps=true->(∀ p∈ps,a<p.1)/\(ps.map (·.1)).Nodup:=by
 intro L9
 induction L9 with
 | nil =>
  intro _ _
  exact ⟨fun p hp=>(nomatch hp),List.nodup_nil⟩
 | cons p r ih9 =>
  intro a h
  exact andE h fun hb q1_=>by
   clear h
   have hb:=of_decide_eq_true hb
   obtain ⟨h1,h2⟩:=ih9 p.1 q1_
   refine ⟨fun x hx=>?_,List.nodup_cons.mpr ⟨fun hm=>?_,h2⟩⟩
   · clear h2 q1_ ih9
     rcases List.mem_cons.mp hx with rfl | hx
     · exact hb
     · exact Int.lt_trans hb (h1 x hx)
   · refine x12 (List.mem_map.mp hm) fun x hx e=>?_
     exact Int.lt_irrefl _ (e ▸ h1 x hx)
theorem qID:∀ (l:List Obj) (n:Nat) (t t':BT) (life:Life),qKo l n t=some t'->absHeap t' (n+l.length) life=qAH (absHeap t n life) l:=by
 intro L9
 induction L9 with
 | nil =>
  intro n t t' life h
  cases h; exact (qCP _).symm
 | cons o r ih9 =>
  intro n t t' life h
  exact gdE h fun hb h=>by
   have:=ih9 (n+1) _ t' life h
   rw [show n+(o::r).length=n+1+r.length by simp; lia,this,absHeap_ins hb]
   have e:(absHeap t n life).push o=qAH (absHeap t n life) [o]:=by rw [show [o]=[]++[o] from rfl,← qDJ,qCP]
   rw [e]
   show (⟨(_++[o].toArray)++r.toArray,_⟩:Heap)=⟨_++(o::r).toArray,_⟩
   congr 1
   apply Array.toList_inj.mp
   simp
theorem qLs {ps:List (Int×Str)} {s s':SharedT} (h:qI2 ps s=some s'):sysModules<s.n/\(ps.map (·.1)).Nodup/\ps.length≤16777216/\ps≠[] /\
 s'.abs={ s.abs with heap:=qAH s.abs.heap (qGz ps s.toks).objs,toks:=(qGz ps s.toks).toks } :=
 gdE h fun hc q1_=>qAC q1_ fun t ht q2_=>andE hc fun hc c4=>andE hc fun hc c3=>andE hc fun c1 c2=>by
  clear h q1_
  cases q2_
  refine ⟨Nat.le_of_ble_eq_true c1,(qNQ ps _ c2).2,Nat.le_of_ble_eq_true c3,fun e=>(by rw [e] at c4; cases c4),?_⟩
  exact congrArg (fun q2_=>({ s.abs with heap:=q2_,toks:=(qGz ps s.toks).toks }:Shared)) (qID (qGz ps s.toks).objs s.n s.tree t s.life ht)
theorem qIW (P:Program):behindTheImports P=(behindTheImports P).take 8++((behindTheImports P).drop 8):=(List.take_append_drop 8 _).symm
theorem qMc {t:Expr} {n:Str×Pos} (h:nmOf t=some n):t=.Name n.1 n.2:=by
 cases t <;> first | exact nos h | exact okE (R:=fun n:Str×Pos=>Expr.Name _ _=.Name n.1 n.2) h rfl
theorem qM8 {t:Expr} {n:List (Option Expr)×List Expr×Pos} (h:dcOf t=some n):t=.Dict n.1 n.2.1 n.2.2:=by
 cases t <;> first | exact nos h | exact okE (R:=fun n:List (Option Expr)×List Expr×Pos=>Expr.Dict _ _ _=.Dict n.1 n.2.1 n.2.2) h rfl
theorem qNP {t:Stmt} {n:List Expr×Expr×Pos} (h:asOf t=some n):t=.Assign n.1 n.2.1 n.2.2:=by
 cases t <;> first | exact nos h | exact okE (R:=fun n:List Expr×Expr×Pos=>Stmt.Assign _ _ _=.Assign n.1 n.2.1 n.2.2) h rfl
theorem qK0 {P:Program} {d:S8} (h:stmt8 P=some d):(behindTheImports P).drop 8=.Assign [.Name d.x d.q] (.Dict d.ks d.vs d.dp) d.sp::(behindTheImports P).drop 9 :=
 qAC h fun s hs q1_=>qAC q1_ fun a ha q2_=>qAC q2_ fun t ht q3_=>qAC q3_ fun n hn q4_=>qAC q4_ fun dd hd q5_=>by
  clear h q1_ q2_ q3_ q4_
  cases q5_
  obtain ⟨hlt,he⟩:=List.getElem?_eq_some_iff.mp hs
  rw [List.drop_eq_getElem_cons hlt,he,qNP ha,one?_eq ht,qMc hn,qM8 hd]
theorem qNY {α:Type} {o:Option (Except Value α×Pos×SharedT)} {q:α×Pos×SharedT} (h:okOf o=some q):o=some (.ok q.1,q.2) :=
 qAC h fun r hr q1_=>by
  clear h
  obtain ⟨a,b⟩:=r
  cases a with
  | error=>exact nos q1_
  | ok a=>cases q1_; exact hr
theorem qFh {f:Flow} (h:qEf f=true):f=.next:=by
 cases f <;> first | rfl | cases h
theorem qLB {P:Program} {w:World} {n:Nat} {α:Type} {Γ:Ctx} {t:Sem α} {p:Pos} {s:SharedT} {q:α×Pos×SharedT} (h:okOf (ev den' P w n Γ t p s)=some q) {Q:α->Pos->Shared->Prop} {E:Value->Pos->Shared->Prop} (k:Q q.1 q.2.1 q.2.2.abs) :
 Sem.wp (model P w) Γ t Q E p s.abs:=by
 have hM:model P w=⟨den',P,w⟩:=by
  show (⟨denote table,P,w⟩:Model)=_
  rw [qOA]
 rw [hM]
 exact Sem.wp_mono _ _ _ (fun a p' s' h'=>by obtain ⟨e,rfl,rfl⟩:=h'; cases e; exact k) (fun a p' s' h'=>by obtain ⟨e,_,_⟩:=h'; cases e) _ _ ((qNI n).1 (qNY h))
theorem qM5 {P:Program} {w:World} {Γ:Ctx} {A:Around} (hin:Γ.In A) {d:S8} {ps:List (Int×Str)} (hps:qCY d.ks d.vs=some ps) {s1 s2:SharedT} (hd:qI2 ps s1=some s2) {env:Env} {Q:Flow->Pos->Shared->Prop} {E:Value->Pos->Shared->Prop} {p:Pos}
 (k:∀ p',Sem.wp (model P w) Γ (assign (.Name d.x d.q) env (.ref s1.n)) (fun _ p s=>Q .next p s) E p' s2.abs):Sem.wp (model P w) Γ (exec (.Assign [.Name d.x d.q] (.Dict d.ks d.vs d.dp) d.sp) env) Q E p s1.abs:=by
 refine cps fun X9 k9=>?_
 obtain ⟨d1,d2,d3,d4,d5⟩:=qLs hd
 obtain ⟨its,hi1,hi2⟩:=qGj (prog:=P) (w:=w) (env:=env) d.dp d.ks d.vs ps hps
 have hsize:s1.abs.heap.objs.size=s1.n:=absHeap_size _ _ _
 have D:=display (prog:=P) (w₀:=w) (A:=A) (E:=fun _ _=>False) (s₀:=s1.abs) (h₀:=s1.abs.heap) (by rw [hsize]; exact d1) d2 d3 d4 rfl hi2 rfl (Q:=fun v s=>v=.ref s1.n/\s=s2.abs) ⟨by rw [hsize]; rfl,d5.symm⟩
 refine k9 ?_
 clear k9
 rw [arm_exec_Assign,Sem.wp_bind',Sem.wp_cmd_standAt,Sem.wp_bind']
 show Sem.wp _ _ (pure false) _ _ _ _
 rw [Sem.wp_pure']
 show Sem.wp _ _ ((do standAt d.dp; dictDisplay ((evalEachOpt d.ks env).zip ((evalEach d.vs env).map fun v=>do let x ← v; standAt d.dp; pure x))) >>= _) _ _ _ _
 rw [Sem.wp_bind',Sem.wp_bind',Sem.wp_cmd_standAt,hi1]
 refine Sem.wp_mono _ _ _ (fun v p7 s7 h7=>?_) (fun e _ _ h'=>h'.elim) _ _ (D Γ d.dp hin)
 obtain ⟨rfl,rfl⟩:=h7
 rw [Sem.wp_bind']
 show Sem.wp _ _ (pure none) _ _ _ _
 rw [Sem.wp_pure']
 show Sem.wp _ _ (assign (.Name d.x d.q) env (.ref s1.n) >>= fun _=>pure Flow.next) _ _ _ _
 rw [Sem.wp_bind']
 exact Sem.wp_mono _ _ _ (fun _ _ _ h=>by rw [Sem.wp_pure']; exact h) (fun _ _ _ h=>h) _ _ (k p7)
theorem qN8 {M:Model} {Γ:Ctx} {a:Sem Value} {b:Value->Sem Addr} {k:Value->Addr->Sem Fin} {R:Fin->Pos->Shared->Prop} {E:Value->Pos->Shared->Prop} {p:Pos} {s:Shared} (h:Sem.wp M Γ (a >>= fun c=>b c >>= fun f=>pure (c,f)) (fun c p s=>Sem.wp M Γ (k c.1 c.2) R E p s) E p s):Sem.wp M Γ (a >>= fun c=>b c >>= fun f=>k c f) R E p s:=by
 rw [Sem.wp_bind'] at h ⊢
 refine Sem.wp_mono _ _ _ (fun c _ _ h=>?_) (fun _ _ _ h=>h) _ _ h
 rw [Sem.wp_bind'] at h ⊢
 refine Sem.wp_mono _ _ _ (fun f _ _ h=>?_) (fun _ _ _ h=>h) _ _ h
 rwa [Sem.wp_pure'] at h
theorem qMf {P:Program} {w:World} {Γ:Ctx} {A:Around} {env:Env} {pos:Pos} {s s2:SharedT} {b:Flow×Pos×SharedT} {d:S8} {ps:List (Int×Str)} (hin:Γ.In A)
 (hb:okOf (ev den' P w 20000 Γ (qDc ((behindTheImports P).take 8) env) pos s)=some b) (hn:qEf b.1=true) (hd:stmt8 P=some d) (hps:qCY d.ks d.vs=some ps) (hs2:qI2 ps b.2.2=some s2) {Q:Flow->Pos->Shared->Prop} {E:Value->Pos->Shared->Prop}
 (k:∀ p,Sem.wp (model P w) Γ (assign (.Name d.x d.q) env (.ref b.2.2.n)) (fun _ p s=>Sem.wp (model P w) Γ (execs ((behindTheImports P).drop 9) env) Q E p s) E p s2.abs) :
 Sem.wp (model P w) Γ (execs (behindTheImports P) env) Q E pos s.abs:=by
 rw [qIW]
 refine qDm _ _ _ _ ?_
 rw [qDv]
 refine qLB hb ?_
 rw [qFh hn]
 show Sem.wp _ _ (qDc _ _) _ _ _ _
 rw [← qDv,qK0 hd,execs_cons,Sem.wp_bind']
 exact qM5 hin hps hs2 k
theorem qMa {P:Program} (hann:hasAnns (behindTheImports P)=false) (hdoc:docOf (behindTheImports P)=none) {w:World} {s₀ s2:SharedT} {a:(Value×Addr)×Pos×SharedT} {b:Flow×Pos×SharedT} {d:S8} {ps:List (Int×Str)}
 (ha:okOf (preG P w s₀)=some a) (hb:okOf (ev den' P w 20000 (bodyΓ P a.1.1 a.1.2 a.2.1) (qDc ((behindTheImports P).take 8) (envG P a.1.1 a.1.2)) a.2.1 a.2.2)=some b) (hn:qEf b.1=true) (hd:stmt8 P=some d) (hps:qCY d.ks d.vs=some ps) (hs2:qI2 ps b.2.2=some s2) {R:Fin->Shared->Prop}
 (k:∀ p,∃ e,okOf (ev den' P w 20000 (bodyΓ P a.1.1 a.1.2 a.2.1) (assign (.Name d.x d.q) (envG P a.1.1 a.1.2) (.ref b.2.2.n)) p s2)=some e/\∃ f,okOf (ev den' P w 20000 (bodyΓ P a.1.1 a.1.2 a.2.1) (qDc ((behindTheImports P).drop 9) (envG P a.1.1 a.1.2)) e.2.1 e.2.2)=some f/\qEf f.1=true/\R (.done (.ret .none)) f.2.2.abs) :
 Sem.wp (model P w) Γ0 (topStub P).cur (fun f _ s=>R f s) (fun _ _ _=>False) default s₀.abs:=by
 show Sem.wp _ _ (moduleCode P.main >>= fun code=>newBodyFrame code mainNs mainNs >>= fun frame=>run (.body (behindTheImports P) (envG P code frame)) >>= fun _=>ret .none) _ _ _ _
 rw [PySem.W.Fast.te17154629097778926822,PySem.W.Fast.te12822647523644345616]
 refine qN8 (qLB ha ?_)
 rw [Sem.wp_bind',Sem.wp_run,wpCode_iff_wp]
 show Sem.wp _ (bodyΓ P a.1.1 a.1.2 a.2.1) (do blockStart (behindTheImports P) (envG P a.1.1 a.1.2); return Fin.done (← (execs (behindTheImports P) (envG P a.1.1 a.1.2)).onRaise (leaving (envG P a.1.1 a.1.2)))) _ _ _ _
 have hbs:blockStart (behindTheImports P) (envG P a.1.1 a.1.2)=pure ():=by
  delta blockStart
  rw [hann,hdoc]
  cases interactive (envG P a.1.1 a.1.2) <;> rfl
 rw [hbs,Sem.wp_bind',Sem.wp_pure',Sem.wp_bind',Sem.wp_onRaise]
 refine qMf (caller_in.enter (.body (behindTheImports P) (envG P a.1.1 a.1.2)) none a.2.1 (by intro x; cases x)).in hb hn hd hps hs2 fun p=>?_
 refine (k p).elim fun e h=>qLB h.1 (h.2.elim fun f h=>?_)
 rw [qDv]
 refine qLB h.1 ?_
 rw [qFh h.2.1,Sem.wp_pure']
 exact h.2.2
theorem qNN {P:Program} (hann:hasAnns (behindTheImports P)=false) (hdoc:docOf (behindTheImports P)=none) {w:World} {s₀:SharedT} {Pp:SharedT->Prop} (h:∀ p,∃ S,qLL P w s₀ p=some S/\Pp S) :
 Sem.wp (model P w) Γ0 (topStub P).cur (fun f _ s=>f=.done (.ret .none)/\∃ S:SharedT,s=S.abs/\Pp S) (fun _ _ _=>False) default s₀.abs :=
 (h default).elim fun S hS=>qAC hS.1 fun g hg _=>qAC hg fun a ha hg'=>qAC hg' fun b hb hg'=>gdE hg' fun hn hg'=>qAC hg' fun d hd hg'=>qAC hg' fun ps hps hg'=>qAC hg' fun s2 hs2 hg' =>
   qMa (R:=fun f s=>f=.done (.ret .none)/\∃ S:SharedT,s=S.abs/\Pp S) hann hdoc ha hb hn hd hps hs2 fun p=>(h p).elim fun S hS=>by
    obtain ⟨h1,h2⟩:=hS
    unfold qLL at h1
    rw [hg] at h1
    clear hs2 hps hd hb ha hg
    cases hg'
    exact qAC (show qNu P w _ p=some S from h1) fun e he h1=>qAC h1 fun f hf h1=>gdE h1 fun hn h1=>⟨e,he,f,hf,hn,rfl,_,rfl,(Option.some.inj h1).symm ▸ h2⟩
theorem qG9 {M:Model} {t:Sem Fin} {s:Shared} {Pp:Shared->Prop} (hr:s.asleep)
 (h:Sem.wp M Γ0 t (fun f _ s'=>f=.done (.ret .none)/\Pp s') (fun _ _ _=>False) default s) (hg:∀ s',Pp s'->s'.gens=#[]) :
 ∃ n t1 σ,schedN M.den M.prog M.w n (.single s ⟨t,.builtin "claim.caller" {},default,[]⟩)=.running (.single σ t1)/\through t1=true/\Pp σ/\σ.heap.life=s.heap.life:=by
 refine cps fun X9 k9=>?_
 have h0:Sem.wp M ⟨.builtin "claim.caller" {},none,none,[],none⟩ t (Sem.finPost M ⟨.builtin "claim.caller" {},none,none,[],none⟩ fun r s'=>Pp s'/\leftWithCleanup s'.gens=false) (fun e _ s'=>Pp s'/\leftWithCleanup s'.gens=false) default s:=by
  refine Sem.wp_mono _ _ _ (fun f p s' h'=>?_) (fun _ _ _ h'=>h'.elim) _ _ h
  obtain ⟨rfl,hp⟩:=h'
  exact ⟨hp,by rw [hg _ hp]; simp [leftWithCleanup]⟩
 refine x32 ((wp_iff_halts t (fun _ s'=>Pp s') default s).mp h0) fun n0 r0 s0' hn0 hR0=>?_
 refine x13 (runNI_real M.den M.prog M.w hn0 (outcomeOf_ends r0)) fun s'' hn hf hc=>?_
 have hne:∀ k s₂,PySem.runN M.den M.prog M.w k s ⟨t,.builtin "claim.caller" {},default,[]⟩≠.halted (.unsupported "lifetime:generator-with-cleanup-left-suspended") s₂:=by
  intro k s₂ hk
  have a:=runN_mono M.den M.prog M.w n0 k s _ _ s'' hn
  have b:=runN_mono M.den M.prog M.w k n0 s _ _ s₂ hk
  rw [Nat.add_comm,b] at a
  injection a with a1 _
  have:=outcomeOf_ends r0
  rw [← a1] at this
  cases this
 refine x53 (wp_reaches h) fun n s' σ p' leaf hrun hfo hl=>?_
 have hs:=schedN_eq_runN M.den M.prog M.w s _ hr ⟨hc,hne⟩ n
 refine k9 ?_
 clear k9
 rw [hrun] at hs
 rcases hl with ⟨a,rfl,rfl,hp⟩ | ⟨e,_,he⟩
 · have hgs:=hg _ hp
   refine cps fun X9 k9=>?_
   obtain ⟨h1,g1,d1,t1,o1⟩:=σ
   obtain ⟨h2,g2,d2,t2,o2⟩:=s'
   have hgs:g2=#[]:=hgs
   refine k9 ?_
   clear k9
   subst hgs
   have e1:h1=h2:=congrArg Shared.heap hfo
   have e2:g1.map GenState.forget=(#[]:Array GenState).map GenState.forget:=congrArg Shared.gens hfo
   have e3:d1=d2:=congrArg Shared.drawn hfo
   have e4:t1=t2:=congrArg Shared.toks hfo
   have e5:o1=o2:=congrArg Shared.os hfo
   have e6:g1=#[]:=by
    have:=congrArg Array.size e2
    simp at this
    exact this
   clear e2 hfo hgs hne hc hf hn hR0 hn0 h0 hg h hr
   subst e1 e3 e4 e5 e6
   exact ⟨n,_,_,hs,rfl,hp,runN_life_running hrun⟩
 · exact he.elim
structure TopFacts (P:Program) (s₀ s:Shared):Prop where
 gens:s.gens=#[]
 os:s.os=s₀.os
 old:∀ b,b<s₀.heap.objs.size->b≠mainNs->b≠cStatics->s.heap.get? b=s₀.heap.get? b
 statics:staticsOk (importedModules P.main.body) s₀.heap s.heap=true
 acc:s.heap.accountedOkI (importedModules P.main.body)=true
 g:s.heap.isNs mainGlobals=true
 b:s.heap.isNs builtinsNs=true
 blt:s.heap.bltView=bltViewBooted
 bmain:s.heap.bmainOk=true
 bound:namesBound P s.heap=true
 laid:laidKept s₀.heap s.heap=true
theorem qMi {P:Program} {w:World} {s₀:Shared} {Pp:Shared->Prop} (hr:s₀.asleep) (h:Sem.wp (model P w) Γ0 (topStub P).cur (fun f _ s=>f=.done (.ret .none)/\(TopFacts P s₀ s/\Pp s)) (fun _ _ _=>False) default s₀) :
 ∃ s₁,TopRan P w s₀ s₁/\s₁.asleep/\s₁.gens=#[]/\s₁.heap.isNs mainGlobals=true/\Pp s₁:=by
 refine cps fun X9 k9=>?_
 obtain ⟨n,t1,σ,hs,ht,⟨F,hp⟩,hl⟩:=qG9 (M:=model P w) hr h fun s' h=>h.1.gens
 have g2:staticsAccountedI σ.heap (importedModules P.main.body):=Heap.accountedI_of_ok F.acc
 have g3:keysAreStrs σ.heap mainNs:=Pin.keysAreStrs_of F.g
 have g4:builtinsAsBooted σ.heap:=fun x hx=>(Pin.builtinOf_eq F.b x).trans (Heap.of_bltView F.b F.blt x hx)
 have g5:builtinsGlobalAsBooted σ.heap:=by
  refine x26 (Heap.bmainOk_spec F.bmain) fun bm ob a _ c d f _=>?_
  exact ⟨bm,ob,(Pin.globalOf_eq F.g _).trans a,c,d,f⟩
 refine k9 ?_
 clear k9
 refine ⟨σ,⟨⟨n,t1,hs,ht⟩,hl,Shared.rest_eq F.os,fun b o hb hn=>?_,g2,statics_of_ok F.statics,g3,g4,g5,fun g hg=>?_,names_of_bound F.bound,laid_of_kept F.laid⟩,Shared.asleep_of_life hl hr,F.gens,F.g,hp⟩
 · rw [F.old b (Heap.lt_size hb) (fun q=>hn (.inl q)) (fun q=>hn (.inr (.inl q)))]; exact hb
 · rw [F.gens] at hg; simp at hg
theorem opened {P:Program} {N:Nat} {H:Params->Heap} {d:Drawn} {k:Nat} (hb:∀ w:World,(fencedOpening treeTable P w N).map (fun s=>(s.heap,s.gens,s.drawn,s.toks))=some (H w.params,Array.mk [],d,k)) (w:World) :
 (∃ s,AfterRun (opening P) w s)/\∀ s,AfterRun (opening P) w s->∃ os,fenceModules? P s=some ⟨H w.params,#[],d,k,os⟩/\(⟨H w.params,#[],d,k,os⟩:Shared).asleep:=by
 refine x12 (Option.map_eq_some_iff.mp (hb w)) fun s₀ h2 h3=>?_
 rw [← table_eq_tree] at h2
 refine x12 (Option.bind_eq_some_iff.mp h2) fun s h4 h5=>?_
 have A:=AfterImport.of_importEnds h4
 refine ⟨⟨s,A⟩,fun s' hs'=>?_⟩
 clear h4 h2 hb
 obtain rfl:s'=s:=AfterImport.unique hs' A
 have z:s₀.asleep:=Shared.asleep_of_life (fence_lifeW h5) A.life
 obtain ⟨h,g,dd,tk,os⟩:=s₀
 simp only [Prod.mk.injEq] at h3
 obtain ⟨rfl,rfl,rfl,rfl⟩:=h3
 exact ⟨os,h5,z⟩
inductive D where
 | none | bool (b:Bool) | int (i:Int) | str (s:List Nat) | list (xs:List D) | tup (xs:List D) | rng (a b:Int)
 deriving Inhabited
noncomputable abbrev Fz:=Addr->Option Obj
mutual
inductive Rep (B:Fz):Value->D->Prop
 | none:Rep B .none .none
 | bool (b):Rep B (.bool b) (.bool b)
 | int (i t):Rep B (.int i t) (.int i)
 | str (s t):Rep B (.str ⟨List.toArray s⟩ t) (.str s)
 | list {a o vs n xs}:B a=some o->o.cls=.type "list" -> o.data=.seq vs n->RepL B vs.toList xs->Rep B (.ref a) (.list xs)
 | tup {a o vs n xs}:B a=some o->o.cls=.type "tuple" -> o.data=.seq vs n->RepL B vs.toList xs->Rep B (.ref a) (.tup xs)
 | rng {a x y t u v}:B a=some { cls:=.type "range",data:=.fields #[.int x t,.int y u,.int 1 v] }->Rep B (.ref a) (.rng x y)
inductive RepL (B:Fz):List Value->List D->Prop
 | nil:RepL B [] []
 | cons {v d vs ds}:Rep B v d->RepL B vs ds->RepL B (v::vs) (d::ds)
end
theorem Rep.mono {B B':Fz} (h:∀ a o,B a=some o->B' a=some o) {v:Value} {d:D} (r:Rep B v d):Rep B' v d :=
 Rep.rec (motive_1:=fun v d _=>Rep B' v d) (motive_2:=fun vs ds _=>RepL B' vs ds) .none .bool .int .str (fun e1 e2 e3 _ r=>.list (h _ _ e1) e2 e3 r) (fun e1 e2 e3 _ r=>.tup (h _ _ e1) e2 e3 r) (fun e=>.rng (h _ _ e)) .nil (fun _ _ r s=>.cons r s) r
theorem RepL.ind {B:Fz} {P:List Value->List D->Prop} {vs:List Value} {ds:List D} (r:RepL B vs ds) (nil:P [] []) (cons:∀ {v d vs ds},Rep B v d->RepL B vs ds->P vs ds->P (v::vs) (d::ds)):P vs ds :=
 RepL.rec (motive_1:=fun _ _ _=>True) (motive_2:=fun vs ds _=>P vs ds) trivial (fun _=>trivial) (fun _ _=>trivial) (fun _ _=>trivial) (fun _ _ _ _ _=>trivial) (fun _ _ _ _ _=>trivial) (fun _=>trivial) nil (fun x r _ s=>cons x r s) r
theorem RepL.mono {B B':Fz} (h:∀ a o,B a=some o->B' a=some o) {v:List Value} {d:List D} (r:RepL B v d):RepL B' v d:=r.ind .nil fun x _ s=>.cons (x.mono h) s
theorem RepL.length {B:Fz} {vs:List Value} {ds:List D} (r:RepL B vs ds):vs.length=ds.length:=r.ind (P:=fun vs ds=>vs.length=ds.length) rfl fun _ _ e=>congrArg (· + 1) e
theorem RepL.append {B:Fz} {vs ws:List Value} {ds es:List D} (r:RepL B vs ds) (q:RepL B ws es):RepL B (vs++ws) (ds++es):=r.ind (P:=fun vs ds=>RepL B (vs++ws) (ds++es)) q fun x _ s=>.cons x s
theorem RepL.get {B:Fz} {vs:List Value} {ds:List D} {i:Nat} {d:D} (r:RepL B vs ds):ds[i]?=some d->∃ v,vs[i]?=some v/\Rep B v d:=by
 refine r.ind (P:=fun vs ds=>∀ i:Nat,ds[i]?=some d->∃ v,vs[i]?=some v/\Rep B v d) (fun _ h=>nomatch h) (fun x _ ih i h=>?_) i
 cases i with
 | zero=>cases h; exact ⟨_,rfl,x⟩
 | succ i=>exact ih i h
theorem RepL.getV {B:Fz} {vs:List Value} {ds:List D} {i:Nat} {v:Value} (r:RepL B vs ds):vs[i]?=some v->∃ d,ds[i]?=some d/\Rep B v d:=by
 refine r.ind (P:=fun vs ds=>∀ i:Nat,vs[i]?=some v->∃ d,ds[i]?=some d/\Rep B v d) (fun _ h=>nomatch h) (fun x _ ih i h=>?_) i
 cases i with
 | zero=>cases h; exact ⟨_,rfl,x⟩
 | succ i=>exact ih i h
theorem RepL.take {B:Fz} (n:Nat) {vs:List Value} {ds:List D} (r:RepL B vs ds):RepL B (vs.take n) (ds.take n):=by
 refine r.ind (P:=fun vs ds=>∀ n:Nat,RepL B (vs.take n) (ds.take n)) (fun n=>by rw [List.take_nil,List.take_nil]; exact .nil) (fun x _ ih n=>?_) n
 cases n with
 | zero=>exact .nil
 | succ n=>exact .cons x (ih n)
theorem RepL.drop {B:Fz} (n:Nat) {vs:List Value} {ds:List D} (r:RepL B vs ds):RepL B (vs.drop n) (ds.drop n):=by
 refine r.ind (P:=fun vs ds=>∀ n:Nat,RepL B (vs.drop n) (ds.drop n)) (fun n=>by rw [List.drop_nil,List.drop_nil]; exact .nil) (fun x r ih n=>?_) n
 cases n with
 | zero=>exact .cons x r
 | succ n=>exact ih n
theorem RepL.reverse {B:Fz} {vs:List Value} {ds:List D} (r:RepL B vs ds):RepL B vs.reverse ds.reverse :=
 r.ind (P:=fun vs ds=>RepL B vs.reverse ds.reverse) .nil fun x _ s=>by rw [List.reverse_cons,List.reverse_cons]; exact s.append (.cons x .nil)
inductive OO where
 | lst (xs:List D) | fro (xs:List D) | lex (pb:List (List Nat)) (sg:List Nat) | fac
 deriving Inhabited
inductive Slot where
 | unb | dat (d:D) | loc (k:Nat)
 deriving Inhabited
set_option genInjectivity false in
structure LexP where
 P:Fz->Heap->Addr->List Addr->List (List Nat)->List Nat->Prop
 stable:∀ {B B':Fz} {h h':Heap} {a:Addr} {fp:List Addr} {pb:List (List Nat)} {sg:List Nat},P B h a fp pb sg->(∀ a o,B a=some o->B' a=some o) ->
  (∀ a∈fp,∀ o,h.get? a=some o->h'.get? a=some o)->P B' h' a fp pb sg
 alive:∀ {B:Fz} {h:Heap} {a:Addr} {fp:List Addr} {pb:List (List Nat)} {sg:List Nat},P B h a fp pb sg->∀ b∈fp,∃ o,h.get? b=some o
 T:Fz->Heap->Addr->List Addr->Prop
 stableT:∀ {B B':Fz} {h h':Heap} {a:Addr} {fp:List Addr},T B h a fp->(∀ a o,B a=some o->B' a=some o)->(∀ a∈fp,∀ o,h.get? a=some o->h'.get? a=some o)->T B' h' a fp
 aliveT:∀ {B:Fz} {h:Heap} {a:Addr} {fp:List Addr},T B h a fp->∀ b∈fp,∃ o,h.get? b=some o
noncomputable def OOAt (lp:LexP) (B:Fz) (h:Heap) (p:Addr×List Addr):OO->Prop
 | .lst xs=>p.2=[p.1]/\∃ vs:Array Value,h.PlainList p.1 vs/\RepL B vs.toList xs
 | .fro xs=>p.2=[]/\Rep B (.ref p.1) (.list xs)
 | .lex pb sg=>lp.P B h p.1 p.2 pb sg
 | .fac=>lp.T B h p.1 p.2
theorem OOAt.stable {lp:LexP} {B B':Fz} {h h':Heap} {p:Addr×List Addr} {x:OO} (H:OOAt lp B h p x) (hb:∀ a o,B a=some o->B' a=some o)
 (hk:∀ a∈p.2,∀ o,h.get? a=some o->h'.get? a=some o):OOAt lp B' h' p x:=by
 cases x with
 | lst xs=>obtain ⟨e,vs,l,r⟩:=H; exact ⟨e,vs,l.at (fun o ho=>hk _ (by rw [e]; exact .head _) o ho),r.mono hb⟩
 | fro xs=>exact ⟨H.1,H.2.mono hb⟩
 | lex pb sg=>exact lp.stable H hb hk
 | fac=>exact lp.stableT H hb hk
theorem OOAt.alive {lp:LexP} {B:Fz} {h:Heap} {p:Addr×List Addr} {x:OO} (H:OOAt lp B h p x):∀ b∈p.2,∃ o,h.get? b=some o:=by
 cases x with
 | lst xs =>
  refine cps fun X9 k9=>?_
  obtain ⟨e,vs,⟨n,ho⟩,r⟩:=H
  refine k9 ?_
  clear k9
  intro b hb; rw [e] at hb; simp at hb; subst hb; exact ⟨_,ho⟩
 | fro xs=>intro b hb; rw [H.1] at hb; simp at hb
 | lex pb sg=>exact lp.alive H
 | fac=>exact lp.aliveT H
set_option genInjectivity false in
structure St where
 B:Fz
 own:List (Addr×List Addr)
 s:Shared
noncomputable abbrev St.h (S:St):Heap:=S.s.heap
noncomputable def St.fps (S:St):List Addr:=(S.own.map (·.2)).flatten
theorem St.mem_fps {S:St} {a:Addr}:a∈S.fps ↔ ∃ (k:Nat) (p:Addr×List Addr),S.own[k]?=some p/\a∈p.2:=by
 unfold St.fps
 constructor
 · intro h
   refine x12 (List.mem_flatten.mp h) fun l hl ha=>?_
   refine x12 (List.mem_map.mp hl) fun p hp eq2=>?_
   clear hl
   subst eq2
   obtain ⟨k,hk⟩:=List.mem_iff_getElem?.mp hp
   exact ⟨k,p,hk,ha⟩
 · refine fun h9=>x22 h9 fun k p hk ha=>?_
   exact List.mem_flatten.mpr ⟨_,List.mem_map.mpr ⟨p,List.mem_of_getElem? hk,rfl⟩,ha⟩
structure Ok (lp:LexP) (hb:Heap) (S:St) (ω:List OO):Prop where
 base:∀ a o,hb.get? a=some o->S.B a=some o
 sub:∀ a o,S.B a=some o->S.h.get? a=some o
 len:S.own.length=ω.length
 at_:∀ (k:Nat) (p:Addr×List Addr) (x:OO),S.own[k]?=some p->ω[k]?=some x->OOAt lp S.B S.h p x
 nodup:S.fps.Nodup
 apart:∀ a∈S.fps,S.B a=none
theorem Ok.heap {lp:LexP} {hb:Heap} {S:St} {ω:List OO} (O:Ok lp hb S ω):∀ a o,hb.get? a=some o->S.h.get? a=some o:=fun a o e=>O.sub _ _ (O.base _ _ e)
theorem Ok.fpAlive {lp:LexP} {hb:Heap} {S:St} {ω:List OO} (O:Ok lp hb S ω) {a:Addr} (h:a∈S.fps):∃ o,S.h.get? a=some o:=by
 refine x22 (St.mem_fps.mp h) fun k p hp ha=>?_
 have hk:k<S.own.length:=(List.getElem?_eq_some_iff.mp hp).1
 obtain ⟨x,hx⟩:∃ x,ω[k]?=some x:=⟨ω[k]'(O.len ▸ hk),List.getElem?_eq_getElem _⟩
 exact (O.at_ k p x hp hx).alive a ha
theorem Ok.bNone {lp:LexP} {hb:Heap} {S:St} {ω:List OO} (O:Ok lp hb S ω) {a:Addr} (h:S.h.get? a=none):S.B a=none:=by
 cases e:S.B a with
 | none=>rfl
 | some o=>rw [O.sub _ _ e] at h; cases h
theorem Ok.fpNone {lp:LexP} {hb:Heap} {S:St} {ω:List OO} (O:Ok lp hb S ω) {a:Addr} (h:S.h.get? a=none):a ∉ S.fps:=fun q=>by
 obtain ⟨o,e⟩:=O.fpAlive q; rw [h] at e; cases e
structure LeX (X:Addr->Prop) (S S':St):Prop where
 sh:∃ h tk,S'.s={ S.s with heap:=h,toks:=tk }
 alive:∀ a o,S.h.get? a=some o->∃ o',S'.h.get? a=some o'
 keep:∀ a o,S.h.get? a=some o->a ∉ S.fps->¬ X a->S'.h.get? a=some o
 sub:∀ a o,S.B a=some o->S'.B a=some o
 newB:∀ a o,S'.B a=some o->S.B a=some o\/a∈S.fps\/S.h.get? a=none
 own:∀ (k:Nat) (p:Addr×List Addr),S.own[k]?=some p->∃ p',S'.own[k]?=some p'/\p'.1=p.1
 newF:∀ a∈S'.fps,a∈S.fps\/S.h.get? a=none
noncomputable abbrev Le:=LeX (fun _=>False)
theorem LeX.none {X:Addr->Prop} {S S':St} (a:LeX X S S') {x:Addr} (h:S'.h.get? x=none):S.h.get? x=none:=by
 cases e:S.h.get? x with
 | none=>rfl
 | some o=>obtain ⟨o',e'⟩:=a.alive x o e; rw [h] at e'; cases e'
theorem LeX.refl (X:Addr->Prop) (S:St):LeX X S S :=
 ⟨⟨S.s.heap,S.s.toks,rfl⟩,fun _ o e=>⟨o,e⟩,fun _ _ e _ _=>e,fun _ _ e=>e,fun _ _ e=>.inl e,fun _ p e=>⟨p,e,rfl⟩,fun _ e=>.inl e⟩
theorem LeX.trans' {X Y:Addr->Prop} {S S' S'':St} (a:LeX Y S S') (b:LeX X S' S'') (h:∀ x o,S.h.get? x=some o->X x->Y x):LeX Y S S'':=by
 refine x21 a.sh fun h1 t1 e1=>?_
 refine x21 b.sh fun h2 t2 e2=>?_
 refine ⟨⟨h2,t2,by rw [e2,e1]⟩,fun x o e=>?_,fun x o e nf nx=>?_,fun x o e=>b.sub _ _ (a.sub _ _ e),fun x o e=>?_,fun k p e=>?_,fun x e=>?_⟩
 · obtain ⟨o',e'⟩:=a.alive x o e
   exact b.alive x o' e'
 · refine b.keep x o (a.keep x o e nf nx) (fun hm=>?_) (fun hx=>nx (h x o e hx))
   rcases a.newF x hm with q | q
   · exact nf q
   · rw [q] at e; cases e
 · rcases b.newB x o e with q | q | q
   · exact a.newB x o q
   · rcases a.newF x q with r | r
     · exact .inr (.inl r)
     · exact .inr (.inr r)
   · exact .inr (.inr (a.none q))
 · refine x12 (a.own k p e) fun p1 q1 r1=>?_
   refine x12 (b.own k p1 q1) fun p2 q2 r2=>?_
   exact ⟨p2,q2,r2.trans r1⟩
 · rcases b.newF x e with q | q
   · exact a.newF x q
   · exact .inr (a.none q)
theorem LeX.trans {X:Addr->Prop} {S S' S'':St} (a:LeX X S S') (b:LeX X S' S''):LeX X S S'':=a.trans' b fun _ _ _ h=>h
theorem LeX.weaken {X Y:Addr->Prop} {S S':St} (a:LeX X S S') (h:∀ x o,S.h.get? x=some o->X x->Y x):LeX Y S S' :=
 ⟨a.sh,a.alive,fun x o e nf ny=>a.keep x o e nf (fun hx=>ny (h x o e hx)),a.sub,a.newB,a.own,a.newF⟩
noncomputable def SlotV (S:St):Slot->Option Value->Prop
 | .unb,_=>True
 | .dat d,ov=>∃ v,ov=some v/\Rep S.B v d
 | .loc k,ov=>∃ p,S.own[k]?=some p/\ov=some (.ref p.1)
theorem SlotV.mono {X:Addr->Prop} {S S':St} {x:Slot} {ov:Option Value} (H:SlotV S x ov) (L:LeX X S S'):SlotV S' x ov:=by
 cases x with
 | unb=>trivial
 | dat d=>obtain ⟨v,e,r⟩:=H; exact ⟨v,e,r.mono L.sub⟩
 | loc k=>obtain ⟨p,e,r⟩:=H; obtain ⟨p',e',q⟩:=L.own k p e; exact ⟨p',e',by rw [q]; exact r⟩
noncomputable def Holds (env:Env) (a:Addr):Prop:=a=env.locals\/∃ x,(x,a)∈env.cells
structure FrOk (tbl:List Str) (env:Env) (σ:List Slot) (S:St):Prop where
 kind:env.scope.kind=.function
 glob:env.globals=mainGlobals
 blt:env.builtins=builtinsNs
 size:σ.length=tbl.length
 loc:∃ m,S.h.Ns env.locals m/\∀ (k:Nat) x sl,tbl[k]?=some x->σ[k]?=some sl->env.kindOf x=some .local->SlotV S sl (m x)
 cel:∀ (k:Nat) x sl,tbl[k]?=some x->σ[k]?=some sl->env.kindOf x=some .cell\/env.kindOf x=some .free->∃ c v,env.cells.lookup x=some c/\S.h.IsCell c v/\SlotV S sl v
 hold:∀ a,Holds env a->S.B a=none/\a ∉ S.fps/\∃ o,S.h.get? a=some o
 apart:∀ x c,(x,c)∈env.cells->c≠env.locals
 inj:∀ x y c,(x,c)∈env.cells->(y,c)∈env.cells->x=y
 tblInj:tbl.Nodup
theorem qAw {α:Type}:∀ {l:List (Str×α)} {n:Str} {c:α},l.lookup n=some c->(n,c)∈l:=mem_of_lookup
theorem FrOk.le {tbl:List Str} {env:Env} {σ:List Slot} {S S':St} {X:Addr->Prop} (F:FrOk tbl env σ S) (L:LeX X S S') (hX:∀ a,Holds env a->¬ X a):FrOk tbl env σ S':=by
 have hk:∀ a,Holds env a->∀ o,S.h.get? a=some o->S'.h.get? a=some o:=fun a ha o e=>L.keep a o e (F.hold a ha).2.1 (hX a ha)
 refine ⟨F.kind,F.glob,F.blt,F.size,?_,?_,?_,F.apart,F.inj,F.tblInj⟩
 · refine x12 F.loc fun m hn hs=>?_
   exact ⟨m,hn.at' (hk _ (.inl rfl)),fun k x sl h1 h2 h3=>(hs k x sl h1 h2 h3).mono L⟩
 · intro k x sl h1 h2 h3
   refine cps fun X9 k9=>?_
   obtain ⟨c,v,hc,⟨o,ho,hd⟩,hs⟩:=F.cel k x sl h1 h2 h3
   refine k9 ?_
   clear k9
   exact ⟨c,v,hc,⟨o,hk _ (.inr ⟨x,qAw hc⟩) o ho,hd⟩,hs.mono L⟩
 · intro a ha
   refine x03 (F.hold a ha) fun h1 h2 r9=>x11 r9 fun o₃ h3=>?_
   refine ⟨?_,fun hm=>?_,L.alive a o₃ h3⟩
   · cases e:S'.B a with
     | none=>rfl
     | some o =>
      rcases L.newB a o e with q | q | q
      · rw [h1] at q; cases q
      · exact absurd q h2
      · rw [q] at h3; cases h3
   · rcases L.newF a hm with q | q
     · exact h2 q
     · rw [q] at h3; cases h3
theorem qFv {A F B:List Addr} (h:(A++F++B).Nodup):∀ x∈F,x ∉ A/\x ∉ B:=fun x hx=>by
 rw [List.append_assoc,List.nodup_append] at h
 refine x03 h fun _ h2 h3=>?_
 exact ⟨fun q=>h3 x q x (List.mem_append_left _ hx) rfl,fun q=>(List.nodup_append.mp h2).2.2 x hx x q rfl⟩
section
variable {lp:LexP} {hb:Heap} {S:St} {ω:List OO}
theorem Ok.quiet (O:Ok lp hb S ω) {h':Heap} {tk:Nat} (k:∀ b o,S.h.get? b=some o->h'.get? b=some o) :
 Ok lp hb { S with s:={ S.s with heap:=h',toks:=tk } } ω/\Le S { S with s:={ S.s with heap:=h',toks:=tk } }:=by
 refine ⟨⟨O.base,fun a o e=>k _ _ (O.sub _ _ e),O.len,fun i p x h1 h2=>(O.at_ i p x h1 h2).stable (fun _ _ e=>e) (fun a ha o e=>k _ _ e),O.nodup,O.apart⟩,
  ⟨⟨h',tk,rfl⟩,fun a o e=>⟨o,k _ _ e⟩,fun a o e _ _=>k _ _ e,fun _ _ e=>e,fun _ _ e=>.inl e,fun _ p e=>⟨p,e,rfl⟩,fun a e=>.inl e⟩⟩
theorem Ok.tok (O:Ok lp hb S ω) {tk:Nat}:Ok lp hb { S with s:={ S.s with toks:=tk } } ω/\Le S { S with s:={ S.s with toks:=tk } } :=
 O.quiet (h':=S.s.heap) (tk:=tk) fun _ _ e=>e
noncomputable def Fz.put (B:Fz) (a:Addr) (o:Obj):Fz:=fun b=>if b=a then some o else B b
theorem Fz.put_self (B:Fz) (a:Addr) (o:Obj):B.put a o a=some o:=by simp [Fz.put]
theorem Fz.put_of {B:Fz} {a b:Addr} {o o':Obj} (n:B a=none) (h:B b=some o'):B.put a o b=some o':=by
 unfold Fz.put
 by_cases e:b=a
 · subst e; rw [n] at h; cases h
 · rw [if_neg e]; exact h
theorem Fz.put_cases {B:Fz} {a b:Addr} {o o':Obj} (h:B.put a o b=some o'):(b=a/\o'=o)\/B b=some o':=by
 unfold Fz.put at h
 by_cases e:b=a
 · rw [if_pos e] at h; exact .inl ⟨e,(Option.some.inj h).symm⟩
 · rw [if_neg e] at h; exact .inr h
theorem Ok.freeze (O:Ok lp hb S ω) {a:Addr} {o:Obj} (ha:S.h.get? a=some o) (hB:S.B a=Option.none) (hf:a ∉ S.fps) :
 Ok lp hb { S with B:=S.B.put a o } ω:=by
 refine ⟨fun b o' e=>Fz.put_of hB (O.base _ _ e),fun b o' e=>?_,O.len,fun i p x h1 h2=>(O.at_ i p x h1 h2).stable (fun _ _ e=>Fz.put_of hB e) (fun _ _ _ e=>e),O.nodup,fun b hb'=>?_⟩
 · clear hf hB
   rcases Fz.put_cases e with ⟨rfl,rfl⟩ | e
   · exact ha
   · exact O.sub _ _ e
 · unfold Fz.put
   have:b≠a:=by rintro rfl; exact hf hb'
   simp only [this,if_false]
   exact O.apart b hb'
theorem LeX.freeze {X:Addr->Prop} {S S':St} (L:LeX X S S') {a:Addr} {o:Obj} (hn:S.h.get? a=Option.none) (hB:S'.B a=Option.none):LeX X S { S' with B:=S'.B.put a o } :=
 ⟨L.sh,L.alive,L.keep,fun _ _ e=>Fz.put_of hB (L.sub _ _ e),fun b o' e=>by
   clear hB
   rcases Fz.put_cases e with ⟨rfl,rfl⟩ | e
   · exact .inr (.inr hn)
   · exact L.newB _ _ e,L.own,L.newF⟩
theorem qHP {B:Fz} {a:Addr} {o:Obj} (h:B a=none):∀ b o',B b=some o'->B.put a o b=some o':=fun _ _ e=>Fz.put_of h e
theorem Ok.addOwn (O:Ok lp hb S ω) {p:Addr×List Addr} {x:OO} (hx:OOAt lp S.B S.h p x) (hB:∀ a∈p.2,S.B a=none) (hf:∀ a∈p.2,a ∉ S.fps) (hn:p.2.Nodup) :
 Ok lp hb { S with own:=S.own++[p] } (ω++[x]):=by
 have hfps:({ S with own:=S.own++[p] }:St).fps=S.fps++p.2:=by simp [St.fps]
 refine ⟨O.base,O.sub,by simp [O.len],fun i q y h1 h2=>?_,?_,fun a ha=>?_⟩
 · by_cases hi:i<S.own.length
   · have h1':(S.own++[p])[i]?=some q:=h1
     rw [List.getElem?_append_left hi] at h1'
     rw [List.getElem?_append_left (O.len ▸ hi)] at h2
     exact O.at_ i q y h1' h2
   · have h1':(S.own++[p])[i]?=some q:=h1
     rw [List.getElem?_append_right (Nat.le_of_not_lt hi)] at h1'
     rw [List.getElem?_append_right (O.len ▸ Nat.le_of_not_lt hi)] at h2
     have e1:i-S.own.length=0:=by
      cases hq:i-S.own.length with
      | zero=>rfl
      | succ n=>rw [hq] at h1'; simp at h1'
     rw [e1] at h1'
     rw [← O.len,e1] at h2
     simp at h1' h2
     clear e1 hi h1 hfps hn hf hB O
     subst h1' h2
     exact hx
 · rw [hfps]
   refine List.nodup_append.mpr ⟨O.nodup,hn,fun a ha b hb' e=>?_⟩
   subst e
   exact hf a hb' ha
 · rw [hfps] at ha
   rcases List.mem_append.mp ha with h | h
   · exact O.apart a h
   · exact hB a h
theorem LeX.addOwn {X:Addr->Prop} {S S':St} (L:LeX X S S') {p:Addr×List Addr} (hn:∀ a∈p.2,S.h.get? a=Option.none):LeX X S { S' with own:=S'.own++[p] } :=
 ⟨L.sh,L.alive,L.keep,L.sub,L.newB,fun i q e=>by
   refine x12 (L.own i q e) fun q' e' r=>?_
   exact ⟨q',by show (S'.own++[p])[i]?=_; rw [List.getElem?_append_left (List.getElem?_eq_some_iff.mp e').1]; exact e',r⟩,fun a ha=>by
   have hfps:({ S' with own:=S'.own++[p] }:St).fps=S'.fps++p.2:=by simp [St.fps]
   rw [hfps] at ha
   rcases List.mem_append.mp ha with h | h
   · exact L.newF a h
   · exact .inr (hn a h)⟩
theorem qF2 {S:St} {k:Nat} {p:Addr×List Addr} (h:S.own[k]?=some p) :
 S.fps=((S.own.take k).map (·.2)).flatten++p.2++((S.own.drop (k+1)).map (·.2)).flatten:=by
 have hk:=(List.getElem?_eq_some_iff.mp h)
 obtain ⟨hk,e⟩:=hk
 have:S.own=S.own.take k++p::S.own.drop (k+1):=by
  rw [← e]; exact (List.take_append_drop k S.own).symm.trans (by rw [List.drop_eq_getElem_cons hk])
 unfold St.fps
 conv=>lhs; rw [this]
 simp
theorem qNB {S:St} {k:Nat} {p q:Addr×List Addr} (h:S.own[k]?=some p) :
 ({ S with own:=S.own.set k q }:St).fps=((S.own.take k).map (·.2)).flatten++q.2++((S.own.drop (k+1)).map (·.2)).flatten:=by
 refine x11 (List.getElem?_eq_some_iff.mp h) fun hk e=>?_
 unfold St.fps
 rw [List.set_eq_take_append_cons_drop,if_pos hk]
 simp
theorem Ok.setOwn (O:Ok lp hb S ω) {k:Nat} {p q:Addr×List Addr} {y:OO} {B':Fz} {h':Heap} {tk:Nat} (hp:S.own[k]?=some p) (h1:q.1=p.1) (h2:q.2.Sublist p.2)
 (hB:∀ b o,S.B b=some o->B' b=some o) (hBn:∀ b o,B' b=some o->S.B b=some o\/(b∈p.2/\b ∉ q.2)) (hBh:∀ b o,B' b=some o->S.B b=some o\/h'.get? b=some o)
 (keep:∀ b o,S.h.get? b=some o->b ∉ p.2->h'.get? b=some o) (al:∀ b∈p.2,∃ o,h'.get? b=some o) (hy:OOAt lp B' h' q y) :
 Ok lp hb ⟨B',S.own.set k q,{ S.s with heap:=h',toks:=tk }⟩ (ω.set k y)/\Le S ⟨B',S.own.set k q,{ S.s with heap:=h',toks:=tk }⟩:=by
 have hk:k<S.own.length:=(List.getElem?_eq_some_iff.mp hp).1
 have hs:=qF2 hp
 have hs':(⟨B',S.own.set k q,{ S.s with heap:=h',toks:=tk }⟩:St).fps=((S.own.take k).map (·.2)).flatten++q.2++((S.own.drop (k+1)).map (·.2)).flatten:=qNB (q:=q) hp
 have hin:∀ b∈p.2,b∈S.fps:=fun b hb'=>St.mem_fps.mpr ⟨k,p,hp,hb'⟩
 have hnd:(((S.own.take k).map (·.2)).flatten++p.2++((S.own.drop (k+1)).map (·.2)).flatten).Nodup:=hs ▸ O.nodup
 have hsub:∀ b,b∈(⟨B',S.own.set k q,{ S.s with heap:=h',toks:=tk }⟩:St).fps->b∈S.fps:=fun b hb'=>by
  rw [hs'] at hb'
  rw [hs]
  simp only [List.mem_append] at hb' ⊢
  rcases hb' with (c | c) | c
  · exact .inl (.inl c)
  · exact .inl (.inr (h2.subset c))
  · exact .inr c
 have hmid:=qFv hnd
 have hoth:∀ (i:Nat) (r:Addr×List Addr),i≠k->S.own[i]?=some r->∀ b∈r.2,b ∉ p.2:=fun i r hi hr b hb' hb2=>by
  obtain ⟨m1,m2⟩:=hmid b hb2
  obtain ⟨hil,e⟩:=List.getElem?_eq_some_iff.mp hr
  rcases Nat.lt_or_gt_of_ne hi with c | c
  · refine m1 (List.mem_flatten.mpr ⟨r.2,List.mem_map.mpr ⟨r,?_,rfl⟩,hb'⟩)
    exact List.mem_of_getElem? (i:=i) (by rw [List.getElem?_take_of_lt c]; exact hr)
  · refine m2 (List.mem_flatten.mpr ⟨r.2,List.mem_map.mpr ⟨r,?_,rfl⟩,hb'⟩)
    exact List.mem_of_getElem? (i:=i-(k+1)) (by rw [List.getElem?_drop,show k+1+(i-(k+1))=i by exact ar17 ‹_›]; exact hr)
 have hsubB:∀ b o,B' b=some o->h'.get? b=some o:=fun b o e=>by
  rcases hBh b o e with c | c
  · refine keep b o (O.sub _ _ c) fun hm=>?_
    rw [O.apart b (hin b hm)] at c; cases c
  · exact c
 refine ⟨⟨fun b o e=>hB _ _ (O.base _ _ e),hsubB,by simp [O.len],fun i r x hr hx=>?_,?_,fun a ha=>?_⟩,⟨⟨h',tk,rfl⟩,fun a o e=>?_,fun a o e nf _=>keep a o e fun hm=>nf (hin a hm),hB,fun a o e=>?_,fun i r hr=>?_,fun a ha=>.inl (hsub a ha)⟩⟩
 · by_cases hi:i=k
   · clear hoth hmid hsub hnd hs' hs hp
     subst hi
     have hr':(S.own.set i q)[i]?=some r:=hr
     rw [List.getElem?_set_self hk] at hr'
     rw [List.getElem?_set_self (O.len ▸ hk)] at hx
     cases hr'; cases hx
     exact hy
   · have hr':(S.own.set k q)[i]?=some r:=hr
     rw [List.getElem?_set_ne (Ne.symm hi)] at hr'
     rw [List.getElem?_set_ne (Ne.symm hi)] at hx
     exact (O.at_ i r x hr' hx).stable hB fun b hb' o e=>keep b o e (hoth i r hi hr' b hb')
 · rw [hs']
   exact hnd.sublist ((List.Sublist.append (List.Sublist.append (List.Sublist.refl _) h2) (List.Sublist.refl _)))
 · cases e:B' a with
   | none=>exact e
   | some o =>
    rcases hBn a o e with c | ⟨c1,c2⟩
    · have:=O.apart a (hsub a ha); rw [this] at c; cases c
    · obtain ⟨m1,m2⟩:=hmid a c1
      rw [hs'] at ha
      simp only [List.mem_append] at ha
      rcases ha with (d | d) | d
      · exact absurd d m1
      · exact absurd d c2
      · exact absurd d m2
 · by_cases hm:a∈p.2
   · exact al a hm
   · exact ⟨o,keep a o e hm⟩
 · rcases hBn a o e with c | ⟨c1,_⟩
   · exact .inl c
   · exact .inr (.inl (hin a c1))
 · by_cases hi:i=k
   · clear hoth hmid hsub hnd hs' hs
     subst hi
     rw [hp] at hr; cases hr
     exact ⟨q,List.getElem?_set_self hk,h1⟩
   · exact ⟨r,(List.getElem?_set_ne (Ne.symm hi)).trans hr,rfl⟩
theorem Ok.freezeOwn (O:Ok lp hb S ω) {k:Nat} {p:Addr×List Addr} {xs:List D} (hp:S.own[k]?=some p) (hx:ω[k]?=some (.lst xs)) :
 ∃ S',S'.s=S.s/\Ok lp hb S' (ω.set k (.fro xs))/\Le S S'/\Rep S'.B (.ref p.1) (.list xs):=by
 refine cps fun X9 k9=>?_
 obtain ⟨e2,vs,⟨n,ho⟩,r⟩:=O.at_ k p _ hp hx
 refine k9 ?_
 clear k9
 let o:Obj:={ cls:=.type "list",data:=.seq vs n }
 have hc:o.cls=.type "list" := rfl
 have hd:o.data=.seq vs n:=rfl
 obtain ⟨a,fp⟩:=p
 dsimp only at e2 ho
 subst e2
 have hB:S.B a=Option.none:=O.apart a (St.mem_fps.mpr ⟨k,_,hp,.head _⟩)
 have hrep:Rep (S.B.put a o) (.ref a) (.list xs):=.list (Fz.put_self _ _ _) hc hd (r.mono (qHP hB))
 obtain ⟨O',L'⟩:=O.setOwn (q:=(a,[])) (y:=.fro xs) (B':=S.B.put a o) (h':=S.s.heap) (tk:=S.s.toks) hp rfl (List.nil_sublist _) (fun b o' e=>Fz.put_of hB e)
  (fun b o' e=>by rcases Fz.put_cases e with ⟨rfl,rfl⟩ | e; exact .inr ⟨.head _,fun q=>nomatch q⟩; exact .inl e)
  (fun b o' e=>by rcases Fz.put_cases e with ⟨rfl,rfl⟩ | e; exact .inr ho; exact .inl e)
  (fun b o' e _=>e) (fun b hb'=>by simp at hb'; subst hb'; exact ⟨o,ho⟩) ⟨rfl,hrep⟩
 exact ⟨⟨S.B.put a o,S.own.set k (a,[]),S.s⟩,rfl,O',L',hrep⟩
theorem Ok.turn (O:Ok lp hb S ω) {k:Nat} {p:Addr×List Addr} {xs ys:List D} {vs:Array Value} {h':Heap} {tk:Nat} (hp:S.own[k]?=some p) (hx:ω[k]?=some (.lst xs))
 (hl:h'.PlainList p.1 vs) (hr:RepL S.B vs.toList ys) (keep:∀ b o,S.h.get? b=some o->b≠p.1->h'.get? b=some o) :
 ∃ S',S'.s={ S.s with heap:=h',toks:=tk }/\Ok lp hb S' (ω.set k (.lst ys))/\Le S S':=by
 refine x02 (O.at_ k p _ hp hx) fun e2 _=>?_
 obtain ⟨O',L'⟩:=O.setOwn (q:=p) (y:=.lst ys) (B':=S.B) (h':=h') (tk:=tk) hp rfl (List.Sublist.refl _) (fun b o' e=>e) (fun b o' e=>.inl e) (fun b o' e=>.inl e)
  (fun b o e hm=>keep b o e fun q=>hm (by rw [e2,q]; exact .head _)) (fun b hb'=>by rw [e2] at hb'; simp at hb'; subst hb'; obtain ⟨n,ho⟩:=hl; exact ⟨_,ho⟩) ⟨e2,vs,hl,hr⟩
 exact ⟨_,rfl,O',L'⟩
end
inductive BOp where | add | sub | mul | fdiv | mod
 deriving DecidableEq
inductive COp where | eq | ne | lt | le | gt | ge | isin | notin
 deriving DecidableEq
inductive Bi where | len | sum | list | chr | ord | divmod | range1 | range2
 deriving DecidableEq
inductive Met where | split | startswith | endswith | find | join | lower
 deriving DecidableEq
inductive Cst where | none | bool (b:Bool) | int (i:Int) | str (s:List Nat)
 deriving DecidableEq
noncomputable def Cst.d:Cst->D
 | .none=>.none | .bool b=>.bool b | .int i=>.int i | .str s=>.str s
set_option genInjectivity false in
mutual
inductive ME where
 | cst (c:Cst)
 | var (k:Nat)
 | mark
 | bin (o:BOp) (l r:ME)
 | cmp (o:COp) (l r:ME)
 | and2 (a b:ME)
 | or2 (a b:ME)
 | ife (c:MC) (a b:ME)
 | list (es:ML)
 | tup (es:ML)
 | idx (e i:ME)
 | sl (e lo hi:ME)
 | rev (e:ME)
 | comp (elt:ME) (t:List Nat) (it:ME)
 | compIf (elt:ME) (t:List Nat) (it:ME) (c:MC)
 | call (f:Str) (es:ML)
 | bi (b:Bi) (es:ML)
 | met (m:Met) (e:ME) (es:ML)
 | idxV (k:Nat) (i:ME)
 | lenV (k:Nat)
 | isb (e:ME)
 | inB1 (e:ME)
 | getB3 (e:ME)
 | tok (k:Nat)
 | newtok (e:ME)
inductive MC where
 | val (e:ME)
 | cmp (o:COp) (l r:ME)
 | cmp2 (o1 o2:COp) (a b c:ME)
 | isnn (e:ME)
 | and2 (a b:MC)
 | or2 (a b:MC)
 | not (a:MC)
inductive ML where
 | nil
 | cons (e:ME) (r:ML)
end
set_option genInjectivity false in
mutual
inductive MS where
 | ret (e:ME)
 | asg (k:Nat) (e:ME)
 | asgO (k:Nat) (e:ME)
 | newlex (k:Nat) (e:ME)
 | unp (ks:List Nat) (e:ME)
 | asgT (ks:List (Nat×Bool)) (es:ML)
 | aug (k:Nat) (o:BOp) (e:ME)
 | ife (c:MC) (a b:MSL)
 | forr (t:List Nat) (e:ME) (body:MSL)
 | cont
 | asrt (c:MC)
 | del (k:Nat) (i:Int)
 | app (k:Nat) (e:ME)
 | push (k:Nat) (e:ME)
inductive MSL where
 | nil
 | cons (s:MS) (r:MSL)
end
set_option genInjectivity false in
structure Sc where
 tbl:List Str
 names:List (Str×NameKind)
noncomputable def qE1 (x:Str):List Str->Option Nat
 | []=>none
 | y::r=>if x == y then some 0 else (qE1 x r).map (· + 1)
noncomputable def Sc.var (c:Sc) (x:Str):Option Nat:=if x == "__debug__" || x == "__classdict__" then none else match c.names.lookup x with
 | some .local | some .cell | some .free=>qE1 x c.tbl
 | _=>none
noncomputable def Sc.isGlob (c:Sc) (x:Str):Bool:=c.names.lookup x == some .globalImplicit && x != "__debug__"
noncomputable def qGw:Const->Option Cst
 | .none=>some .none
 | .bool b=>some (.bool b)
 | .int i=>some (.int i)
 | .str s=>some (.str s.cps.toList)
 | _=>none
noncomputable def trOp:Operator->Option BOp
 | .Add=>some .add | .Sub=>some .sub | .Mult=>some .mul | .FloorDiv=>some .fdiv | .Mod=>some .mod
 | _=>none
noncomputable def qDo:CmpOp->Option COp
 | .Eq=>some .eq | .NotEq=>some .ne | .Lt=>some .lt | .LtE=>some .le | .Gt=>some .gt | .GtE=>some .ge | .In=>some .isin | .NotIn=>some .notin
 | _=>none
noncomputable def biOf (x:Str) (n:Nat):Option Bi :=
 if x == "len" && n == 1 then some .len else if x == "sum" && n == 1 then some .sum else if x == "list" && n == 1 then some .list
 else if x == "chr" && n == 1 then some .chr else if x == "ord" && n == 1 then some .ord else if x == "divmod" && n == 2 then some .divmod
 else if x == "range" && n == 1 then some .range1 else if x == "range" && n == 2 then some .range2 else none
noncomputable def qIn (x:Str) (n:Nat):Option Met :=
 if x == "split" && n == 1 then some .split else if x == "startswith" && n == 1 then some .startswith else if x == "endswith" && n == 1 then some .endswith
 else if x == "find" && n == 3 then some .find else if x == "join" && n == 1 then some .join else if x == "lower" && n == 0 then some .lower else none
noncomputable def qCO:List Str:=["_ellipsis_match", "in_table_b1", "map_table_b3", "_law_drawn", "_law_prepared", "_law_written", "_law_marks", "_law_filled", "_law_left", "_law_shape"]
noncomputable def qAY (c:Sc) (x:Str):Bool:=c.names.lookup x == some .local || c.names.lookup x == some .cell
noncomputable def qB1:Expr->Option Str
 | .Name x _=>some x
 | _=>none
noncomputable def qA9 (c:Sc):List Expr->Option (List Nat)
 | []=>some []
 | e::r=>(qB1 e).bind fun x=>gd (qAY c x) ((c.var x).bind fun k=>(qA9 c r).map (k::·))
noncomputable def qNv:Expr->Option (List Expr×Nat×Pos)
 | .Tuple es k p=>some (es,k,p)
 | _=>none
noncomputable def qAP (c:Sc) (e:Expr):Option (List Nat) :=
 orOn (qB1 e) ((qNv e).bind fun q=>gd (!(q.1.length == 1)) (qA9 c q.1)) fun x=>gd (qAY c x) ((c.var x).map fun k=>[k])
theorem qFK {e:Expr} {x:Str} (h:qB1 e=some x):∃ p,e=.Name x p:=by
 cases e <;> first | exact nos h | exact ⟨_,congrArg (Expr.Name · _) (Option.some.inj h)⟩
theorem qL1 {e:Expr} {q:List Expr×Nat×Pos} (h:qNv e=some q):e=.Tuple q.1 q.2.1 q.2.2:=by
 cases e <;> first | exact nos h | (cases h; rfl)
theorem qCk {c:Sc} {e:Expr} {r:List Expr} {ts:List Nat} {P:Expr->List Nat->Prop} (h:qA9 c (e::r)=some ts) (k:∀ x p k ks,qAY c x=true->c.var x=some k->qA9 c r=some ks->P (.Name x p) (k::ks)):P e ts :=
 qAC (f:=fun x=>gd (qAY c x) ((c.var x).bind fun k=>(qA9 c r).map (k::·))) h fun x hx h=>gdE h fun hL h=>qAC h fun i hi h=>mapE h fun ks hr=>by
  obtain ⟨p,rfl⟩:=qFK hx
  exact k x p i ks hL hi hr
theorem qEh {c:Sc} {e:Expr} {ts:List Nat} {P:Expr->List Nat->Prop} (h:qAP c e=some ts) (k1:∀ x p k,qAY c x=true->c.var x=some k->P (.Name x p) [k]) (k2:∀ es a p,es.length≠1->qA9 c es=some ts->P (.Tuple es a p) ts):P e ts :=
 orE h (fun h=>qAC h fun q hq h=>gdE h fun hl h=>by
  rw [qL1 hq]
  exact k2 _ _ _ (fun e=>by rw [e] at hl; cases hl) h) fun x hx h=>gdE h fun hL h=>mapE h fun k hk=>by
  obtain ⟨p,rfl⟩:=qFK hx
  exact k1 x p k hL hk
noncomputable def qBG (c:Sc) (names:List (Str×NameKind)) (ts:List Nat):Bool :=
 decide ((names.map (·.1)).Nodup) && names.all fun (x,k)=>match k with
  | .local | .cell=>(match qE1 x c.tbl with | some i=>ts.contains i | none=>x == ".0")
  | .free=>(c.names.lookup x == some .cell || c.names.lookup x == some .free) && (qE1 x c.tbl).isSome
  | .globalImplicit=>true
  | _=>false
noncomputable def eNm:Expr->Option Str
 | .Name x _=>some x
 | _=>none
noncomputable def eCst:Expr->Option Const
 | .Constant k _ _=>some k
 | _=>none
noncomputable def qLK:Const->Option Int
 | .int i=>some i
 | _=>none
noncomputable def eNeg:Expr->Option Int
 | .UnaryOp op x _=>gd (op == .USub) ((eCst x).bind qLK)
 | _=>none
noncomputable def eSlc:Expr->Option (Option Expr×Option Expr×Option Expr)
 | .Slice lo hi st _=>some (lo,hi,st)
 | _=>none
noncomputable def eAtt:Expr->Option (Expr×Str×Pos)
 | .Attribute v a p=>some (v,a,p)
 | _=>none
noncomputable def eFn:Expr->Option (Str×List Expr)
 | .Call f args kws _=>gd kws.isEmpty ((eNm f).map fun x=>(x,args))
 | _=>none
noncomputable def qGP:Expr->Bool
 | .Call f args _ _=>!((eNm f).isSome && args.isEmpty)
 | _=>true
noncomputable def qA6 (a p:Pos):Bool:=a.endLine == p.line
set_option genInjectivity false in
structure TR where
 E:Sc->Expr->Option ME
 C:Sc->Expr->Option MC
noncomputable def trLs (f:Expr->Option ME):List Expr->Option ML
 | []=>some .nil
 | e::r=>(f e).bind fun m=>(trLs f r).bind fun ms=>some (.cons m ms)
noncomputable def isGl (c:Sc) (e:Expr) (x:Str):Bool:=c.isGlob x && (eNm e) == some x
noncomputable def trNm (c:Sc) (x:Str):Option ME:=if c.isGlob x=true then gd (x == "ELLIPSIS_MARKER") (some .mark) else (c.var x).map .var
noncomputable def trBl (t:TR) (c:Sc) (op:BoolOp) (es:List Expr):Option ME :=
 (two? es).bind fun q=>(t.E c q.1).bind fun a=>(t.E c q.2).bind fun b=>some (match op with | .And=>.and2 a b | .Or=>.or2 a b)
noncomputable def trCp (t:TR) (c:Sc) (l:Expr) (ops:List CmpOp) (rs:List Expr):Option ME :=
 (one? ops).bind fun op=>(one? rs).bind fun r=>(qDo op).bind fun o=>(t.E c l).bind fun a =>
   if (o == .isin && isGl c r "b1_set")=true then some (.inB1 a) else (t.E c r).bind fun b=>some (.cmp o a b)
noncomputable def qNR (t:TR) (c:Sc):Option Expr->Option ME
 | some e=>t.E c e
 | none=>some (.cst .none)
noncomputable def qOb (t:TR) (c:Sc) (v:Expr) (lo hi st:Option Expr):Option ME:=orOn st
 ((qNR t c lo).bind fun l=>(qNR t c hi).bind fun h=>(t.E c v).bind fun a=>some (.sl a l h))
 fun e=>gd (lo.isNone && hi.isNone && eNeg e == some 1) ((t.E c v).map .rev)
noncomputable def qOU (t:TR) (c:Sc) (v i:Expr):Option ME:=orOn (eSlc i)
 (orOn (eNm v) ((t.E c v).bind fun a=>(t.E c i).bind fun b=>some (.idx a b)) fun x=>(c.var x).bind fun k=>(t.E c i).bind fun b=>some (.idxV k b))
 fun s=>qOb t c v s.1 s.2.1 s.2.2
noncomputable def qMK (t:TR) (c:Sc) (elt:Expr) (gs:List Comprehension) (sc:Scope):Option ME:=(one? gs).bind fun g =>
 (qAP { c with names:=sc.names } g.target).bind fun ts=>(t.E c g.iter).bind fun it=>(t.E { c with names:=sc.names } elt).bind fun m =>
 gd (g.is_async == 0 && sc.kind == .function && qBG c sc.names ts) (orOn (one? g.ifs) (gd g.ifs.isEmpty (some (.comp m ts it))) fun b=>(t.C { c with names:=sc.names } b).bind fun mc=>some (.compIf m ts it mc))
noncomputable def qN2 (c:Sc) (x:Str) (args:List Expr):Option Nat:=gd (x == "len") ((one? args).bind fun a=>(eNm a).bind fun y=>c.var y)
noncomputable def trFn (t:TR) (c:Sc) (x:Str) (args:List Expr):Option ME:=gd (c.isGlob x) (
 if (x == "isinstance")=true then (two? args).bind fun q=>gd (isGl c q.2 "bool") ((t.E c q.1).map .isb)
 else orOn (qN2 c x args) (if (qCO.contains x && !args.isEmpty)=true then (trLs (t.E c) args).map (.call x) else (biOf x args.length).bind fun b=>(trLs (t.E c) args).bind fun l=>some (.bi b l)) fun k=>some (.lenV k))
noncomputable def qOW (t:TR) (c:Sc) (v:Expr) (a:Str) (args:List Expr):Option ME :=
 if (a == "get_token")=true then gd args.isEmpty (orOn (eNm v) ((eFn v).bind fun q=>gd (c.isGlob "_law_lexer" && q.1 == "_law_lexer") ((one? q.2).bind fun e=>(t.E c e).map .newtok)) fun x=>(c.var x).map .tok)
 else if (a == "get" && isGl c v "b3_exceptions")=true then (one? args).bind fun e=>(t.E c e).map .getB3
 else gd (qGP v) ((qIn a args.length).bind fun m=>(t.E c v).bind fun e=>(trLs (t.E c) args).bind fun l=>some (.met m e l))
noncomputable def qMT (t:TR) (c:Sc) (f:Expr) (args:List Expr) (kws:List Keyword) (p:Pos):Option ME:=gd kws.isEmpty
 (orOn (eNm f) ((eAtt f).bind fun q=>gd (qA6 q.2.2 p && decide (args.length≤20)) (qOW t c q.1 q.2.1 args)) fun x=>trFn t c x args)
noncomputable def stE (t:TR) (c:Sc):Expr->Option ME
 | .Constant k _ _=>(qGw k).map .cst
 | .Name x _=>trNm c x
 | .BinOp l op r _=>(trOp op).bind fun o=>(t.E c l).bind fun a=>(t.E c r).bind fun b=>some (.bin o a b)
 | .UnaryOp op x p=>(eNeg (.UnaryOp op x p)).bind fun i=>some (.cst (.int (-i)))
 | .BoolOp op es _=>trBl t c op es
 | .IfExp e a b _=>(t.C c e).bind fun k=>(t.E c a).bind fun x=>(t.E c b).bind fun y=>some (.ife k x y)
 | .List es _=>(trLs (t.E c) es).map .list
 | .Tuple es _ _=>(trLs (t.E c) es).map .tup
 | .Compare l ops rs _=>trCp t c l ops rs
 | .Subscript v i _=>qOU t c v i
 | .ListComp elt gs sc _=>qMK t c elt gs sc
 | .Call f args kws p=>qMT t c f args kws p
 | _=>none
noncomputable def qPQ (t:TR) (c:Sc) (op:BoolOp) (es:List Expr):Option MC :=
 (two? es).bind fun q=>(t.C c q.1).bind fun a=>(t.C c q.2).bind fun b=>some (match op with | .And=>.and2 a b | .Or=>.or2 a b)
noncomputable def qPA (t:TR) (c:Sc) (l:Expr) (ops:List CmpOp) (rs:List Expr):Option MC:=orOn (one? ops)
 ((two? ops).bind fun o=>(two? rs).bind fun q=>(qDo o.1).bind fun o1=>(qDo o.2).bind fun o2=>(t.E c l).bind fun x=>(t.E c q.1).bind fun y=>(t.E c q.2).bind fun z=>some (.cmp2 o1 o2 x y z))
 fun op=>(one? rs).bind fun r=>if (op == .IsNot && (eCst r) == some .none)=true then (t.E c l).map .isnn else (qDo op).bind fun o=>(t.E c l).bind fun a=>(t.E c r).bind fun b=>some (.cmp o a b)
noncomputable def stC (t:TR) (c:Sc):Expr->Option MC
 | .UnaryOp op x _=>gd (op == .Not) ((t.C c x).map .not)
 | .BoolOp op es _=>qPQ t c op es
 | .Compare l ops rs _=>qPA t c l ops rs
 | .IfExp ..=>none
 | e=>(t.E c e).map .val
noncomputable def tr:Nat->TR
 | 0=>⟨fun _ _=>none,fun _ _=>none⟩
 | n+1=>⟨stE (tr n),stC (tr n)⟩
noncomputable def trE (n:Nat):Sc->Expr->Option ME:=(tr n).E
noncomputable def trC (n:Nat):Sc->Expr->Option MC:=(tr n).C
noncomputable def trL (n:Nat) (c:Sc):List Expr->Option ML:=trLs (trE n c)
noncomputable def qCG:Expr->Bool
 | .List es _=>es.isEmpty
 | _=>false
noncomputable def qLd:List Nat->List Expr->List (Nat×Bool)
 | k::ks,e::r=>(k,qCG e)::qLd ks r
 | _,_=>[]
noncomputable def trO (c:Sc):Expr->Option ME
 | .List es _=>gd es.isEmpty (some (.list .nil))
 | .BinOp l op r _=>(trOp op).bind fun o=>(trE 60 c l).bind fun a=>(trE 60 c r).bind fun b=>some (.bin o a b)
 | .Call f args kws p=>gd kws.isEmpty ((eAtt f).bind fun q=>gd (qA6 q.2.2 p && decide (args.length≤20)) ((eNm q.1).bind fun x=>(c.var x).bind fun k=>(qIn q.2.1 args.length).bind fun m=>(trL 60 c args).bind fun l=>some (.met m (.var k) l)))
 | _=>none
noncomputable def eTup:Expr->Option (List Expr×Nat×Pos)
 | .Tuple es k p=>some (es,k,p)
 | _=>none
noncomputable def eSub:Expr->Option (Expr×Expr)
 | .Subscript v i _=>some (v,i)
 | _=>none
noncomputable def qN1:Expr->Option (Expr×List Expr×Pos)
 | .Call f args kws p=>gd kws.isEmpty (some (f,args,p))
 | _=>none
noncomputable def mInt:ME->Option Int
 | .cst (.int i)=>some i
 | _=>none
noncomputable def qNp (c:Sc) (v:Expr):Option Expr:=(eFn v).bind fun q=>gd (c.isGlob "_law_lexer" && q.1 == "_law_lexer") (one? q.2)
noncomputable def qNy (c:Sc) (own:List Str) (x:Str) (v:Expr):Option MS:=gd (qAY c x) ((c.var x).bind fun k=>orOn (qNp c v)
 (if own.contains x=true then (trO c v).map (.asgO k) else (trE 60 c v).map (.asg k)) fun e=>(trE 60 c e).map (.newlex k))
noncomputable def qN6 (c:Sc) (q:List Expr×Nat×Pos) (v:Expr):Option MS:=(qAP c (.Tuple q.1 q.2.1 q.2.2)).bind fun ks=>orOn (eTup v)
 ((trE 60 c v).map (.unp ks)) fun w=>(trL 60 c w.1).bind fun l=>gd (ks.length == w.1.length && decide ks.Nodup && (w.1.all (foldedForSure 8) || !w.1.all (constantsAlone 8))) (some (.asgT (qLd ks w.1) l))
noncomputable def trEx (c:Sc) (e:Expr):Option MS:=(qN1 e).bind fun q=>(eAtt q.1).bind fun a=>(eNm a.1).bind fun x=>(one? q.2.1).bind fun y=>(c.var x).bind fun k=>(trE 60 c y).bind fun m =>
 gd (qA6 a.2.2 q.2.2) (if (a.2.1 == "append")=true then some (.app k m) else gd (a.2.1 == "push_token") (some (.push k m)))
noncomputable def trDl (c:Sc) (e:Expr):Option MS:=(eSub e).bind fun q=>(eNm q.1).bind fun x=>(c.var x).bind fun k=>(trE 60 c q.2).bind fun m=>(mInt m).bind fun i=>some (.del k i)
noncomputable def trSs (f:Stmt->Option MS):List Stmt->Option MSL
 | []=>some .nil
 | e::r=>(f e).bind fun m=>(trSs f r).bind fun ms=>some (.cons m ms)
noncomputable def trS (c:Sc) (own:List Str):Nat->Stmt->Option MS
 | 0=>fun _=>none
 | n+1=>fun s=>match s with
  | .Return o _=>o.bind fun e=>(trE 60 c e).map .ret
  | .Assign ts v _=>(one? ts).bind fun t=>orOn (eTup t) ((eNm t).bind fun x=>qNy c own x v) fun q=>qN6 c q v
  | .AugAssign t op e _=>(eNm t).bind fun x=>gd (qAY c x) ((c.var x).bind fun k=>(trOp op).bind fun o=>(trE 60 c e).map (.aug k o))
  | .If t a b _=>(trC 60 c t).bind fun k=>(trSs (trS c own n) a).bind fun x=>(trSs (trS c own n) b).bind fun y=>some (.ife k x y)
  | .For t it b els _=>gd els.isEmpty ((qAP c t).bind fun ts=>(trE 60 c it).bind fun e=>(trSs (trS c own n) b).bind fun m=>some (.forr ts e m))
  | .Continue _=>some .cont
  | .Assert t m _=>gd m.isNone ((trC 60 c t).map .asrt)
  | .Delete ts _=>(one? ts).bind fun t=>trDl c t
  | .Expr e _=>trEx c e
  | _=>none
noncomputable def trSL (n:Nat) (c:Sc) (own:List Str):List Stmt->Option MSL:=trSs (trS c own n)
noncomputable def qNq (p:Program) (x:Str):Option (Arguments×List Stmt×Scope):=p.main.body.findSome? fun
 | .FunctionDef n a b _ _ _ sc _ _ _=>if n == x then some (a,b,sc) else none
 | _=>none
noncomputable def qC2 (x:Str):List Str:=if x == "_ellipsis_match" then ["ws"] else if x == "_law_marks" then ["marks"] else if x == "_law_filled" then ["made"] else if x == "_law_shape" then ["gaps", "run"] else []
noncomputable def qAN (sc:Scope):List Str :=
 let tbl:=(sc.names.filter fun y=>y.2 == .local || y.2 == .cell).map (·.1)
 let extra:List Str:=["part", "pair", "row", "one", "place", "page", "mark", "gap", "sign", "fill", "text", "number"]
 tbl++extra.filter (fun y=>!tbl.contains y)
noncomputable def qPY (p:Program) (x:Str):Option MSL:=do
 let (_,b,sc) ← qNq p x
 trSL 60 ⟨qAN sc,sc.names⟩ (qC2 x) b
noncomputable def toS (s:List Nat):Str:=⟨s.toArray⟩
inductive FlatEq:List D->List D->Bool->Prop
 | ss (l m:List (List Nat)):FlatEq (l.map .str) (m.map .str) (decide (l=m))
 | bs (l m:List Bool):FlatEq (l.map .bool) (m.map .bool) (decide (l=m))
 | is (l m:List Int):FlatEq (l.map .int) (m.map .int) (decide (l=m))
inductive FlatIn:D->List D->Bool->Prop
 | ss (a:List Nat) (l:List (List Nat)):FlatIn (.str a) (l.map .str) (decide (a∈l))
 | bs (a:Bool) (l:List Bool):FlatIn (.bool a) (l.map .bool) (decide (a∈l))
noncomputable def Infix (a b:List Nat):Bool:=decide (∃ i≤b.length,(b.drop i).take a.length=a)
noncomputable def qPE (d:D) (f:Int->Prop):Prop:=match d with | .int i=>f i | _=>False
noncomputable def qPK (d:D) (f:List Nat->Prop):Prop:=match d with | .str s=>f s | _=>False
noncomputable def qFg (d:D) (f:List D->Prop):Prop:=match d with | .list l=>f l | _=>False
noncomputable def on1 (ds:List D) (f:D->Prop):Prop:=match ds with | [d]=>f d | _=>False
noncomputable def on2 (ds:List D) (f:D->D->Prop):Prop:=match ds with | [a,b]=>f a b | _=>False
noncomputable def on3 (ds:List D) (f:D->D->D->Prop):Prop:=match ds with | [a,b,c]=>f a b c | _=>False
noncomputable def binK (o:BOp) (a b:D) (K:D->Prop):Prop:=match o with
 | .add=>(match a with
  | .int x=>(match b with | .int y=>K (.int (x+y)) | _=>False)
  | .str x=>(match b with | .str y=>x.length+y.length≤16777216/\K (.str (x++y)) | _=>False)
  | _=>False)
 | .sub=>(match a with | .int x=>(match b with | .int y=>K (.int (x-y)) | _=>False) | _=>False)
 | .mul=>(match a with | .str x=>(match b with | .int n=>x.length=1/\0≤n/\n≤1000/\K (.str (List.replicate n.toNat x).flatten) | _=>False) | _=>False)
 | .fdiv=>(match a with | .int x=>(match b with | .int y=>y≠0/\y.natAbs<1073741824/\K (.int (x.fdiv y)) | _=>False) | _=>False)
 | .mod=>(match a with | .int x=>(match b with | .int y=>y≠0/\K (.int (x.fmod y)) | _=>False) | _=>False)
noncomputable def binL (o:BOp) (a b:D) (K:List D->Prop):Prop:=match o with
 | .add=>(match a with | .list x=>(match b with | .list y=>x.length+y.length≤16777216/\K (x++y) | _=>False) | _=>False)
 | .mul=>(match a with | .list x=>(match b with | .int n=>-(2 ^ 63:Int)≤n/\n<2 ^ 63/\x.length*n.toNat≤16777216/\K (List.replicate n.toNat x).flatten | _=>False) | _=>False)
 | .sub | .fdiv | .mod=>False
noncomputable def inC (o:COp) (x:D) (y:List D) (K:Bool->Prop):Prop:=match o with
 | .isin=>∃ r,FlatIn x y r/\K r | .notin=>∃ r,FlatIn x y r/\K (!r) | .eq | .ne | .lt | .le | .gt | .ge=>False
noncomputable def cmpK (o:COp) (a b:D) (K:Bool->Prop):Prop:=match a with
 | .int x=>(match b with
  | .int y=>(match o with | .eq=>K (decide (x=y)) | .ne=>K (decide (x≠y)) | .lt=>K (decide (x<y)) | .le=>K (decide (x≤y)) | .gt=>K (decide (x>y)) | .ge=>K (decide (x ≥ y)) | .isin | .notin=>False)
  | _=>False)
 | .str x=>(match b with
  | .str y=>(match o with | .eq=>K (decide (x=y)) | .ne=>K (decide (x≠y)) | .isin=>K (Infix x y) | .notin=>K (!Infix x y) | .lt | .le | .gt | .ge=>False)
  | .list y=>(match o with | .isin=>∃ r,FlatIn (.str x) y r/\K r | .notin=>∃ r,FlatIn (.str x) y r/\K (!r) | .eq | .ne | .lt | .le | .gt | .ge=>False)
  | _=>False)
 | .bool x=>(match b with
  | .list y=>(match o with | .isin=>∃ r,FlatIn (.bool x) y r/\K r | .notin=>∃ r,FlatIn (.bool x) y r/\K (!r) | .eq | .ne | .lt | .le | .gt | .ge=>False)
  | _=>False)
 | .list x=>(match b with
  | .list y=>(match o with | .eq=>∃ r,FlatEq x y r/\K r | .ne=>∃ r,FlatEq x y r/\K (!r) | .isin | .notin | .lt | .le | .gt | .ge=>False)
  | _=>False)
 | _=>False
noncomputable def truK:D->(Bool->Prop)->Prop
 | .bool b,K=>K b
 | .str s,K=>s.length≤16777216/\K (!s.isEmpty)
 | _,_=>False
noncomputable def qBE {α:Type} (xs:List α) (i:Int):Option α :=
 if 0≤i then xs[i.toNat]? else if 0≤(xs.length:Int)+i then xs[((xs.length:Int)+i).toNat]? else none
noncomputable def idxK (a b:D) (K:D->Prop):Prop:=match b with
 | .int i=>(match a with
  | .list xs=>-(2 ^ 63:Int)≤i/\i<2 ^ 63/\∃ d,qBE xs i=some d/\K d
  | .str s=>-(2 ^ 63:Int)≤i/\i<2 ^ 63/\∃ c,qBE s i=some c/\K (.str [c])
  | _=>False)
 | _=>False
noncomputable def clamp (n:Nat) (dflt:Nat):D->Option Nat
 | .none=>some dflt
 | .int i=>some (if i<0 then ((n:Int)+i).toNat else min i.toNat n)
 | _=>none
noncomputable def cut {α:Type} (xs:List α) (l h:Nat):List α:=(xs.take h).drop l
noncomputable def qC3:D->Prop
 | .none=>True
 | .int i=>-(2 ^ 62:Int)≤i/\i<2 ^ 62
 | _=>False
noncomputable def slK (a l h:D) (K:D->Prop):Prop:=match a with
 | .str s=>(match l with
  | .none=>(match h with | .int j=>0≤j/\j≤s.length/\s.length≤16777216/\K (.str (s.take j.toNat)) | _=>False)
  | .int i=>(match h with | .none=>0≤i/\i≤s.length/\s.length≤16777216/\K (.str (s.drop i.toNat)) | _=>False)
  | _=>False)
 | _=>False
noncomputable def slL (a lo hi:D) (K:List D->Prop):Prop:=match a with
 | .list xs=>xs.length≤16777216/\qC3 lo/\qC3 hi/\∃ l h,clamp xs.length 0 lo=some l/\clamp xs.length xs.length hi=some h/\K (cut xs l h)
 | _=>False
noncomputable def revL:D->(List D->Prop)->Prop
 | .list xs,K=>xs.length≤16777216/\K xs.reverse
 | _,_=>False
noncomputable def singles (s:List Nat):List D:=s.map fun c=>.str [c]
noncomputable def qAZ (a b:Int):List D:=(List.range (b-a).toNat).map fun i=>.int (a+(i:Nat))
noncomputable def qAm:D->(List D->Prop)->Prop
 | .list xs,K=>xs.length≤16777216/\K xs
 | .str s,K=>s.length≤16777216/\K (singles s)
 | .rng a b,K=>-(2 ^ 60:Int)≤a/\a≤2 ^ 60/\-(2 ^ 60:Int)≤b/\b≤2 ^ 60/\(b-a).toNat≤16777216/\K (qAZ a b)
 | _,_=>False
noncomputable def biK (b:Bi) (ds:List D) (K:D->Prop):Prop:=match b with
 | .len=>(match ds with | [d]=>(match d with | .str s=>s.length≤16777216/\K (.int s.length) | .list s=>s.length≤16777216/\K (.int s.length) | _=>False) | _=>False)
 | .sum=>(match ds with | [d]=>(match d with | .list xs=>xs.length≤16777216/\∃ ns:List Int,xs=ns.map .int/\K (.int ns.sum) | _=>False) | _=>False)
 | .chr=>(match ds with | [d]=>(match d with | .int i=>0≤i/\i≤1114111/\K (.str [i.toNat]) | _=>False) | _=>False)
 | .ord=>(match ds with | [d]=>(match d with | .str s=>∃ c,s=[c]/\K (.int c) | _=>False) | _=>False)
 | .divmod=>(match ds with | [x,y]=>(match x with | .int a=>(match y with | .int b=>b≠0/\b.natAbs<1073741824/\K (.tup [.int (a.fdiv b),.int (a.fmod b)]) | _=>False) | _=>False) | _=>False)
 | .range1=>(match ds with | [d]=>(match d with | .int n=>K (.rng 0 n) | _=>False) | _=>False)
 | .range2=>(match ds with | [x,y]=>(match x with | .int a=>(match y with | .int b=>K (.rng a b) | _=>False) | _=>False) | _=>False)
 | .list=>False
noncomputable def biL (b:Bi) (ds:List D) (K:List D->Prop):Prop:=match b with
 | .list=>(match ds with
  | [d]=>(match d with
   | .str s=>s.length≤16777216/\K (singles s)
   | .rng a b=>-(2 ^ 60:Int)≤a/\a≤2 ^ 60/\-(2 ^ 60:Int)≤b/\b≤2 ^ 60/\(b-a).toNat≤16777216/\K (qAZ a b)
   | _=>False)
  | _=>False)
 | .len | .sum | .chr | .ord | .divmod | .range1 | .range2=>False
noncomputable def At (s w:List Nat) (i:Nat):Prop:=(s.drop i).take w.length=w
noncomputable def qHJ (s w:List Nat) (lo hi:Nat) (r:Int):Prop :=
 (∃ i:Nat,r=i/\lo≤i/\i+w.length≤hi/\At s w i/\∀ j,lo≤j->j<i->¬ At s w j) \/
 (r=-1/\∀ j,lo≤j->j+w.length≤hi->¬ At s w j)
noncomputable def qAB:List Nat->List Nat->List (List Nat)
 | acc,46::46::46::r=>acc.reverse::qAB [] r
 | acc,c::r=>qAB (c::acc) r
 | acc,[]=>[acc.reverse]
noncomputable def metK (m:Met) (d:D) (ds:List D) (K:D->Prop):Prop:=match d with
 | .str s=>(match m with
  | .startswith=>(match ds with | [x]=>(match x with | .str w=>K (.bool (decide (s.take w.length=w))) | _=>False) | _=>False)
  | .endswith=>(match ds with | [x]=>(match x with | .str w=>K (.bool (decide (w.length≤s.length/\s.drop (s.length-w.length)=w))) | _=>False) | _=>False)
  | .find=>(match ds with
   | [x,y,z]=>(match x with
    | .str w=>(match y with
     | .int lo=>(match z with | .int hi=>0≤lo/\lo≤hi/\hi≤s.length/\s.length≤16777216/\∀ r,qHJ s w lo.toNat hi.toNat r->K (.int r) | _=>False)
     | _=>False)
    | _=>False)
   | _=>False)
  | .join=>(match s with | []=>(match ds with | [x]=>(match x with | .list xs=>∃ ss:List (List Nat),xs=ss.map .str/\ss.flatten.length≤16777216/\xs.length≤16777216/\K (.str ss.flatten) | _=>False) | _=>False) | _=>False)
  | .lower=>(match ds with | []=>s.length=1/\∃ c,s=[c]/\c<128/\K (.str [if 65≤c/\c≤90 then c+32 else c]) | _=>False)
  | .split=>False)
 | _=>False
noncomputable def metL (m:Met) (d:D) (ds:List D) (K:List D->Prop):Prop:=match d with
 | .str s=>(match m with
  | .split=>ds=[.str [46,46,46]]/\s.length≤16000000/\K ((qAB [] s).map .str)
  | .startswith | .endswith | .find | .join | .lower=>False)
 | _=>False
noncomputable def binA (o:BOp) (a b:D) (K:D->Prop) (L:List D->Prop):Prop:=match o with
 | .add=>(match a with
  | .int x=>(match b with | .int y=>K (.int (x+y)) | _=>False)
  | .str x=>(match b with | .str y=>x.length+y.length≤16777216/\K (.str (x++y)) | _=>False)
  | .list x=>(match b with | .list y=>x.length+y.length≤16777216/\L (x++y) | _=>False)
  | _=>False)
 | .sub=>(match a with | .int x=>(match b with | .int y=>K (.int (x-y)) | _=>False) | _=>False)
 | .mul=>(match a with
  | .str x=>(match b with | .int n=>x.length=1/\0≤n/\n≤1000/\K (.str (List.replicate n.toNat x).flatten) | _=>False)
  | .list x=>(match b with | .int n=>-(2 ^ 63:Int)≤n/\n<2 ^ 63/\x.length*n.toNat≤16777216/\L (List.replicate n.toNat x).flatten | _=>False)
  | _=>False)
 | .fdiv=>(match a with | .int x=>(match b with | .int y=>y≠0/\y.natAbs<1073741824/\K (.int (x.fdiv y)) | _=>False) | _=>False)
 | .mod=>(match a with | .int x=>(match b with | .int y=>y≠0/\K (.int (x.fmod y)) | _=>False) | _=>False)
theorem qNh {o:BOp} {a b:D} {K:D->Prop} {L:List D->Prop} (h:binA o a b K L):binK o a b K\/binL o a b L:=by
 cases o <;> cases a <;> first | exact False.elim h | exact .inl h | exact .inr h
noncomputable def slA (a l h:D) (K:D->Prop) (L:List D->Prop):Prop:=match a with
 | .str s=>(match l with
  | .none=>(match h with | .int j=>0≤j/\j≤s.length/\s.length≤16777216/\K (.str (s.take j.toNat)) | _=>False)
  | .int i=>(match h with | .none=>0≤i/\i≤s.length/\s.length≤16777216/\K (.str (s.drop i.toNat)) | _=>False)
  | _=>False)
 | .list xs=>xs.length≤16777216/\qC3 l/\qC3 h/\∃ l' h',clamp xs.length 0 l=some l'/\clamp xs.length xs.length h=some h'/\L (cut xs l' h')
 | _=>False
theorem qMR {a l h:D} {K:D->Prop} {L:List D->Prop} (q:slA a l h K L):slK a l h K\/slL a l h L:=by
 cases a <;> first | exact False.elim q | exact .inl q | exact .inr q
noncomputable def biA (b:Bi) (ds:List D) (K:D->Prop) (L:List D->Prop):Prop:=match b with
 | .len=>(match ds with | [d]=>(match d with | .str s=>s.length≤16777216/\K (.int s.length) | .list s=>s.length≤16777216/\K (.int s.length) | _=>False) | _=>False)
 | .sum=>(match ds with | [d]=>(match d with | .list xs=>xs.length≤16777216/\∃ ns:List Int,xs=ns.map .int/\K (.int ns.sum) | _=>False) | _=>False)
 | .chr=>(match ds with | [d]=>(match d with | .int i=>0≤i/\i≤1114111/\K (.str [i.toNat]) | _=>False) | _=>False)
 | .ord=>(match ds with | [d]=>(match d with | .str s=>∃ c,s=[c]/\K (.int c) | _=>False) | _=>False)
 | .divmod=>(match ds with | [x,y]=>(match x with | .int a=>(match y with | .int b=>b≠0/\b.natAbs<1073741824/\K (.tup [.int (a.fdiv b),.int (a.fmod b)]) | _=>False) | _=>False) | _=>False)
 | .range1=>(match ds with | [d]=>(match d with | .int n=>K (.rng 0 n) | _=>False) | _=>False)
 | .range2=>(match ds with | [x,y]=>(match x with | .int a=>(match y with | .int b=>K (.rng a b) | _=>False) | _=>False) | _=>False)
 | .list=>(match ds with
  | [d]=>(match d with
   | .str s=>s.length≤16777216/\L (singles s)
   | .rng a b=>-(2 ^ 60:Int)≤a/\a≤2 ^ 60/\-(2 ^ 60:Int)≤b/\b≤2 ^ 60/\(b-a).toNat≤16777216/\L (qAZ a b)
   | _=>False)
  | _=>False)
theorem qOQ {b:Bi} {ds:List D} {K:D->Prop} {L:List D->Prop} (h:biA b ds K L):biK b ds K\/biL b ds L:=by
 cases b <;> first | exact .inl h | exact .inr h
noncomputable def metA (m:Met) (d:D) (ds:List D) (K:D->Prop) (L:List D->Prop):Prop:=match d with
 | .str s=>(match m with
  | .startswith=>(match ds with | [x]=>(match x with | .str w=>K (.bool (decide (s.take w.length=w))) | _=>False) | _=>False)
  | .endswith=>(match ds with | [x]=>(match x with | .str w=>K (.bool (decide (w.length≤s.length/\s.drop (s.length-w.length)=w))) | _=>False) | _=>False)
  | .find=>(match ds with
   | [x,y,z]=>(match x with
    | .str w=>(match y with
     | .int lo=>(match z with | .int hi=>0≤lo/\lo≤hi/\hi≤s.length/\s.length≤16777216/\∀ r,qHJ s w lo.toNat hi.toNat r->K (.int r) | _=>False)
     | _=>False)
    | _=>False)
   | _=>False)
  | .join=>(match s with | []=>(match ds with | [x]=>(match x with | .list xs=>∃ ss:List (List Nat),xs=ss.map .str/\ss.flatten.length≤16777216/\xs.length≤16777216/\K (.str ss.flatten) | _=>False) | _=>False) | _=>False)
  | .lower=>(match ds with | []=>s.length=1/\∃ c,s=[c]/\c<128/\K (.str [if 65≤c/\c≤90 then c+32 else c]) | _=>False)
  | .split=>ds=[.str [46,46,46]]/\s.length≤16000000/\L ((qAB [] s).map .str))
 | _=>False
theorem qMg {m:Met} {d:D} {ds:List D} {K:D->Prop} {L:List D->Prop} (h:metA m d ds K L):metK m d ds K\/metL m d ds L:=by
 cases d <;> first | exact False.elim h | skip
 cases m <;> first | exact .inl h | exact .inr h
noncomputable abbrev W:=List OO
noncomputable abbrev Sg:=List Slot
set_option genInjectivity false in
structure LexF where
 tok:List Nat->List Nat×List Nat
noncomputable def varK (x:Slot) (w:W) (Q:D->W->Prop):Prop:=match x with
 | .dat d=>Q d w
 | .loc k=>(match w[k]? with
  | some (.lst xs)=>Q (.list xs) (w.set k (.fro xs))
  | some (.fro xs)=>Q (.list xs) w
  | _=>False)
 | .unb=>False
noncomputable def qBY (x:Slot) (w:W) (Q:D->Prop):Prop:=match x with
 | .dat d=>Q d
 | .loc k=>(match w[k]? with
  | some (.lst xs)=>Q (.list xs)
  | some (.fro xs)=>Q (.list xs)
  | _=>False)
 | .unb=>False
noncomputable def qA3:List Nat->List D->Sg->Sg
 | k::ks,d::ds,σ=>qA3 ks ds (σ.set k (.dat d))
 | _,_,σ=>σ
noncomputable def qAJ (ts:List Nat) (x:D) (σ:Sg) (K:Sg->Prop):Prop:=match ts with
 | [k]=>K (σ.set k (.dat x))
 | ts=>(match x with
  | .list ds=>ts.length=ds.length/\ds.length≤8/\K (qA3 ts ds σ)
  | .tup ds=>ts.length=ds.length/\ds.length≤8/\K (qA3 ts ds σ)
  | _=>False)
noncomputable def qBL (step:D->W->(Option D->W->Prop)->Prop):List D->W->(List D->W->Prop)->Prop
 | [],w,K=>K [] w
 | x::xs,w,K=>step x w fun r w1=>qBL step xs w1 fun rs w2=>K (r.toList++rs) w2
section
variable (F:Str->List D->D->Prop) (LF:LexF)
noncomputable def tokK (x:Slot) (w:W) (Q:D->W->Prop):Prop:=match x with
 | .loc k=>(match w[k]? with
  | some (.lex (t::pb) sg)=>Q (.str t) (w.set k (.lex pb sg))
  | some (.lex [] sg)=>sg.length≤16777216/\Q (.str (LF.tok sg).1) (w.set k (.lex [] (LF.tok sg).2))
  | _=>False)
 | _=>False
mutual
noncomputable def E:ME->Sg->W->(D->W->Prop)->Prop
 | .cst c,σ,w,Q=>Q c.d w
 | .var k,σ,w,Q=>varK (σ.getD k .unb) w Q
 | .mark,σ,w,Q=>Q (.str [46,46,46]) w
 | .bin o l r,σ,w,Q=>E l σ w fun a w=>E r σ w fun b w=>binA o a b (fun d=>Q d w) (fun xs=>Q (.list xs) w)
 | .cmp o l r,σ,w,Q=>E l σ w fun a w=>E r σ w fun b w=>cmpK o a b fun t=>Q (.bool t) w
 | .and2 a b,σ,w,Q=>E a σ w fun x w=>truK x fun t=>if t=true then E b σ w Q else Q x w
 | .or2 a b,σ,w,Q=>E a σ w fun x w=>truK x fun t=>if t=true then Q x w else E b σ w Q
 | .ife c a b,σ,w,Q=>T c σ w fun t w=>if t=true then E a σ w Q else E b σ w Q
 | .list es,σ,w,Q=>EL es σ w fun ds w=>ds.length≤16777216/\Q (.list ds) w
 | .tup es,σ,w,Q=>EL es σ w fun ds w=>ds.length≤16777216/\Q (.tup ds) w
 | .idx e i,σ,w,Q=>E e σ w fun a w=>E i σ w fun b w=>idxK a b fun d=>Q d w
 | .sl e lo hi,σ,w,Q=>E e σ w fun a w=>E lo σ w fun l w=>E hi σ w fun h w=>slA a l h (fun d=>Q d w) (fun xs=>Q (.list xs) w)
 | .rev e,σ,w,Q=>E e σ w fun a w=>revL a fun xs=>Q (.list xs) w
 | .comp elt ts it,σ,w,Q=>E it σ w fun d w=>qAm d fun xs =>
  qBL (fun x w k=>qAJ ts x σ fun σ=>E elt σ w fun d w=>k (some d) w) xs w fun ds w=>Q (.list ds) w
 | .compIf elt ts it c,σ,w,Q=>E it σ w fun d w=>qAm d fun xs =>
  qBL (fun x w k=>qAJ ts x σ fun σ=>T c σ w fun t w=>if t=true then E elt σ w fun d w=>k (some d) w else k none w) xs w fun ds w=>Q (.list ds) w
 | .call f es,σ,w,Q=>EL es σ w fun ds w=>∃ r,F f ds r/\Q r w
 | .bi b es,σ,w,Q=>EL es σ w fun ds w=>biA b ds (fun d=>Q d w) (fun xs=>Q (.list xs) w)
 | .met m e es,σ,w,Q=>E e σ w fun a w=>(∃ s,a=.str s)/\EL es σ w fun ds w=>metA m a ds (fun d=>Q d w) (fun xs=>Q (.list xs) w)
 | .idxV k i,σ,w,Q=>qBY (σ.getD k .unb) w fun a=>E i σ w fun b w'=>w'=w/\idxK a b fun d=>Q d w
 | .lenV k,σ,w,Q=>qBY (σ.getD k .unb) w fun a=>biK .len [a] fun d=>Q d w
 | .isb e,σ,w,Q=>E e σ w fun a w=>match a with | .bool _=>Q (.bool true) w | _=>False
 | .inB1 e,σ,w,Q=>E e σ w fun a w=>∃ r,F "#b1" [a] r/\Q r w
 | .getB3 e,σ,w,Q=>E e σ w fun a w=>∃ r,F "#b3" [a] r/\Q r w
 | .tok k,σ,w,Q=>tokK LF (σ.getD k .unb) w Q
 | .newtok e,σ,w,Q=>E e σ w fun a w=>match a with | .str s=>w[0]?=some .fac/\s.length≤16777216/\Q (.str (LF.tok s).1) w | _=>False
noncomputable def T:MC->Sg->W->(Bool->W->Prop)->Prop
 | .val e,σ,w,Q=>E e σ w fun d w=>truK d fun t=>Q t w
 | .cmp o l r,σ,w,Q=>E l σ w fun a w=>E r σ w fun b w=>cmpK o a b fun t=>Q t w
 | .cmp2 o1 o2 a b c,σ,w,Q=>E a σ w fun x w=>E b σ w fun y w=>cmpK o1 x y fun t=>if t=true then E c σ w fun z w=>cmpK o2 y z fun t=>Q t w else Q false w
 | .isnn e,σ,w,Q=>E e σ w fun a w=>match a with | .none=>Q false w | .str _=>Q true w | _=>False
 | .and2 a b,σ,w,Q=>T a σ w fun t w=>if t=true then T b σ w Q else Q false w
 | .or2 a b,σ,w,Q=>T a σ w fun t w=>if t=true then Q true w else T b σ w Q
 | .not a,σ,w,Q=>T a σ w fun t w=>Q (!t) w
noncomputable def EL:ML->Sg->W->(List D->W->Prop)->Prop
 | .nil,σ,w,Q=>Q [] w
 | .cons e r,σ,w,Q=>E e σ w fun d w=>EL r σ w fun ds w=>Q (d::ds) w
end
inductive Fl where | nxt | cnt | ret (d:D)
noncomputable def qA2 (step:D->Sg->W->(Fl->Sg->W->Prop)->Prop):List D->Sg->W->(Fl->Sg->W->Prop)->Prop
 | [],σ,w,Q=>Q .nxt σ w
 | x::xs,σ,w,Q=>step x σ w fun f σ w=>match f with
  | .ret d=>Q (.ret d) σ w
  | _=>qA2 step xs σ w Q
noncomputable def qPW (k:Nat) (xs:List D) (σ:Sg) (w:W) (Q:Sg->W->Prop):Prop:=Q (σ.set k (.loc w.length)) (w++[.lst xs])
noncomputable def tupK:List (Nat×Bool)->List D->Sg->W->(Sg->W->Prop)->Prop
 | [],ds,σ,w,Q=>(match ds with
  | []=>Q σ w
  | _::_=>False)
 | k::ks,ds,σ,w,Q=>(match ds with
  | []=>False
  | d::ds=>if k.2=true then (match d with
   | .list xs=>tupK ks ds (σ.set k.1 (.loc w.length)) (w++[.lst xs]) Q
   | _=>False)
   else tupK ks ds (σ.set k.1 (.dat d)) w Q)
noncomputable def EO:ME->Sg->W->(List D->W->Prop)->Prop
 | .list .nil,σ,w,Q=>Q [] w
 | .bin o l r,σ,w,Q=>E F LF l σ w fun a w=>E F LF r σ w fun b w=>binL o a b fun xs=>Q xs w
 | .met m e es,σ,w,Q=>E F LF e σ w fun a w=>(∃ s,a=.str s)/\EL F LF es σ w fun ds w=>metL m a ds fun xs=>Q xs w
 | _,_,_,_=>False
mutual
noncomputable def SS:MS->Sg->W->(Fl->Sg->W->Prop)->Prop
 | .ret e,σ,w,Q=>E F LF e σ w fun d w=>Q (.ret d) σ w
 | .asg k e,σ,w,Q=>E F LF e σ w fun d w=>Q .nxt (σ.set k (.dat d)) w
 | .asgO k e,σ,w,Q=>EO F LF e σ w fun xs w=>Q .nxt (σ.set k (.loc w.length)) (w++[.lst xs])
 | .newlex k e,σ,w,Q=>E F LF e σ w fun d w=>match d with | .str s=>w[0]?=some .fac/\s.length≤16777216/\Q .nxt (σ.set k (.loc w.length)) (w++[.lex [] s]) | _=>False
 | .unp ks e,σ,w,Q=>E F LF e σ w fun d w=>qAJ ks d σ fun σ=>Q .nxt σ w
 | .asgT ks es,σ,w,Q=>EL F LF es σ w fun ds w=>ds.length≤8/\tupK ks ds σ w fun σ w=>Q .nxt σ w
 | .aug k o e,σ,w,Q=>(match σ.getD k .unb with
  | .dat (.int x)=>E F LF e σ w fun b w=>(match o,b with
   | .add,.int y=>Q .nxt (σ.set k (.dat (.int (x+y)))) w
   | .sub,.int y=>Q .nxt (σ.set k (.dat (.int (x-y)))) w
   | _,_=>False)
  | _=>False)
 | .ife c a b,σ,w,Q=>T F LF c σ w fun t w=>if t=true then SL a σ w Q else SL b σ w Q
 | .forr ts e body,σ,w,Q=>E F LF e σ w fun d w=>qAm d fun xs=>qA2 (fun x σ w k=>qAJ ts x σ fun σ=>SL body σ w k) xs σ w Q
 | .cont,σ,w,Q=>Q .cnt σ w
 | .asrt c,σ,w,Q=>T F LF c σ w fun t w=>t=true/\Q .nxt σ w
 | .del k i,σ,w,Q=>(match σ.getD k .unb with
  | .loc j=>(match w[j]? with
   | some (.lst xs)=>xs.length≤16777216/\((i=0/\xs≠[]/\Q .nxt σ (w.set j (.lst xs.tail)))\/(i=-1/\xs≠[]/\Q .nxt σ (w.set j (.lst xs.dropLast))))
   | _=>False)
  | _=>False)
 | .app k e,σ,w,Q=>(match σ.getD k .unb with
  | .loc j=>(∃ xs0,w[j]?=some (.lst xs0))/\E F LF e σ w fun d w=>(match w[j]? with
   | some (.lst xs)=>xs.length<16777216/\Q .nxt σ (w.set j (.lst (xs++[d])))
   | _=>False)
  | _=>False)
 | .push k e,σ,w,Q=>(match σ.getD k .unb with
  | .loc j=>(∃ pb sg,w[j]?=some (.lex pb sg))/\E F LF e σ w fun d w=>(match d,w[j]? with
   | .str t,some (.lex pb sg)=>pb.length<16777216/\Q .nxt σ (w.set j (.lex (pb++[t]) sg))
   | _,_=>False)
  | _=>False)
noncomputable def SL:MSL->Sg->W->(Fl->Sg->W->Prop)->Prop
 | .nil,σ,w,Q=>Q .nxt σ w
 | .cons s r,σ,w,Q=>SS s σ w fun f σ w=>match f with
  | .nxt=>SL r σ w Q
  | f=>Q f σ w
end
theorem xE1 (c) (σ:Sg) (w:W) (Q:D->W->Prop):E F LF (.cst c) σ w Q=(Q c.d w):=rfl
theorem xE2 (k) (σ:Sg) (w:W) (Q:D->W->Prop):E F LF (.var k) σ w Q=(varK (σ.getD k .unb) w Q):=rfl
theorem xE3 (σ:Sg) (w:W) (Q:D->W->Prop):E F LF (.mark) σ w Q=(Q (.str [46,46,46]) w):=rfl
theorem xE4 (o l r) (σ:Sg) (w:W) (Q:D->W->Prop):E F LF (.bin o l r) σ w Q=(E F LF l σ w fun a w=>E F LF r σ w fun b w=>binA o a b (fun d=>Q d w) (fun xs=>Q (.list xs) w)):=rfl
theorem xE5 (o l r) (σ:Sg) (w:W) (Q:D->W->Prop):E F LF (.cmp o l r) σ w Q=(E F LF l σ w fun a w=>E F LF r σ w fun b w=>cmpK o a b fun t=>Q (.bool t) w):=rfl
theorem xE6 (a b) (σ:Sg) (w:W) (Q:D->W->Prop):E F LF (.and2 a b) σ w Q=(E F LF a σ w fun x w=>truK x fun t=>if t=true then E F LF b σ w Q else Q x w):=rfl
theorem xE7 (a b) (σ:Sg) (w:W) (Q:D->W->Prop):E F LF (.or2 a b) σ w Q=(E F LF a σ w fun x w=>truK x fun t=>if t=true then Q x w else E F LF b σ w Q):=rfl
theorem xE8 (c a b) (σ:Sg) (w:W) (Q:D->W->Prop):E F LF (.ife c a b) σ w Q=(T F LF c σ w fun t w=>if t=true then E F LF a σ w Q else E F LF b σ w Q):=rfl
theorem xE9 (es) (σ:Sg) (w:W) (Q:D->W->Prop):E F LF (.list es) σ w Q=(EL F LF es σ w fun ds w=>ds.length≤16777216/\Q (.list ds) w):=rfl
theorem xE10 (es) (σ:Sg) (w:W) (Q:D->W->Prop):E F LF (.tup es) σ w Q=(EL F LF es σ w fun ds w=>ds.length≤16777216/\Q (.tup ds) w):=rfl
theorem xE11 (e i) (σ:Sg) (w:W) (Q:D->W->Prop):E F LF (.idx e i) σ w Q=(E F LF e σ w fun a w=>E F LF i σ w fun b w=>idxK a b fun d=>Q d w):=rfl
theorem xE12 (e lo hi) (σ:Sg) (w:W) (Q:D->W->Prop):E F LF (.sl e lo hi) σ w Q=(E F LF e σ w fun a w=>E F LF lo σ w fun l w=>E F LF hi σ w fun h w=>slA a l h (fun d=>Q d w) (fun xs=>Q (.list xs) w)):=rfl
theorem xE13 (e) (σ:Sg) (w:W) (Q:D->W->Prop):E F LF (.rev e) σ w Q=(E F LF e σ w fun a w=>revL a fun xs=>Q (.list xs) w):=rfl
theorem xE14 (elt ts it) (σ:Sg) (w:W) (Q:D->W->Prop):E F LF (.comp elt ts it) σ w Q=(E F LF it σ w fun d w=>qAm d fun xs =>
 qBL (fun x w k=>qAJ ts x σ fun σ=>E F LF elt σ w fun d w=>k (some d) w) xs w fun ds w=>Q (.list ds) w):=rfl
theorem xE15 (elt ts it c) (σ:Sg) (w:W) (Q:D->W->Prop):E F LF (.compIf elt ts it c) σ w Q=(E F LF it σ w fun d w=>qAm d fun xs =>
 qBL (fun x w k=>qAJ ts x σ fun σ=>T F LF c σ w fun t w=>if t=true then E F LF elt σ w fun d w=>k (some d) w else k none w) xs w fun ds w=>Q (.list ds) w):=rfl
theorem xE16 (f es) (σ:Sg) (w:W) (Q:D->W->Prop):E F LF (.call f es) σ w Q=(EL F LF es σ w fun ds w=>∃ r,F f ds r/\Q r w):=rfl
theorem xE17 (b es) (σ:Sg) (w:W) (Q:D->W->Prop):E F LF (.bi b es) σ w Q=(EL F LF es σ w fun ds w=>biA b ds (fun d=>Q d w) (fun xs=>Q (.list xs) w)):=rfl
theorem xE18 (m e es) (σ:Sg) (w:W) (Q:D->W->Prop):E F LF (.met m e es) σ w Q=(E F LF e σ w fun a w=>(∃ s,a=.str s)/\EL F LF es σ w fun ds w=>metA m a ds (fun d=>Q d w) (fun xs=>Q (.list xs) w)):=rfl
theorem xE19 (k i) (σ:Sg) (w:W) (Q:D->W->Prop):E F LF (.idxV k i) σ w Q=(qBY (σ.getD k .unb) w fun a=>E F LF i σ w fun b w'=>w'=w/\idxK a b fun d=>Q d w):=rfl
theorem xE20 (k) (σ:Sg) (w:W) (Q:D->W->Prop):E F LF (.lenV k) σ w Q=(qBY (σ.getD k .unb) w fun a=>biK .len [a] fun d=>Q d w):=rfl
theorem xE21 (e) (σ:Sg) (w:W) (Q:D->W->Prop):E F LF (.isb e) σ w Q=(E F LF e σ w fun a w=>match a with | .bool _=>Q (.bool true) w | _=>False):=rfl
theorem xE22 (e) (σ:Sg) (w:W) (Q:D->W->Prop):E F LF (.inB1 e) σ w Q=(E F LF e σ w fun a w=>∃ r,F "#b1" [a] r/\Q r w):=rfl
theorem xE23 (e) (σ:Sg) (w:W) (Q:D->W->Prop):E F LF (.getB3 e) σ w Q=(E F LF e σ w fun a w=>∃ r,F "#b3" [a] r/\Q r w):=rfl
theorem xE24 (k) (σ:Sg) (w:W) (Q:D->W->Prop):E F LF (.tok k) σ w Q=(tokK LF (σ.getD k .unb) w Q):=rfl
theorem xE25 (e) (σ:Sg) (w:W) (Q:D->W->Prop):E F LF (.newtok e) σ w Q=(E F LF e σ w fun a w=>match a with | .str s=>w[0]?=some .fac/\s.length≤16777216/\Q (.str (LF.tok s).1) w | _=>False):=rfl
theorem xT1 (e) (σ:Sg) (w:W) (Q:Bool->W->Prop):T F LF (.val e) σ w Q=(E F LF e σ w fun d w=>truK d fun t=>Q t w):=rfl
theorem xT2 (o l r) (σ:Sg) (w:W) (Q:Bool->W->Prop):T F LF (.cmp o l r) σ w Q=(E F LF l σ w fun a w=>E F LF r σ w fun b w=>cmpK o a b fun t=>Q t w):=rfl
theorem xT3 (o1 o2 a b c) (σ:Sg) (w:W) (Q:Bool->W->Prop):T F LF (.cmp2 o1 o2 a b c) σ w Q=(E F LF a σ w fun x w=>E F LF b σ w fun y w=>cmpK o1 x y fun t=>if t=true then E F LF c σ w fun z w=>cmpK o2 y z fun t=>Q t w else Q false w):=rfl
theorem xT4 (e) (σ:Sg) (w:W) (Q:Bool->W->Prop):T F LF (.isnn e) σ w Q=(E F LF e σ w fun a w=>match a with | .none=>Q false w | .str _=>Q true w | _=>False):=rfl
theorem xT5 (a b) (σ:Sg) (w:W) (Q:Bool->W->Prop):T F LF (.and2 a b) σ w Q=(T F LF a σ w fun t w=>if t=true then T F LF b σ w Q else Q false w):=rfl
theorem xT6 (a b) (σ:Sg) (w:W) (Q:Bool->W->Prop):T F LF (.or2 a b) σ w Q=(T F LF a σ w fun t w=>if t=true then Q true w else T F LF b σ w Q):=rfl
theorem xT7 (a) (σ:Sg) (w:W) (Q:Bool->W->Prop):T F LF (.not a) σ w Q=(T F LF a σ w fun t w=>Q (!t) w):=rfl
theorem xEL1 (σ:Sg) (w:W) (Q:List D->W->Prop):EL F LF (.nil) σ w Q=(Q [] w):=rfl
theorem xEL2 (e r) (σ:Sg) (w:W) (Q:List D->W->Prop):EL F LF (.cons e r) σ w Q=(E F LF e σ w fun d w=>EL F LF r σ w fun ds w=>Q (d::ds) w):=rfl
theorem xSS1 (e) (σ:Sg) (w:W) (Q:Fl->Sg->W->Prop):SS F LF (.ret e) σ w Q=(E F LF e σ w fun d w=>Q (.ret d) σ w):=rfl
theorem xSS2 (k e) (σ:Sg) (w:W) (Q:Fl->Sg->W->Prop):SS F LF (.asg k e) σ w Q=(E F LF e σ w fun d w=>Q .nxt (σ.set k (.dat d)) w):=rfl
theorem xSS3 (k e) (σ:Sg) (w:W) (Q:Fl->Sg->W->Prop):SS F LF (.asgO k e) σ w Q=(EO F LF e σ w fun xs w=>Q .nxt (σ.set k (.loc w.length)) (w++[.lst xs])):=rfl
theorem xSS4 (k e) (σ:Sg) (w:W) (Q:Fl->Sg->W->Prop):SS F LF (.newlex k e) σ w Q=(E F LF e σ w fun d w=>match d with | .str s=>w[0]?=some .fac/\s.length≤16777216/\Q .nxt (σ.set k (.loc w.length)) (w++[.lex [] s]) | _=>False):=rfl
theorem xSS5 (ks e) (σ:Sg) (w:W) (Q:Fl->Sg->W->Prop):SS F LF (.unp ks e) σ w Q=(E F LF e σ w fun d w=>qAJ ks d σ fun σ=>Q .nxt σ w):=rfl
theorem xSS6 (ks es) (σ:Sg) (w:W) (Q:Fl->Sg->W->Prop):SS F LF (.asgT ks es) σ w Q=(EL F LF es σ w fun ds w=>ds.length≤8/\tupK ks ds σ w fun σ w=>Q .nxt σ w):=rfl
theorem xSS7 (k o e) (σ:Sg) (w:W) (Q:Fl->Sg->W->Prop):SS F LF (.aug k o e) σ w Q=((match σ.getD k .unb with
 | .dat (.int x)=>E F LF e σ w fun b w=>(match o,b with
  | .add,.int y=>Q .nxt (σ.set k (.dat (.int (x+y)))) w
  | .sub,.int y=>Q .nxt (σ.set k (.dat (.int (x-y)))) w
  | _,_=>False)
 | _=>False)):=rfl
theorem xSS8 (c a b) (σ:Sg) (w:W) (Q:Fl->Sg->W->Prop):SS F LF (.ife c a b) σ w Q=(T F LF c σ w fun t w=>if t=true then SL F LF a σ w Q else SL F LF b σ w Q):=rfl
theorem xSS9 (ts e body) (σ:Sg) (w:W) (Q:Fl->Sg->W->Prop):SS F LF (.forr ts e body) σ w Q=(E F LF e σ w fun d w=>qAm d fun xs=>qA2 (fun x σ w k=>qAJ ts x σ fun σ=>SL F LF body σ w k) xs σ w Q):=rfl
theorem xSS10 (σ:Sg) (w:W) (Q:Fl->Sg->W->Prop):SS F LF (.cont) σ w Q=(Q .cnt σ w):=rfl
theorem xSS11 (c) (σ:Sg) (w:W) (Q:Fl->Sg->W->Prop):SS F LF (.asrt c) σ w Q=(T F LF c σ w fun t w=>t=true/\Q .nxt σ w):=rfl
theorem xSS12 (k i) (σ:Sg) (w:W) (Q:Fl->Sg->W->Prop):SS F LF (.del k i) σ w Q=((match σ.getD k .unb with
 | .loc j=>(match w[j]? with
  | some (.lst xs)=>xs.length≤16777216/\((i=0/\xs≠[]/\Q .nxt σ (w.set j (.lst xs.tail)))\/(i=-1/\xs≠[]/\Q .nxt σ (w.set j (.lst xs.dropLast))))
  | _=>False)
 | _=>False)):=rfl
theorem xSS13 (k e) (σ:Sg) (w:W) (Q:Fl->Sg->W->Prop):SS F LF (.app k e) σ w Q=((match σ.getD k .unb with
 | .loc j=>(∃ xs0,w[j]?=some (.lst xs0))/\E F LF e σ w fun d w=>(match w[j]? with
  | some (.lst xs)=>xs.length<16777216/\Q .nxt σ (w.set j (.lst (xs++[d])))
  | _=>False)
 | _=>False)):=rfl
theorem xSS14 (k e) (σ:Sg) (w:W) (Q:Fl->Sg->W->Prop):SS F LF (.push k e) σ w Q=((match σ.getD k .unb with
 | .loc j=>(∃ pb sg,w[j]?=some (.lex pb sg))/\E F LF e σ w fun d w=>(match d,w[j]? with
  | .str t,some (.lex pb sg)=>pb.length<16777216/\Q .nxt σ (w.set j (.lex (pb++[t]) sg))
  | _,_=>False)
 | _=>False)):=rfl
theorem xSL1 (σ:Sg) (w:W) (Q:Fl->Sg->W->Prop):SL F LF (.nil) σ w Q=(Q .nxt σ w):=rfl
theorem xSL2 (s r) (σ:Sg) (w:W) (Q:Fl->Sg->W->Prop):SL F LF (.cons s r) σ w Q=(SS F LF s σ w fun f σ w=>match f with
 | .nxt=>SL F LF r σ w Q
 | f=>Q f σ w):=rfl
theorem xEO1 (σ:Sg) (w:W) (Q:List D->W->Prop):EO F LF (.list .nil) σ w Q=(Q [] w):=rfl
theorem xEO2 (o l r) (σ:Sg) (w:W) (Q:List D->W->Prop):EO F LF (.bin o l r) σ w Q=(E F LF l σ w fun a w=>E F LF r σ w fun b w=>binL o a b fun xs=>Q xs w):=rfl
theorem xEO3 (m e es) (σ:Sg) (w:W) (Q:List D->W->Prop):EO F LF (.met m e es) σ w Q=(E F LF e σ w fun a w=>(∃ s,a=.str s)/\EL F LF es σ w fun ds w=>metL m a ds fun xs=>Q xs w):=rfl
end
theorem qAD (h:Heap):h.get? h.objs.size=Option.none:=by
 cases e:h.get? h.objs.size with
 | none=>rfl
 | some o=>exact absurd (Heap.lt_size e) (Nat.lt_irrefl _)
section
variable (lp:LexP) (hb:Heap)
inductive KRes (S:St) (w:W) (K:D->Prop) (v:Value) (s':Shared):Prop
 | mk (S':St) (d:D) (h0:S'.s=s') (h1:Ok lp hb S' w) (h2:Le S S') (h3:Rep S'.B v d) (h4:K d):KRes S w K v s'
inductive LRes (S:St) (w:W) (K:List D->Prop) (v:Value) (s':Shared):Prop
 | mk (S':St) (a:Addr) (vs:Array Value) (xs:List D) (h0:v=.ref a) (h1:S'.s=s') (h2:Ok lp hb S' w) (h3:Le S S') (h4:S.h.get? a=Option.none) (h5:S'.B a=Option.none) (h6:a ∉ S'.fps) (h7:S'.h.PlainList a vs) (h8:RepL S'.B vs.toList xs) (h9:K xs):LRes S w K v s'
inductive ERes (S:St) (Q:D->W->Prop) (v:Value) (s':Shared):Prop
 | mk (S':St) (w':W) (d:D) (h0:S'.s=s') (h1:Ok lp hb S' w') (h2:Le S S') (h3:Rep S'.B v d) (h4:Q d w'):ERes S Q v s'
end
section
variable {lp:LexP} {hb:Heap} {S:St} {w:W}
theorem KRes.e {Q:D->W->Prop} {v:Value} {s':Shared} (h:KRes lp hb S w (fun d=>Q d w) v s'):ERes lp hb S Q v s' :=
 let ⟨S',d,e,O,L,R,q⟩:=h; ⟨S',w,d,e,O,L,R,q⟩
theorem LRes.k {K:List D->Prop} {v:Value} {s':Shared} (h:LRes lp hb S w K v s'):KRes lp hb S w (fun d=>∃ xs,d=.list xs/\K xs) v s':=by
 obtain ⟨S',a,vs,xs,rfl,rfl,O,L,hn,hB,hf,⟨n,ho⟩,R,k⟩:=h
 have hc:({ cls:=.type "list",data:=.seq vs n }:Obj).cls=.type "list" := rfl
 have hd:({ cls:=.type "list",data:=.seq vs n }:Obj).data=.seq vs n:=rfl
 exact ⟨{ S' with B:=S'.B.put a { cls:=.type "list",data:=.seq vs n } },.list xs,rfl,O.freeze ho hB hf,L.freeze hn hB,.list (Fz.put_self _ _ _) hc hd (R.mono (qHP hB)),xs,rfl,k⟩
theorem KRes.mono {K K':D->Prop} {v:Value} {s':Shared} (h:KRes lp hb S w K v s') (m:∀ d,K d->K' d):KRes lp hb S w K' v s' :=
 let ⟨S',d,e,O,L,R,q⟩:=h; ⟨S',d,e,O,L,R,m _ q⟩
theorem ERes.mono {Q Q':D->W->Prop} {v:Value} {s':Shared} (h:ERes lp hb S Q v s') (m:∀ d w,Q d w->Q' d w):ERes lp hb S Q' v s' :=
 let ⟨S',w',d,e,O,L,R,q⟩:=h; ⟨S',w',d,e,O,L,R,m _ _ q⟩
theorem ERes.le {S₀:St} {Q:D->W->Prop} {v:Value} {s':Shared} (l:Le S₀ S) (h:ERes lp hb S Q v s'):ERes lp hb S₀ Q v s' :=
 let ⟨S',w',d,e,O,L,R,q⟩:=h; ⟨S',w',d,e,O,l.trans L,R,q⟩
theorem LRes.e {Q:D->W->Prop} {v:Value} {s':Shared} (h:LRes lp hb S w (fun xs=>Q (.list xs) w) v s'):ERes lp hb S Q v s' :=
 (h.k.mono fun d ⟨xs,e,q⟩=>by rw [e]; exact q).e
theorem KRes.val (O:Ok lp hb S w) {K:D->Prop} {v:Value} {d:D} {tk:Nat} (r:Rep S.B v d) (k:K d):KRes lp hb S w K v { S.s with toks:=tk } :=
 ⟨{ S with s:={ S.s with toks:=tk } },d,rfl,(O.tok).1,(O.tok (tk:=tk)).2,r,k⟩
theorem KRes.here (O:Ok lp hb S w) {K:D->Prop} {v:Value} {d:D} (r:Rep S.B v d) (k:K d):KRes lp hb S w K v S.s :=
 ⟨S,d,rfl,O,LeX.refl _ _,r,k⟩
theorem KRes.quiet (O:Ok lp hb S w) {K:D->Prop} {v:Value} {d:D} {h':Heap} {tk:Nat} (k:∀ b o,S.h.get? b=some o->h'.get? b=some o) (r:Rep S.B v d) (q:K d) :
 KRes lp hb S w K v { S.s with heap:=h',toks:=tk } :=
 ⟨{ S with s:={ S.s with heap:=h',toks:=tk } },d,rfl,(O.quiet k).1,(O.quiet (tk:=tk) k).2,r,q⟩
theorem LRes.new (O:Ok lp hb S w) {K:List D->Prop} {a:Addr} {vs:Array Value} {xs:List D} {h':Heap} {tk:Nat} (k:∀ b o,S.h.get? b=some o->h'.get? b=some o)
 (hn:S.h.get? a=Option.none) (hl:h'.PlainList a vs) (r:RepL S.B vs.toList xs) (q:K xs):LRes lp hb S w K (.ref a) { S.s with heap:=h',toks:=tk } :=
 ⟨{ S with s:={ S.s with heap:=h',toks:=tk } },a,vs,xs,rfl,rfl,(O.quiet k).1,(O.quiet (tk:=tk) k).2,hn,O.bNone hn,O.fpNone hn,hl,r,q⟩
theorem LRes.push (O:Ok lp hb S w) {K:List D->Prop} {vs:Array Value} {xs:List D} {n:Nat} {tk:Nat} (r:RepL S.B vs.toList xs) (q:K xs) :
 LRes lp hb S w K (.ref S.h.objs.size) { S.s with heap:=S.h.push { cls:=.type "list",data:=.seq vs n },toks:=tk } :=
 LRes.new O (fun b o e=>Heap.get?_push_of_some _ e) (qAD _) ⟨n,Heap.get?_push_size _ rfl⟩ r q
theorem KRes.push (O:Ok lp hb S w) {K:D->Prop} {o:Obj} {d:D} {tk:Nat} (ho:o.isFreed=false) (r:Rep (S.B.put S.h.objs.size o) (.ref S.h.objs.size) d) (q:K d) :
 KRes lp hb S w K (.ref S.h.objs.size) { S.s with heap:=S.h.push o,toks:=tk }:=by
 have kk:∀ b o',S.h.get? b=some o'->(S.h.push o).get? b=some o':=fun b o' e=>Heap.get?_push_of_some _ e
 have O':=(O.quiet (tk:=tk) kk).1
 have L':=(O.quiet (tk:=tk) kk).2
 have hB:=O.bNone (qAD S.h)
 exact ⟨{ B:=S.B.put S.h.objs.size o,own:=S.own,s:={ S.s with heap:=S.h.push o,toks:=tk } },d,rfl,
  O'.freeze (Heap.get?_push_size _ ho) hB (O.fpNone (qAD S.h)),L'.freeze (qAD S.h) hB,r,q⟩
theorem Rep.lst {B:Fz} {v:Value} {xs:List D} (h:Rep B v (.list xs)):∃ a o vs n,v=.ref a/\B a=some o/\o.cls=.type "list" /\ o.data=.seq vs n/\RepL B vs.toList xs:=by
 cases h with | list e1 e2 e3 r=>exact ⟨_,_,_,_,rfl,e1,e2,e3,r⟩
theorem Rep.isList (O:Ok lp hb S w) {v:Value} {xs:List D} (h:Rep S.B v (.list xs)):∃ a vs,v=.ref a/\S.h.IsList a vs/\RepL S.B vs.toList xs:=by
 refine x45 h.lst fun a o vs n eq4 e1 e2 e3 r=>?_
 clear h
 subst eq4
 exact ⟨a,vs,rfl,⟨o,O.sub _ _ e1,e2,n,e3⟩,r⟩
theorem Rep.str' {B:Fz} {v:Value} {s:List Nat} (h:Rep B v (.str s)):∃ t,v=.str (toS s) t:=by
 cases h with | str s t=>exact ⟨t,rfl⟩
theorem Rep.int' {B:Fz} {v:Value} {i:Int} (h:Rep B v (.int i)):∃ t,v=.int i t:=by
 cases h with | int i t=>exact ⟨t,rfl⟩
theorem Rep.bool' {B:Fz} {v:Value} {b:Bool} (h:Rep B v (.bool b)):v=.bool b:=by
 cases h with | bool b=>rfl
theorem Rep.none' {B:Fz} {v:Value} (h:Rep B v .none):v=.none:=by
 cases h; rfl
theorem Rep.toS {B:Fz} {s:List Nat} {t:Tok}:Rep B (.str (toS s) t) (.str s):=.str s t
theorem Rep.ofS {B:Fz} {x:Str} {t:Tok}:Rep B (.str x t) (.str x.cps.toList):=by
 have:x=⟨x.cps.toList.toArray⟩:=by cases x; simp
 conv=>arg 2; rw [this]
 exact .str _ _
theorem qCI (a b:List Nat):toS a++toS b=toS (a++b):=by
 apply Str.ext'
 simp [toS,Str.cps_append]
theorem qAF (a:List Nat):(toS a).length=a.length:=by simp [toS,Str.length]
theorem qAp (a:List Nat):(toS a).cps.toList=a:=by simp [toS]
theorem qB2 (l:List Nat):∀ (k:Nat) (acc:Array Nat),(List.replicate k l.toArray).foldl (·++·) acc=(acc.toList++(List.replicate k l).flatten).toArray
 | 0,acc=>by simp
 | k+1,acc=>by simp [List.replicate_succ,qB2 l k]
set_option tactic.hygienic true in
theorem qNF (a:List Nat) (n:Int) (h:0≤n):Txt.mul (toS a) n=toS (List.replicate n.toNat a).flatten:=by
 unfold Txt.mul
 split
 · have:n.toNat=0:=by exact as39 ‹_›
   rw [this]; rfl
 · split
   · rename_i h1 h2
     rcases Bool.or_eq_true_iff.mp h2 with q | q
     · have:n=1:=by simpa using q
       clear q h2 h1 h
       subst this
       simp
     · have:a=[]:=by simpa [toS,Str.length] using q
       clear q h2
       subst this
       simp [toS]
   · unfold toS; simp only [qB2]; simp
theorem qC7 {a b:List Nat} (h:toS a=toS b):a=b:=by
 have:=congrArg (fun x:Str=>x.cps.toList) h; simpa [toS] using this
variable {prog:Program} {w₀:World} {A:Around} {Er:Value->Shared->Prop}
section
variable {B:Fz} {v:Value} {d:D}
@[elab_as_elim] theorem intE {f:Int->Prop} {P:Value->Prop} (r:Rep B v d) (h:qPE d f) (k:∀ i t,f i->P (.int i t)):P v:=by
 cases r <;> first | exact h.elim | exact k _ _ h
@[elab_as_elim] theorem strE {f:List Nat->Prop} {P:Value->Prop} (r:Rep B v d) (h:qPK d f) (k:∀ s t,f s->P (.str (toS s) t)):P v:=by
 cases r <;> first | exact h.elim | exact k _ _ h
@[elab_as_elim] theorem qFw {f:List D->Prop} {P:Value->Prop} (O:Ok lp hb S w) (r:Rep S.B v d) (h:qFg d f) (k:∀ a vs xs,S.h.IsList a vs->RepL S.B vs.toList xs->f xs->P (.ref a)):P v:=by
 cases r with
 | list e1 e2 e3 r=>exact k _ _ _ ⟨_,O.sub _ _ e1,e2,_,e3⟩ r h
 | _=>exact h.elim
variable {vs:List Value} {ds:List D}
@[elab_as_elim] theorem on1E {f:D->Prop} {P:List Value->Prop} (r:RepL B vs ds) (h:on1 ds f) (k:∀ v d,Rep B v d->f d->P [v]):P vs:=by
 cases r with
 | nil=>exact h.elim
 | cons p q=>cases q with
  | nil=>exact k _ _ p h
  | cons=>exact h.elim
@[elab_as_elim] theorem on2E {f:D->D->Prop} {P:List Value->Prop} (r:RepL B vs ds) (h:on2 ds f) (k:∀ v d u e,Rep B v d->Rep B u e->f d e->P [v,u]):P vs:=by
 cases r with
 | nil=>exact h.elim
 | cons p q=>cases q with
  | nil=>exact h.elim
  | cons p2 q=>cases q with
   | nil=>exact k _ _ _ _ p p2 h
   | cons=>exact h.elim
@[elab_as_elim] theorem on3E {f:D->D->D->Prop} {P:List Value->Prop} (r:RepL B vs ds) (h:on3 ds f) (k:∀ v d u e x g,Rep B v d->Rep B u e->Rep B x g->f d e g->P [v,u,x]):P vs:=by
 cases r with
 | nil=>exact h.elim
 | cons p q=>cases q with
  | nil=>exact h.elim
  | cons p2 q=>cases q with
   | nil=>exact h.elim
   | cons p3 q=>cases q with
    | nil=>exact k _ _ _ _ _ _ p p2 p3 h
    | cons=>exact h.elim
end
theorem qHz (O:Ok lp hb S w) {o:BOp} {v1 v2:Value} {d1 d2:D} {K:D->Prop} {op:Operator} (ho:trOp op=some o) (r1:Rep S.B v1 d1) (r2:Rep S.B v2 d2) (h:binK o d1 d2 K) :
 wpAny (model prog w₀) A (binaryOp op v1 v2) (KRes lp hb S w K) Er S.s:=by
 cases op <;> cases ho
 · cases r1 with
   | int=>exact intE r2 h fun b u h=>wpAny_add_int (KRes.val O (.int _ _) h)
   | str s t =>
    refine strE r2 h fun b u h=>PyProof.Rows.add_str (hsz:=by rw [qAF,sizeLine_eq]; exact h.1) fun t' tk=>?_
    show KRes lp hb S w K (.str (toS s++toS b) _) _
    rw [qCI]
    exact KRes.val O .toS h.2
   | _=>exact h.elim
 · exact intE r1 h fun a t h=>intE r2 h fun b u h=>sub_int (KRes.val O (.int _ _) h)
 · refine strE r1 h fun a t h=>intE r2 h fun n u h=>?_
   obtain ⟨h1,h2,h3,h4⟩:=h
   refine SB.mul (mulOk_of 1 1000 (by rw [qAF]; (exact Nat.le_of_eq ‹_›)) (by exact Int.le_trans ‹_› (by decide)) (by lia) (by decide) (by decide)) fun t' k=>?_
   rw [qNF a n h2]
   exact KRes.val O .toS h4
 · exact intE r1 h fun a t h=>intE r2 h fun b u h=>mod_int h.1 (KRes.val O (.int _ _) h.2)
 · exact intE r1 h fun a t h=>intE r2 h fun b u h=>PyProof.Rows.floordiv_int h.1 (KRes.val O (.int _ _) h.2.2) (.inl (PyProof.noPylong_small h.2.1))
theorem qD6 {h:Heap} {a:Addr} {vs:Array Value} (x:h.IsList a vs):∃ d n sl,h.get? a=some { cls:=.type "list",dict:=d,data:=.seq vs n,slots:=sl }:=by
 refine cps fun X9 k9=>?_
 obtain ⟨⟨c,d,dt,sl⟩,ho,hc,n,hd⟩:=x
 refine k9 ?_
 clear k9
 simp only at hc hd
 subst hc hd
 exact ⟨d,n,sl,ho⟩
theorem qHf {B:Fz} {vs:List Value} {xs:List D} (r:RepL B vs xs):∀ n:Nat,RepL B (List.replicate n vs).flatten (List.replicate n xs).flatten
 | 0=>by exact RepL.nil
 | n+1=>by simpa [List.replicate_succ] using r.append (qHf r n)
theorem qEb (O:Ok lp hb S w) {o:BOp} {v1 v2:Value} {d1 d2:D} {K:List D->Prop} {op:Operator} (ho:trOp op=some o) (r1:Rep S.B v1 d1) (r2:Rep S.B v2 d2) (h:binL o d1 d2 K) :
 wpAny (model prog w₀) A (binaryOp op v1 v2) (LRes lp hb S w K) Er S.s:=by
 cases op <;> cases ho <;> try exact h.elim
 · refine qFw O r1 h fun a vs x l1 q1 h=>qFw O r2 h fun b ws y l2 q2 h=>?_
   refine x31 (qD6 l1) fun dd n sl ho=>?_
   refine x31 (qD6 l2) fun dd2 n2 sl2 ho2=>?_
   have e1:=q1.length
   have e2:=q2.length
   refine concat_meets ⟨_,ho,rfl⟩ ⟨_,ho2,rfl⟩ noFill_list_add seq_list_add PySem.F.slot_list_add PySem.F.entry_list_add (PySem.F.args_list_add_2 _ _)
    (list_addW a b vs ws n n2 dd dd2 sl sl2 (by rw [sizeLine_eq]; simp at e1 e2; have:=h.1; (exact as54 ‹_› ‹_› ‹_›))) ⟨ho,ho2,?_⟩
   exact LRes.push O (by simpa using q1.append q2) h.2
 · refine qFw O r1 h fun a vs xs l1 q1 h=>intE r2 h fun x u h=>?_
   refine cps fun X9 k9=>?_
   refine x31 (qD6 l1) fun dd n sl ho=>?_
   obtain ⟨h1,h2,h3,h4⟩:=h
   have e1:=q1.length
   have hsz:vs.size*x.toNat≤2 ^ 24:=by simp at e1; rw [e1]; assumption
   refine k9 ?_
   clear k9
   refine wpAny_binaryOp_repeat_ref (T := "list") (U := "int") (by decide) ⟨_,ho,rfl⟩ (fun s'=>typeIs_int s' x u) noFill_list_mul PySem.F.fills_int_mul PySem.F.slot_int_rmul repeat_list PySem.F.slot_int_index.lookup
    (call_meets PySem.F.slot_int_rmul (typeIs_int S.s x u) PySem.F.entry_int_rmul (PySem.F.args_int_rmul_2 _ _) (lm_int_rmul_list_any x u a vs n dd sl)
    ⟨ho,rfl,⟨_,ho,rfl⟩,call_meets PySem.F.slot_list_mul ⟨_,ho,rfl⟩ PySem.F.entry_list_mul (PySem.F.args_list_mul_2 _ _)
      (lm_list_mul_any a vs n dd sl x u (by simp [Builtin.List.listFitsIndex]; (exact ar36 ‹_› ‹_›)) (by lia) (by simp [Builtin.List.listTooLong,sizeLine]; assumption))
      ⟨ho,?_⟩⟩)
   have hr:=qHf q1 x.toNat
   refine LRes.push O (xs:=(List.replicate x.toNat xs).flatten) ?_ h4
   by_cases hv:vs.isEmpty=true
   · have hv':vs=#[]:=by simpa using hv
     clear hv hsz e1 ho q1 l1
     subst hv'
     simpa using hr
   · rw [if_neg hv,listMul_foldl]
     exact hr
theorem qEc {B:Fz} {xs ys:List D} {b:Bool} (h:FlatEq xs ys b) {vs ws:List Value} (r1:RepL B vs xs) (r2:RepL B ws ys) :
 (vs.length≠ws.length->b=false)/\(vs.length=ws.length->∃ e:Nat->Bool,(List.range vs.length).all e=b /\
   ∀ (A:Around) (s:Shared) j (h1:j<vs.length) (h2:j<ws.length),PySem.SeqAt.EqAt A s vs[j] ws[j] (e j)):=by
 have e1:=r1.length
 have e2:=r2.length
 have key:∀ {α:Type} [DecidableEq α] [Inhabited α] (f:α->D) (l m:List α),xs=l.map f->ys=m.map f->b=decide (l=m) ->
  (∀ a b v w,Rep B v (f a)->Rep B w (f b)->∀ A s,PySem.SeqAt.EqAt A s v w (decide (a=b))) ->
  (vs.length≠ws.length->b=false)/\(vs.length=ws.length->∃ e:Nat->Bool,(List.range vs.length).all e=b /\
  ∀ (A:Around) (s:Shared) j (h1:j<vs.length) (h2:j<ws.length),PySem.SeqAt.EqAt A s vs[j] ws[j] (e j)):=by
  intro α _ _ f l m hl hm hb hf
  subst hl hm hb
  simp only [List.length_map] at e1 e2
  refine ⟨fun hne=>decide_eq_false (fun q=>hne (by rw [e1,e2,q])),fun he=>⟨fun j=>decide (l.getD j default=m.getD j default),?_,fun A s j h1 h2=>?_⟩⟩
  · have hlm:l.length=m.length:=by lia
    rw [e1,Bool.eq_iff_iff]
    simp only [List.all_eq_true,List.mem_range,decide_eq_true_eq]
    constructor
    · intro h
      refine List.ext_getElem hlm fun i i1 i2=>?_
      have:=h i i1
      simpa [List.getD_eq_getElem?_getD,List.getElem?_eq_getElem i1,List.getElem?_eq_getElem i2] using this
    · intro h; subst h; exact fun _ _=>rfl
  · refine x12 (r1.getV (List.getElem?_eq_getElem h1)) fun d1 q1 p1=>?_
    refine x12 (r2.getV (List.getElem?_eq_getElem h2)) fun d2 q2 p2=>?_
    have i1:j<l.length:=by exact as55 ‹_› ‹_›
    have i2:j<m.length:=by exact as55 ‹_› ‹_›
    simp only [List.getElem?_map,List.getElem?_eq_getElem i1,List.getElem?_eq_getElem i2,Option.map_some,Option.some.injEq] at q1 q2
    subst q1 q2
    simpa [List.getD_eq_getElem?_getD,List.getElem?_eq_getElem i1,List.getElem?_eq_getElem i2] using hf _ _ _ _ p1 p2 A s
 clear e2 e1 r2 r1
 cases h with
 | ss l m =>
  refine key .str l m rfl rfl rfl fun a b v w p q A s=>?_
  obtain ⟨t,rfl⟩:=p.str'; obtain ⟨u,rfl⟩:=q.str'
  have:(toS a == toS b)=decide (a=b):=by
   rw [Bool.eq_iff_iff]; simp only [beq_iff_eq,decide_eq_true_eq]
   exact ⟨qC7,fun h=>by rw [h]⟩
  rw [← this]; exact PySem.SeqAt.EqAt.str_str _ _ _ _
 | bs l m =>
  refine key .bool l m rfl rfl rfl fun a b v w p q A s=>?_
  obtain rfl:=p.bool'; obtain rfl:=q.bool'
  have:(a == b)=decide (a=b):=by cases a <;> cases b <;> rfl
  rw [← this]; exact PySem.SeqAt.EqAt.bool_bool _ _
 | is l m =>
  refine key .int l m rfl rfl rfl fun a b v w p q A s=>?_
  obtain ⟨t,rfl⟩:=p.int'; obtain ⟨u,rfl⟩:=q.int'
  have:(a == b)=decide (a=b):=by
   rw [Bool.eq_iff_iff]; simp
  rw [← this]; exact PySem.SeqAt.EqAt.int_int _ _ _ _
theorem qEl {B:Fz} {x:D} {ys:List D} {b:Bool} (h:FlatIn x ys b) {v:Value} {ws:List Value} (r1:Rep B v x) (r2:RepL B ws ys) :
 ∃ e:Value->Bool,ws.any e=b/\∀ (A:Around) (s:Shared) y,y∈ws->PySem.SeqAt.EqAt A s y v (e y):=by
 cases h with
 | ss a l =>
  obtain ⟨t,rfl⟩:=r1.str'
  refine ⟨fun y=>match y with | .str u _=>u == toS a | _=>false,?_,fun A s y hy=>?_⟩
  · induction l generalizing ws with
    | nil=>cases r2; rfl
    | cons c l ih =>
     cases r2 with
     | cons p q =>
      obtain ⟨u,rfl⟩:=p.str'
      rw [List.any_cons,ih q]
      have:(toS c == toS a)=decide (a=c):=by
       rw [Bool.eq_iff_iff]; simp only [beq_iff_eq,decide_eq_true_eq]
       exact ⟨fun h=>(qC7 h).symm,fun h=>by rw [h]⟩
      simp only [this,List.mem_cons]
      rw [Bool.eq_iff_iff]; simp
  · refine x11 (List.mem_iff_getElem?.mp hy) fun i hi=>?_
    refine x12 (r2.getV hi) fun d q p=>?_
    rw [List.getElem?_map] at q
    refine x12 (Option.map_eq_some_iff.mp q) fun c _ eq2=>?_
    clear q
    subst eq2
    obtain ⟨u,rfl⟩:=p.str'
    exact PySem.SeqAt.EqAt.str_str _ _ _ _
 | bs a l =>
  obtain rfl:=r1.bool'
  refine ⟨fun y=>match y with | .bool u=>u == a | _=>false,?_,fun A s y hy=>?_⟩
  · induction l generalizing ws with
    | nil=>cases r2; rfl
    | cons c l ih =>
     cases r2 with
     | cons p q =>
      obtain rfl:=p.bool'
      rw [List.any_cons,ih q]
      clear p ih r1
      cases a <;> cases c <;> simp
  · refine x11 (List.mem_iff_getElem?.mp hy) fun i hi=>?_
    refine x12 (r2.getV hi) fun d q p=>?_
    rw [List.getElem?_map] at q
    refine x12 (Option.map_eq_some_iff.mp q) fun c _ eq2=>?_
    subst eq2
    clear q hi hy r1 r2
    obtain rfl:=p.bool'
    exact PySem.SeqAt.EqAt.bool_bool _ _
theorem qCV (a b:List Nat):(!(Builtin.Str.occurrences (toS b) (toS a) 0 (toS b).length 1).isEmpty)=Infix a b:=by
 rw [Bool.eq_iff_iff,StrLaws.found_iff]
 unfold Infix
 simp only [decide_eq_true_eq,StrLaws.subAt_eq,qAF,qAp,beq_iff_eq]
 constructor
 · rintro ⟨i,h1,h2⟩; exact ⟨i,by exact Nat.le_trans (Nat.le_add_right _ _) ‹_›,h2⟩
 · rintro ⟨i,h1,h2⟩
   refine ⟨i,?_,h2⟩
   have:=congrArg List.length h2
   simp at this
   (exact ar31 ‹_› ‹_›)
theorem qMr (a b:Int):(a == b)=decide (a=b):=by rw [Bool.eq_iff_iff]; simp
theorem qM9 (a b:List Nat):((toS a).cps.toList == (toS b).cps.toList)=decide (a=b):=by rw [qAp,qAp,Bool.eq_iff_iff]; simp
theorem qK2 (a b:Int):(a != b)=decide (a≠b):=by rw [Bool.eq_iff_iff]; simp
theorem qLh (a b:List Nat):((toS a).cps.toList != (toS b).cps.toList)=decide (a≠b):=by rw [qAp,qAp,Bool.eq_iff_iff]; simp
inductive QRes (S:St) (K:Bool->Prop) (v:Value) (s':Shared):Prop
 | mk (t:Bool) (tk:Nat) (h0:v=.bool t) (h1:s'={ S.s with toks:=tk }) (h2:K t):QRes S K v s'
theorem QRes.of {K:Bool->Prop} {t:Bool} (k:K t):QRes S K (.bool t) S.s:=⟨t,S.s.toks,rfl,rfl,k⟩
theorem qLk (hu:A.units+200<cLine) {K:Bool->Prop} {a b:Addr} {vs ws:Array Value} {x y:List D} (l1:S.h.IsList a vs) (l2:S.h.IsList b ws) (q1:RepL S.B vs.toList x) (q2:RepL S.B ws.toList y) (h:∃ r,FlatEq x y r/\K r) :
 wpAny (model prog w₀) A (compareOp .Eq (.ref a) (.ref b)) (QRes S K) Er S.s:=by
 obtain ⟨r,hr,k⟩:=h
 obtain ⟨f1,f2⟩:=qEc hr q1 q2
 by_cases he:vs.toList.length=ws.toList.length
 · obtain ⟨e,rfl,f⟩:=f2 he
   exact PySem.SeqAt.eq_listAt l1 l2 (by simpa using he) (by exact Nat.lt_of_le_of_lt (Nat.le_add_right _ _) ‹_›) (fun j h1 h2=>by have q:=f A.in1 S.s j (by simpa using h1) (by simpa using h2); simp only [Array.getElem_toList] at q; exact q) (.of (by simpa using k))
 · rw [f1 he] at k
   exact PySem.SeqAt.eq_list_lengthsAt l1 l2 (by simpa using he) (by exact Nat.lt_of_le_of_lt (Nat.le_add_right _ _) ‹_›) (.of k)
theorem qLW (hu:A.units+200<cLine) {K:Bool->Prop} {a b:Addr} {vs ws:Array Value} {x y:List D} (l1:S.h.IsList a vs) (l2:S.h.IsList b ws) (q1:RepL S.B vs.toList x) (q2:RepL S.B ws.toList y) (h:∃ r,FlatEq x y r/\K (!r)) :
 wpAny (model prog w₀) A (compareOp .NotEq (.ref a) (.ref b)) (QRes S K) Er S.s:=by
 obtain ⟨r,hr,k⟩:=h
 obtain ⟨f1,f2⟩:=qEc hr q1 q2
 by_cases he:vs.toList.length=ws.toList.length
 · obtain ⟨e,rfl,f⟩:=f2 he
   exact PySem.SeqAt.RcNeAt.lists l1 l2 (by simpa using he) (by exact Nat.lt_of_le_of_lt (Nat.le_add_right _ _) ‹_›) (fun j h1 h2=>by have q:=f A.in1 S.s j (by simpa using h1) (by simpa using h2); simp only [Array.getElem_toList] at q; exact q) _ _ _ _ (.of (by simpa using k))
 · rw [f1 he] at k
   exact PySem.SeqAt.RcNeAt.lists_lengths l1 l2 (by simpa using he) (by exact Nat.lt_of_le_of_lt (Nat.le_add_right _ _) ‹_›) _ _ _ _ (.of k)
theorem qLv {K:Bool->Prop} {x:D} {v:Value} {a:Addr} {vs:Array Value} {y:List D} (r1:Rep S.B v x) (l1:S.h.IsList a vs) (q1:RepL S.B vs.toList y) (h:∃ r,FlatIn x y r/\K r) :
 wpAny (model prog w₀) A (compareOp .In v (.ref a)) (QRes S K) Er S.s:=by
 obtain ⟨r,hr,k⟩:=h
 obtain ⟨e,rfl,f⟩:=qEl hr r1 q1
 exact PySem.SeqAt.in_listAt e l1 (fun y hy=>f _ _ y (by simpa using hy)) (.of (by simpa using k))
theorem qLa {K:Bool->Prop} {x:D} {v:Value} {a:Addr} {vs:Array Value} {y:List D} (r1:Rep S.B v x) (l1:S.h.IsList a vs) (q1:RepL S.B vs.toList y) (h:∃ r,FlatIn x y r/\K (!r)) :
 wpAny (model prog w₀) A (compareOp .NotIn v (.ref a)) (QRes S K) Er S.s:=by
 obtain ⟨r,hr,k⟩:=h
 obtain ⟨e,rfl,f⟩:=qEl hr r1 q1
 exact PySem.SeqAt.notIn_listAt e l1 (fun y hy=>f _ _ y (by simpa using hy)) (.of (by simpa using k))
@[elab_as_elim] theorem qHr {M:CmpOp->COp->Prop} {op:CmpOp} {o:COp} (ho:qDo op=some o) (h1:M .Eq .eq) (h2:M .NotEq .ne) (h3:M .Lt .lt) (h4:M .LtE .le) (h5:M .Gt .gt) (h6:M .GtE .ge) (h7:M .In .isin) (h8:M .NotIn .notin):M op o:=by
 cases op <;> cases ho <;> assumption
theorem qCH (hu:A.units+200<cLine) (O:Ok lp hb S w) {o:COp} {v1 v2:Value} {d1 d2:D} {K:Bool->Prop} {op:CmpOp} (ho:qDo op=some o) (r1:Rep S.B v1 d1) (r2:Rep S.B v2 d2) (h:cmpK o d1 d2 K) :
 wpAny (model prog w₀) A (compareOp op v1 v2) (QRes S K) Er S.s:=by
 have hin:∀ {x:D} {v:Value},Rep S.B v x->qFg d2 (fun y=>inC o x y K)->wpAny (model prog w₀) A (compareOp op v v2) (QRes S K) Er S.s :=
  fun r1 h=>qFw O r2 h fun a vs y l1 q1=>qHr ho False.elim False.elim False.elim False.elim False.elim False.elim (qLv r1 l1 q1) (qLa r1 l1 q1)
 cases r1 with
 | int x t =>
  exact intE r2 h fun y u=>qHr ho (fun h=>eq_int (qMr x y ▸ .of h)) (fun h=>PySem.P.ne_int (qK2 x y ▸ .of h)) (fun h=>PySem.P.lt_int (.of h)) (fun h=>PySem.P.le_int (.of h)) (fun h=>PySem.P.gt_int (.of h)) (fun h=>PySem.P.ge_int (.of h)) False.elim False.elim
 | str x t =>
  cases r2 with
  | str y u =>
   clear hin
   revert h
   exact qHr ho (fun h=>PySem.P.eq_str (qM9 x y ▸ .of h)) (fun h=>PySem.P.ne_str (qLh x y ▸ .of h)) False.elim False.elim False.elim False.elim (fun h=>PySem.P.in_str (qCV x y ▸ .of h)) fun h=>PySem.P.notIn_str (qCV x y ▸ .of h)
  | list e1 e2 e3 r=>exact hin (.str x t) h
  | _=>exact False.elim h
 | bool x=>exact hin (.bool x) h
 | list e1 e2 e3 r =>
  refine qFw O r2 h fun b ws y l2 q2=>?_
  have l1:=(⟨_,O.sub _ _ e1,e2,_,e3⟩:S.h.IsList _ _)
  exact qHr ho (qLk hu l1 l2 r q2) (qLW hu l1 l2 r q2) False.elim False.elim False.elim False.elim False.elim False.elim
 | _=>exact False.elim h
end
section
variable {lp:LexP} {hb:Heap} {S:St} {w:W}
variable {prog:Program} {w₀:World} {A:Around} {Er:Value->Shared->Prop}
set_option tactic.hygienic true in
theorem qCv (O:Ok lp hb S w) {v:Value} {d:D} {K:Bool->Prop} (r:Rep S.B v d) (h:truK d K) :
 wpAny (model prog w₀) A (truthy v) (fun t s'=>∃ tk,s'={ S.s with toks:=tk }/\K t) Er S.s:=by
 cases d <;> dsimp only [truK] at h <;> try exact h.elim
 · obtain rfl:=r.bool'
   exact wpAny_truthy_bool ⟨S.s.toks,rfl,h⟩
 · obtain ⟨t,rfl⟩:=r.str'
   rename_i s
   refine P.truthy_str (by rw [qAF]; have:=h.1; (exact as34 ‹_› (by decide))) ⟨_,rfl,?_⟩
   have:(((toS s).length:Int) != 0)=!s.isEmpty:=by
    rw [qAF]; cases s <;> simp
    lia
   rw [this]; exact h.2
theorem qDn {α:Type} {xs:List α} {i:Int} {d:α} (h:qBE xs i=some d):(0≤i/\i<xs.length/\xs[i.toNat]?=some d)\/(i<0/\0≤(xs.length:Int)+i/\xs[((xs.length:Int)+i).toNat]?=some d):=by
 unfold qBE at h
 split at h
 · have:=(List.getElem?_eq_some_iff.mp h).1
   exact .inl ⟨by assumption,by exact au32 ‹_› ‹_›,h⟩
 · split at h
   · exact .inr ⟨by exact Int.not_le.mp ‹_›,by assumption,h⟩
   · cases h
theorem qHW (O:Ok lp hb S w) {a:Addr} {vs:Array Value} {xs:List D} (l1:S.h.IsList a vs) (q1:RepL S.B vs.toList xs) {i:Int} {u:Tok} {K:D->Prop} (h:-(2 ^ 63:Int)≤i/\i<2 ^ 63/\∃ d,qBE xs i=some d/\K d) :
 wpAny (model prog w₀) A (getItem (.ref a) (.int i u)) (KRes lp hb S w K) Er S.s:=by
 refine x03 h fun h1 h2 r9=>x12 r9 fun d hc k=>?_
 have e2:vs.size=xs.length:=by simpa using q1.length
 rcases qDn hc with ⟨h0,_,hc⟩ | ⟨h0,h3,hc⟩
 · obtain ⟨v,hv,rv⟩:=q1.get hc
   exact wpAny_getItem_list l1 h0 h2 (by simpa using hv) (KRes.here O rv k)
 · obtain ⟨v,hv,rv⟩:=q1.get hc
   refine wpAny_getItem_list_neg l1 h0 (by rw [e2]; (exact as38 ‹_›)) h1 ?_ (KRes.here O rv k)
   rw [e2,Int.add_comm]; simpa using hv
theorem qC5 (O:Ok lp hb S w) {v1 v2:Value} {d1 d2:D} {K:D->Prop} (r1:Rep S.B v1 d1) (r2:Rep S.B v2 d2) (h:idxK d1 d2 K) :
 wpAny (model prog w₀) A (getItem v1 v2) (KRes lp hb S w K) Er S.s:=by
 refine intE r2 h fun i u h=>?_
 cases r1 with
 | str s t =>
  refine cps fun X9 k9=>?_
  obtain ⟨h1,h2,c,hc,k⟩:=h
  refine k9 ?_
  clear k9
  refine P.getItem_str (c:=c) (by simp; (exact ar36 ‹_› ‹_›)) ?_ (KRes.val O (.str [c] _) k)
  rcases qDn hc with ⟨h0,h3,hc⟩ | ⟨h0,h3,hc⟩
  · rw [StrLaws.seqIndex_nonneg h0 (by simpa [Str.length] using h3)]
    simpa using hc
  · rw [StrLaws.seqIndex_neg h0 (by show -((toS s).length:Int)≤i; rw [qAF]; (exact as38 ‹_›))]
    rw [Int.add_comm] at hc
    show ((toS s).cps[(i+((toS s).length:Int)).toNat]?)=_
    rw [qAF]
    simpa [toS] using hc
 | list e1 e2 e3 r=>exact qHW O ⟨_,O.sub _ _ e1,e2,_,e3⟩ r h
 | _=>exact False.elim h
theorem qN7 {α:Type} (xs:List α) (l h:Nat):cut xs l h=(xs.drop l).take (h-l):=by
 unfold cut; rw [List.drop_take]
theorem RepL.cut {B:Fz} {vs:List Value} {xs:List D} (r:RepL B vs xs) (l h:Nat):RepL B (Mine.cut vs l h) (Mine.cut xs l h):=(r.take h).drop l
theorem qEX {n dflt:Nat} {d:D} {l:Nat} (h:clamp n dflt d=some l) (hd:dflt≤n) {B:Fz} {v:Value} (r:Rep B v d) :
 ∃ lo:Option Int,IsPart v lo/\lo.elim dflt (clipAt n)=min l n/\(d=.none->lo=none):=by
 cases d <;> dsimp only [clamp] at h <;> try cases h
 · obtain rfl:=r.none'
   exact ⟨none,.none,by simp; lia,fun _=>rfl⟩
 · obtain ⟨t,rfl⟩:=r.int'
   refine ⟨_,.int _ _,?_,fun q=>nomatch q⟩
   dsimp only [Option.elim,clipAt]
   split
   · exact ar2 ‹_›
   · exact ar1
theorem qMt {α:Type} (xs:List α) (l h:Nat):cut xs (min l xs.length) (min h xs.length)=cut xs l h:=by
 unfold cut
 rcases Nat.le_total h xs.length with q | q
 · rw [Nat.min_eq_left q]
   rcases Nat.le_total l xs.length with p | p
   · rw [Nat.min_eq_left p]
   · rw [Nat.min_eq_right p,List.drop_eq_nil_of_le (by simp; (exact Nat.min_le_right _ _)),List.drop_eq_nil_of_le (by simp; (exact au40 ‹_› ‹_›))]
 · rw [Nat.min_eq_right q,List.take_length,List.take_of_length_le q]
   rcases Nat.le_total l xs.length with p | p
   · rw [Nat.min_eq_left p]
   · rw [Nat.min_eq_right p,List.drop_eq_nil_of_le p,List.drop_eq_nil_of_le (Nat.le_refl _)]
theorem qJa (O:Ok lp hb S w) {v1 vl vh vs:Value} {d1 dl dh:D} {K:List D->Prop} {sl:Addr} (r1:Rep S.B v1 d1) (rl:Rep S.B vl dl) (rh:Rep S.B vh dh)
 (hs:S.h.IsSliceOf sl vl vh .none) (h:slL d1 dl dh K) :
 wpAny (model prog w₀) A (getItem v1 (.ref sl)) (LRes lp hb S w K) Er S.s:=by
 refine qFw O r1 h fun a vs xs l1 q1 h=>?_
 refine cps fun X9 k9=>?_
 refine x04 h fun h1 h2 h3 r9=>x23 r9 fun l hh c1 c2 k=>?_
 have e1:vs.size=xs.length:=by simpa using q1.length
 refine x13 (qEX c1 (Nat.zero_le _) rl) fun lo pl el _=>?_
 refine x13 (qEX c2 (Nat.le_refl _) rh) fun hi ph eh _=>?_
 refine k9 ?_
 clear k9
 refine wpAny_getItem_list_slice l1 hs pl ph .none (by decide) ?_ (by rw [e1,sizeLine_eq]; exact h1)
 rw [slicePick_plain,e1,el,eh,← qN7]
 have:=qMt vs.toList l hh
 simp only [Array.length_toList,e1] at this
 rw [this]
 exact LRes.push O (by simpa using q1.cut l hh) k
set_option tactic.hygienic true in
theorem qJI (O:Ok lp hb S w) {v1 vl vh vs:Value} {d1 dl dh:D} {K:D->Prop} {sl:Addr} (r1:Rep S.B v1 d1) (rl:Rep S.B vl dl) (rh:Rep S.B vh dh)
 (hs:S.h.IsSliceOf sl vl vh .none) (h:slK d1 dl dh K) :
 wpAny (model prog w₀) A (getItem v1 (.ref sl)) (KRes lp hb S w K) Er S.s:=by
 have fin:∀ (s:List Nat) (t:Tok) (l u:Option (Int×Tok)) (y:List Nat),s.length≤16777216->StrLaws.sliceText (toS s) (l.map (·.1)) (u.map (·.1))=toS y->y.length≤s.length->K (.str y) ->
  S.h.IsSlice sl l u none->wpAny (model prog w₀) A (getItem (.str (toS s) t) (.ref sl)) (KRes lp hb S w K) Er S.s:=by
  intro s t l u y hs hy hl k hsl
  refine wpAny_getItem_str_slice hsl (by simp) ?_
  unfold sliceMade
  unfold StrLaws.sliceText at hy
  unfold slicePicked
  dsimp only [Option.map_none,Option.getD_none]
  split at hy
  · rename_i c
    rw [if_pos c]
    exact KRes.here O (.str _ _) (by rw [qC7 hy]; exact k)
  · rename_i c
    rw [if_neg c]
    refine ⟨?_,?_⟩
    · rw [hy,qAF,sizeLine_eq]; (exact Nat.le_trans ‹_› ‹_›)
    · rw [hy]; exact KRes.val O .toS k
 refine strE r1 h fun s t h=>?_
 cases rl with
 | none =>
  revert hs
  refine intE rh h fun j u h hs=>?_
  obtain ⟨h1,h2,h3,k⟩:=h
  refine fin s t none (some (j,u)) _ h3 ?_ (by simp; (exact Nat.min_le_right _ _)) k (by obtain ⟨o,a,b,c⟩:=hs; exact ⟨o,a,b,c⟩)
  show StrLaws.sliceText (toS s) none (some j)=_
  rw [StrLaws.sliceText_to (by simpa [toS] using ⟨h1,h2⟩),qAp]
  simp [toS]
 | int j u =>
  cases rh with
  | none =>
   obtain ⟨h1,h2,h3,k⟩:=h
   refine fin s t (some (j,u)) none _ h3 ?_ (by simp) k (by obtain ⟨o,a,b,c⟩:=hs; exact ⟨o,a,b,c⟩)
   show StrLaws.sliceText (toS s) (some j) none=_
   rw [StrLaws.sliceText_from (by simpa [toS] using ⟨h1,h2⟩),qAp]
   unfold toS
   congr 2
   exact List.take_of_length_le (by simp; (exact ar24 ‹_›))
  | _=>exact False.elim h
 | _=>exact False.elim h
end
theorem ItemsOf.rep {B:Fz} {P:Nat->Value->Prop} {acc:Array Value} {n:Nat} (h:ItemsOf P acc n) {xs:List D} (hn:xs.length=n) (hP:∀ (i:Nat) v d,xs[i]?=some d->P i v->Rep B v d):RepL B acc.toList xs:=by
 refine x02 h fun h1 h2=>?_
 have key:∀ (vs:List Value) (ys:List D) (k:Nat),vs.length=ys.length->(∀ (i:Nat) v d,vs[i]?=some v->ys[i]?=some d->Rep B v d)->RepL B vs ys:=by
  intro vs
  induction vs with
  | nil=>intro ys k hl _; cases ys with | nil=>exact .nil | cons _ _=>simp at hl
  | cons v r ih =>
   intro ys k hl hr
   cases ys with
   | nil=>simp at hl
   | cons d q=>exact .cons (hr 0 v d rfl rfl) (ih q k (by simpa using hl) fun i v d e1 e2=>hr (i+1) v d (by simpa using e1) (by exact e2))
 refine key _ _ 0 (by simp [h1,hn]) fun i v d e1 e2=>hP i v d e2 (h2 i v (by simpa using e1))
theorem qD8 {a b:Int} (h1:-(2 ^ 60:Int)≤a) (h2:a≤2 ^ 60) (h3:-(2 ^ 60:Int)≤b) (h4:b≤2 ^ 60) :
 Builtin.Range.small a b 1=true/\Builtin.Range.rangeSize a b 1=((b-a).toNat:Int):=by
 have e:Builtin.Range.rangeSize a b 1=((b-a).toNat:Int):=by
  unfold Builtin.Range.rangeSize
  simp only [show (1:Int)>0 by decide,if_true,Int.ediv_one]
  split
  · exact au26 ‹_›
  · exact au27 ‹_›
 refine ⟨?_,e⟩
 unfold Builtin.Range.small
 rw [e]
 simp [Builtin.Range.rangeFitsLong]
 (exact ar4 ‹_› ‹_› ‹_› ‹_›)
section
variable {lp:LexP} {hb:Heap} {S:St} {w:W}
variable {prog:Program} {w₀:World} {A:Around} {Er:Value->Shared->Prop}
theorem qE5 {B:Fz} {x:Str} {s:List Nat} (hx:x=toS s) {i:Nat} {v:Value} {d:D} (h:SignAt x i v) (hd:(singles s)[i]?=some d):Rep B v d:=by
 subst hx
 refine x22 h fun c u hc eq3=>?_
 clear h
 subst eq3
 simp only [singles,List.getElem?_map] at hd
 refine x12 (Option.map_eq_some_iff.mp hd) fun c' hc' eq2=>?_
 clear hd
 subst eq2
 have:c=c':=by
  have e:(toS s).cps[i]?=s[i]?:=by simp [toS]
  rw [e,hc'] at hc; exact (Option.some.inj hc).symm
 subst this
 exact .str [c] u
theorem qHO {a b:Int} {i:Nat} {d:D} (h:(qAZ a b)[i]?=some d):d=.int (a+(i:Nat)):=by
 simp only [qAZ,List.getElem?_map] at h
 refine x12 (Option.map_eq_some_iff.mp h) fun j hj eq2=>?_
 clear h
 subst eq2
 have:=List.getElem?_eq_some_iff.mp hj
 refine x11 this fun h1 h2=>?_
 simp at h2
 rw [h2]
theorem qK5 {I:Addr} {n:String} {vs:Array Value} {target:Expr} {v:Value} {Q':Unit->Shared->Prop} {E:Value->Shared->Prop} {s':Shared} {o:Obj} (ho:s'.heap.get? I=some o) (hc:o.cls=.type n) (hd:o.data=.fields vs)
 (hn:["enumerate", "zip", "dict_itemiterator", "dict_reverseitemiterator", "odict_iterator", "itertools.zip_longest", "itertools.pairwise"].contains n=false) (h:Q' () s') :
 wpAny (model prog w₀) A (letOwnedTupleGo target (.ref I) v) Q' E s':=by
 unfold letOwnedTupleGo
 cases target <;> first
  | exact wpAny_pure h
  | (cases v <;> first
      | exact wpAny_pure h
      | (refine wpAny_bind (wpAny_load ho ?_)
         rw [hc,hd]
         dsimp only
         rw [hn]
         exact wpAny_pure h))
noncomputable def GoOk (prog:Program) (w₀:World) (A:Around) (I:Addr) (Sti:Nat->Heap->Prop):Prop :=
 ∀ i (s':Shared) target v (Q':Unit->Shared->Prop) (E:Value->Shared->Prop),Sti i s'.heap->Q' () s'->wpAny (model prog w₀) A (letOwnedTupleGo target (.ref I) v) Q' E s'
inductive IRes (lp:LexP) (hb:Heap) (prog:Program) (w₀:World) (A:Around) (S:St) (w:W) (K:List D->Prop) (v:Value) (s':Shared):Prop
 | mk (S':St) (I:Addr) (fp:List Addr) (P:Nat->Value->Prop) (Sti:Nat->Heap->Prop) (xs:List D) (h0:v=.ref I) (h1:S'.s=s') (h2:Ok lp hb S' w) (h3:Le S S') (h4:Walks prog w₀ A I fp [I] xs.length P Sti) (h5:GoOk prog w₀ A I Sti) (h6:Sti 0 S'.h) (h7:S.h.get? I=Option.none) (h8:S'.B I=Option.none) (h9:I ∉ S'.fps) (h10:(∀ i h,Sti i h->∃ o,h.get? I=some o)) (h11:(∀ b∈fp,b=I\/∃ o,S'.B b=some o)) (h12:(∀ (i:Nat) v,i<xs.length->P i v->∃ d,xs[i]?=some d/\∀ B:Fz,(∀ a o,S'.B a=some o->B a=some o)->Rep B v d)) (h13:xs.length≤16777216) (h14:K xs):IRes lp hb prog w₀ A S w K v s'
set_option tactic.hygienic true in
theorem qD9 (hA:A.handled=none) (O:Ok lp hb S w) {v:Value} {d:D} {K:List D->Prop} (r:Rep S.B v d) (h:qAm d K) :
 wpAny (model prog w₀) A (pyIter v) (IRes lp hb prog w₀ A S w K) Er S.s:=by
 have new:∀ (o:Obj),o.isFreed=false->Ok lp hb { S with s:={ S.s with heap:=S.h.push o } } w/\Le S { S with s:={ S.s with heap:=S.h.push o } }/\(S.h.push o).get? S.h.objs.size=some o:=fun o ho =>
  ⟨(O.quiet (tk:=S.s.toks) fun b o' e=>Heap.get?_push_of_some _ e).1,(O.quiet (tk:=S.s.toks) fun b o' e=>Heap.get?_push_of_some _ e).2,Heap.get?_push_size _ ho⟩
 have hn:=qAD S.h
 cases d <;> dsimp only [qAm] at h <;> try exact h.elim
 · obtain ⟨t,rfl⟩:=r.str'
   rename_i s
   refine wpAny_pyIter_strU ?_
   refine x03 (new { cls:=.type (strIterType (toS s)),data:=.fields #[.str (toS s) t,.int 0 0] } rfl) fun O' L' g=>?_
   have e1:(toS s).cps.size=(singles s).length:=by simp [toS,singles]
   have hP:∀ (i:Nat) v,i<(singles s).length->SignAt (toS s) i v->∃ d,(singles s)[i]?=some d/\∀ B:Fz,(∀ a o,S.B a=some o->B a=some o)->Rep B v d:=fun i v hi hv =>
    ⟨(singles s)[i],List.getElem?_eq_getElem hi,fun B _=>qE5 rfl hv (List.getElem?_eq_getElem hi)⟩
   by_cases hasc:strIterType (toS s) = "str_ascii_iterator"
   · refine ⟨_,_,_,_,_,singles s,rfl,rfl,O',L',e1 ▸ Walks.strAscii hA _ (toS s) t,fun i s' tg v Q' E st h=>(let ⟨o,ho,hc,hd⟩:=st; qK5 ho hc hd (by decide) h),⟨_,g,by rw [hasc],rfl⟩,hn,O.bNone hn,O.fpNone hn,fun i h st=>(let ⟨o,ho,_⟩:=st; ⟨o,ho⟩),fun b hb'=>.inl (by simpa using hb'),hP,by simpa [singles] using h.1,h.2⟩
   · have hw:strIterType (toS s) = "str_iterator" := by
      unfold strIterType at hasc ⊢
      split at hasc
      · exact absurd rfl hasc
      · rename_i c; rw [if_neg c]
     refine ⟨_,_,_,_,_,singles s,rfl,rfl,O',L',e1 ▸ Walks.strWide hA _ (toS s) t,fun i s' tg v Q' E st h=>(let ⟨o,ho,hc,hd⟩:=st; qK5 ho hc hd (by decide) h),⟨_,g,by rw [hw],rfl⟩,hn,O.bNone hn,O.fpNone hn,fun i h st=>(let ⟨o,ho,_⟩:=st; ⟨o,ho⟩),fun b hb'=>.inl (by simpa using hb'),hP,by simpa [singles] using h.1,h.2⟩
 · refine x45 r.lst fun a o vs n eq4 b1 b2 b3 q1=>?_
   subst eq4
   rename_i xs
   have l1:S.h.IsList a vs:=⟨o,O.sub _ _ b1,b2,n,b3⟩
   refine wpAny_pyIter_list l1 ?_
   refine x03 (new { cls:=.type "list_iterator",data:=.fields #[.ref a,.int 0 0] } rfl) fun O' L' g=>?_
   have hne:a≠S.h.objs.size:=fun e=>by rw [e] at b1; rw [O.bNone hn] at b1; cases b1
   have e1:vs.size=xs.length:=by simpa using q1.length
   refine ⟨_,_,_,_,_,xs,rfl,rfl,O',L',e1 ▸ Walks.list hA S.h.objs.size a hne vs,fun i s' tg v Q' E st h=>(let ⟨o,ho,hc,hd⟩:=st.1; qK5 ho hc hd (by decide) h),⟨⟨_,g,rfl,rfl⟩,l1.push _⟩,hn,O.bNone hn,O.fpNone hn,fun i h st=>(let ⟨o,ho,_⟩:=st.1; ⟨o,ho⟩),fun b hb'=>?_,fun i v hi hv=>?_,h.1,h.2⟩
   · simp at hb'
     rcases hb' with e | e
     · exact .inl e
     · clear hne g L' O' l1 r
       subst e; exact .inr ⟨o,b1⟩
   · refine x12 (q1.getV (show vs.toList[i]?=some v by simpa using hv)) fun d hd rd=>?_
     exact ⟨d,hd,fun B hB=>rd.mono hB⟩
 · rename_i x y
   cases r with
   | rng e =>
    rename_i a t u v
    refine x06 h fun h1 h2 h3 h4 h5 k=>?_
    obtain ⟨sm,sz⟩:=qD8 h1 h2 h3 h4
    refine wpAny_pyIter_range (t:=t) (u:=u) (v:=v) (O.sub _ _ e) sm ?_
    refine x03 (new { cls:=.type "range_iterator",data:=.fields #[rawInt x,rawInt (Builtin.Range.rangeSize x y 1),rawInt 1] } rfl) fun O' L' g=>?_
    have e1:(qAZ x y).length=(y-x).toNat:=by simp [qAZ]
    refine ⟨_,_,_,_,_,qAZ x y,rfl,rfl,O',L',e1 ▸ Walks.range hA S.h.objs.size x 1 (y-x).toNat,fun i s' tg v Q' E st h=>qK5 (o:=_) st rfl rfl (by decide) h,?_,hn,O.bNone hn,O.fpNone hn,(by intro i h st; exact ⟨_,st⟩),fun b hb'=>.inl (by simpa using hb'),fun i v hi hv=>?_,by rw [e1]; exact h5,k⟩
    · have e2:x+((0:Nat):Int)*1=x:=by simp
      have e3:(((qAZ x y).length:Nat):Int)-((0:Nat):Int)=Builtin.Range.rangeSize x y 1:=by rw [sz,e1]; simp
      show IsRangeIter _ _ (x+((0:Nat):Int)*1) ((((qAZ x y).length:Nat):Int)-((0:Nat):Int)) 1
      rw [e2,e3]
      exact g
    · obtain ⟨t',rfl⟩:=hv
      refine ⟨(qAZ x y)[i],List.getElem?_eq_getElem hi,fun B _=>?_⟩
      rw [qHO (List.getElem?_eq_getElem hi),Int.mul_one]
      exact .int _ _
noncomputable def Bi.fn:Bi->Value
 | .len=>.builtin "len" | .sum=>.builtin "sum" | .list=>.type "list" | .chr=>.builtin "chr" | .ord=>.builtin "ord" | .divmod=>.builtin "divmod" | .range1 | .range2=>.type "range"
theorem qHd {B:Fz}:∀ {l:List Value} {ns:List Int},RepL B l (ns.map .int)->∃ ps:List (Int×Tok),l=ps.map (fun p=>Value.int p.1 p.2)/\ps.map (·.1)=ns
 | _,[],.nil=>⟨[],rfl,rfl⟩
 | _,n::ns,.cons p q=>by
  obtain ⟨t,rfl⟩:=p.int'
  refine x12 (qHd q) fun ps e1 e2=>?_
  exact ⟨(n,t)::ps,by rw [e1]; rfl,by rw [← e2]; rfl⟩
theorem qOy (hA:A.handled=none) (O:Ok lp hb S w) {a:Addr} {vs:Array Value} {xs:List D} {K:D->Prop} (l1:S.h.IsList a vs) (q1:RepL S.B vs.toList xs) (h:xs.length≤16777216/\∃ ns:List Int,xs=ns.map .int/\K (.int ns.sum)) :
 wpAny (model prog w₀) A (call (.builtin "sum") [.ref a]) (KRes lp hb S w K) Er S.s:=by
 refine cps fun X9 k9=>?_
 obtain ⟨hl,ns,rfl,k⟩:=h
 refine x12 (qHd q1) fun ps e1 e2=>?_
 have e3:vs=intItems ps.toArray:=by
  apply Array.toList_inj.mp
  rw [e1]
  simp [intItems]
 refine k9 ?_
 clear k9
 clear e1 q1
 subst e3
 refine sum_intListG hA l1 fun h' tk t' hk=>?_
 have e3:preSum (numAt ps.toArray) ps.toArray.size=ns.sum:=by
  rw [preSum_eq,List.take_of_length_le (by simp),e2]
 rw [e3]
 exact KRes.quiet O hk (.int _ _) k
theorem qGG (hA:A.handled=none) (O:Ok lp hb S w) {b:Bi} {vs:List Value} {ds:List D} {K:D->Prop} (r:RepL S.B vs ds) (h:biK b ds K):wpAny (model prog w₀) A (call b.fn vs) (KRes lp hb S w K) Er S.s:=by
 cases b with
 | len =>
  refine on1E r h fun v d p h=>?_
  cases p with
  | str s t =>
   refine P.len_str (by show ¬ ((toS s).length:Int) ≥ 2 ^ 63; rw [qAF]; have:=h.1; (exact as34 ‹_› (by decide))) ?_
   show KRes lp hb S w K (.int ((toS s).length:Nat) _) _
   rw [qAF]
   exact KRes.val O (.int _ _) h.2
  | list e1 e2 e3 q =>
   have e4:=q.length
   simp at e4
   refine Calls.call_len_list ⟨_,O.sub _ _ e1,e2,_,e3⟩ (by rw [e4]; have:=h.1; (exact as31 ‹_› (by decide))) ?_
   rw [e4]
   exact KRes.val O (.int _ _) h.2
  | _=>exact False.elim h
 | sum=>exact on1E r h fun v d p h=>qFw O p h fun a vs xs l1 q1 h=>qOy hA O l1 q1 h
 | list=>exact False.elim h
 | chr=>exact on1E r h fun v d p h=>intE p h fun i t h=>chr_of_range h.1 h.2.1 (KRes.val O (.str [i.toNat] _) h.2.2)
 | ord =>
  refine on1E r h fun v d p h=>strE p h fun s t h=>?_
  obtain ⟨c,rfl,k⟩:=h
  exact ord_of_one (by rw [qAF]; rfl) (KRes.val O (.int _ _) (by simpa [toS] using k))
 | divmod =>
  refine on2E r h fun v d v2 d2 p q h=>intE p h fun a t h=>intE q h fun b u h=>?_
  refine x03 h fun h1 h2 k=>?_
  refine divmod_int h1 ?_ (.inl (PyProof.noPylong_small h2))
  exact KRes.push O (tk:=S.s.toks+1+1) (o:={ cls:=.type "tuple",data:=.seq #[.int (a.fdiv b) S.s.toks,.int (a.fmod b) (S.s.toks+1)] }) rfl (.tup (Fz.put_self _ _ _) rfl rfl (.cons (.int _ _) (.cons (.int _ _) .nil))) k
 | range1=>exact on1E r h fun v d p h=>intE p h fun i t h=>call_range_1 (KRes.push O (tk:=S.s.toks+1+1) rfl (.rng (Fz.put_self _ _ _)) h)
 | range2=>exact on2E r h fun v d v2 d2 p q h=>intE p h fun a t h=>intE q h fun b u h=>call_range_2 (KRes.push O (tk:=S.s.toks+1) rfl (.rng (Fz.put_self _ _ _)) h)
theorem qKq (hA:A.handled=none) (O:Ok lp hb S w) {b:Bi} {vs:List Value} {ds:List D} {K:List D->Prop} (r:RepL S.B vs ds) (h:biL b ds K) :
 b=.list/\wpAny (model prog w₀) A (call (.type "list") vs) (LRes lp hb S w K) Er S.s:=by
 cases b with
 | list =>
  refine ⟨rfl,on1E r h fun v d p h=>?_⟩
  cases p with
  | str s t =>
   refine call_list_str hA (toS s) t (fun h' tk acc' c' hk hl hi=>?_) (by rw [show (toS s).cps.size=s.length by simp [toS],sizeLine_eq]; exact h.1)
   exact LRes.new O hk (qAD _) ⟨c',hl⟩ (ItemsOf.rep hi (by simp [singles,toS]) fun i v d hd hv=>qE5 rfl hv hd) h.2
  | rng e =>
   refine cps fun X9 k9=>?_
   refine x06 h fun h1 h2 h3 h4 h5 k=>?_
   obtain ⟨sm,sz⟩:=qD8 h1 h2 h3 h4
   refine k9 ?_
   clear k9
   refine call_list_range hA (O.sub _ _ e) sm sz ‹_› fun h' tk acc' c' hk hl hi=>?_
   refine LRes.new O hk (qAD _) ⟨c',hl⟩ (ItemsOf.rep hi (by simp [qAZ]) fun i v d hd hv=>?_) k
   obtain ⟨t,rfl⟩:=hv
   rw [qHO hd,Int.mul_one]
   exact .int _ _
  | _=>exact False.elim h
 | _=>exact False.elim h
end
theorem qGH:∀ c,c<128->Txt.lower (toS [c])=toS [if 65≤c/\c≤90 then c+32 else c]:=by
 intro c hc
 have:=List.all_eq_true.mp (by decide +kernel:(List.range 128).all (fun c=>decide ((Txt.lower (toS [c])).cps.toList=[if 65≤c/\c≤90 then c+32 else c]))=true) c (List.mem_range.mpr hc)
 apply Str.ext'
 apply Array.toList_inj.mp
 rw [(of_decide_eq_true this)]; rfl
theorem qKE (s w:List Nat):Txt.startswith (toS s) (toS w)=decide (s.take w.length=w):=by
 unfold Txt.startswith
 rw [StrLaws.subAt_eq,qAF,qAF,qAp,qAp,List.drop_zero,Bool.eq_iff_iff]
 simp only [Bool.and_eq_true,decide_eq_true_eq,beq_iff_eq]
 refine ⟨fun h=>h.2,fun h=>⟨?_,h⟩⟩
 have:=congrArg List.length h
 simp at this; (exact as57 ‹_›)
theorem qNW (s w:List Nat):Txt.endswith (toS s) (toS w)=decide (w.length≤s.length/\s.drop (s.length-w.length)=w):=by
 unfold Txt.endswith
 rw [StrLaws.subAt_eq,qAF,qAF,qAp,qAp,Bool.eq_iff_iff]
 simp only [Bool.and_eq_true,decide_eq_true_eq,beq_iff_eq]
 constructor
 · rintro ⟨h1,h2⟩
   refine ⟨by exact Nat.le_trans (Nat.le_add_left _ _) ‹_›,?_⟩
   rw [List.take_of_length_le (by simp; (exact ar42))] at h2
   exact h2
 · rintro ⟨h1,h2⟩
   refine ⟨by lia,?_⟩
   rw [List.take_of_length_le (by simp; (exact ar42))]
   exact h2
theorem qGe (x y:Str) (i j:Int) (t u v z:Tok) (hi:0≤i) (hij:i≤j) (hj:j≤x.length) :
 Gives (Builtin.«str.find» ⟨[.str x t,.str y u,.int i v,.int j z],[]⟩) (.int (match Builtin.Str.occurrences x y i.toNat j.toNat 1 with | k::_=>(k:Int) | []=>-1)):=by
 show Gives (match Builtin.Str.occurrences x y (fromIndex x.length i) (min (fromIndex x.length j) x.length) 1 with | k::_=>retInt k | []=>(do rule "str.find.not-found"; retInt (-1))) _
 have e1:fromIndex x.length i=i.toNat:=by unfold fromIndex; split <;> first | exact qKw _ | lia
 rw [e1,(by unfold fromIndex; split <;> first | exact ar15 ‹_› | lia:min (fromIndex x.length j) x.length=j.toNat)]
 cases Builtin.Str.occurrences x y i.toNat j.toNat 1 with
 | nil=>exact .rule (.of_eq rfl)
 | cons k _=>exact .of_eq rfl
theorem qFk (s w:List Nat) (hi i:Nat):StrLaws.At (toS s) (toS w) hi i ↔ i+w.length≤hi/\At s w i:=by
 delta StrLaws.At At
 rw [StrLaws.subAt_eq,qAF,qAp,qAp,beq_iff_eq]
theorem qLY (s w:List Nat) (lo hi:Nat):qHJ s w lo hi (match Builtin.Str.occurrences (toS s) (toS w) lo hi 1 with | k::_=>(k:Int) | []=>-1):=by
 rw [StrLaws.occ_eq]
 rcases StrLaws.occ_first (toS s) (toS w) hi 1 (Nat.le_refl _) (List.range' lo (hi+1-lo)) lo (fun i hi'=>by have:=List.mem_range'_1.mp hi'; (exact And.left ‹_›)) with ⟨h0,hn⟩ | ⟨pre,a,post,e,h0,ha,hn⟩
 · rw [h0]
   refine .inr ⟨rfl,fun j h1 h2 h3=>?_⟩
   exact hn j (by rw [List.mem_range'_1]; (exact ar33 ‹_› ‹_›)) ((qFk _ _ _ _).mpr ⟨h2,h3⟩)
 · have hs:=StrLaws.range'_split_from e
   obtain ⟨a1,a2⟩:=(qFk _ _ _ _).mp ha
   generalize (forIn (List.range' lo (hi+1-lo)) ((#[]:Array Nat),lo) (StrLaws.occBody (toS s) (toS w) hi 1)).run.fst=arr at h0
   have h1:arr.toList[0]?=some a:=by simpa using h0
   have h2:(match arr.toList with | k::_=>(k:Int) | []=>-1)=(a:Int):=by
    cases hL:arr.toList with
    | nil=>rw [hL] at h1; cases h1
    | cons b t=>rw [hL] at h1; simp at h1; rw [h1]
   rw [h2]
   exact .inl ⟨a,rfl,hs.1,a1,a2,fun j j1 j2 j3=>hn j (hs.2 j j1 j2) ((qFk _ _ _ _).mpr ⟨by lia,j3⟩)⟩
noncomputable def dots (l:List Nat):Prop:=l.take 3=[46,46,46]
theorem qM0 {acc l:List Nat} (h:dots l):qAB acc l=acc.reverse::qAB [] (l.drop 3):=by
 match l,h with
 | [],h=>simp [dots] at h
 | [_],h=>simp [dots] at h
 | [_,_],h=>simp [dots] at h
 | a::b::c::r,h =>
  simp [dots] at h
  obtain ⟨rfl,rfl,rfl⟩:=h
  simp [qAB]
set_option tactic.hygienic true in
theorem qOd {acc l:List Nat} {c:Nat} (h:¬ dots (c::l)):qAB acc (c::l)=qAB (c::acc) l:=by
 rw [qAB.eq_def]
 split
 · exfalso; apply h; simp_all [dots]
 · rename_i e; cases e; rfl
 · rename_i e; cases e
theorem qN9:∀ (p:Nat) (l acc:List Nat),(∀ j,j<p->¬ dots (l.drop j))->dots (l.drop p)->qAB acc l=(acc.reverse++l.take p)::qAB [] (l.drop (p+3))
 | 0,l,acc,_,h=>by simpa using qM0 (acc:=acc) (by exact h)
 | p+1,[],acc,_,h=>by simp [dots] at h
 | p+1,c::l,acc,hn,h=>by
  rw [qOd (by simpa using hn 0 (by lia)),qN9 p l (c::acc) (fun j hj=>by simpa using hn (j+1) (by exact Nat.succ_lt_succ ‹_›)) (by exact h)]
  simp [show p+1+3=p+3+1 by exact rfl]
theorem qMu:∀ (l acc:List Nat),(∀ j,¬ dots (l.drop j))->qAB acc l=[acc.reverse++l]:=by
 intro L9
 induction L9 with
 | nil =>
  intro acc _
  simp [qAB]
 | cons c l ih9 =>
  intro acc hn
  rw [qOd (by simpa using hn 0),ih9 (c::acc) (fun j=>by simpa using hn (j+1))]
  simp
theorem qGh (s:List Nat) (i:Nat):dots (s.drop i) ↔ StrLaws.At (toS s) (toS [46,46,46]) (toS s).length i:=by
 rw [qFk,qAF]
 delta dots At
 constructor
 · intro h
   refine ⟨?_,h⟩
   have:=congrArg List.length h
   simp at this ⊢; (exact ar30 ‹_›)
 · exact fun h=>h.2
theorem qIq (s:List Nat):∀ (cuts:List Nat) (a f:Nat),StrLaws.ChainG (toS s) (toS [46,46,46]) (toS s).length a cuts f->(∀ k,f≤k->¬ StrLaws.At (toS s) (toS [46,46,46]) (toS s).length k) ->
 a≤s.length->(StrLaws.partsFrom (toS s) 3 a cuts).map (·.cps.toList)=qAB [] (s.drop a):=by
 intro L9
 induction L9 with
 | nil =>
  intro a f h hn ha
  have e:f=a:=h
  clear ha h
  subst e
  rw [qMu _ _ fun j=>by rw [List.drop_drop,qGh]; exact hn _ (by exact Nat.le_add_right _ _)]
  simp only [StrLaws.partsFrom,List.map_cons,List.map_nil,StrLaws.strSub_toList,qAp,qAF]
  simp
  exact List.take_of_length_le (by simp)
 | cons c r ih9 =>
  intro a f h hn ha
  refine x04 h fun h1 h2 h3 h4=>?_
  have hc:=(qFk _ _ _ _).mp h2
  rw [qAF] at hc
  rw [(rfl:(toS [46,46,46]).length=3)] at h4
  rw [qN9 (c-a) (s.drop a) [] (fun j hj=>by rw [List.drop_drop,qGh]; exact h3 _ (by exact Nat.le_add_right _ _) (by exact ar47 ‹_›)) (by rw [← (by rw [List.drop_drop]; congr 1; (exact ar49 ‹_›):s.drop c=(s.drop a).drop (c-a)),qGh]; exact h2)]
  simp only [StrLaws.partsFrom,List.map_cons,StrLaws.strSub_toList,qAp,(ih9 (c+3) f h4 hn (by have:=hc.1; exact this))]
  simp only [List.reverse_nil,List.nil_append,List.drop_drop]
  rw [(by exact ar48 ‹_›:a+(c-a+3)=c+3)]
set_option tactic.hygienic true in
theorem qIM (s:List Nat):(Txt.split (toS s) (toS [46,46,46])).map (·.cps.toList)=qAB [] s:=by
 refine x12 (StrLaws.occ_tight (toS s) (toS [46,46,46]) (by decide)) fun f hc hn=>?_
 have key:=qIq s _ 0 f hc hn (Nat.zero_le _)
 rw [List.drop_zero] at key
 unfold Txt.split
 have single:(Builtin.Str.occurrences (toS s) (toS [46,46,46]) 0 (toS s).length ((toS s).length+1))=[]->([toS s]:List Str).map (·.cps.toList)=qAB [] s:=by
  intro h0
  rw [h0] at key
  rw [← key]
  simp [StrLaws.partsFrom,StrLaws.strSub_toList,qAp,qAF]
 split
 · rename_i h
   refine single ?_
   rcases Bool.or_eq_true_iff.mp h with h | h
   · have h:=of_decide_eq_true h
     cases e:Builtin.Str.occurrences (toS s) (toS [46,46,46]) 0 (toS s).length ((toS s).length+1) with
     | nil=>rfl
     | cons c r =>
      rw [e] at hc
      have:=hc.2.1.1
      lia
   · have h:=of_decide_eq_true h
     have:Builtin.Str.strKind (toS [46,46,46])=1:=by decide +kernel
     rw [this] at h
     unfold Builtin.Str.strKind at h
     split at h
     · lia
     · split at h <;> lia
 · split
   · rename_i h
     exact single (by simpa using h)
   · rw [← key,StrLaws.partsBetween_eq]
     rfl
noncomputable def qCA (s:List Nat):=Builtin.Str.partsBetween (toS s) (Builtin.Str.occurrences (toS s) (toS [46,46,46]) 0 (toS s).length ((toS s).length+1)) (toS [46,46,46]).length
theorem qFG (x:Str) (k:Nat):∀ (cuts:List Nat) (a:Nat),(StrLaws.partsFrom x k a cuts).length=cuts.length+1:=by
 intro L9
 induction L9 with
 | nil =>
  intro _
  exact rfl
 | cons c r ih9 =>
  intro a
  simp [StrLaws.partsFrom,ih9]
theorem qM3 (s:List Nat) (h:s.length≤16000000):(qCA s).length≤sizeLine:=by
 unfold qCA
 rw [StrLaws.partsBetween_eq,qFG]
 have:=StrLaws.occ_length_le_len (toS s) (toS [46,46,46]) 0 (toS s).length ((toS s).length+1)
 rw [qAF] at this ⊢
 rw [sizeLine_eq]
 lia
section
variable {lp:LexP} {hb:Heap} {S:St} {w:W}
variable {prog:Program} {w₀:World} {A:Around} {Er:Value->Shared->Prop}
noncomputable def Met.id:Met->String
 | .split => "str.split" | .startswith => "str.startswith" | .endswith => "str.endswith" | .find => "str.find" | .join => "str.join" | .lower => "str.lower"
theorem qD4 {B:Fz}:∀ {vs:List Value} {ss:List (List Nat)},RepL B vs (ss.map .str)->StrsAre vs (ss.map toS)
 | _,[],.nil=>.nil
 | _,s::ss,.cons p q=>by
  obtain ⟨t,rfl⟩:=p.str'
  exact .cons _ _ (qD4 q)
theorem qEU:∀ ss:List (List Nat),Str.join (toS []) (ss.map toS)=toS ss.flatten
 | []=>rfl
 | [x]=>by
  show toS x=_
  simp
 | x::y::r=>by
  show toS x++toS []++Str.join (toS []) ((y::r).map toS)=_
  rw [(qEU (y::r)),qCI,qCI]
  simp
theorem qGd (ss:List (List Nat)):Txt.join (toS []) (ss.map toS)=toS ss.flatten:=(StrLaws.glued_eq_join _ _).trans (qEU ss)
theorem qH7 (O:Ok lp hb S w) {m:Met} {v:Value} {d:D} {vs:List Value} {ds:List D} {K:D->Prop} (r0:Rep S.B v d) (r:RepL S.B vs ds) (h:metK m d ds K) :
 wpAny (model prog w₀) A (call (.builtin m.id) (v::vs)) (KRes lp hb S w K) Er S.s:=by
 refine strE r0 h fun s t h=>?_
 cases m with
 | startswith=>exact on1E r h fun v d p h=>strE p h fun x u h=>SC.startswith (by rw [qKE]; exact KRes.here O (.bool _) h)
 | endswith=>exact on1E r h fun v d p h=>strE p h fun x u h=>SC.endswith (by rw [qNW]; exact KRes.here O (.bool _) h)
 | find =>
  refine on3E r h fun v d v2 d2 v3 d3 p q z h=>strE p h fun x u h=>intE q h fun lo a h=>intE z h fun hi b h=>?_
  refine x05 h fun h1 h2 h3 h4 k=>?_
  exact call_gives PySem.F.slot_str_find (typeIs_str _ _ _) PySem.F.entry_str_find (PySem.F.args_str_find_4 _ _ _ _) (qGe _ _ lo hi t u a b h1 h2 (by rw [qAF]; exact h3))
   (KRes.val O (.int _ _) (k _ (qLY _ _ _ _)))
 | join =>
  cases s with
  | cons=>exact False.elim h
  | nil =>
  refine on1E r h fun v d p h=>qFw O p h fun a ws xs l1 q1 h=>?_
  refine x14 h fun ss eq1 h1 h2 k=>?_
  clear h2 h
  subst eq1
  refine join_list l1 (qD4 q1) ?_ fun t' k'=>?_
  · have e:((ss.map toS).map (·.length)).sum=ss.flatten.length:=by
     rw [List.map_map,List.length_flatten]
     exact congrArg List.sum (List.map_congr_left fun a _=>qAF a)
    rw [e]
    simp [qAF]; first | exact h1 | simpa using h1
  · rw [qGd]
    exact KRes.val O .toS k
 | lower =>
  cases r with
  | cons=>exact False.elim h
  | nil =>
  obtain ⟨h1,c,rfl,h2,k⟩:=h
  refine SC.lower ?_ ?_
  · rw [qGH c h2,qAF]; rfl
  · rw [qGH c h2]; exact KRes.val O .toS k
 | split=>exact False.elim h
theorem qEz {B:Fz}:∀ (l:List (Str×Tok)),RepL B (strValues l) ((l.map (·.1)).map fun x=>.str x.cps.toList):=by
 intro L9
 induction L9 with
 | nil =>
  exact .nil
 | cons p9 r ih9 =>
  exact .cons Rep.ofS (ih9)
theorem qES (O:Ok lp hb S w) {m:Met} {v:Value} {d:D} {vs:List Value} {ds:List D} {K:List D->Prop} (r0:Rep S.B v d) (r:RepL S.B vs ds) (h:metL m d ds K) :
 wpAny (model prog w₀) A (call (.builtin m.id) (v::vs)) (LRes lp hb S w K) Er S.s:=by
 refine strE r0 h fun s t h=>?_
 cases m with
 | split =>
  obtain ⟨rfl,h1,k⟩:=h
  rcases r with _ | ⟨p,_ | _⟩
  obtain ⟨u,rfl⟩:=p.str'
  have fin:∀ (l:List (Str×Tok)) (tk:Nat),l.map (·.1)=Txt.split (toS s) (toS [46,46,46]) ->
   LRes lp hb S w K (.ref S.h.objs.size) { S.s with heap:=S.h.push { cls:=.type "list",data:=.seq (strValues l).toArray },toks:=tk }:=by
   intro l tk hl
   refine LRes.push O (xs:=(qAB [] s).map .str) ?_ k
   have:=qEz (B:=S.B) l
   rw [hl] at this
   rw [← qIM,List.map_map]
   simpa [Function.comp_def] using this
  show wpAny _ _ (call (.builtin "str.split") [.str (toS s) t,.str (toS [46,46,46]) u]) _ _ _
  cases h1':(decide ((toS s).length<(toS [46,46,46]).length) || decide (Builtin.Str.strKind (toS s)<Builtin.Str.strKind (toS [46,46,46])))
  · cases hf:(Builtin.Str.occurrences (toS s) (toS [46,46,46]) 0 (toS s).length ((toS s).length+1)).isEmpty
    · refine call_meets PySem.F.slot_str_split (typeIs_str _ _ _) PySem.F.entry_str_split (PySem.F.args_str_split_2 _ _) (meets_str_split_sep _ _ t u h1' rfl hf (by rw [qAF,sizeLine_eq]; (exact Nat.le_trans ‹_› (by decide))) (qM3 s h1)) ?_
      rw [strsFrom_eq]
      exact fin _ _ ((numbered_texts _ _).trans ((if_neg (ne_true_of_eq_false h1')).trans (if_neg (ne_true_of_eq_false hf))).symm)
    · exact call_meets PySem.F.slot_str_split (typeIs_str _ _ _) PySem.F.entry_str_split (PySem.F.args_str_split_2 _ _) (meets_str_split_not_found _ _ t u h1' rfl hf)
       (fin [(toS s,t)] _ ((if_neg (ne_true_of_eq_false h1')).trans (if_pos hf)).symm)
  · exact call_meets PySem.F.slot_str_split (typeIs_str _ _ _) PySem.F.entry_str_split (PySem.F.args_str_split_2 _ _) (meets_str_split_cannot_occur _ _ t u h1')
     (fin [(toS s,t)] _ (if_pos h1').symm)
 | _=>exact False.elim h
end
structure AOk (b:Nat) (A:Around):Prop where
 handled:A.handled=none
 depth:A.depth≤b
 units:A.units≤10*b
noncomputable def qCQ:List (Str×Value):=[("len",.builtin "len"),("sum",.builtin "sum"),("list",.type "list"),("chr",.builtin "chr"),("ord",.builtin "ord"),("divmod",.builtin "divmod"),("range",.type "range"),("isinstance",.builtin "isinstance"),("bool",.type "bool")]
structure Glo (lp:LexP) (hb:Heap) (prog:Program) (w₀:World) (b:Nat) (F:Str->List D->D->Prop) (LF:LexF) (mg mb:Str->Option Value):Prop where
 room:b≤600
 ns:hb.Ns mainGlobals mg
 bns:hb.Ns builtinsNs mb
 blt:∀ x v,(x,v)∈qCQ->mg x=none/\mb x=some v
 mark:∃ t,mg "ELLIPSIS_MARKER" = some (.str (toS [46,46,46]) t)
 defs:∀ x,x∈qCO->∃ a o fd,mg x=some (.ref a)/\hb.get? a=some o/\o.data=.func fd /\
  ∀ A S w vs ds r,AOk b A->Ok lp hb S w->RepL S.B vs ds->F x ds r->wpAny (model prog w₀) A (call (.ref a) vs) (KRes lp hb S w (·=r)) (fun _ _=>False) S.s
 b1:∃ a,mg "b1_set" = some (.ref a) /\
  ∀ A S w v d r,AOk b A->Ok lp hb S w->Rep S.B v d->F "#b1" [d] r->wpAny (model prog w₀) A (compareOp .In v (.ref a)) (KRes lp hb S w (·=r)) (fun _ _=>False) S.s
 b3:∃ a o,mg "b3_exceptions" = some (.ref a)/\hb.get? a=some o/\o.cls=.type "dict" /\ o.dict=none /\
  ∀ A S w v d r,AOk b A->Ok lp hb S w->Rep S.B v d->F "#b3" [d] r->wpAny (model prog w₀) A (call (.builtin "dict.get") [.ref a,v]) (KRes lp hb S w (·=r)) (fun _ _=>False) S.s
 lexer:∃ a o fd,mg "_law_lexer" = some (.ref a)/\hb.get? a=some o/\o.data=.func fd /\
  ∀ A S w v s,AOk b A->Ok lp hb S w->Rep S.B v (.str s)->w[0]?=some .fac->s.length≤16777216->wpAny (model prog w₀) A (call (.ref a) [v]) (fun v' s'=>∃ (S':St) (p:Addr×List Addr),v'=.ref (Prod.fst p)/\S'.s=s'/\Ok lp hb S' w/\Le S S' /\
   lp.P S'.B S'.h p.1 p.2 [] s/\p.2.Nodup/\∀ a∈p.2,S.h.get? a=Option.none/\S'.B a=Option.none/\a ∉ S'.fps) (fun _ _=>False) S.s
 tok:∃ fa o fd,hb.get? fa=some o/\o.data=.func fd /\
  (∀ A S w (k:Nat) (p:Addr×List Addr) pb sg pl,AOk b A->Ok lp hb S w->S.own[k]?=some p->w[k]?=some (.lex pb sg)->wpAny (model prog w₀) A (getMethod (.ref p.1) "get_token" pl) (fun r s'=>r=(.ref fa,[.ref p.1])/\s'=S.s) (fun _ _=>False) S.s) /\
  (∀ A S w (k:Nat) (p:Addr×List Addr) pb sg,AOk b A->Ok lp hb S w->S.own[k]?=some p->w[k]?=some (.lex pb sg)->(pb=[]->sg.length≤16777216)->wpAny (model prog w₀) A (call (.ref fa) [.ref p.1])
    (fun v s'=>∃ S' t,S'.s=s'/\Rep S'.B v (.str t)/\Le S S'/\(match pb with
      | t'::pb'=>t=t'/\Ok lp hb S' (w.set k (.lex pb' sg))
      | []=>t=(LF.tok sg).1/\Ok lp hb S' (w.set k (.lex [] (LF.tok sg).2)))) (fun _ _=>False) S.s)
 push:∃ fa o fd,hb.get? fa=some o/\o.data=.func fd /\
  (∀ A S w (k:Nat) (p:Addr×List Addr) pb sg pl,AOk b A->Ok lp hb S w->S.own[k]?=some p->w[k]?=some (.lex pb sg)->wpAny (model prog w₀) A (getMethod (.ref p.1) "push_token" pl) (fun r s'=>r=(.ref fa,[.ref p.1])/\s'=S.s) (fun _ _=>False) S.s) /\
  (∀ A S w (k:Nat) (p:Addr×List Addr) pb sg v t,AOk b A->Ok lp hb S w->S.own[k]?=some p->w[k]?=some (.lex pb sg)->pb.length<16777216->Rep S.B v (.str t)->wpAny (model prog w₀) A (call (.ref fa) [.ref p.1,v])
    (fun v' s'=>∃ S',S'.s=s'/\v'=.none/\Le S S'/\Ok lp hb S' (w.set k (.lex (pb++[t]) sg))) (fun _ _=>False) S.s)
noncomputable def ScOk (c:Sc) (env:Env):Prop:=∀ x k,c.names.lookup x=some k->env.kindOf x=some k\/(k=.free/\env.kindOf x=some .cell)
set_option tactic.hygienic true in
theorem qBd:∀ {l:List Str} {x:Str} {k:Nat},qE1 x l=some k->l[k]?=some x:=by
 intro L9
 induction L9 with
 | nil=>intros; contradiction
 | cons y r ih9 =>
  intro x k h
  unfold qE1 at h
  split at h
  · rename_i e; cases h; rw [beq_iff_eq.mp e]; rfl
  · refine x12 (Option.map_eq_some_iff.mp h) fun j hj eq2=>?_
    clear h
    subst eq2
    simpa using ih9 hj
section
variable {lp:LexP} {hb:Heap} {prog:Program} {w₀:World} {A:Around} {Er:Value->Shared->Prop} {c:Sc} {env:Env} {σ:List Slot} {S:St} {w:W}
set_option tactic.hygienic true in
theorem qJB (C:ScOk c env) (Fk:FrOk c.tbl env σ S) {x:Str} {k:Nat} (hv:c.var x=some k) {sl:Slot} (hs:σ[k]?=some sl) (hu:sl≠.unb) :
 ∃ v,SlotV S sl (some v)/\(x == ("__debug__" : Str))=false/\∀ (Q:Value->Shared->Prop),Q v S.s->wpAny (model prog w₀) A (loadName env x) Q Er S.s:=by
 unfold Sc.var at hv
 split at hv
 · cases hv
 rename_i hdbg
 have hd1:(x == ("__debug__" : Str))=false:=by
  cases e:(x == ("__debug__" : Str)) with
  | false=>rfl
  | true=>rw [e] at hdbg; simp at hdbg
 have hd2:(x == ("__classdict__" : Str))=false:=by
  cases e:(x == ("__classdict__" : Str)) with
  | false=>rfl
  | true=>rw [e] at hdbg; simp at hdbg
 have got:∀ {ov:Option Value},SlotV S sl ov->∃ v,ov=some v:=by
  intro ov h
  clear hd2 hd1 hv hdbg hs Fk C
  cases sl with
  | unb=>exact absurd rfl hu
  | dat d=>obtain ⟨v,e,_⟩:=h; exact ⟨v,e⟩
  | loc k=>obtain ⟨p,_,e⟩:=h; exact ⟨_,e⟩
 have key:∀ kk,c.names.lookup x=some kk->(kk=.local\/kk=.cell\/kk=.free)->c.tbl[k]?=some x ->
  ∃ v,SlotV S sl (some v)/\(x == ("__debug__" : Str))=false/\∀ (Q:Value->Shared->Prop),Q v S.s->wpAny (model prog w₀) A (loadName env x) Q Er S.s:=by
  intro kk hk hkk ht
  by_cases hl:env.kindOf x=some .local
  · refine x12 Fk.loc fun m hn hm=>?_
    have:=hm k x sl ht hs hl
    obtain ⟨v,e⟩:=got this
    rw [e] at this
    exact ⟨v,this,hd1,fun Q q=>wpAny_loadName_local Fk.kind hl hn e q⟩
  · have hcf:env.kindOf x=some .cell\/env.kindOf x=some .free:=by
     rcases C x kk hk with e | ⟨_,e⟩
     · clear hk
       rcases hkk with rfl | rfl | rfl
       · exact absurd e hl
       · exact .inl e
       · exact .inr e
     · exact .inl e
    refine x23 (Fk.cel k x sl ht hs hcf) fun cc ov hc hcell hsv=>?_
    obtain ⟨v,e⟩:=got hsv
    subst e
    refine ⟨v,hsv,hd1,fun Q q=>?_⟩
    rcases hcf with e | e
    · exact wpAny_loadName_cell Fk.kind e hc hcell q
    · exact wpAny_loadName_free Fk.kind e hc hcell q hd2
 split at hv
 · rename_i hk; exact key _ hk (.inl rfl) (qBd hv)
 · rename_i hk; exact key _ hk (.inr (.inl rfl)) (qBd hv)
 · rename_i hk; exact key _ hk (.inr (.inr rfl)) (qBd hv)
 · cases hv
theorem qBu (C:ScOk c env) (Fk:FrOk c.tbl env σ S) {x:Str} {k:Nat} (hv:c.var x=some k) {sl:Slot} (hs:σ[k]?=some sl) (hu:sl≠.unb) :
 ∃ v,SlotV S sl (some v)/\∀ (p:Pos) (Q:Value->Shared->Prop),Q v S.s->wpAny (model prog w₀) A (eval (.Name x p) env) Q Er S.s:=by
 refine x13 (qJB (prog:=prog) (w₀:=w₀) (A:=A) (Er:=Er) C Fk hv hs hu) fun v h1 h2 h3=>?_
 exact ⟨v,h1,fun p Q q=>wpAny_Name (h3 Q q) h2⟩
theorem qAl (C:ScOk c env) (Fk:FrOk c.tbl env σ S) {mg mb:Str->Option Value} (hg:S.h.Ns mainGlobals mg) (hbn:S.h.Ns builtinsNs mb) {x:Str} (hx:c.isGlob x=true) {v:Value}
 (hv:mg x=some v\/(mg x=none/\mb x=some v)) (p:Pos) {Q:Value->Shared->Prop} (q:Q v S.s):wpAny (model prog w₀) A (eval (.Name x p) env) Q Er S.s:=by
 unfold Sc.isGlob at hx
 simp only [Bool.and_eq_true,beq_iff_eq,bne_iff_ne,ne_eq] at hx
 have hk:env.kindOf x=some .globalImplicit:=by
  rcases C x _ hx.1 with e | ⟨e,_⟩
  · exact e
  · cases e
 refine wpAny_Name ?_ (by simpa using hx.2)
 have e:loadName env x=loadGlobal env x:=by
  unfold loadName
  simp only [Env.blockKind,Fk.kind,hk,ScopeKind.isAnnotationScope,Bool.false_and,Bool.false_eq_true,if_false]
 rw [e]
 unfold loadGlobal
 refine wpAny_bind (wpAny_nsGet (Fk.glob ▸ hg) ?_)
 rcases hv with hv | ⟨hn,hv⟩
 · rw [hv]; exact wpAny_pure q
 · rw [hn]
   refine wpAny_bind (wpAny_nsGet (Fk.blt ▸ hbn) ?_)
   rw [hv]; exact wpAny_pure q
end
noncomputable def SoundE (lp:LexP) (hb:Heap) (prog:Program) (w₀:World) (b:Nat) (F:Str->List D->D->Prop) (LF:LexF) (c:Sc) (e:Expr) (m:ME):Prop :=
 ∀ A env σ S w Q,AOk b A->ScOk c env->FrOk c.tbl env σ S->Ok lp hb S w->E F LF m σ w Q->wpAny (model prog w₀) A (eval e env) (ERes lp hb S Q) (fun _ _=>False) S.s
inductive TRes (lp:LexP) (hb:Heap) (S:St) (Q:Bool->W->Prop) (t:Bool) (s':Shared):Prop
 | mk (S':St) (w':W) (h0:S'.s=s') (h1:Ok lp hb S' w') (h2:Le S S') (h3:Q t w'):TRes lp hb S Q t s'
noncomputable def SoundC (lp:LexP) (hb:Heap) (prog:Program) (w₀:World) (b:Nat) (F:Str->List D->D->Prop) (LF:LexF) (c:Sc) (e:Expr) (m:MC):Prop :=
 ∀ A env σ S w Q,AOk b A->ScOk c env->FrOk c.tbl env σ S->Ok lp hb S w->T F LF m σ w Q->wpAny (model prog w₀) A (isTrue e env (eval e env)) (TRes lp hb S Q) (fun _ _=>False) S.s
inductive LsRes (lp:LexP) (hb:Heap) (S:St) (Q:List D->W->Prop) (vs:List Value) (s':Shared):Prop
 | mk (S':St) (w':W) (ds:List D) (h0:S'.s=s') (h1:Ok lp hb S' w') (h2:Le S S') (h3:RepL S'.B vs ds) (h4:Q ds w'):LsRes lp hb S Q vs s'
noncomputable def qBg (lp:LexP) (hb:Heap) (prog:Program) (w₀:World) (b:Nat) (F:Str->List D->D->Prop) (LF:LexF) (c:Sc) (es:List Expr) (m:ML):Prop :=
 ∀ A env σ S w Q pos,AOk b A->ScOk c env->FrOk c.tbl env σ S->Ok lp hb S w->EL F LF m σ w Q ->
  wpAny (model prog w₀) A (spliced (backTo pos (starEach es env))) (LsRes lp hb S Q) (fun _ _=>False) S.s
section
variable {lp:LexP} {hb:Heap} {prog:Program} {w₀:World} {b:Nat} {F:Str->List D->D->Prop} {LF:LexF} {mg mb:Str->Option Value} {c:Sc}
theorem FrOk.up {tbl:List Str} {env:Env} {σ:List Slot} {S S':St} (Fk:FrOk tbl env σ S) (L:Le S S'):FrOk tbl env σ S':=Fk.le L fun _ _ h=>h
theorem TRes.le {S₀ S:St} {Q:Bool->W->Prop} {v:Bool} {s':Shared} (l:Le S₀ S) (h:TRes lp hb S Q v s'):TRes lp hb S₀ Q v s' :=
 let ⟨S',w',e,O,L,q⟩:=h; ⟨S',w',e,O,l.trans L,q⟩
theorem LsRes.le {S₀ S:St} {Q:List D->W->Prop} {v:List Value} {s':Shared} (l:Le S₀ S) (h:LsRes lp hb S Q v s'):LsRes lp hb S₀ Q v s' :=
 let ⟨S',w',d,e,O,L,R,q⟩:=h; ⟨S',w',d,e,O,l.trans L,R,q⟩
noncomputable abbrev ff:Value->Shared->Prop:=fun _ _=>False
section
variable {A:Around} {env:Env} {σ:List Slot} {S:St} {w:W} {K:Value->Shared->Prop}
theorem ERes.go {Q:D->W->Prop} {v:Value} {s':Shared} (h:ERes lp hb S Q v s') (k:∀ S1 w1 d1,Ok lp hb S1 w1->Le S S1->Rep S1.B v d1->Q d1 w1->K v S1.s):K v s':=by
 obtain ⟨S1,w1,d1,rfl,O1,L1,R1,q⟩:=h
 exact k S1 w1 d1 O1 L1 R1 q
theorem SoundE.run {e:Expr} {m:ME} {Q:D->W->Prop} (h:SoundE lp hb prog w₀ b F LF c e m) (hA:AOk b A) (C:ScOk c env) (Fk:FrOk c.tbl env σ S) (O:Ok lp hb S w) (q:E F LF m σ w Q)
 (k:∀ S1 w1 d1 v,Ok lp hb S1 w1->Le S S1->Rep S1.B v d1->Q d1 w1->K v S1.s):wpAny (model prog w₀) A (eval e env) K ff S.s :=
 wpAny_mono (h A env σ S w Q hA C Fk O q) (fun v s' h=>h.go fun S1 w1 d1=>k S1 w1 d1 v) fun _ _ h=>h
theorem SoundC.run {e:Expr} {m:MC} {Q:Bool->W->Prop} {K:Bool->Shared->Prop} (h:SoundC lp hb prog w₀ b F LF c e m) (hA:AOk b A) (C:ScOk c env) (Fk:FrOk c.tbl env σ S) (O:Ok lp hb S w) (q:T F LF m σ w Q)
 (k:∀ S1 w1 t,Ok lp hb S1 w1->Le S S1->Q t w1->K t S1.s):wpAny (model prog w₀) A (isTrue e env (eval e env)) K ff S.s :=
 wpAny_mono (h A env σ S w Q hA C Fk O q) (fun t s' h=>by
  obtain ⟨S1,w1,rfl,O1,L1,q⟩:=h
  exact k S1 w1 t O1 L1 q) fun _ _ h=>h
end
theorem sCst {k:Const} {cc:Cst} (h:qGw k=some cc) (n:Nat) (p:Pos):SoundE lp hb prog w₀ b F LF c (.Constant k n p) (.cst cc):=by
 intro A env σ S w Q _ _ _ O q
 cases k <;> simp [qGw] at h <;> subst h <;> simp only [E] at q
 · exact wpAny_Constant_none (KRes.here O (K:=fun d=>Q d w) .none q).e
 · exact wpAny_Constant_bool (KRes.here O (K:=fun d=>Q d w) (.bool _) q).e
 · exact wpAny_Constant_int (KRes.val O (K:=fun d=>Q d w) (.int _ _) q).e
 · exact wpAny_Constant_str (KRes.val O (K:=fun d=>Q d w) Rep.ofS q).e
theorem qO9 (G:Glo lp hb prog w₀ b F LF mg mb) {x:Str} (hx:c.isGlob x=true) (he:(x == ("ELLIPSIS_MARKER" : Str))=true) (p:Pos):SoundE lp hb prog w₀ b F LF c (.Name x p) .mark:=by
 intro A env σ S w Q _ C Fk O q
 simp only [E] at q
 obtain ⟨t,ht⟩:=G.mark
 rw [← beq_iff_eq.mp he] at ht
 exact qAl C Fk (G.ns.keeps O.heap) (G.bns.keeps O.heap) hx (.inl ht) p (KRes.here O (K:=fun d=>Q d w) (.str _ _) q).e
theorem qB7 {sl:Slot} (σ:List Slot) (k:Nat) (hk:σ.getD k .unb=sl) (hu:sl≠.unb):σ[k]?=some sl:=by
 rw [List.getD_eq_getElem?_getD] at hk
 cases e:σ[k]? with
 | none=>rw [e] at hk; exact absurd hk.symm hu
 | some s=>rw [e] at hk; simpa using hk
set_option tactic.hygienic true in
theorem sVar {x:Str} {k:Nat} (hv:c.var x=some k) (p:Pos):SoundE lp hb prog w₀ b F LF c (.Name x p) (.var k):=by
 intro A env σ S w Q _ C Fk O q
 dsimp only [E,varK] at q
 generalize hsl:σ.getD k .unb=sl at q
 cases sl with
 | unb=>exact q.elim
 | dat d =>
  obtain ⟨v,hs,ld⟩:=qBu C Fk hv (qB7 σ k hsl (by simp)) (by simp)
  obtain ⟨v',e,r⟩:=hs
  cases e
  exact ld p _ (KRes.here O (K:=fun d=>Q d w) r q).e
 | loc j =>
  obtain ⟨v,hs,ld⟩:=qBu C Fk hv (qB7 σ k hsl (by simp)) (by simp)
  obtain ⟨pp,hp,e⟩:=hs
  cases e
  refine ld p _ ?_
  dsimp only at q
  split at q
  · rename_i xs hw
    refine x14 (O.freezeOwn hp hw) fun S' e O' L' r=>?_
    exact ⟨S',_,_,e,O',L',r,q⟩
  · rename_i xs hw
    exact (KRes.here O (K:=fun d=>Q d w) (O.at_ j pp _ hp hw).2 q).e
  · exact q.elim
theorem sBin {l r:Expr} {ml mr:ME} {op:Operator} {o:BOp} (ho:trOp op=some o) (hl:SoundE lp hb prog w₀ b F LF c l ml) (hr:SoundE lp hb prog w₀ b F LF c r mr) (p:Pos) :
 SoundE lp hb prog w₀ b F LF c (.BinOp l op r p) (.bin o ml mr):=by
 intro A env σ S w Q hA C Fk O q
 simp only [E] at q
 refine wpAny_BinOp (hl.run hA C Fk O q fun S1 w1 d1 v O1 L1 R1 q=>?_)
 refine hr.run hA C (Fk.up L1) O1 q fun S2 w2 d2 v2 O2 L2 R2 q=>?_
 have R1':=R1.mono L2.sub
 rcases qNh q with q | q
 · exact wpAny_mono (qHz O2 ho R1' R2 q) (fun v s' h=>(h.e).le (L1.trans L2)) fun _ _ h=>h
 · exact wpAny_mono (qEb O2 ho R1' R2 q) (fun v s' h=>(h.e).le (L1.trans L2)) fun _ _ h=>h
theorem qEH (op:CmpOp) (r:Expr) (h:∀ es k p,r≠.Set es k p):behindInMarks op r=false:=by
 cases r <;> first | rfl | exact absurd rfl (h _ _ _)
theorem qCr (G:Glo lp hb prog w₀ b F LF mg mb) {A:Around} (hA:AOk b A):A.units+200<cLine:=by
 have:=hA.units; have:=G.room; show A.units+200<9900; (exact ar53 ‹_› ‹_›)
theorem sCmp (G:Glo lp hb prog w₀ b F LF mg mb) {l r:Expr} {ml mr:ME} {op:CmpOp} {o:COp} (ho:qDo op=some o) (hl:SoundE lp hb prog w₀ b F LF c l ml) (hr:SoundE lp hb prog w₀ b F LF c r mr) (hm:behindInMarks op r=false) (p:Pos) :
 SoundE lp hb prog w₀ b F LF c (.Compare l [op] [r] p) (.cmp o ml mr):=by
 intro A env σ S w Q hA C Fk O q
 simp only [E] at q
 refine wpAny_Compare1 (hl.run hA C Fk O q fun S1 w1 d1 v O1 L1 R1 q=>?_) hm
 refine hr.run hA C (Fk.up L1) O1 q fun S2 w2 d2 v2 O2 L2 R2 q=>?_
 refine wpAny_mono (qCH (qCr G hA) O2 ho (R1.mono L2.sub) R2 q) (fun v s' h=>?_) fun _ _ h=>h
 obtain ⟨t,tk,rfl,rfl,k⟩:=h
 exact ((KRes.val O2 (K:=fun d=>Q d w2) (.bool t) k).e).le (L1.trans L2)
theorem qPI (G:Glo lp hb prog w₀ b F LF mg mb) {l r:Expr} {ml mr:ME} {op:CmpOp} {o:COp} (ho:qDo op=some o) (hl:SoundE lp hb prog w₀ b F LF c l ml) (hr:SoundE lp hb prog w₀ b F LF c r mr) (hm:behindInMarks op r=false) (p:Pos) :
 SoundC lp hb prog w₀ b F LF c (.Compare l [op] [r] p) (.cmp o ml mr):=by
 intro A env σ S w Q hA C Fk O q
 dsimp only [T] at q
 refine wpAny_isTrue_Compare1 (hl.run hA C Fk O q fun S1 w1 d1 v O1 L1 R1 q=>?_) hm
 refine hr.run hA C (Fk.up L1) O1 q fun S2 w2 d2 v2 O2 L2 R2 q=>?_
 refine wpAny_mono (qCH (qCr G hA) O2 ho (R1.mono L2.sub) R2 q) (fun v s' h=>?_) fun _ _ h=>h
 obtain ⟨t,tk,rfl,rfl,k⟩:=h
 refine wpAny_truthy_bool ?_
 exact ⟨{ S2 with s:={ S2.s with toks:=tk } },w2,rfl,O2.tok.1,(L1.trans L2).trans (O2.tok (tk:=tk)).2,k⟩
end
section
variable {lp:LexP} {hb:Heap} {prog:Program} {w₀:World} {b:Nat} {F:Str->List D->D->Prop} {LF:LexF} {mg mb:Str->Option Value} {c:Sc}
set_option tactic.hygienic true in
theorem qDk (slice:Expr) (o i:Value):∃ ops,subscripted slice false o i=operate ops (getItem o i):=by
 cases slice <;> first | exact ⟨_,rfl⟩ | skip
 rename_i l u s p
 cases s <;> exact ⟨_,rfl⟩
theorem qBM {A:Around} {s:Shared} {Er:Value->Shared->Prop} {value slice:Expr} {o i:Value} {T id:String} {Q:Value->Shared->Prop} (hT:s.TypeIs o T)
 (hl:typeLookup (.type T) "__getitem__" = pure (some (.builtin id))) (hg:wpAny (model prog w₀) A (getItem o i) Q Er s):wpAny (model prog w₀) A (subscriptTail value slice o i) Q Er s:=by
 refine x11 (qDk slice o i) fun ops e=>?_
 exact tail_any hT hl hg e
theorem qBr {S:St} {w:W} (O:Ok lp hb S w) {v:Value} {d:D} (r:Rep S.B v d) (h:(∃ xs,d=.list xs)\/∃ s,d=.str s) :
 ∃ T id,S.s.TypeIs v T/\typeLookup (.type T) "__getitem__" = pure (some (.builtin id)):=by
 rcases h with ⟨xs,rfl⟩ | ⟨s,rfl⟩
 · refine x23 (r.isList O) fun a vs eq2 l1 _=>?_
   clear r
   subst eq2
   exact ⟨"list",_,l1.typeIs,PySem.F.slot_list_getitem.lookup⟩
 · obtain ⟨t,rfl⟩:=r.str'
   exact ⟨"str",_,typeIs_str _ _ _,PySem.F.slot_str_getitem.lookup⟩
set_option backward.match.sparseCases true in
theorem qPT {x y:Expr} {mx my:ME} (hx:SoundE lp hb prog w₀ b F LF c x mx) (hy:SoundE lp hb prog w₀ b F LF c y my) (p:Pos) :
 SoundE lp hb prog w₀ b F LF c (.BoolOp .And [x,y] p) (.and2 mx my):=by
 intro A env σ S w Q hA C Fk O q
 simp only [E] at q
 show wpAny _ A (do
  let v ← eval x env
  standAt p
  let t ← holding [v] (truthy v)
  match BoolOp.And,t with
  | .And,false | .Or,true=>pure v
  | _,_=>eval y env) _ _ _
 refine wpAny_bind (hx.run hA C Fk O q fun S1 w1 d1 v O1 L1 R1 q=>?_)
 refine wpAny_bind (wpAny_standAt (wpAny_bind (wpAny_holding (wpAny_mono (qCv O1 R1 q) (fun t s' h=>?_) fun _ _ h=>h))))
 obtain ⟨tk,rfl,q⟩:=h
 have O2:=O1.tok (tk:=tk)
 cases t with
 | false =>
  rw [if_neg (by simp)] at q
  exact wpAny_pure ⟨_,_,_,rfl,O2.1,L1.trans O2.2,R1,q⟩
 | true =>
  rw [if_pos rfl] at q
  exact wpAny_mono (hy A env σ _ w1 _ hA C ((Fk.up L1).up O2.2) O2.1 q) (fun v s' h=>h.le (L1.trans O2.2)) fun _ _ h=>h
set_option backward.match.sparseCases true in
theorem sOr2 {x y:Expr} {mx my:ME} (hx:SoundE lp hb prog w₀ b F LF c x mx) (hy:SoundE lp hb prog w₀ b F LF c y my) (p:Pos) :
 SoundE lp hb prog w₀ b F LF c (.BoolOp .Or [x,y] p) (.or2 mx my):=by
 intro A env σ S w Q hA C Fk O q
 simp only [E] at q
 show wpAny _ A (do
  let v ← eval x env
  standAt p
  let t ← holding [v] (truthy v)
  match BoolOp.Or,t with
  | .And,false | .Or,true=>pure v
  | _,_=>eval y env) _ _ _
 refine wpAny_bind (hx.run hA C Fk O q fun S1 w1 d1 v O1 L1 R1 q=>?_)
 refine wpAny_bind (wpAny_standAt (wpAny_bind (wpAny_holding (wpAny_mono (qCv O1 R1 q) (fun t s' h=>?_) fun _ _ h=>h))))
 obtain ⟨tk,rfl,q⟩:=h
 have O2:=O1.tok (tk:=tk)
 cases t with
 | true =>
  rw [if_pos rfl] at q
  exact wpAny_pure ⟨_,_,_,rfl,O2.1,L1.trans O2.2,R1,q⟩
 | false =>
  rw [if_neg (by simp)] at q
  exact wpAny_mono (hy A env σ _ w1 _ hA C ((Fk.up L1).up O2.2) O2.1 q) (fun v s' h=>h.le (L1.trans O2.2)) fun _ _ h=>h
theorem sIfe {t x y:Expr} {mt:MC} {mx my:ME} (ht:SoundC lp hb prog w₀ b F LF c t mt) (hx:SoundE lp hb prog w₀ b F LF c x mx) (hy:SoundE lp hb prog w₀ b F LF c y my) (p:Pos) :
 SoundE lp hb prog w₀ b F LF c (.IfExp t x y p) (.ife mt mx my):=by
 intro A env σ S w Q hA C Fk O q
 simp only [E] at q
 refine wpAny_IfExp (ht.run hA C Fk O q fun S1 w1 t O1 L1 q=>?_)
 cases t with
 | true =>
  rw [if_pos rfl] at q ⊢
  exact wpAny_mono (hx A env σ S1 w1 _ hA C (Fk.up L1) O1 q) (fun v s' h=>h.le L1) fun _ _ h=>h
 | false =>
  rw [if_neg (by simp)] at q ⊢
  exact wpAny_mono (hy A env σ S1 w1 _ hA C (Fk.up L1) O1 q) (fun v s' h=>h.le L1) fun _ _ h=>h
theorem qO0 {e:Expr} {m:ME} (h:SoundE lp hb prog w₀ b F LF c e m) (he:∀ env whole,isTrue e env whole=(do let v ← whole; standAt e.pos; holding [v] (truthy v))) :
 SoundC lp hb prog w₀ b F LF c e (.val m):=by
 intro A env σ S w Q hA C Fk O q
 simp only [T] at q
 refine wpAny_isTrue_value (h.run hA C Fk O q fun S1 w1 d1 v O1 L1 R1 q=>?_) (he _ _)
 refine wpAny_mono (qCv O1 R1 q) (fun t s' h=>?_) fun _ _ h=>h
 obtain ⟨tk,rfl,q⟩:=h
 have O2:=O1.tok (tk:=tk)
 exact ⟨_,_,rfl,O2.1,L1.trans O2.2,q⟩
theorem qOp {x:Expr} {m:MC} (h:SoundC lp hb prog w₀ b F LF c x m) (p:Pos):SoundC lp hb prog w₀ b F LF c (.UnaryOp .Not x p) (.not m):=by
 intro A env σ S w Q hA C Fk O q
 simp only [T] at q
 refine wpAny_isTrue_Not (wpAny_mono (h A env σ S w _ hA C Fk O q) (fun t s' h=>?_) fun _ _ h=>h)
 obtain ⟨S1,w1,rfl,O1,L1,q⟩:=h
 exact ⟨S1,w1,rfl,O1,L1,q⟩
theorem qO8 {x y:Expr} {mx my:MC} (hx:SoundC lp hb prog w₀ b F LF c x mx) (hy:SoundC lp hb prog w₀ b F LF c y my) (p:Pos):SoundC lp hb prog w₀ b F LF c (.BoolOp .And [x,y] p) (.and2 mx my):=by
 intro A env σ S w Q hA C Fk O q
 simp only [T] at q
 refine isTrue_and (hx.run hA C Fk O q fun S1 w1 t O1 L1 q=>?_)
 cases t with
 | true =>
  rw [if_pos rfl] at q ⊢
  refine isTrue_and (wpAny_mono (hy A env σ S1 w1 _ hA C (Fk.up L1) O1 q) (fun t s' h=>?_) fun _ _ h=>h)
  cases t with
  | true=>rw [if_pos rfl]; exact isTrue_and_nil (h.le L1)
  | false=>rw [if_neg (by simp)]; exact h.le L1
 | false=>rw [if_neg (by simp)] at q ⊢; exact ⟨S1,w1,rfl,O1,L1,q⟩
theorem sTor {x y:Expr} {mx my:MC} (hx:SoundC lp hb prog w₀ b F LF c x mx) (hy:SoundC lp hb prog w₀ b F LF c y my) (p:Pos):SoundC lp hb prog w₀ b F LF c (.BoolOp .Or [x,y] p) (.or2 mx my):=by
 intro A env σ S w Q hA C Fk O q
 simp only [T] at q
 refine isTrue_or (hx.run hA C Fk O q fun S1 w1 t O1 L1 q=>?_)
 cases t with
 | false =>
  rw [if_neg (by simp)] at q ⊢
  refine isTrue_or (wpAny_mono (hy A env σ S1 w1 _ hA C (Fk.up L1) O1 q) (fun t s' h=>?_) fun _ _ h=>h)
  cases t with
  | true=>rw [if_pos rfl]; exact h.le L1
  | false=>rw [if_neg (by simp)]; exact isTrue_or_nil (h.le L1)
 | true=>rw [if_pos rfl] at q ⊢; exact ⟨S1,w1,rfl,O1,L1,q⟩
theorem qOG (G:Glo lp hb prog w₀ b F LF mg mb) {x y z:Expr} {mx my mz:ME} {op1 op2:CmpOp} {o1 o2:COp} (ho1:qDo op1=some o1) (ho2:qDo op2=some o2) (hx:SoundE lp hb prog w₀ b F LF c x mx)
 (hy:SoundE lp hb prog w₀ b F LF c y my) (hz:SoundE lp hb prog w₀ b F LF c z mz) (hm:behindInMarks op2 z=false) (p:Pos) :
 SoundC lp hb prog w₀ b F LF c (.Compare x [op1,op2] [y,z] p) (.cmp2 o1 o2 mx my mz):=by
 intro A env σ S w Q hA C Fk O q
 simp only [T] at q
 refine isTrue_chain (hx.run hA C Fk O q fun S1 w1 d1 v O1 L1 R1 q=>?_) (by simpa [lastMarks] using hm)
 show wpAny _ A (do
  let rv ← holding [v] (eval y env)
  standAt p
  let c ← holding [v,rv] (compareOp op1 v rv)
  release [v,rv] [c]
  if ← holding [c,rv] (truthy c) then testChain p rv [op2] [eval z env] else pure false) _ _ _
 refine wpAny_bind (wpAny_holding (hy.run hA C (Fk.up L1) O1 q fun S2 w2 d2 v2 O2 L2 R2 q=>?_))
 refine wpAny_bind (wpAny_standAt (wpAny_bind (wpAny_holding (wpAny_mono (qCH (qCr G hA) O2 ho1 (R1.mono L2.sub) R2 q) (fun v3 s' h=>?_) fun _ _ h=>h))))
 obtain ⟨t,tk,rfl,rfl,q⟩:=h
 have O3:=O2.tok (tk:=tk)
 have L3:=(L1.trans L2).trans O3.2
 refine wpAny_bind (wpAny_release' (wpAny_bind (wpAny_holding (wpAny_truthy_bool ?_))))
 cases t with
 | false =>
  rw [if_neg (by simp)] at q ⊢
  exact wpAny_pure ⟨_,_,rfl,O3.1,L3,q⟩
 | true =>
  rw [if_pos rfl] at q ⊢
  show wpAny _ A (do
   let rv ← holding [v2] (eval z env)
   standAt p
   let c ← operate [v2,rv] (compareOp op2 v2 rv)
   holding [c] (truthy c)) _ _ _
  refine wpAny_bind (wpAny_holding (wpAny_mono (hz A env σ _ w2 _ hA C (Fk.up L3) O3.1 q) (fun v4 s' h=>?_) fun _ _ h=>h))
  obtain ⟨S4,w4,d4,rfl,O4,L4,R4,q⟩:=h
  refine wpAny_bind (wpAny_standAt (wpAny_bind (wpAny_operate' (wpAny_mono (qCH (qCr G hA) O4 ho2 (R2.mono (LeX.trans O3.2 L4).sub) R4 q) (fun v5 s' h=>?_) fun _ _ h=>h))))
  obtain ⟨t,tk',rfl,rfl,q⟩:=h
  have O5:=O4.tok (tk:=tk')
  exact wpAny_holding (wpAny_truthy_bool ⟨_,_,rfl,O5.1,(L3.trans L4).trans O5.2,q⟩)
end
section
variable {lp:LexP} {hb:Heap} {prog:Program} {w₀:World} {b:Nat} {F:Str->List D->D->Prop} {LF:LexF} {mg mb:Str->Option Value} {c:Sc}
theorem sNil:qBg lp hb prog w₀ b F LF c [] .nil:=by
 intro A env σ S w Q pos hA C Fk O q
 simp only [EL] at q
 exact spliced_nil ⟨S,w,[],rfl,O,LeX.refl _ _,.nil,q⟩
theorem qPV {e:Expr} {r:List Expr} {me:ME} {mr:ML} (he:SoundE lp hb prog w₀ b F LF c e me) (hr:qBg lp hb prog w₀ b F LF c r mr) (hs:∀ env,starEach (e::r) env=(false,eval e env)::starEach r env) :
 qBg lp hb prog w₀ b F LF c (e::r) (.cons me mr):=by
 intro A env σ S w Q pos hA C Fk O q
 simp only [EL] at q
 rw [hs]
 show wpAny _ A (spliced ((false,eval e env)::backTo pos (starEach r env))) _ _ _
 refine spliced_cons (he.run hA C Fk O q fun S1 w1 d1 v O1 L1 R1 q=>?_)
 refine wpAny_mono (hr A env σ S1 w1 _ pos hA C (Fk.up L1) O1 q) (fun vs s' h=>?_) fun _ _ h=>h
 obtain ⟨S2,w2,ds,rfl,O2,L2,R2,q⟩:=h
 exact ⟨S2,w2,_,rfl,O2,L1.trans L2,.cons (R1.mono L2.sub) R2,q⟩
theorem qOn {es:List Expr} {m:ML} (h:qBg lp hb prog w₀ b F LF c es m) (p:Pos):SoundE lp hb prog w₀ b F LF c (.List es p) (.list m):=by
 intro A env σ S w Q hA C Fk O q
 simp only [E] at q
 refine List_ (wpAny_mono (h A env σ S w _ p hA C Fk O q) (fun vs s' h=>?_) fun _ _ h=>h)
 obtain ⟨S1,w1,ds,rfl,O1,L1,R1,hl,q⟩:=h
 refine wpAny_newObj_type ?_ (by show vs.toArray.size≤sizeLine; rw [List.size_toArray,R1.length,sizeLine_eq]; exact hl)
 exact ((LRes.push O1 (K:=fun xs=>Q (.list xs) w1) (tk:=S1.s.toks) (vs:=vs.toArray) (n:=0) (by exact R1) q).e).le L1
theorem sTup {es:List Expr} {m:ML} (h:qBg lp hb prog w₀ b F LF c es m) (k:Nat) (p:Pos):SoundE lp hb prog w₀ b F LF c (.Tuple es k p) (.tup m):=by
 intro A env σ S w Q hA C Fk O q
 simp only [E] at q
 refine Tuple_ (wpAny_mono (h A env σ S w _ p hA C Fk O q) (fun vs s' h=>?_) fun _ _ h=>h)
 obtain ⟨S1,w1,ds,rfl,O1,L1,R1,hl,q⟩:=h
 refine wpAny_newObj_type ?_ (by show vs.toArray.size≤sizeLine; rw [List.size_toArray,R1.length,sizeLine_eq]; exact hl)
 exact ((KRes.push O1 (K:=fun d=>Q d w1) (tk:=S1.s.toks) (o:={ cls:=.type "tuple",data:=.seq vs.toArray }) rfl (.tup (Fz.put_self _ _ _) rfl rfl (by simpa using R1.mono (qHP (O1.bNone (qAD _))))) q).e).le L1
theorem sIdx {e i:Expr} {me mi:ME} (he:SoundE lp hb prog w₀ b F LF c e me) (hi:SoundE lp hb prog w₀ b F LF c i mi) (p:Pos):SoundE lp hb prog w₀ b F LF c (.Subscript e i p) (.idx me mi):=by
 intro A env σ S w Q hA C Fk O q
 simp only [E] at q
 refine Subscript_ (he.run hA C Fk O q fun S1 w1 d1 v O1 L1 R1 q=>?_)
 refine hi.run hA C (Fk.up L1) O1 q fun S2 w2 d2 v2 O2 L2 R2 q=>?_
 have hk:(∃ xs,d1=.list xs)\/∃ s,d1=.str s:=by
  clear R2 R1
  cases d1 <;> cases d2 <;> dsimp only [idxK] at q <;> first | exact q.elim | exact .inl ⟨_,rfl⟩ | exact .inr ⟨_,rfl⟩
 refine x22 (qBr O2 (R1.mono L2.sub) hk) fun T id hT hl=>?_
 refine qBM hT hl (wpAny_mono (qC5 O2 (R1.mono L2.sub) R2 q) (fun v s' h=>(h.e).le (L1.trans L2)) fun _ _ h=>h)
noncomputable def OptS (lp:LexP) (hb:Heap) (prog:Program) (w₀:World) (b:Nat) (F:Str->List D->D->Prop) (LF:LexF) (c:Sc) (e:Option Expr) (m:ME):Prop:=e.elim (m=.cst .none) fun e=>SoundE lp hb prog w₀ b F LF c e m
theorem qN3 {e:Option Expr} {m:ME} (h:OptS lp hb prog w₀ b F LF c e m) {A:Around} {env:Env} {σ:List Slot} {S:St} {w:W} {Q:D->W->Prop} (hA:AOk b A) (C:ScOk c env)
 (Fk:FrOk c.tbl env σ S) (O:Ok lp hb S w) (q:E F LF m σ w Q):wpAny (model prog w₀) A (evalPart e env) (ERes lp hb S Q) ff S.s:=by
 cases e with
 | none=>cases (show m=.cst .none from h); simp only [E] at q; exact wpAny_pure ⟨S,w,_,rfl,O,LeX.refl _ _,.none,q⟩
 | some e=>exact h A env σ S w Q hA C Fk O q
theorem sSl {e:Expr} {lo hi:Option Expr} {me ml mh:ME} (he:SoundE lp hb prog w₀ b F LF c e me) (hl:OptS lp hb prog w₀ b F LF c lo ml)
 (hh:OptS lp hb prog w₀ b F LF c hi mh) (p1 p:Pos):SoundE lp hb prog w₀ b F LF c (.Subscript e (.Slice lo hi none p1) p) (.sl me ml mh):=by
 intro A env σ S w Q hA C Fk O q
 simp only [E] at q
 refine Subscript_ (he.run hA C Fk O q fun S1 w1 d1 v O1 L1 R1 q=>?_)
 refine wpAny_Slice (wpAny_mono (qN3 hl hA C (Fk.up L1) O1 q) (fun v2 s' h=>?_) fun _ _ h=>h)
 obtain ⟨S2,w2,d2,rfl,O2,L2,R2,q⟩:=h
 refine wpAny_mono (qN3 hh hA C (Fk.up (L1.trans L2)) O2 q) (fun v3 s' h=>?_) fun _ _ h=>h
 obtain ⟨S3,w3,d3,rfl,O3,L3,R3,q⟩:=h
 refine wpAny_pure ?_
 have kk:∀ b' o',S3.h.get? b'=some o'->(S3.h.push { cls:=.type "slice",data:=.fields #[v2,v3,.none] }).get? b'=some o':=fun b' o' e=>Heap.get?_push_of_some _ e
 obtain ⟨O4,L4⟩:=O3.quiet (tk:=S3.s.toks) kk
 have hs:(S3.h.push { cls:=.type "slice",data:=.fields #[v2,v3,.none] }).IsSliceOf S3.h.objs.size v2 v3 .none:=⟨_,Heap.get?_push_size _ rfl,rfl,rfl⟩
 have LL:=((L1.trans L2).trans L3).trans L4
 have R1':=R1.mono (L2.trans L3).sub
 have R2':=R2.mono L3.sub
 have hk:(∃ xs,d1=.list xs)\/∃ s,d1=.str s:=by
  rcases qMR q with q | q
  · cases d1 <;> first | exact .inr ⟨_,rfl⟩ | (simp [slK] at q)
  · cases d1 <;> first | exact .inl ⟨_,rfl⟩ | (simp [slL] at q)
 refine x22 (qBr O4 (S:={ S3 with s:={ S3.s with heap:=_,toks:=S3.s.toks } }) R1' hk) fun T id hT hl=>?_
 refine qBM hT hl ?_
 rcases qMR q with q | q
 · exact wpAny_mono (qJI O4 (vs:=.none) R1' R2' R3 hs q) (fun v s' h=>(h.e).le LL) fun _ _ h=>h
 · exact wpAny_mono (qJa O4 (vs:=.none) R1' R2' R3 hs q) (fun v s' h=>(h.e).le LL) fun _ _ h=>h
end
section
variable {lp:LexP} {hb:Heap} {prog:Program} {w₀:World} {b:Nat} {F:Str->List D->D->Prop} {LF:LexF} {mg mb:Str->Option Value} {c:Sc}
noncomputable def NoStar (es:List Expr):Prop:=∀ env,starEach es env=es.map fun e=>(false,eval e env)
theorem NoStar.back {es:List Expr} (h:NoStar es) (pos:Pos) (env:Env):backTo pos (starEach es env)=es.map fun e=>(false,eval e env):=by
 rw [h]
 unfold backTo
 rw [List.map_map]
 exact List.map_congr_left fun e _=>rfl
theorem NoStar.any {es:List Expr} (h:NoStar es) (pos:Pos) (env:Env):(backTo pos (starEach es env)).any (·.1)=false:=by
 rw [h.back]; simp
theorem qCi {f:Value} {es:List Expr} {m:ML} (h:qBg lp hb prog w₀ b F LF c es m) (ns:NoStar es) (hm:es=[]->m=.nil) {A:Around} {env:Env} {σ:List Slot} {S:St} {w:W} {Q:List D->W->Prop} {pos:Pos} (hA:AOk b A) (C:ScOk c env)
 (Fk:FrOk c.tbl env σ S) (O:Ok lp hb S w) (q:EL F LF m σ w Q) :
 wpAny (model prog w₀) A (evalArgs f true (backTo pos (starEach es env)) []) (fun x s'=>x.kw=[]/\LsRes lp hb S Q x.pos s') ff S.s:=by
 have:=h A env σ S w Q pos hA C Fk O q
 rw [ns.back] at this ⊢
 cases es with
 | nil =>
  clear this ns h Fk C hA
  cases hm rfl
  simp only [EL] at q
  exact PySem.evalArgs_none ⟨rfl,S,w,[],rfl,O,LeX.refl _ _,.nil,q⟩
 | cons e r=>exact evalArgs_plain (wpAny_mono this (fun vs s' h=>⟨rfl,h⟩) fun _ _ h=>h)
theorem sNeg (i:Int) (k:Nat) (p p':Pos):SoundE lp hb prog w₀ b F LF c (.UnaryOp .USub (.Constant (.int i) k p) p') (.cst (.int (-i))):=by
 intro A env σ S w Q _ _ _ O q
 simp only [E] at q
 exact wpAny_UnaryOp (wpAny_Constant_int (P.neg_int ((KRes.val O (K:=fun d=>Q d w) (.int _ _) q).e)))
theorem sRev {e:Expr} {me:ME} (he:SoundE lp hb prog w₀ b F LF c e me) (k:Nat) (p1 p2 p3 p:Pos) :
 SoundE lp hb prog w₀ b F LF c (.Subscript e (.Slice none none (some (.UnaryOp .USub (.Constant (.int 1) k p1) p2)) p3) p) (.rev me):=by
 intro A env σ S w Q hA C Fk O q
 simp only [E] at q
 refine Subscript_ (he.run hA C Fk O q fun S1 w1 d1 v O1 L1 R1 q=>?_)
 obtain ⟨xs,rfl⟩:=(by cases d1 <;> first | exact ⟨_,rfl⟩ | exact q.elim:∃ xs,d1=.list xs)
 dsimp only [revL] at q
 refine wpAny_Slice (wpAny_pure (wpAny_pure (wpAny_UnaryOp (wpAny_Constant_int (P.neg_int ?_)))))
 have h9q:=O1.quiet (tk:=S1.s.toks+1+1) ((fun o b' o' e=>Heap.get?_push_of_some _ e:∀ (o:Obj) b' o',S1.h.get? b'=some o'->(S1.h.push o).get? b'=some o') { cls:=.type "slice",data:=.fields #[.none,.none,.int (-1) (S1.s.toks+1)] })
 refine x23 (R1.isList h9q.1) fun a vs eq2 l1 q1=>?_
 clear R1
 subst eq2
 refine qBM l1.typeIs PySem.F.slot_list_getitem.lookup ?_
 refine wpAny_getItem_list_slice (lo:=none) (hi:=none) (st:=some (-1)) l1 (⟨_,Heap.get?_push_size _ rfl,rfl,rfl⟩) .none .none (.int _ _) (by decide) ?_ (by rw [(by simpa using q1.length:vs.size=xs.length),sizeLine_eq]; exact q.1)
 rw [krv_pick]
 exact ((LRes.push h9q.1 (K:=fun xs=>Q (.list xs) w1) (n:=0) (tk:=S1.s.toks+1+1) (vs:=vs.toList.reverse.toArray) (by exact q1.reverse) q.2).e).le (L1.trans h9q.2)
set_option tactic.hygienic true in
theorem qLz {A:Around} {env:Env} {σ:List Slot} {S:St} {w:W} (C:ScOk c env) (Fk:FrOk c.tbl env σ S) (O:Ok lp hb S w) {x:Str} {k:Nat} (hv:c.var x=some k) {K:D->Prop} (h:qBY (σ.getD k .unb) w K) :
 ∃ v d,K d/\(Rep S.B v d\/∃ a vs xs,v=.ref a/\d=.list xs/\S.h.IsList a vs/\RepL S.B vs.toList xs) /\
  ∀ (p:Pos) (Q:Value->Shared->Prop),Q v S.s->wpAny (model prog w₀) A (eval (.Name x p) env) Q ff S.s:=by
 simp only [qBY] at h
 generalize hsl:σ.getD k .unb=sl at h
 cases sl with
 | unb=>exact h.elim
 | dat d =>
  obtain ⟨v,hs,ld⟩:=qBu (prog:=prog) (w₀:=w₀) (A:=A) (Er:=ff) C Fk hv (qB7 σ k hsl (by simp)) (by simp)
  obtain ⟨v',e,r⟩:=hs
  cases e
  exact ⟨v,d,h,.inl r,ld⟩
 | loc j =>
  obtain ⟨v,hs,ld⟩:=qBu (prog:=prog) (w₀:=w₀) (A:=A) (Er:=ff) C Fk hv (qB7 σ k hsl (by simp)) (by simp)
  obtain ⟨pp,hp,e⟩:=hs
  cases e
  dsimp only at h
  split at h
  · rename_i xs hw
    obtain ⟨_,vs,l,r⟩:=O.at_ j pp _ hp hw
    exact ⟨_,_,h,.inr ⟨_,vs,xs,rfl,rfl,l.isList,r⟩,ld⟩
  · rename_i xs hw
    exact ⟨_,_,h,.inl (O.at_ j pp _ hp hw).2,ld⟩
  · exact h.elim
theorem qJq {S:St} {w:W} {A:Around} {Er:Value->Shared->Prop} (O:Ok lp hb S w) {a:Addr} {vs:Array Value} {xs:List D} (l1:S.h.IsList a vs) (q1:RepL S.B vs.toList xs) {v2:Value} {d2:D} {K:D->Prop} (r2:Rep S.B v2 d2) (h:idxK (.list xs) d2 K) :
 wpAny (model prog w₀) A (getItem (.ref a) v2) (KRes lp hb S w K) Er S.s :=
 intE r2 h fun i u h=>qHW O l1 q1 h
theorem Ok.listUp {S S':St} {w:W} (O:Ok lp hb S w) (O':Ok lp hb S' w) (L:Le S S') {k:Nat} {p:Addr×List Addr} {xs:List D} (hp:S.own[k]?=some p) (hw:w[k]?=some (.lst xs)) :
 ∃ vs,S'.h.IsList p.1 vs/\RepL S'.B vs.toList xs:=by
 refine x12 (L.own k p hp) fun p' hp' e=>?_
 refine x02 (O'.at_ k p' _ hp' hw) fun _ r9=>x12 r9 fun vs l r=>?_
 exact ⟨vs,e ▸ l.isList,r⟩
set_option tactic.hygienic true in
theorem qOv {x:Str} {k:Nat} (hv:c.var x=some k) {i:Expr} {mi:ME} (hi:SoundE lp hb prog w₀ b F LF c i mi) (p1 p:Pos):SoundE lp hb prog w₀ b F LF c (.Subscript (.Name x p1) i p) (.idxV k mi):=by
 intro A env σ S w Q hA C Fk O q
 simp only [E] at q
 simp only [qBY] at q
 generalize hsl:σ.getD k .unb=sl at q
 cases sl with
 | unb=>exact q.elim
 | dat d =>
  obtain ⟨v,hs,ld⟩:=qBu (prog:=prog) (w₀:=w₀) (A:=A) (Er:=ff) C Fk hv (qB7 σ k hsl (by simp)) (by simp)
  obtain ⟨v',e,r⟩:=hs
  cases e
  dsimp only at q
  refine Subscript_ (ld p1 _ ?_)
  refine hi.run hA C Fk O q fun S2 w2 d2 v2 O2 L2 R2 q=>?_
  obtain ⟨rfl,q⟩:=q
  have hk:(∃ xs,d=.list xs)\/∃ s,d=.str s:=by
   clear R2 r hsl
   cases d <;> cases d2 <;> dsimp only [idxK] at q <;> first | exact q.elim | exact .inl ⟨_,rfl⟩ | exact .inr ⟨_,rfl⟩
  refine x22 (qBr O2 (r.mono L2.sub) hk) fun T id hT hl=>?_
  exact qBM hT hl (wpAny_mono (qC5 O2 (r.mono L2.sub) R2 q) (fun v s' h=>(KRes.e (Q:=Q) (w:=w2) h).le L2) fun _ _ h=>h)
 | loc j =>
  obtain ⟨v,hs,ld⟩:=qBu (prog:=prog) (w₀:=w₀) (A:=A) (Er:=ff) C Fk hv (qB7 σ k hsl (by simp)) (by simp)
  obtain ⟨pp,hp,e⟩:=hs
  cases e
  dsimp only at q
  refine Subscript_ (ld p1 _ ?_)
  split at q
  · rename_i xs hw
    refine hi.run hA C Fk O q fun S2 w2 d2 v2 O2 L2 R2 q=>?_
    obtain ⟨rfl,q⟩:=q
    obtain ⟨vs,l,r⟩:=O.listUp O2 L2 hp hw
    exact qBM l.typeIs PySem.F.slot_list_getitem.lookup (wpAny_mono (qJq O2 l r R2 q) (fun v s' h=>(KRes.e (Q:=Q) (w:=w2) h).le L2) fun _ _ h=>h)
  · rename_i xs hw
    have r:=(O.at_ j pp _ hp hw).2
    refine hi.run hA C Fk O q fun S2 w2 d2 v2 O2 L2 R2 q=>?_
    clear hw O
    obtain ⟨rfl,q⟩:=q
    refine x22 (qBr O2 (r.mono L2.sub) (.inl ⟨_,rfl⟩)) fun T id hT hl=>?_
    exact qBM hT hl (wpAny_mono (qC5 O2 (r.mono L2.sub) R2 q) (fun v s' h=>(KRes.e (Q:=Q) (w:=w2) h).le L2) fun _ _ h=>h)
  · exact q.elim
theorem sBlt (G:Glo lp hb prog w₀ b F LF mg mb) {x:Str} {f:Value} (hx:c.isGlob x=true) (hf:(x,f)∈qCQ) {A:Around} {env:Env} {σ:List Slot} {S:St} {w:W} (C:ScOk c env) (Fk:FrOk c.tbl env σ S) (O:Ok lp hb S w) (p:Pos)
 {Q:Value->Shared->Prop} (q:Q f S.s):wpAny (model prog w₀) A (eval (.Name x p) env) Q ff S.s :=
 qAl C Fk (G.ns.keeps O.heap) (G.bns.keeps O.heap) hx (.inr (G.blt x f hf)) p q
theorem qOw (G:Glo lp hb prog w₀ b F LF mg mb) (hx:c.isGlob "len" = true) {x:Str} {k:Nat} (hv:c.var x=some k) (p1 p2 p:Pos):SoundE lp hb prog w₀ b F LF c (.Call (.Name "len" p1) [.Name x p2] [] p) (.lenV k):=by
 intro A env σ S w Q hA C Fk O q
 simp only [E] at q
 refine wpAny_Call_NameR (sBlt G hx (f:=.builtin "len") (by decide) C Fk O p1 ?_)
 refine x23 (qLz (prog:=prog) (w₀:=w₀) (A:=A) C Fk O hv q) fun v d q r ld=>?_
 refine PySem.callWith_builtin1 (t:=eval (.Name x p2) env) (ld p2 _ ?_)
 clear ld Fk
 rcases r with r | ⟨a,vs,xs,rfl,rfl,l,r⟩
 · exact wpAny_mono (qGG (b:=.len) hA.handled O (.cons r .nil) q) (fun v s' h=>KRes.e (Q:=Q) (w:=w) h) fun _ _ h=>h
 · have e1:vs.size=xs.length:=by simpa using r.length
   dsimp only [biK] at q
   refine Calls.call_len_list l (by rw [e1]; have:=q.1; (exact as31 ‹_› (by decide))) ?_
   rw [e1]
   exact (KRes.val O (K:=fun d=>Q d w) (.int _ _) q.2).e
set_option tactic.hygienic true in
theorem sBi (G:Glo lp hb prog w₀ b F LF mg mb) {x:Str} {es:List Expr} {m:ML} {bi:Bi} (hx:c.isGlob x=true) (hbi:biOf x es.length=some bi) (h:qBg lp hb prog w₀ b F LF c es m) (ns:NoStar es) (hm:es=[]->m=.nil) (p1 p:Pos) :
 SoundE lp hb prog w₀ b F LF c (.Call (.Name x p1) es [] p) (.bi bi m):=by
 intro A env σ S w Q hA C Fk O q
 simp only [E] at q
 have key:∀ (f:Value),(x,f)∈qCQ->f=bi.fn ->
  ((∃ id,f=.builtin id)\/∃ T,f=.type T)->(bi=.list->f=.type "list")->wpAny (model prog w₀) A (eval (.Call (.Name x p1) es [] p) env) (ERes lp hb S Q) ff S.s:=by
  intro f hf e ht hl
  refine wpAny_Call_NameR (sBlt G hx hf C Fk O p1 ?_)
  have call_it:∀ (xa:Args) (s':Shared),(xa.kw=[]/\LsRes lp hb S (fun ds w=>biA bi ds (fun d=>Q d w) (fun xs=>Q (.list xs) w)) xa.pos s')->wpAny (model prog w₀) A (call f xa.pos xa.kw) (ERes lp hb S Q) ff s':=by
   intro xa s' h'
   obtain ⟨h0,S1,w1,ds,rfl,O1,L1,R1,q⟩:=h'
   rw [h0]
   rcases qOQ q with q | q
   · rw [e]
     exact wpAny_mono (qGG hA.handled O1 R1 q) (fun v s' h=>(KRes.e (Q:=Q) (w:=w1) h).le L1) fun _ _ h=>h
   · refine x02 (qKq (prog:=prog) (w₀:=w₀) (A:=A) (Er:=ff) hA.handled O1 R1 q) fun e1 q=>?_
     rw [hl e1]
     exact wpAny_mono q (fun v s' h=>(h.e).le L1) fun _ _ h=>h
  clear hl e hf
  rcases ht with ⟨id,rfl⟩ | ⟨T,rfl⟩
  · exact Calls.callWith_builtin (ns.any p env) (wpAny_mono (qCi h ns hm hA C Fk O q) call_it fun _ _ h=>h)
  · exact PySem.callWith_type (ns.any p env) (wpAny_mono (qCi h ns hm hA C Fk O q) call_it fun _ _ h=>h)
 unfold biOf at hbi
 repeat' split at hbi
 all_goals first | cases hbi | skip
 all_goals (rename_i hc; simp only [Bool.and_eq_true,beq_iff_eq] at hc; obtain ⟨rfl,_⟩:=hc)
 · exact key (.builtin "len") (by decide) rfl (.inl ⟨_,rfl⟩) (by intro h; cases h)
 · exact key (.builtin "sum") (by decide) rfl (.inl ⟨_,rfl⟩) (by intro h; cases h)
 · exact key (.type "list") (by decide) rfl (.inr ⟨_,rfl⟩) (by intro h; rfl)
 · exact key (.builtin "chr") (by decide) rfl (.inl ⟨_,rfl⟩) (by intro h; cases h)
 · exact key (.builtin "ord") (by decide) rfl (.inl ⟨_,rfl⟩) (by intro h; cases h)
 · exact key (.builtin "divmod") (by decide) rfl (.inl ⟨_,rfl⟩) (by intro h; cases h)
 · exact key (.type "range") (by decide) rfl (.inr ⟨_,rfl⟩) (by intro h; cases h)
 · exact key (.type "range") (by decide) rfl (.inr ⟨_,rfl⟩) (by intro h; cases h)
theorem qPO (G:Glo lp hb prog w₀ b F LF mg mb) {x:Str} {es:List Expr} {m:ML} (hx:c.isGlob x=true) (hd:x∈qCO) (h:qBg lp hb prog w₀ b F LF c es m) (ns:NoStar es) (hm:es=[]->m=.nil) (p1 p:Pos) :
 SoundE lp hb prog w₀ b F LF c (.Call (.Name x p1) es [] p) (.call x m):=by
 intro A env σ S w Q hA C Fk O q
 simp only [E] at q
 refine x34 (G.defs x hd) fun a o fd hg ho hf hc=>?_
 refine wpAny_Call_NameR (qAl C Fk (G.ns.keeps O.heap) (G.bns.keeps O.heap) hx (.inl hg) p1 ?_)
 refine Calls.callWith_function (o:=o) (fd:=fd) (wpAny_mono (qCi h ns hm hA C Fk O q) (fun xa s' h'=>?_) fun _ _ h=>h)
 obtain ⟨h0,S1,w1,ds,rfl,O1,L1,R1,r,hr,q⟩:=h'
 rw [h0]
 refine ⟨⟨O1.heap _ _ ho,hf⟩,wpAny_mono (hc A S1 w1 _ ds r hA O1 R1 hr) (fun v s' h=>?_) fun _ _ h=>h⟩
 exact (KRes.e (Q:=Q) (w:=w1) (h.mono fun d e=>by rw [e]; exact q)).le L1
end
section
variable {lp:LexP} {hb:Heap} {prog:Program} {w₀:World} {b:Nat} {F:Str->List D->D->Prop} {LF:LexF} {mg mb:Str->Option Value} {c:Sc}
set_option tactic.hygienic true in
theorem Ok.dropOwn {S₀ S:St} {w:W} {y:OO} (O:Ok lp hb S (w++[y])) (L:Le S₀ S) (hlen:S₀.own.length=w.length) :
 Ok lp hb { S with own:=S.own.take w.length } w/\Le S₀ { S with own:=S.own.take w.length }:=by
 have hl:S.own.length=w.length+1:=by rw [O.len]; simp
 have hsub:∀ a,a∈({ S with own:=S.own.take w.length }:St).fps->a∈S.fps:=fun a ha=>by
  refine x22 (St.mem_fps.mp ha) fun k p hk hm=>?_
  rw [List.getElem?_take] at hk
  split at hk
  · exact St.mem_fps.mpr ⟨k,p,hk,hm⟩
  · cases hk
 constructor
 · refine ⟨O.base,O.sub,?_,fun i q x h1 h2=>?_,?_,fun a ha=>O.apart a (hsub a ha)⟩
   · show (S.own.take w.length).length=_
     rw [List.length_take]; (exact as59 ‹_›)
   · have h1':(S.own.take w.length)[i]?=some q:=h1
     rw [List.getElem?_take] at h1'
     split at h1'
     · rename_i hi
       exact O.at_ i q x h1' (by rw [List.getElem?_append_left hi]; exact h2)
     · cases h1'
   · have:=O.nodup
     unfold St.fps at this ⊢
     show (((S.own.take w.length).map (·.2)).flatten).Nodup
     rw [((List.take_append_drop _ _).symm:S.own=S.own.take w.length++S.own.drop w.length),List.map_append,List.flatten_append] at this
     exact (List.nodup_append.mp this).1
 · refine ⟨L.sh,L.alive,L.keep,L.sub,L.newB,fun k p e=>?_,fun a ha=>L.newF a (hsub a ha)⟩
   refine x12 (L.own k p e) fun p' e' r=>?_
   refine ⟨p',?_,r⟩
   have hk:k<w.length:=hlen ▸ (List.getElem?_eq_some_iff.mp e).1
   show (S.own.take w.length)[k]?=_
   rw [List.getElem?_take,if_pos hk]
   exact e'
theorem qOZ {e:Expr} {me:ME} (he:SoundE lp hb prog w₀ b F LF c e me) (k:Nat) (p1 p:Pos):SoundC lp hb prog w₀ b F LF c (.Compare e [.IsNot] [.Constant .none k p1] p) (.isnn me):=by
 intro A env σ S w Q hA C Fk O q
 dsimp only [T] at q
 refine wpAny_isTrue_Compare1 (he.run hA C Fk O q fun S1 w1 d1 v O1 L1 R1 q=>?_) rfl
 refine wpAny_Constant_none (isNot_none ?_)
 cases d1 <;> simp only at q
 all_goals first | exact q.elim | skip
 · cases R1.none'
   exact wpAny_truthy_bool ⟨S1,w1,rfl,O1,L1,q⟩
 · obtain ⟨t,rfl⟩:=R1.str'
   exact wpAny_truthy_bool ⟨S1,w1,rfl,O1,L1,q⟩
theorem sIsb (G:Glo lp hb prog w₀ b F LF mg mb) {e:Expr} {me:ME} (hi:c.isGlob "isinstance" = true) (hbo:c.isGlob "bool" = true) (he:SoundE lp hb prog w₀ b F LF c e me) (p1 p2 p:Pos) (ns:NoStar [e,.Name "bool" p2]) :
 SoundE lp hb prog w₀ b F LF c (.Call (.Name "isinstance" p1) [e,.Name "bool" p2] [] p) (.isb me):=by
 intro A env σ S w Q hA C Fk O q
 dsimp only [E] at q
 refine wpAny_Call_NameR (sBlt G hi (f:=.builtin "isinstance") (by decide) C Fk O p1 ?_)
 rw [ns.back]
 refine Calls.callWith_builtin rfl (evalArgs_plain (Calls.spliced_cons (he.run hA C Fk O q fun S1 w1 d1 v O1 L1 R1 q=>?_)))
 refine Calls.spliced_cons (sBlt G hbo (f:=.type "bool") (by decide) C (Fk.up L1) O1 p2 (Calls.spliced_nil ?_))
 cases d1 <;> simp only at q
 all_goals first | exact q.elim | skip
 cases R1.bool'
 exact IsiPair.bool_bool ((KRes.here O1 (K:=fun d=>Q d w1) (.bool _) q).e.le L1)
theorem qOr (G:Glo lp hb prog w₀ b F LF mg mb) {e:Expr} {me:ME} (hx:c.isGlob "b1_set" = true) (he:SoundE lp hb prog w₀ b F LF c e me) (p1 p:Pos):SoundE lp hb prog w₀ b F LF c (.Compare e [.In] [.Name "b1_set" p1] p) (.inB1 me):=by
 intro A env σ S w Q hA C Fk O q
 simp only [E] at q
 refine x12 G.b1 fun a hg hc=>?_
 refine wpAny_Compare1 (he.run hA C Fk O q fun S1 w1 d1 v O1 L1 R1 q=>?_) rfl
 refine x12 q fun r hr q=>?_
 refine qAl C (Fk.up L1) (G.ns.keeps O1.heap) (G.bns.keeps O1.heap) hx (.inl hg) p1 ?_
 refine wpAny_mono (hc A S1 w1 v d1 r hA O1 R1 hr) (fun v s' h=>?_) fun _ _ h=>h
 exact (KRes.e (Q:=Q) (w:=w1) (h.mono fun d e=>by rw [e]; exact q)).le L1
theorem qOE (G:Glo lp hb prog w₀ b F LF mg mb) {e:Expr} {me:ME} (hx:c.isGlob "b3_exceptions" = true) (he:SoundE lp hb prog w₀ b F LF c e me) (p1 ap p:Pos) (hl:qA6 ap p=true) (ns:NoStar [e]) :
 SoundE lp hb prog w₀ b F LF c (.Call (.Attribute (.Name "b3_exceptions" p1) "get" ap) [e] [] p) (.getB3 me):=by
 intro A env σ S w Q hA C Fk O q
 simp only [E] at q
 refine x25 G.b3 fun a o hg ho hc1 hd hc=>?_
 refine wpAny_Call_method_lateS rfl ?_ hl (qAl C Fk (G.ns.keeps O.heap) (G.bns.keeps O.heap) hx (.inl hg) p1 ?_)
 · rw [ns.back]; rfl
 refine ⟨"dict", "dict.get",PySem.F.plainAttrs_dict,PySem.F.slot_dict_get,PySem.F.type_dict_get,⟨o,O.heap _ _ ho,hc1⟩,fun a' e'=>?_,?_⟩
 · cases e'; exact ⟨o,O.heap _ _ ho,hd⟩
 rw [ns.back]
 refine Calls.callWith_builtin rfl (evalArgs_plain (Calls.spliced_cons (he.run hA C Fk O q fun S1 w1 d1 v O1 L1 R1 q=>Calls.spliced_nil ?_)))
 refine x12 q fun r hr q=>?_
 refine wpAny_mono (hc A S1 w1 v d1 r hA O1 R1 hr) (fun v s' h=>?_) fun _ _ h=>h
 exact (KRes.e (Q:=Q) (w:=w1) (h.mono fun d e=>by rw [e]; exact q)).le L1
set_option tactic.hygienic true in
theorem qFX {a:Str} {n:Nat} {m:Met} (h:qIn a n=some m):PySem.Slot "str" a m.id/\typeOf (.builtin m.id)=pure (.type "method_descriptor"):=by
 unfold qIn at h
 repeat' split at h
 all_goals first | cases h | skip
 all_goals (rename_i hc; simp only [Bool.and_eq_true,beq_iff_eq] at hc; obtain ⟨rfl,_⟩:=hc)
 · exact ⟨PySem.F.slot_str_split,PySem.F.type_str_split⟩
 · exact ⟨PySem.F.slot_str_startswith,PySem.F.type_str_startswith⟩
 · exact ⟨PySem.F.slot_str_endswith,PySem.F.type_str_endswith⟩
 · exact ⟨PySem.F.slot_str_find,PySem.F.type_str_find⟩
 · exact ⟨PySem.F.slot_str_join,PySem.F.type_str_join⟩
 · exact ⟨PySem.F.slot_str_lower,PySem.F.type_str_lower⟩
theorem qHa {es:List Expr} (ns:NoStar es) (hn:es.length≤20) (p:Pos) (env:Env) :
 ((backTo p (starEach es env)).all (fun x=>!x.1) && (backToKw p (keywordEach [] env)).all (fun x=>x.1.isSome)
   && decide (es.length+([]:List Keyword).length+(if ([]:List Keyword).isEmpty then 0 else 1)<30))=true:=by
 rw [ns.back,show backToKw p (keywordEach [] env)=[] from rfl]
 simp
 (exact Nat.lt_of_le_of_lt ‹_› (by decide))
theorem qJv {e:Expr} {a:Str} {es:List Expr} {me:ME} {ml:ML} {m:Met} (he:SoundE lp hb prog w₀ b F LF c e me) (hl:qBg lp hb prog w₀ b F LF c es ml) (ns:NoStar es) (hm:es=[]->ml=.nil) (hn:es.length≤20)
 (hmet:qIn a es.length=some m) (hb':∀ env,attributeBase e a env (eval e env)=eval e env) (ap p:Pos) (hline:qA6 ap p=true) {A:Around} {env:Env} {σ:List Slot} {S:St} {w:W} {R:Value->Shared->Prop} {K:D->List D->W->Prop}
 (hA:AOk b A) (C:ScOk c env) (Fk:FrOk c.tbl env σ S) (O:Ok lp hb S w) (q:E F LF me σ w fun a w=>(∃ s,a=.str s)/\EL F LF ml σ w fun ds w=>K a ds w)
 (hk:∀ S' w' v d vs ds,Ok lp hb S' w'->Le S S'->Rep S'.B v d->RepL S'.B vs ds->K d ds w'->wpAny (model prog w₀) A (call (.builtin m.id) (v::vs)) R ff S'.s) :
 wpAny (model prog w₀) A (eval (.Call (.Attribute e a ap) es [] p) env) R ff S.s:=by
 refine wpAny_Call_method_lateS (hb' env) (qHa ns hn p env) hline (he.run hA C Fk O q fun S1 w1 d1 v O1 L1 R1 q=>?_)
 obtain ⟨⟨s,rfl⟩,q⟩:=q
 obtain ⟨t,rfl⟩:=R1.str'
 refine ⟨"str",m.id,PySem.F.plainAttrs_str,(qFX hmet).1,(qFX hmet).2,typeIs_str _ _ _,fun a e=>Value.noConfusion e,?_⟩
 refine Calls.callWith_builtin (ns.any p env) (wpAny_mono (qCi hl ns hm hA C (Fk.up L1) O1 q) (fun xa s' h=>?_) fun _ _ h=>h)
 obtain ⟨h0,S2,w2,ds,rfl,O2,L2,R2,q⟩:=h
 rw [h0]
 exact hk S2 w2 _ _ _ ds O2 (L1.trans L2) (R1.mono L2.sub) R2 q
theorem sMet {e:Expr} {a:Str} {es:List Expr} {me:ME} {ml:ML} {m:Met} (he:SoundE lp hb prog w₀ b F LF c e me) (hl:qBg lp hb prog w₀ b F LF c es ml) (ns:NoStar es) (hm:es=[]->ml=.nil) (hn:es.length≤20)
 (hmet:qIn a es.length=some m) (hb':∀ env,attributeBase e a env (eval e env)=eval e env) (ap p:Pos) (hline:qA6 ap p=true):SoundE lp hb prog w₀ b F LF c (.Call (.Attribute e a ap) es [] p) (.met m me ml):=by
 intro A env σ S w Q hA C Fk O q
 simp only [E] at q
 refine qJv he hl ns hm hn hmet hb' ap p hline hA C Fk O q (fun S' w' v d vs ds O' L R RL q=>?_)
 rcases qMg q with q | q
 · exact wpAny_mono (qH7 O' R RL q) (fun v s' h=>(KRes.e (Q:=Q) (w:=w') h).le L) fun _ _ h=>h
 · exact wpAny_mono (qES O' R RL q) (fun v s' h=>(h.e).le L) fun _ _ h=>h
theorem qAx {A:Around} {s:Shared} {Er:Value->Shared->Prop} {env:Env} {e:Expr} {name:Str} {es:List Expr} {ap p:Pos} {R:Value->Shared->Prop} (hb':attributeBase e name env (eval e env)=eval e env) (ns:NoStar es) (hn:es.length≤20)
 (hline:qA6 ap p=true) (h:wpAny (model prog w₀) A (eval e env) (fun ov s₁=>∀ pl,wpAny (model prog w₀) A (getMethod ov name pl) (fun r s₂=>wpAny (model prog w₀) A (callWith p r.1 r.2 (backTo p (starEach es env)) []) R Er s₂) Er s₁) Er s) :
 wpAny (model prog w₀) A (eval (.Call (.Attribute e name ap) es [] p) env) R Er s:=by
 rw [arm_eval_Call,hb']
 refine wpAny_bind (wpAny_mono h (fun ov s₁ h₁=>?_) fun _ _ e=>e)
 refine wpAny_bind (wpAny_standAt ?_)
 have hform:methodCallForm (es.length+([]:List Keyword).length) (backTo p (starEach es env)) (backToKw p (keywordEach [] env))=true:=qHa ns hn p env
 have hpos:methodCallPos true e env ap p=pure p:=by
  unfold methodCallPos; unfold qA6 at hline; simp [hline]
 unfold methodCall
 rw [hform]
 exact wpAny_bind (wpAny_holding (wpAny_mono (h₁ _) (fun r s₂ h₂=>wpAny_bind (wpAny_of_eq hpos h₂)) fun _ _ x=>x))
theorem qCz:NoStar []:=fun _=>rfl
theorem qHB {A:Around} {env:Env} {σ:List Slot} {S:St} (C:ScOk c env) (Fk:FrOk c.tbl env σ S) {x:Str} {k j:Nat} (hv:c.var x=some k) (hs:σ.getD k .unb=.loc j) :
 ∃ p,S.own[j]?=some p/\∀ (ps:Pos) (Q:Value->Shared->Prop),Q (.ref p.1) S.s->wpAny (model prog w₀) A (eval (.Name x ps) env) Q ff S.s:=by
 refine x12 (qBu (prog:=prog) (w₀:=w₀) (A:=A) (Er:=ff) C Fk hv (qB7 σ k hs (by simp)) (by simp)) fun v hs ld=>?_
 obtain ⟨pp,hp,e⟩:=hs
 cases e
 exact ⟨pp,hp,ld⟩
theorem qHj (G:Glo lp hb prog w₀ b F LF mg mb) {e:Expr} {env:Env} {A:Around} {S:St} {R:Value->Shared->Prop} (hb':attributeBase e "get_token" env (eval e env)=eval e env) (ap p:Pos) (hline:qA6 ap p=true) (hA:AOk b A)
 (h:wpAny (model prog w₀) A (eval e env) (fun ov s₁=>∃ S' w' k pp pb sg,S'.s=s₁/\ov=.ref (Prod.fst pp)/\Ok lp hb S' w'/\S'.own[k]?=some pp/\w'[k]?=some (.lex pb sg)/\(pb=[]->sg.length≤16777216) /\
   ∀ S'' t v,Rep S''.B v (.str t)->Le S' S''->(match pb with
    | t'::pb'=>t=t'/\Ok lp hb S'' (w'.set k (.lex pb' sg))
    | []=>t=(LF.tok sg).1/\Ok lp hb S'' (w'.set k (.lex [] (LF.tok sg).2)))->R v S''.s) ff S.s) :
 wpAny (model prog w₀) A (eval (.Call (.Attribute e "get_token" ap) [] [] p) env) R ff S.s:=by
 refine x34 G.tok fun fa o fd ho hf hm hc=>?_
 refine qAx hb' qCz (by simp) hline (wpAny_mono h (fun ov s₁ h=>?_) fun _ _ e=>e)
 refine x67 h fun S' w' k pp pb sg eq6 eq7 O' hk hw hsz hR=>?_
 subst eq6
 subst eq7
 intro pl
 refine wpAny_mono (hm A S' w' k pp pb sg pl hA O' hk hw) (fun r s₂ h₂=>?_) fun _ _ e=>e
 obtain ⟨rfl,rfl⟩:=h₂
 show wpAny _ A (callWith p (.ref fa) [.ref pp.1] [] []) _ _ _
 refine Calls.callWith_function (o:=o) (fd:=fd) (PySem.evalArgs_none ⟨⟨O'.heap _ _ ho,hf⟩,?_⟩)
 refine wpAny_mono (hc A S' w' k pp pb sg hA O' hk hw hsz) (fun v s' h=>?_) fun _ _ e=>e
 clear hsz hw hk O' hc hm ho G
 obtain ⟨S'',t,rfl,r,L,hh⟩:=h
 exact hR S'' t v r L (by cases pb <;> exact hh)
set_option tactic.hygienic true in
theorem sTok (G:Glo lp hb prog w₀ b F LF mg mb) {x:Str} {k:Nat} (hv:c.var x=some k) (p1 ap p:Pos) (hline:qA6 ap p=true):SoundE lp hb prog w₀ b F LF c (.Call (.Attribute (.Name x p1) "get_token" ap) [] [] p) (.tok k):=by
 intro A env σ S w Q hA C Fk O q
 dsimp only [E,tokK] at q
 generalize hsl:σ.getD k .unb=sl at q
 cases sl with
 | unb=>exact q.elim
 | dat d=>exact q.elim
 | loc j =>
  refine x12 (qHB (prog:=prog) (w₀:=w₀) (A:=A) C Fk hv hsl) fun pp hp ld=>?_
  refine qHj G rfl ap p hline hA (ld p1 _ ?_)
  dsimp only at q
  split at q
  · rename_i t pb sg hw
    refine ⟨S,w,j,pp,_,sg,rfl,rfl,O,hp,hw,fun h=>absurd h (by simp),fun S'' t' v r L hh=>?_⟩
    clear hw hp hsl O G
    obtain ⟨rfl,O'⟩:=hh
    exact ⟨S'',_,_,rfl,O',L,r,q⟩
  · rename_i sg hw
    refine ⟨S,w,j,pp,_,sg,rfl,rfl,O,hp,hw,fun _=>q.1,fun S'' t' v r L hh=>?_⟩
    obtain ⟨rfl,O'⟩:=hh
    exact ⟨S'',_,_,rfl,O',L,r,q.2⟩
  · exact q.elim
set_option tactic.hygienic true in
theorem qDq (G:Glo lp hb prog w₀ b F LF mg mb) {e:Expr} {me:ME} (hx:c.isGlob "_law_lexer" = true) (he:SoundE lp hb prog w₀ b F LF c e me) (ns:NoStar [e]) (p1 p:Pos) {A:Around} {env:Env} {σ:List Slot} {S:St} {w:W} {R:Value->Shared->Prop}
 {K:List Nat->W->Prop} (hA:AOk b A) (C:ScOk c env) (Fk:FrOk c.tbl env σ S) (O:Ok lp hb S w) (q:E F LF me σ w fun a w=>match a with | .str s=>w[0]?=some .fac/\s.length≤16777216/\K s w | _=>False)
 (hR:∀ S1 S' w' (p:Addr×List Addr) s,Le S S1->Ok lp hb S' (w'++[.lex [] s])->Le S1 S'->S1.own.length=w'.length->S'.own[w'.length]?=some p->K s w'->s.length≤16777216->R (.ref p.1) S'.s) :
 wpAny (model prog w₀) A (eval (.Call (.Name "_law_lexer" p1) [e] [] p) env) R ff S.s:=by
 refine x34 G.lexer fun a o fd hg ho hf hc=>?_
 refine wpAny_Call_NameR (qAl C Fk (G.ns.keeps O.heap) (G.bns.keeps O.heap) hx (.inl hg) p1 ?_)
 rw [ns.back]
 refine Calls.callWith_function (o:=o) (fd:=fd) (evalArgs_plain (Calls.spliced_cons (he.run hA C Fk O q fun S1 w1 d1 v O1 L1 R1 q=>Calls.spliced_nil ?_)))
 refine ⟨⟨O1.heap _ _ ho,hf⟩,?_⟩
 cases d1 <;> simp only at q
 all_goals first | exact q.elim | skip
 rename_i s
 refine wpAny_mono (hc A S1 w1 v s hA O1 R1 q.1 q.2.1) (fun v' s' h=>?_) fun _ _ h=>h
 refine x27 h fun S2 pp eq2 eq3 O2 L2 hP hnd hn=>?_
 clear h
 subst eq2
 subst eq3
 refine hR S1 ⟨S2.B,S2.own++[pp],S2.s⟩ w1 pp s L1 (O2.addOwn (x:=.lex [] s) hP (fun a ha=>(hn a ha).2.1) (fun a ha=>(hn a ha).2.2) hnd) (L2.addOwn fun a ha=>(hn a ha).1) O1.len ?_ q.2.2 q.2.1
 show (S2.own++[pp])[w1.length]?=some pp
 rw [← O2.len]
 simp
theorem qNT (G:Glo lp hb prog w₀ b F LF mg mb) {e:Expr} {me:ME} (hx:c.isGlob "_law_lexer" = true) (he:SoundE lp hb prog w₀ b F LF c e me) (ns:NoStar [e]) (p1 p2 ap p:Pos) (hline:qA6 ap p=true) :
 SoundE lp hb prog w₀ b F LF c (.Call (.Attribute (.Call (.Name "_law_lexer" p1) [e] [] p2) "get_token" ap) [] [] p) (.newtok me):=by
 intro A env σ S w Q hA C Fk O q
 dsimp only [E] at q
 refine qHj G rfl ap p hline hA (qDq G hx he ns p1 p2 hA C Fk O (K:=fun s w=>Q (.str (LF.tok s).1) w) q fun S1 S' w' pp s L1 O' L' hl hp k hs=>?_)
 refine ⟨S',_,w'.length,pp,[],s,rfl,rfl,O',hp,by simp,fun _=>hs,fun S'' t v r L hh=>?_⟩
 obtain ⟨rfl,O''⟩:=hh
 rw [(by simp:(w'++[OO.lex [] s]).set w'.length (.lex [] (LF.tok s).2)=w'++[.lex [] (LF.tok s).2])] at O''
 refine x02 (O''.dropOwn (L'.trans L) hl) fun O4 L4=>?_
 exact ⟨⟨S''.B,S''.own.take w'.length,S''.s⟩,_,_,rfl,O4,L1.trans L4,r,k⟩
end
section
variable {lp:LexP} {hb:Heap} {prog:Program} {w₀:World} {b:Nat} {F:Str->List D->D->Prop} {LF:LexF} {mg mb:Str->Option Value} {c:Sc}
noncomputable def qDy (env:Env) (x:Str):Addr:=if env.kindOf x=some .local then env.locals else (env.cells.lookup x).getD 0
theorem Ok.poke {S:St} {w:W} (O:Ok lp hb S w) {a:Addr} {h':Heap} {tk:Nat} (hB:S.B a=Option.none) (hf:a ∉ S.fps) (ha:∃ o,h'.get? a=some o) (hs:Heap.SameBut a S.h h') :
 Ok lp hb ⟨S.B,S.own,{ S.s with heap:=h',toks:=tk }⟩ w/\LeX (·=a) S ⟨S.B,S.own,{ S.s with heap:=h',toks:=tk }⟩:=by
 refine ⟨⟨O.base,fun b o e=>?_,O.len,fun i p x h1 h2=>(O.at_ i p x h1 h2).stable (fun _ _ e=>e) (fun b hb' o e=>?_),O.nodup,O.apart⟩,
  ⟨⟨h',tk,rfl⟩,fun b o e=>?_,fun b o e _ nx=>hs.extBut b o nx e,fun _ _ e=>e,fun _ _ e=>.inl e,fun _ p e=>⟨p,e,rfl⟩,fun _ e=>.inl e⟩⟩
 · exact hs.extBut b o (fun q=>by rw [q,hB] at e; cases e) (O.sub _ _ e)
 · exact hs.extBut b o (fun q=>hf (q ▸ St.mem_fps.mpr ⟨i,p,h1,hb'⟩)) e
 · by_cases q:b=a
   · rw [q]; exact ha
   · exact ⟨o,hs.extBut b o q e⟩
theorem ScOk.isL {env:Env} (C:ScOk c env) {x:Str} (h:qAY c x=true):env.kindOf x=some .local\/env.kindOf x=some .cell:=by
 unfold qAY at h
 simp only [Bool.or_eq_true,beq_iff_eq] at h
 rcases h with h | h
 · rcases C x _ h with e | ⟨e,_⟩
   · exact .inl e
   · cases e
 · rcases C x _ h with e | ⟨e,_⟩
   · exact .inr e
   · cases e
theorem getElem?_nodup_ne {l:List Str} (h:l.Nodup) {i j:Nat} {x y:Str} (hi:l[i]?=some x) (hj:l[j]?=some y) (n:i≠j):x≠y:=fun e=>by
 obtain ⟨h1,e1⟩:=List.getElem?_eq_some_iff.mp hi
 obtain ⟨h2,e2⟩:=List.getElem?_eq_some_iff.mp hj
 exact n ((List.getElem_inj h (h₀:=h1) (h₁:=h2)).mp (by rw [e1,e2,e]))
theorem Sc.var_get {x:Str} {k:Nat} (hv:c.var x=some k):c.tbl[k]?=some x:=by
 unfold Sc.var at hv
 split at hv
 · cases hv
 · split at hv <;> first | exact qBd hv | cases hv
theorem qCu {A:Around} {env:Env} {σ:List Slot} {S:St} {w:W} (C:ScOk c env) (Fk:FrOk c.tbl env σ S) (O:Ok lp hb S w) {x:Str} {k:Nat} (hv:c.var x=some k) (hL:qAY c x=true) {v:Value} {sl:Slot} (hs:SlotV S sl (some v))
 {Q:Unit->Shared->Prop} {Er:Value->Shared->Prop} (q:∀ S',Ok lp hb S' w->LeX (·=qDy env x) S S'->S'.B=S.B->S'.own=S.own->FrOk c.tbl env (σ.set k sl) S'->Q () S'.s) :
 wpAny (model prog w₀) A (storeName env x v) Q Er S.s:=by
 have ht:=Sc.var_get hv
 have slot:∀ (j:Nat) y s',c.tbl[j]?=some y->(σ.set k sl)[j]?=some s'->(j=k/\s'=sl/\y=x)\/(y≠x/\σ[j]?=some s'):=by
  intro j y s' h1 h2
  by_cases hj:j=k
  · clear q hv
    subst hj
    rw [ht] at h1; cases h1
    have hlt:j<σ.length:=by have:=(List.getElem?_eq_some_iff.mp h2).1; simpa using this
    rw [List.getElem?_set_self hlt] at h2; cases h2
    exact .inl ⟨rfl,rfl,rfl⟩
  · exact .inr ⟨getElem?_nodup_ne Fk.tblInj h1 ht hj,by rwa [List.getElem?_set_ne (Ne.symm hj)] at h2⟩
 have slv:∀ {S':St} {s':Slot} {ov:Option Value},S'.B=S.B->S'.own=S.own->SlotV S s' ov->SlotV S' s' ov:=by
  intro S' s' ov e1 e2 h
  cases s' with
  | unb=>trivial
  | dat d=>obtain ⟨v,e,r⟩:=h; exact ⟨v,e,e1 ▸ r⟩
  | loc k=>obtain ⟨p,e,r⟩:=h; exact ⟨p,by rw [e2]; exact e,r⟩
 have fin:∀ (a:Addr) (h':Heap) (tk:Nat),Holds env a->a=qDy env x->(∃ o,h'.get? a=some o)->Heap.SameBut a S.h h' ->
  (∃ m,h'.Ns env.locals m/\∀ (j:Nat) y s',c.tbl[j]?=some y->(σ.set k sl)[j]?=some s'->env.kindOf y=some .local->SlotV S s' (m y)) ->
  (∀ (j:Nat) y s',c.tbl[j]?=some y->(σ.set k sl)[j]?=some s'->env.kindOf y=some .cell\/env.kindOf y=some .free->∃ cc v,env.cells.lookup y=some cc/\h'.IsCell cc v/\SlotV S s' v) ->
  Q () { S.s with heap:=h',toks:=tk }:=by
  intro a h' tk hh ea ha hsb hl hc
  refine x03 (Fk.hold a hh) fun hB hf _=>?_
  obtain ⟨O',L'⟩:=O.poke (tk:=tk) hB hf ha hsb
  refine q ⟨S.B,S.own,{ S.s with heap:=h',toks:=tk }⟩ O' (ea ▸ L') rfl rfl ⟨Fk.kind,Fk.glob,Fk.blt,by simpa using Fk.size,?_,?_,?_,Fk.apart,Fk.inj,Fk.tblInj⟩
  · refine x12 hl fun m h1 h2=>?_
    exact ⟨m,h1,fun j y s' e1 e2 e3=>slv rfl rfl (h2 j y s' e1 e2 e3)⟩
  · intro j y s' e1 e2 e3
    refine x23 (hc j y s' e1 e2 e3) fun cc v h1 h2 h3=>?_
    exact ⟨cc,v,h1,h2,slv rfl rfl h3⟩
  · intro a' ha'
    refine x03 (Fk.hold a' ha') fun h1 h2 r9=>x11 r9 fun o₃ h3=>?_
    exact ⟨h1,h2,L'.alive a' o₃ h3⟩
 have hp:(env.scope.kind == .class || (env.scope.kind == .module && env.locals != env.globals))=false:=by rw [Fk.kind]; rfl
 by_cases hl:env.kindOf x=some .local
 · obtain ⟨m,hn,hm⟩:=Fk.loc
   refine wpAny_storeName_local hl hn (fun h' hn' hsb=>?_) hp
   refine fin env.locals h' _ (.inl rfl) (by unfold qDy; rw [if_pos hl]) ⟨_,hn'.choose_spec.choose_spec.choose_spec.1⟩ hsb ⟨_,hn',fun j y s' e1 e2 e3=>?_⟩ fun j y s' e1 e2 e3=>?_
   · rcases slot j y s' e1 e2 with ⟨_,rfl,rfl⟩ | ⟨hne,e2'⟩
     · simpa using hs
     · rw [if_neg hne]; exact hm j y s' e1 e2' e3
   · rcases slot j y s' e1 e2 with ⟨_,rfl,rfl⟩ | ⟨hne,e2'⟩
     · rw [hl] at e3; rcases e3 with e3 | e3 <;> cases e3
     · refine x23 (Fk.cel j y s' e1 e2' e3) fun cc v' h1 h2 h3=>?_
       exact ⟨cc,v',h1,h2.sameBut hsb (Fk.apart y cc (qAw h1)),h3⟩
 · have hcell:env.kindOf x=some .cell:=by
    rcases C.isL hL with e | e
    · exact absurd e hl
    · exact e
   have hk:k<σ.length:=by rw [Fk.size]; exact (List.getElem?_eq_some_iff.mp ht).1
   refine x23 (Fk.cel k x _ ht (List.getElem?_eq_getElem hk) (.inl hcell)) fun cc v' h1 h2 h3=>?_
   refine wpAny_storeName_cell Fk.kind hcell h1 h2 fun h' hc' hsb=>?_
   refine fin cc h' _ (.inr ⟨x,qAw h1⟩) (by unfold qDy; rw [if_neg hl,h1]; rfl) (let ⟨o,ho,_⟩:=hc'; ⟨o,ho⟩) hsb ?_ fun j y s' e1 e2 e3=>?_
   · refine x12 Fk.loc fun m hn hm=>?_
     refine ⟨m,hn.sameBut hsb (Ne.symm (Fk.apart x cc (qAw h1))),fun j y s' e1 e2 e3=>?_⟩
     clear hn hsb hc' h3 h2 h1 hk hcell hp fin slv ht q hs hL hv O Fk C
     rcases slot j y s' e1 e2 with ⟨_,rfl,rfl⟩ | ⟨hne,e2'⟩
     · exact absurd e3 hl
     · exact hm j y s' e1 e2' e3
   · clear h3 h2 hk hcell hl hp fin slv ht q hL hv O C
     rcases slot j y s' e1 e2 with ⟨_,rfl,rfl⟩ | ⟨hne,e2'⟩
     · exact ⟨cc,_,h1,hc',hs⟩
     · refine x23 (Fk.cel j y s' e1 e2' e3) fun c2 v2 g1 g2 g3=>?_
       exact ⟨c2,v2,g1,g2.sameBut hsb (fun e=>hne (Fk.inj y x cc (e ▸ qAw g1) (qAw h1))),g3⟩
noncomputable def Own (c:Sc) (env:Env) (a:Addr):Prop:=∃ x k,c.var x=some k/\qAY c x=true/\a=qDy env x
inductive BRes (lp:LexP) (hb:Heap) (c:Sc) (env:Env) (S:St) (w:W) (K:Sg->Prop) (s':Shared):Prop
 | mk (S':St) (σ':List Slot) (h0:S'.s=s') (h1:Ok lp hb S' w) (h2:LeX (Own c env) S S') (h3:FrOk c.tbl env σ' S') (h4:K σ'):BRes lp hb c env S w K s'
theorem qCl {A:Around} {env:Env} {σ:List Slot} {S:St} {w:W} (C:ScOk c env) (Fk:FrOk c.tbl env σ S) (O:Ok lp hb S w) {x:Str} {k:Nat} (hv:c.var x=some k) (hL:qAY c x=true) {v:Value} {d:D} (r:Rep S.B v d)
 {Er:Value->Shared->Prop} {K:Sg->Prop} (q:K (σ.set k (.dat d))):wpAny (model prog w₀) A (storeName env x v) (fun _ s'=>BRes lp hb c env S w K s') Er S.s :=
 qCu C Fk O hv hL (sl:=.dat d) ⟨v,rfl,r⟩ fun S' O' L' _ _ Fk'=>⟨S',_,rfl,O',L'.weaken fun y _ _ e=>⟨x,k,hv,hL,e⟩,Fk',q⟩
set_option tactic.hygienic true in
theorem qFO {A:Around} {S:St} {w:W} (hA:A.handled=none) (O:Ok lp hb S w) {v:Value} {ds:List D} (r:Rep S.B v (.list ds)\/Rep S.B v (.tup ds)) {n:Nat} (hn:n=ds.length) {Er:Value->Shared->Prop} {Q:List Value->Shared->Prop}
 (q:∀ S' vs,Ok lp hb S' w->Le S S'->RepL S'.B vs ds->Q vs S'.s):wpAny (model prog w₀) A (unpackItems v n none) Q Er S.s:=by
 have key:∀ (vs:Array Value) h',RepL S.B vs.toList ds->Heap.ExtBut S.h.objs.size S.h h'->Q vs.toList { S.s with heap:=h' }:=by
  intro vs h' rl he
  refine x02 (O.quiet (h':=h') (tk:=S.s.toks) fun b o e=>he b o (Nat.ne_of_lt (Heap.lt_size e)) e) fun O' L'=>?_
  exact q _ vs.toList O' L' rl
 rcases r with r | r
 · refine x23 (r.isList O) fun a vs eq2 l1 q1=>?_
   clear r
   subst eq2
   have e1:n=vs.size:=by rw [hn]; simpa using q1.length.symm
   rw [e1]
   exact kun_itemsOf hA l1 fun h' he=>key vs h' q1 he
 · cases r with
   | tup e1 e2 e3 rl =>
    rename_i a o vs m
    have e4:n=vs.size:=by rw [hn]; simpa using rl.length.symm
    rw [e4]
    exact wpAny_unpackItems_tuple hA ⟨o,O.sub _ _ e1,e2,m,e3⟩ fun h' he=>key vs h' rl he
theorem qFa {A:Around} {env:Env} (C:ScOk c env) {Er:Value->Shared->Prop} (es:List Expr):∀ (ts:List Nat) (vs:List Value) (ds:List D) (σ:List Slot) (S:St) (w:W) (K:Sg->Prop),qA9 c es=some ts->RepL S.B vs ds->ts.length=ds.length ->
 FrOk c.tbl env σ S->Ok lp hb S w->K (qA3 ts ds σ)->wpAny (model prog w₀) A (assignInOrder ((assignEach es env).map (·.2)) vs) (fun _ s'=>BRes lp hb c env S w K s') Er S.s:=by
 induction es with
 | nil =>
  intro ts vs ds σ S w K ht r hl Fk O q
  cases ht
  cases ds with
  | nil=>cases r; exact wpAny_pure ⟨S,σ,rfl,O,LeX.refl _ _,Fk,q⟩
  | cons _ _=>cases hl
 | cons e es ih =>
  intro ts vs ds σ S w K ht r
  refine qCk (P:=fun e ts=>ts.length=ds.length->FrOk c.tbl env σ S->Ok lp hb S w->K (qA3 ts ds σ)->wpAny (model prog w₀) A (assignInOrder ((assignEach (e::es) env).map (·.2)) vs) (fun _ s'=>BRes lp hb c env S w K s') Er S.s) ht fun x p k ks hL hv hr hl Fk O q=>?_
  cases r with
  | nil=>cases hl
  | cons r1 r2 =>
   show wpAny _ A (do holding _ (assign (.Name x p) env _); assignInOrder ((assignEach es env).map (·.2)) _) _ _ _
   refine wpAny_bind (wpAny_holding (wpAny_assign_Name (wpAny_mono (qCl C Fk O hv hL r1 (K:=fun σ'=>K (qA3 ks _ σ')) q) (fun _ s' h=>?_) fun _ _ h=>h)))
   obtain ⟨S1,σ1,rfl,O1,L1,F1,q⟩:=h
   refine wpAny_mono (ih ks _ _ σ1 S1 w K hr (r2.mono L1.sub) (Nat.succ.inj hl) F1 O1 q) (fun _ s' h=>?_) fun _ _ h=>h
   obtain ⟨S2,σ2,rfl,O2,L2,F2,q⟩:=h
   exact ⟨S2,σ2,rfl,O2,L1.trans L2,F2,q⟩
theorem qBa (env:Env) (es:List Expr):(assignEach es env).length=es.length:=by
 induction es with
 | nil=>rfl
 | cons e es ih=>cases e <;> exact congrArg (· + 1) ih
theorem qCf {env:Env} (es:List Expr):∀ (ts:List Nat),qA9 c es=some ts->(assignEach es env).findIdx? (·.1)=none/\(assignEach es env).length=ts.length:=by
 induction es with
 | nil=>intro ts h; cases h; exact ⟨rfl,rfl⟩
 | cons e es ih =>
  intro ts ht
  refine qCk (P:=fun e ts=>(assignEach (e::es) env).findIdx? (·.1)=none/\(assignEach (e::es) env).length=ts.length) ht fun x p k ks hL hv hr=>⟨?_,congrArg (· + 1) (ih ks hr).2⟩
  show ((false,assign (.Name x p) env)::assignEach es env).findIdx? (·.1)=none
  rw [List.findIdx?_cons,(ih ks hr).1]
  rfl
theorem qH2 {ts:List Nat} {d:D} {σ:Sg} {K:Sg->Prop} (q:qAJ ts d σ K) (h1:ts.length≠1):∃ ds,(d=.list ds\/d=.tup ds)/\ts.length=ds.length/\K (qA3 ts ds σ):=by
 unfold qAJ at q
 split at q
 · exact absurd rfl h1
 · split at q
   · exact ⟨_,.inl rfl,q.1,q.2.2⟩
   · exact ⟨_,.inr rfl,q.1,q.2.2⟩
   · exact q.elim
theorem qCN {A:Around} {env:Env} {σ:List Slot} {S:St} {w:W} (hA:A.handled=none) (C:ScOk c env) (Fk:FrOk c.tbl env σ S) (O:Ok lp hb S w) {t:Expr} {ts:List Nat} (ht:qAP c t=some ts) {v:Value} {d:D} (r:Rep S.B v d)
 {Er:Value->Shared->Prop} {K:Sg->Prop} (q:qAJ ts d σ K):wpAny (model prog w₀) A (assign t env v) (fun _ s'=>BRes lp hb c env S w K s') Er S.s:=by
 revert q
 refine qEh (P:=fun t ts=>qAJ ts d σ K->wpAny (model prog w₀) A (assign t env v) (fun _ s'=>BRes lp hb c env S w K s') Er S.s) ht (fun x p k hL hv q=>?_) fun es k p hne ht q=>?_
 · exact wpAny_assign_Name (qCl C Fk O hv hL r q)
 · have hl:=qCf (env:=env) es ts ht
   have hle:ts.length=es.length:=hl.2.symm.trans (qBa env es)
   refine x13 (qH2 q (hle ▸ hne)) fun ds hd hlen q=>?_
   rw [arm_assign_Tuple]
   refine wpAny_bind (wpAny_standAt ?_)
   unfold unpack
   rw [hl.1,hl.2]
   refine wpAny_bind (wpAny_holding (qFO hA O (by rcases hd with rfl | rfl; exact .inl r; exact .inr r) hlen fun S' vs O' L' r'=>?_))
   refine wpAny_mono (qFa C es ts vs ds σ S' w K ht r' hlen (Fk.up L') O' q) (fun _ s' h=>?_) fun _ _ h=>h
   obtain ⟨S2,σ2,rfl,O2,L2,F2,q⟩:=h
   exact ⟨S2,σ2,rfl,O2,LeX.trans (L'.weaken fun _ _ _ h=>h.elim) L2,F2,q⟩
end
theorem qBH:∀ (names:List (Str×NameKind)) (n:Nat) (acc:List (Str×Addr)),cellsFrom n names acc=cellsFrom n names []++acc:=by
 intro L9
 induction L9 with
 | nil =>
  intro _ _
  exact rfl
 | cons p9 r ih9 =>
  obtain ⟨x,k⟩:=p9
  intro n acc
  unfold cellsFrom
  split
  · rw [ih9 (n+1) ((x,n)::acc),ih9 (n+1) [(x,n)],List.append_assoc]; rfl
  · exact ih9 n acc
set_option tactic.hygienic true in
theorem qAO:∀ (names:List (Str×NameKind)) (n:Nat) (x:Str) (a:Addr),(x,a)∈cellsFrom n names []->(x,NameKind.cell)∈names/\n≤a:=by
 intro L9
 induction L9 with
 | nil =>
  intro _ _ _ h
  simp [cellsFrom] at h
 | cons p9 r ih9 =>
  obtain ⟨y,k⟩:=p9
  intro n x a h
  unfold cellsFrom at h
  split at h
  · rename_i hk
    rw [qBH] at h
    rcases List.mem_append.mp h with h | h
    · obtain ⟨h1,h2⟩:=ih9 (n+1) x a h
      exact ⟨List.mem_cons_of_mem _ h1,by exact Nat.le_of_succ_le ‹_›⟩
    · simp at h
      obtain ⟨rfl,rfl⟩:=h
      rw [beq_iff_eq.mp hk]
      exact ⟨List.mem_cons_self,Nat.le_refl _⟩
  · obtain ⟨h1,h2⟩:=ih9 n x a h
    exact ⟨List.mem_cons_of_mem _ h1,h2⟩
theorem qBq:∀ (names:List (Str×NameKind)) (n:Nat) (acc:List (Str×Addr)) (x:Str),(x,NameKind.cell)∈names->∃ a,(x,a)∈cellsFrom n names acc:=by
 intro L9
 induction L9 with
 | nil=>intros; contradiction
 | cons p9 r ih9 =>
  obtain ⟨y,k⟩:=p9
  intro n acc x h
  unfold cellsFrom
  rcases List.mem_cons.mp h with e | h
  · clear h
    cases e
    simp only [beq_self_eq_true,if_true]
    rw [qBH]
    exact ⟨n,List.mem_append_right _ List.mem_cons_self⟩
  · split
    · exact ih9 (n+1) _ x h
    · exact ih9 n acc x h
theorem qBF {α:Type}:∀ {l:List (Str×α)} {x:Str} {a:α},(x,a)∈l->∃ b,l.lookup x=some b:=by
 intro L9
 induction L9 with
 | nil=>intros; contradiction
 | cons p9 r ih9 =>
  obtain ⟨y,c⟩:=p9
  intro x a h
  rw [List.lookup_cons]
  cases hb:x == y with
  | true=>exact ⟨c,rfl⟩
  | false =>
   rcases List.mem_cons.mp h with e | h
   · clear h ih9
     cases e; simp at hb
   · exact ih9 h
theorem qEN {α:Type}:∀ {l:List (Str×α)} {x:Str},(∀ a,(x,a) ∉ l)->l.lookup x=none:=by
 intro L9
 induction L9 with
 | nil =>
  intro _ _
  exact rfl
 | cons p9 r ih9 =>
  obtain ⟨y,c⟩:=p9
  intro x h
  rw [List.lookup_cons]
  cases hb:x == y with
  | true=>exact absurd (by rw [beq_iff_eq.mp hb]; exact List.mem_cons_self) (h c)
  | false=>exact ih9 fun a hm=>h a (List.mem_cons_of_mem _ hm)
theorem qGK {α:Type}:∀ {l:List (Str×α)} {x:Str} {a b:α},(l.map (·.1)).Nodup->(x,a)∈l->(x,b)∈l->a=b:=by
 intro L9
 induction L9 with
 | nil=>intros; contradiction
 | cons p9 r ih9 =>
  obtain ⟨y,c⟩:=p9
  intro x a b h h1 h2
  simp only [List.map_cons,List.nodup_cons] at h
  rcases List.mem_cons.mp h1 with e1 | h1 <;> rcases List.mem_cons.mp h2 with e2 | h2
  · cases e1; cases e2; rfl
  · cases e1; exact absurd (List.mem_map.mpr ⟨_,h2,rfl⟩) h.1
  · cases e2; exact absurd (List.mem_map.mpr ⟨_,h1,rfl⟩) h.1
  · exact ih9 h.2 h1 h2
theorem qDF {α:Type} {l:List (Str×α)} {x:Str} {a:α} (h:(l.map (·.1)).Nodup) (hm:(x,a)∈l):l.lookup x=some a:=by
 obtain ⟨b,hb⟩:=qBF hm
 rw [hb,qGK h hm (mem_of_lookup hb)]
noncomputable def qBt (cells:List (Str×Addr)):List (Str×NameKind)->List (Str×Addr)->List (Str×Addr)
 | [],acc=>acc
 | (n,k)::r,acc=>qBt cells r (if k == .free then (n,(cells.lookup n).getD 0)::acc else acc)
set_option tactic.hygienic true in
theorem qGD:∀ (cells:List (Str×Addr)) (names:List (Str×NameKind)) (acc:List (Str×Addr)) (x:Str) (a:Addr),(x,a)∈qBt cells names acc->(x,a)∈acc\/((x,NameKind.free)∈names/\a=(cells.lookup x).getD 0)
 | _,[],_,_,_,h=>.inl h
 | cells,(n,k)::r,acc,x,a,h=>by
  rcases qGD cells r _ x a h with h | ⟨h1,h2⟩
  · split at h
    · rename_i hk
      rcases List.mem_cons.mp h with e | h
      · clear h
        cases e; rw [beq_iff_eq.mp hk]; exact .inr ⟨List.mem_cons_self,rfl⟩
      · exact .inl h
    · exact .inl h
  · exact .inr ⟨List.mem_cons_of_mem _ h1,h2⟩
theorem qEG:∀ (cells:List (Str×Addr)) (names:List (Str×NameKind)) (acc:List (Str×Addr)) (y:Str×Addr),y∈acc->y∈qBt cells names acc
 | _,[],_,_,h=>h
 | cells,(n,k)::r,acc,y,h=>by
  unfold qBt
  split
  · exact qEG cells r _ y (List.mem_cons_of_mem _ h)
  · exact qEG cells r _ y h
theorem qGB:∀ (cells:List (Str×Addr)) (names:List (Str×NameKind)) (acc:List (Str×Addr)) (x:Str),(x,NameKind.free)∈names->(x,(cells.lookup x).getD 0)∈qBt cells names acc
 | cells,(n,k)::r,acc,x,h=>by
  unfold qBt
  rcases List.mem_cons.mp h with e | h
  · clear h
    cases e
    simp only [beq_self_eq_true,if_true]
    exact qEG _ _ _ _ List.mem_cons_self
  · exact qGB cells r _ x h
theorem qGC (env:Env) (f:Str×NameKind->List (Str×Addr)->Sem (ForInStep (List (Str×Addr))))
 (hf:∀ n k acc,f (n,k) acc=if (k == NameKind.free)=true then (cellOf env n >>= fun c=>pure (ForInStep.yield ((n,c)::acc))) else pure (ForInStep.yield acc)) :
 ∀ (names:List (Str×NameKind)) (acc:List (Str×Addr)),(∀ x,(x,NameKind.free)∈names->∃ a,env.cells.lookup x=some a)->(forIn names acc f:Sem (List (Str×Addr)))=pure (qBt env.cells names acc):=by
 intro L9
 induction L9 with
 | nil =>
  intro acc _
  exact rfl
 | cons p9 r ih9 =>
  obtain ⟨n,k⟩:=p9
  intro acc h
  rw [List.forIn_cons,hf]
  have ih:=ih9
  cases hk:(k == NameKind.free) with
  | true =>
   have e:k=.free:=beq_iff_eq.mp hk
   clear hk
   subst e
   obtain ⟨a,ha⟩:=h n List.mem_cons_self
   simp only [if_true]
   have e1:cellOf env n=pure a:=by unfold cellOf; rw [ha]
   rw [e1]
   show (forIn r ((n,a)::acc) f:Sem _)=_
   rw [ih _ fun x hx=>h x (List.mem_cons_of_mem _ hx)]
   conv=>rhs; unfold qBt
   rw [ha]; rfl
  | false =>
   simp only [Bool.false_eq_true,if_false]
   show (forIn r acc f:Sem _)=_
   rw [ih _ fun x hx=>h x (List.mem_cons_of_mem _ hx)]
   conv=>rhs; unfold qBt
   rw [hk]; rfl
theorem qEq (scope:Scope) (env:Env) (h:∀ x,(x,NameKind.free)∈scope.names->∃ a,env.cells.lookup x=some a):closureFor scope env=pure (qBt env.cells scope.names []):=by
 unfold closureFor
 dsimp only
 rw [qGC env _ (fun n k acc=>by cases hk:(k == NameKind.free) <;> simp [hk]) scope.names [] h]
 rfl
section
variable {M:Model} {A:Around} {E:Value->Shared->Prop} {s:Shared}
theorem qEv {scope:Scope} {globals:Addr} {closure:List (Str×Addr)} {qual:Str} {outer:Env} {Q:Env->Shared->Prop}
 (h:Q { scope:=scope,locals:=s.heap.objs.size,globals:=globals,cells:=cellsFrom (s.heap.objs.size+1) scope.names closure,qual:=qual,func:=none,code:=outer.code,frame:=outer.frame,builtins:=outer.builtins }
   { s with heap:=pushCells (s.heap.push { cls:=.type "dict",data:=.dict #[] }) scope.names }) :
 wpAny M A (newFunctionEnv scope globals closure [] qual none .none (some outer)) Q E s:=by
 dsimp only [newFunctionEnv,Option.isSome_some,if_true]
 refine wpAny_bind (wpAny_alloc ?_)
 refine wpAny_bind (wpAny_layCells _ (fun name kind cells=>by cases hkc:kind == NameKind.cell <;> simp [hkc]) _ _ _ _ ?_)
 rw [show ({ s with heap:=s.heap.push { cls:=.type "dict",data:=.dict #[] } }:Shared).heap.objs.size=s.heap.objs.size+1 from Heap.size_push ..]
 exact wpAny_bind (wpAny_pure (wpAny_pure h))
end
section
variable {lp:LexP} {hb:Heap} {prog:Program} {w₀:World} {b:Nat} {F:Str->List D->D->Prop} {LF:LexF} {mg mb:Str->Option Value} {c:Sc}
noncomputable def Idle (S:St) (a:Addr):Prop:=S.B a=none/\a ∉ S.fps/\∃ o,S.h.get? a=some o
theorem LeX.idle {X:Addr->Prop} {S S':St} (L:LeX X S S') {a:Addr} (h:Idle S a) (hx:¬ X a):Idle S' a/\∀ o,S.h.get? a=some o->S'.h.get? a=some o:=by
 refine x03 h fun h1 h2 r9=>x11 r9 fun o₃ h3=>?_
 refine ⟨⟨?_,fun hm=>?_,L.alive a o₃ h3⟩,fun o e=>L.keep a o e h2 hx⟩
 · cases e:S'.B a with
   | none=>rfl
   | some o =>
    rcases L.newB a o e with q | q | q
    · rw [h1] at q; cases q
    · exact absurd q h2
    · rw [q] at h3; cases h3
 · rcases L.newF a hm with q | q
   · exact h2 q
   · rw [q] at h3; cases h3
noncomputable abbrev St.at (S:St) (h':Heap) (tk:Nat):St:=⟨S.B,S.own,{ S.s with heap:=h',toks:=tk }⟩
theorem Ok.pokeNew {X:Addr->Prop} {S₀ S:St} {w:W} (O:Ok lp hb S w) (L:LeX X S₀ S) {a:Addr} {h':Heap} {tk:Nat} (hB:S.B a=Option.none) (hf:a ∉ S.fps) (hn:S₀.h.get? a=Option.none)
 (keep:∀ b o,b≠a->S.h.get? b=some o->h'.get? b=some o):Ok lp hb (S.at h' tk) w/\LeX X S₀ (S.at h' tk):=by
 refine ⟨⟨O.base,fun b o e=>keep b o (fun q=>by rw [q,hB] at e; cases e) (O.sub _ _ e),O.len,fun i p x h1 h2=>(O.at_ i p x h1 h2).stable (fun _ _ e=>e) (fun b hb' o e=>?_),O.nodup,O.apart⟩,?_⟩
 · exact keep b o (fun q=>hf (q ▸ St.mem_fps.mpr ⟨i,p,h1,hb'⟩)) e
 · refine x21 L.sh fun h1 t1 e1=>?_
   refine ⟨⟨h',tk,by show ({ S.s with heap:=h',toks:=tk }:Shared)=_; rw [e1]⟩,fun b o e=>?_,fun b o e nf nx=>?_,L.sub,L.newB,L.own,L.newF⟩
   · obtain ⟨o',e'⟩:=L.alive b o e
     exact ⟨o',keep b o' (fun q=>by rw [q,hn] at e; cases e) e'⟩
   · exact keep b o (fun q=>by rw [q,hn] at e; cases e) (L.keep b o e nf nx)
theorem FrOk.poke {tbl:List Str} {env:Env} {σ:List Slot} {S:St} (Fk:FrOk tbl env σ S) {a:Addr} {h':Heap} {tk:Nat} (ha:¬ Holds env a) (keep:∀ b o,b≠a->S.h.get? b=some o->h'.get? b=some o):FrOk tbl env σ (S.at h' tk):=by
 have hk:∀ b,Holds env b->∀ o,S.h.get? b=some o->h'.get? b=some o:=fun b hb o e=>keep b o (fun q=>ha (q ▸ hb)) e
 refine ⟨Fk.kind,Fk.glob,Fk.blt,Fk.size,?_,?_,fun x hx=>?_,Fk.apart,Fk.inj,Fk.tblInj⟩
 · refine x12 Fk.loc fun m hn hs=>?_
   exact ⟨m,hn.at' (hk _ (.inl rfl)),fun k x sl h1 h2 h3=>by
    have:=hs k x sl h1 h2 h3
    clear h2
    cases sl <;> exact this⟩
 · intro k x sl h1 h2 h3
   refine cps fun X9 k9=>?_
   obtain ⟨cc,v,hc,⟨o,ho,hd⟩,hs⟩:=Fk.cel k x sl h1 h2 h3
   refine k9 ?_
   clear k9
   exact ⟨cc,v,hc,⟨o,hk _ (.inr ⟨x,qAw hc⟩) o ho,hd⟩,by cases sl <;> exact hs⟩
 · refine x03 (Fk.hold x hx) fun h1 h2 r9=>x11 r9 fun o h3=>?_
   exact ⟨h1,h2,o,hk x hx o h3⟩
noncomputable def qD2 (ts:List Nat) (σ:Sg):Sg:=ts.foldl (fun σ k=>σ.set k .unb) σ
theorem qEW:∀ (ts:List Nat) (σ:Sg),(qD2 ts σ).length=σ.length:=by
 intro L9
 induction L9 with
 | nil =>
  intro _
  exact rfl
 | cons k ts ih9 =>
  intro σ
  show (qD2 ts (σ.set k .unb)).length=_; rw [ih9]; simp
theorem qCy:∀ (ts:List Nat) (σ:Sg) (i:Nat),i ∉ ts->(qD2 ts σ)[i]?=σ[i]?:=by
 intro L9
 induction L9 with
 | nil =>
  intro _ _ _
  exact rfl
 | cons k ts ih9 =>
  intro σ i h
  show (qD2 ts (σ.set k .unb))[i]?=_
  have hne:k≠i:=fun q=>h (by rw [q]; exact List.mem_cons_self)
  rw [ih9 _ i fun q=>h (List.mem_cons_of_mem _ q),List.getElem?_set_ne hne]
theorem qFt:∀ (ts:List Nat) (σ:Sg) (i:Nat) (s:Slot),i∈ts->(qD2 ts σ)[i]?=some s->s=.unb:=by
 intro L9
 induction L9 with
 | nil=>intros; contradiction
 | cons k ts ih9 =>
  intro σ i s h e
  have e:(qD2 ts (σ.set k .unb))[i]?=some s:=e
  by_cases hi:i∈ts
  · exact ih9 _ i s hi e
  · rw [qCy ts _ i hi] at e
    have:i=k:=by rcases List.mem_cons.mp h with q | q; exact q; exact absurd q hi
    clear hi h
    subst this
    have hl:i<σ.length:=by have:=(List.getElem?_eq_some_iff.mp e).1; simpa using this
    rw [List.getElem?_set_self hl] at e
    exact (Option.some.inj e).symm
theorem qEL (env:Env):∀ (names:List (Str×NameKind)) (x:Str),
 (names.map fun (n,k)=>if (k == NameKind.free && env.scope.kind == .function && env.kindOf n == some .cell) then (n,NameKind.cell) else (n,k)).lookup x =
   (names.lookup x).map fun k=>if (k == NameKind.free && env.scope.kind == .function && env.kindOf x == some .cell) then NameKind.cell else k:=by
 intro L9
 induction L9 with
 | nil =>
  intro _
  exact rfl
 | cons p9 r ih9 =>
  obtain ⟨n,k⟩:=p9
  intro x
  have ih:=ih9 x
  rw [List.map_cons]
  dsimp only
  by_cases hc:(k == NameKind.free && env.scope.kind == .function && env.kindOf n == some .cell)=true
  · rw [if_pos hc,List.lookup_cons,List.lookup_cons]
    cases hx:x == n with
    | true=>rw [beq_iff_eq.mp hx]; simp only [Option.map_some]; rw [if_pos hc]
    | false=>exact ih
  · rw [if_neg hc,List.lookup_cons,List.lookup_cons]
    cases hx:x == n with
    | true=>rw [beq_iff_eq.mp hx]; simp only [Option.map_some]; rw [if_neg hc]
    | false=>exact ih
set_option tactic.hygienic true in
theorem qGI:∀ {l:List Str} {x:Str} {k:Nat},l[k]?=some x->∃ i,qE1 x l=some i
 | y::r,x,k,h=>by
  unfold qE1
  split
  · exact ⟨0,rfl⟩
  · rename_i hne
    cases k with
    | zero=>simp at h; exact absurd (by rw [h]; exact beq_self_eq_true x) hne
    | succ k =>
     obtain ⟨i,hi⟩:=qGI (l:=r) (k:=k) (by simpa using h)
     exact ⟨i+1,by rw [hi]; rfl⟩
theorem qFr {l:List Str} (h:l.Nodup) {i j:Nat} {x:Str} (hi:l[i]?=some x) (hj:l[j]?=some x):i=j:=by
 apply Decidable.byContradiction
 intro n
 exact getElem?_nodup_ne h hi hj n rfl
theorem qFf {es:List Expr}:∀ {ts:List Nat},qA9 c es=some ts->∀ i∈ts,∃ x,c.var x=some i/\qAY c x=true:=by
 induction es with
 | nil=>intro ts h i hi; cases h; cases hi
 | cons e es ih =>
  intro ts ht i
  refine qCk (P:=fun e ts=>i∈ts->∃ x,c.var x=some i/\qAY c x=true) ht fun x p k ks hL hv hr hi=>?_
  cases hi with
  | head=>exact ⟨x,hv,hL⟩
  | tail _ hi=>exact ih hr i hi
theorem qEO {t:Expr} {ts:List Nat} (ht:qAP c t=some ts) (i:Nat):i∈ts->∃ x,c.var x=some i/\qAY c x=true :=
 qEh (P:=fun t ts=>i∈ts->∃ x,c.var x=some i/\qAY c x=true) ht (fun x p k hL hv hi=>⟨x,List.mem_singleton.mp hi ▸ hv,hL⟩) fun es k p _ ht=>qFf ht i
set_option tactic.hygienic true in
theorem qCX {env:Env} {σ:List Slot} {S:St} {w:W} (C:ScOk c env) (Fk:FrOk c.tbl env σ S) (O:Ok lp hb S w) {sc:Scope} (hk:sc.kind=.function) {t:Expr} {ts:List Nat} (ht:qAP { c with names:=sc.names } t=some ts)
 (hf:qBG c sc.names ts=true) {tk:Nat} :
 closureFor sc env=pure (qBt env.cells sc.names [])/\(∀ x∈sc.names,x.2=.local->sc.names.lookup x.1=some .local) /\
 let cells:=cellsFrom (S.h.objs.size+1) sc.names (qBt env.cells sc.names [])
 let cenv:=compEnvC sc cells S.h.objs.size env
 let S':=S.at (pushCells (S.h.push { cls:=.type "dict",data:=.dict #[] }) sc.names) tk
 ScOk { c with names:=sc.names } cenv/\FrOk c.tbl cenv (qD2 ts σ) S'/\(∀ a,Own { c with names:=sc.names } cenv a->S.h.get? a=none)/\(∀ b o,S.h.get? b=some o->S'.h.get? b=some o) /\
  (∀ a,Holds cenv a->S.h.get? a=none\/Holds env a)/\(∃ m,S'.h.Ns S.h.objs.size m):=by
 unfold qBG at hf
 simp only [Bool.and_eq_true,decide_eq_true_eq] at hf
 refine x02 hf fun hnd hall=>?_
 rw [List.all_eq_true] at hall
 have outer:∀ x,(x,NameKind.free)∈sc.names->∃ (k:Nat) (sl:Slot) (cc:Addr) (v:Option Value),c.tbl[k]?=some x/\σ[k]?=some sl/\env.cells.lookup x=some cc/\S.h.IsCell cc v/\SlotV S sl v:=by
  intro x hx
  have h:=hall _ hx
  simp only [Bool.and_eq_true,Bool.or_eq_true,beq_iff_eq] at h
  obtain ⟨hk,hi⟩:=h
  obtain ⟨k,hi⟩:=Option.isSome_iff_exists.mp hi
  have ht:=qBd hi
  have hlt:k<σ.length:=by rw [Fk.size]; exact (List.getElem?_eq_some_iff.mp ht).1
  have hkind:env.kindOf x=some .cell\/env.kindOf x=some .free:=by
   rcases hk with hk | hk
   · rcases C x _ hk with e | ⟨e,_⟩
     · exact .inl e
     · cases e
   · rcases C x _ hk with e | ⟨_,e⟩
     · exact .inr e
     · exact .inl e
  refine x23 (Fk.cel k x _ ht (List.getElem?_eq_getElem hlt) hkind) fun cc v h1 h2 h3=>?_
  exact ⟨k,_,cc,v,ht,List.getElem?_eq_getElem hlt,h1,h2,h3⟩
 refine ⟨qEq sc env fun x hx=>let ⟨_,_,cc,_,_,_,h,_⟩:=outer x hx; ⟨cc,h⟩,fun x hx e=>qDF hnd (by obtain ⟨a,b⟩:=x; dsimp only at e; rw [← e]; exact hx),?_⟩
 intro cells cenv S'
 have hcells:cells=cellsFrom (S.h.objs.size+1) sc.names []++qBt env.cells sc.names []:=qBH _ _ _
 have hkeep:∀ b o,S.h.get? b=some o->S'.h.get? b=some o:=fun b o e=>pushCells_keeps _ _ b o (Heap.get?_push_of_some _ e)
 have ok:=cellsFrom_ok sc.names (S.h.push { cls:=.type "dict",data:=.dict #[] }) (S.h.objs.size+1) [] ⟨fun _ _ hm=>(nomatch hm),List.Pairwise.nil⟩ (by rw [Heap.size_push]; exact Nat.le_refl _)
 rw [Heap.size_push] at ok
 have hclos:∀ x a,(x,a)∈qBt env.cells sc.names []->(x,NameKind.free)∈sc.names/\env.cells.lookup x=some a:=by
  intro x a hm
  rcases qGD _ _ _ _ _ hm with h | ⟨h1,h2⟩
  · cases h
  · refine x44 (outer x h1) fun _ _ cc _ _ _ h3 _=>?_
    rw [h3] at h2
    exact ⟨h1,by rw [h3,h2]; rfl⟩
 have hnone:∀ a,S.h.objs.size≤a->S.h.get? a=none:=fun a ha=>by
  cases e:S.h.get? a with
  | none=>rfl
  | some o=>exact absurd (Heap.lt_size e) (Nat.not_lt.mpr ha)
 have hkindOf:∀ x,cenv.kindOf x=(sc.names.lookup x).map fun k=>if (k == NameKind.free && env.scope.kind == .function && env.kindOf x == some .cell) then NameKind.cell else k:=fun x=>qEL env sc.names x
 have newLook:∀ x,(x,NameKind.cell)∈sc.names->∃ a,cells.lookup x=some a/\(x,a)∈cellsFrom (S.h.objs.size+1) sc.names []:=by
  intro x hx
  refine x11 (qBq sc.names (S.h.objs.size+1) [] x hx) fun a ha=>?_
  obtain ⟨a',ha'⟩:=qBF ha
  exact ⟨a',by rw [hcells,List.lookup_append,ha']; rfl,mem_of_lookup ha'⟩
 have freeLook:∀ x cc,(x,NameKind.free)∈sc.names->env.cells.lookup x=some cc->cells.lookup x=some cc:=by
  intro x cc hx hc
  have h1:(cellsFrom (S.h.objs.size+1) sc.names []).lookup x=none:=qEN fun a hm=>by
   have:=qGK hnd (qAO _ _ _ _ hm).1 hx
   cases this
  have h2:=qGB env.cells sc.names [] x hx
  obtain ⟨a,ha⟩:=qBF h2
  have h3:=(hclos x a (mem_of_lookup ha)).2
  rw [hcells,List.lookup_append,h1,ha]
  rw [hc] at h3; cases h3; rfl
 have kinds:∀ x kk,sc.names.lookup x=some kk->(cenv.kindOf x=some kk/\¬ (kk=.free/\env.kindOf x=some .cell))\/(kk=.free/\cenv.kindOf x=some .cell):=by
  intro x kk h
  rw [hkindOf,h]
  by_cases hc:(kk == NameKind.free && env.scope.kind == .function && env.kindOf x == some .cell)=true
  · right
    simp only [Option.map_some]
    rw [if_pos hc]
    simp only [Bool.and_eq_true,beq_iff_eq] at hc
    exact ⟨hc.1.1,rfl⟩
  · left
    simp only [Option.map_some]
    rw [if_neg hc]
    refine ⟨rfl,fun ⟨e1,e2⟩=>hc ?_⟩
    rw [e1,e2,Fk.kind]; rfl
 have ktgt:∀ (k:Nat) x,c.tbl[k]?=some x->((x,NameKind.local)∈sc.names\/(x,NameKind.cell)∈sc.names)->k∈ts:=by
  intro k x hk hx
  have:(match qE1 x c.tbl with | some i=>ts.contains i | none=>x == ".0")=true:=by
   rcases hx with hx | hx <;> exact hall _ hx
  obtain ⟨i,hi⟩:=qGI hk
  rw [hi] at this
  have e:=qFr Fk.tblInj hk (qBd hi)
  rw [e]
  simpa using this
 have lookAt:∀ x,∀ kk,cenv.kindOf x=some kk->∃ k0,sc.names.lookup x=some k0:=by
  intro x kk h
  rw [hkindOf] at h
  cases e:sc.names.lookup x with
  | none=>rw [e] at h; cases h
  | some k0=>exact ⟨k0,rfl⟩
 have slotUp:∀ {sl:Slot} {ov:Option Value},SlotV S sl ov->SlotV S' sl ov:=fun {sl ov} h=>by cases sl <;> exact h
 refine ⟨fun x kk h=>?_,⟨hk,Fk.glob,Fk.blt,by rw [qEW]; exact Fk.size,⟨_,(Heap.Ns.new S.h (.type "dict")).keeps (pushCells_keeps _ _),?_⟩,?_,?_,?_,?_,Fk.tblInj⟩,?_,hkeep,?_,⟨_,(Heap.Ns.new S.h (.type "dict")).keeps (pushCells_keeps _ _)⟩⟩
 · rcases kinds x kk h with ⟨h1,_⟩ | h1
   · exact .inl h1
   · exact .inr h1
 · intro k x sl h1 h2 h3
   obtain ⟨k0,h0⟩:=lookAt x _ h3
   rcases kinds x k0 h0 with ⟨e,_⟩ | ⟨_,e⟩
   · rw [h3] at e; cases e
     rw [qFt ts σ k sl (ktgt k x h1 (.inl (mem_of_lookup h0))) h2]
     trivial
   · rw [h3] at e; cases e
 · intro k x sl h1 h2 h3
   have hx:∃ k0,sc.names.lookup x=some k0:=by rcases h3 with h3 | h3 <;> exact lookAt x _ h3
   obtain ⟨k0,h0⟩:=hx
   have hc:k0=.cell\/k0=.free:=by
    rcases kinds x k0 h0 with ⟨e,_⟩ | ⟨e,_⟩
    · rw [e] at h3
      rcases h3 with h3 | h3
      · exact .inl (Option.some.inj h3)
      · exact .inr (Option.some.inj h3)
    · exact .inr e
   rcases hc with rfl | rfl
   · rw [qFt ts σ k sl (ktgt k x h1 (.inr (mem_of_lookup h0))) h2]
     refine x12 (newLook x (mem_of_lookup h0)) fun a ha hm=>?_
     exact ⟨a,none,ha,(ok.empty x a hm).1,trivial⟩
   · refine x45 (outer x (mem_of_lookup h0)) fun k' sl' cc v g1 g2 g3 g4 g5=>?_
     have:k'=k:=qFr Fk.tblInj g1 h1
     subst this
     have hnt:k' ∉ ts:=fun hm=>by
      refine x12 (qEO ht k' hm) fun y hy hL=>?_
      have hy':=Sc.var_get hy
      have e:y=x:=by
       have hy':c.tbl[k']?=some y:=hy'
       rw [h1] at hy'; exact (Option.some.inj hy').symm
      clear hy' hy h1 g3 g1 h3
      subst e
      unfold qAY at hL
      rw [h0] at hL
      simp at hL
     rw [qCy ts σ k' hnt,g2] at h2
     clear g2
     cases h2
     exact ⟨cc,v,freeLook x cc (mem_of_lookup h0) g3,g4.keeps hkeep,slotUp g5⟩
 · intro a ha
   have hnew:S.h.get? a=none->(∃ o,S'.h.get? a=some o)->S'.B a=none/\a ∉ S'.fps/\∃ o,S'.h.get? a=some o:=fun h1 h2=>⟨O.bNone h1,O.fpNone h1,h2⟩
   rcases ha with rfl | ⟨x,hx⟩
   · exact hnew (qAD _) (let ⟨o,_,_,ho,_⟩:=(Heap.Ns.new S.h (.type "dict")).keeps (pushCells_keeps sc.names _); ⟨o,ho⟩)
   · have hx:(x,a)∈cells:=hx
     rw [hcells] at hx
     rcases List.mem_append.mp hx with hx | hx
     · obtain ⟨⟨o,ho,_⟩,h2⟩:=ok.empty x a hx
       exact hnew (hnone a (by exact Nat.le_of_succ_le ‹_›)) ⟨o,ho⟩
     · obtain ⟨h1,h2⟩:=hclos x a hx
       refine x03 (Fk.hold a (.inr ⟨x,mem_of_lookup h2⟩)) fun g1 g2 r9=>x11 r9 fun o g3=>?_
       exact ⟨g1,g2,o,hkeep _ _ g3⟩
 · intro x a hx
   have hx:(x,a)∈cells:=hx
   show @Ne Nat a S.h.objs.size
   rw [hcells] at hx
   rcases List.mem_append.mp hx with hx | hx
   · have:@LE.le Nat _ (S.h.objs.size+1) a:=(qAO _ _ _ _ hx).2; lia
   · refine x02 (hclos x a hx) fun h1 h2=>?_
     refine x03 (Fk.hold a (.inr ⟨x,mem_of_lookup h2⟩)) fun _ _ r9=>x11 r9 fun o g3=>?_
     exact Nat.ne_of_lt (Heap.lt_size g3)
 · intro x y a hx hy
   have hx:(x,a)∈cells:=hx
   have hy:(y,a)∈cells:=hy
   rw [hcells] at hx hy
   have old:∀ z,(z,a)∈qBt env.cells sc.names []->a<S.h.objs.size:=fun z hz=>by
    refine x02 (hclos z a hz) fun h1 h2=>?_
    refine x03 (Fk.hold a (.inr ⟨z,mem_of_lookup h2⟩)) fun _ _ r9=>x11 r9 fun o g3=>?_
    exact Heap.lt_size g3
   rcases List.mem_append.mp hx with hx | hx <;> rcases List.mem_append.mp hy with hy | hy
   · exact name_of_addr ok.apart hx hy
   · have:@LE.le Nat _ (S.h.objs.size+1) a:=(qAO _ _ _ _ hx).2; have:@LT.lt Nat _ a S.h.objs.size:=old y hy; lia
   · have:@LE.le Nat _ (S.h.objs.size+1) a:=(qAO _ _ _ _ hy).2; have:@LT.lt Nat _ a S.h.objs.size:=old x hx; lia
   · exact Fk.inj x y a (mem_of_lookup (hclos x a hx).2) (mem_of_lookup (hclos y a hy).2)
 · refine fun a h9=>x23 h9 fun x k hv hL eq4=>?_
   clear hv h9 lookAt hkindOf
   subst eq4
   unfold qDy
   split
   · exact qAD _
   · rename_i hnl
     unfold qAY at hL
     simp only [Bool.or_eq_true,beq_iff_eq] at hL
     rcases hL with h | h
     · rcases kinds x _ h with ⟨e,_⟩ | ⟨e,_⟩
       · exact absurd e hnl
       · cases e
     · refine x12 (newLook x (mem_of_lookup h)) fun a ha hm=>?_
       show S.h.get? ((cells.lookup x).getD 0)=none
       rw [ha]
       exact hnone a (Nat.le_of_succ_le (qAO _ _ _ _ hm).2)
 · rintro a (rfl | ⟨x,hx⟩)
   · exact .inl (qAD _)
   · have hx:(x,a)∈cells:=hx
     rw [hcells] at hx
     rcases List.mem_append.mp hx with hx | hx
     · exact .inl (hnone a (by have:@LE.le Nat _ (S.h.objs.size+1) a:=(qAO _ _ _ _ hx).2; (exact Nat.le_of_succ_le ‹_›)))
     · exact .inr (.inr ⟨x,mem_of_lookup (hclos x a hx).2⟩)
end
section
variable {prog:Program} {w₀:World} {A:Around} {R:Result->Shared->Prop} {s:Shared}
theorem qFN {elt target iter:Expr} {ifs:List Expr} {scope:Scope} {pos:Pos} {it acc:Value} {env:Env} (I:Nat->Shared->Prop)
 (turn:∀ n s,I n s->wpAny (model prog w₀) A (pyNext it) (fun r s₁=>match r with
   | none=>R (.ok .next) s₁
   | some v=>wpAny (model prog w₀) A (letOwnedTupleGo target it v) (fun _ s₁'=>wpAny (model prog w₀) A (assign target env v) (fun _ s₂ =>
    wpAny (model prog w₀) A (forIn ifs true fun c r=>if r=true then do let ok ← isTrue c env (eval c env); pure (ForInStep.yield ok) else pure (ForInStep.yield r)) (fun ok s₃ =>
     if ok=true then wpAny (model prog w₀) A (eval elt env) (fun x s₄ =>
      wpAny (model prog w₀) A (call (.builtin "list.append") [acc,x]) (fun _ s₅=>∃ m,m<n/\I m s₅) ff s₄) ff s₃
     else ∃ m,m<n/\I m s₃) ff s₂) ff s₁') ff s₁) ff s)
 (n:Nat) (h:I n s) :
 codeAny (model prog w₀) A (.compLoop (.ListComp elt [⟨target,iter,ifs,0⟩] scope pos) 0 it acc env) R s:=by
 refine codeAny_loop rfl I (fun n s hI=>?_) n h
 show wpAny _ A ((compTurn (.ListComp elt [⟨target,iter,ifs,0⟩] scope pos) 0 it acc env).onRaise (fun x=>do noteFrame x env; theTreesLotGoes x)) _ _ s
 refine wpAny_noted ?_
 rw [compTurn_list]
 refine wpAny_bind (wpAny_standAt (wpAny_bind (wpAny_mono (turn n s hI) (fun r s₁ h₁=>?_) fun _ _ h'=>h'.elim)))
 cases r with
 | none=>exact wpAny_pure h₁
 | some v =>
  refine wpAny_bind (wpAny_mono h₁ (fun _ s₁' h₁'=>?_) fun _ _ h'=>h'.elim)
  refine wpAny_bind (wpAny_mono h₁' (fun _ s₂ h₂=>wpAny_bind (wpAny_mono h₂ (fun ok s₃ h₃=>?_) fun _ _ h'=>h'.elim)) fun _ _ h'=>h'.elim)
  cases ok with
  | false=>exact wpAny_pure ⟨rfl,h₃⟩
  | true =>
   exact wpAny_bind (wpAny_bind (wpAny_mono h₃ (fun x s₄ h₄=>wpAny_bind (wpAny_mono h₄ (fun _ s₅ h₅=>wpAny_pure (wpAny_pure ⟨rfl,h₅⟩)) fun _ _ h'=>h'.elim)) fun _ _ h'=>h'.elim))
end
noncomputable def Agree (ts:List Nat) (σ σ':Sg):Prop:=σ.length=σ'.length/\∀ i,i ∉ ts->σ[i]?=σ'[i]?
theorem qJE {k:Nat} {d:Slot} {ts:List Nat} {σ σ':Sg} (h:Agree (k::ts) σ σ'):Agree ts (σ.set k d) (σ'.set k d):=by
 refine ⟨by simpa using h.1,fun i hi=>?_⟩
 by_cases e:i=k
 · subst e
   by_cases hl:i<σ.length
   · rw [List.getElem?_set_self hl,List.getElem?_set_self (h.1 ▸ hl)]
   · rw [List.getElem?_eq_none (by simpa using Nat.le_of_not_lt hl),List.getElem?_eq_none (by have:=h.1; simpa using by lia)]
 · rw [List.getElem?_set_ne (Ne.symm e),List.getElem?_set_ne (Ne.symm e)]
   exact h.2 i fun q=>by rcases List.mem_cons.mp q with q | q; exact e q; exact hi q
theorem qFy:∀ (ts:List Nat) (ds:List D) (σ σ':Sg),ts.length=ds.length->Agree ts σ σ'->qA3 ts ds σ=qA3 ts ds σ'
 | [],[],σ,σ',_,h=>by
  show σ=σ'
  exact List.ext_getElem? fun i=>h.2 i (by simp)
 | k::ts,d::ds,σ,σ',hl,h=>qFy ts ds _ _ (by simpa using hl) (qJE h)
theorem qDE:∀ (ts:List Nat) (ds:List D) (σ:Sg),Agree ts σ (qA3 ts ds σ)
 | [],[],σ=>⟨rfl,fun _ _=>rfl⟩
 | [],_::_,σ=>⟨rfl,fun _ _=>rfl⟩
 | _::_,[],σ=>⟨rfl,fun _ _=>rfl⟩
 | k::ts,d::ds,σ=>by
  obtain ⟨h1,h2⟩:=qDE ts ds (σ.set k (.dat d))
  refine ⟨by show σ.length=(qA3 ts ds (σ.set k (.dat d))).length; rw [← h1]; simp,fun i hi=>?_⟩
  have hk:k≠i:=fun e=>hi (by rw [e]; exact List.mem_cons_self)
  show _=(qA3 ts ds (σ.set k (.dat d)))[i]?
  rw [← h2 i fun q=>hi (List.mem_cons_of_mem _ q),List.getElem?_set_ne hk]
set_option tactic.hygienic true in
theorem qGU {ts:List Nat} {x:D} {σ σ':Sg} {K:Sg->Prop} (h:qAJ ts x σ K) (ha:Agree ts σ σ'):qAJ ts x σ' (fun σ2=>K σ2/\Agree ts σ σ2):=by
 have many:∀ ds:List D,ts.length=ds.length->K (qA3 ts ds σ)->K (qA3 ts ds σ')/\Agree ts σ (qA3 ts ds σ'):=fun ds hl k=>by
  rw [← qFy ts ds σ σ' hl ha]
  exact ⟨k,qDE ts ds σ⟩
 unfold qAJ at h ⊢
 split at h
 · rename_i k
   have:=many [x] rfl h
   exact this
 · split at h
   · exact ⟨h.1,h.2.1,many _ h.1 h.2.2⟩
   · exact ⟨h.1,h.2.1,many _ h.1 h.2.2⟩
   · exact h.elim
section
variable {lp:LexP} {hb:Heap} {prog:Program} {w₀:World} {b:Nat} {F:Str->List D->D->Prop} {LF:LexF} {mg mb:Str->Option Value} {c:Sc}
noncomputable def qDg (lp:LexP) (hb:Heap) (prog:Program) (w₀:World) (b:Nat) (c:Sc) (ifs:List Expr) (elt:Expr) (step:Sg->W->(Option D->W->Prop)->Prop):Prop :=
 ∀ A env σ S w k,AOk b A->ScOk c env->FrOk c.tbl env σ S->Ok lp hb S w->step σ w k ->
  wpAny (model prog w₀) A (forIn ifs true fun c r=>if r=true then do let ok ← isTrue c env (eval c env); pure (ForInStep.yield ok) else pure (ForInStep.yield r))
   (fun ok s'=>∃ S' w',S'.s=s'/\Ok lp hb S' w'/\Le S S'/\(if ok=true then wpAny (model prog w₀) A (eval elt env) (ERes lp hb S' (fun d w=>k (some d) w)) ff S'.s else k none w')) ff S.s
inductive CEnd (lp:LexP) (hb:Heap) (S:St) (C D:Addr) (K:List Mine.D->W->Prop) (s':Shared):Prop
 | mk (S':St) (w':W) (vs:Array Value) (ds:List Mine.D) (m:Str->Option Value) (h0:S'.s=s') (h1:Ok lp hb S' w') (h2:Le S S') (h3:S'.h.Ns C m) (h4:S'.B C=none) (h5:C ∉ S'.fps) (h6:S.h.get? C=none) (h7:C≠D) (h8:S'.B D=none) (h9:D ∉ S'.fps) (h10:S.h.get? D=none) (h11:S'.h.PlainList D vs) (h12:RepL S'.B vs.toList ds) (h13:K ds w'):CEnd lp hb S C D K s'
structure Bun (S:St) (D I:Addr) (fp:List Addr) (Sti:Nat->Heap->Prop) (P:Nat->Value->Prop) (xs:List Mine.D) (Si:St) (j:Nat) (vs:Array Value) (ds:List Mine.D):Prop where
 le:Le S Si
 st:Sti j Si.h
 dl:Si.h.PlainList D vs
 dr:RepL Si.B vs.toList ds
 di:Idle Si D
 ii:Idle Si I
 fp:∀ b∈fp,b=I\/∃ o,Si.B b=some o
 pr:∀ (i:Nat) v,i<xs.length->P i v->∃ d,xs[i]?=some d/\∀ B:Fz,(∀ a o,Si.B a=some o->B a=some o)->Rep B v d
theorem Bun.step {S Si Sj:St} {D I:Addr} {fp:List Addr} {Sti:Nat->Heap->Prop} {P:Nat->Value->Prop} {xs:List Mine.D} {j:Nat} {vs:Array Value} {ds:List Mine.D} {A:Around} (U:Bun S D I fp Sti P xs Si j vs ds) {X:Addr->Prop} (L:LeX X Si Sj)
 (hX:∀ a o,S.h.get? a=some o->¬ X a) (hD:¬ X D) (hI:¬ X I) (W:Walks prog w₀ A I fp [I] xs.length P Sti) {w w':Mine.W} (O:Ok lp hb Si w) (O':Ok lp hb Sj w'):Bun S D I fp Sti P xs Sj j vs ds:=by
 refine ⟨U.le.trans' L fun x o e hx=>hX x o e hx,W.frame j _ _ U.st fun b hb' o e=>?_,U.dl.at ((L.idle U.di hD).2),U.dr.mono L.sub,(L.idle U.di hD).1,(L.idle U.ii hI).1,fun b hb'=>?_,fun i v hi hv=>?_⟩
 · clear W hD hX
   rcases U.fp b hb' with rfl | ⟨o',e'⟩
   · exact (L.idle U.ii hI).2 o e
   · have:o'=o:=by
      have:=O.sub _ _ e'
      rw [show Si.h.get? b=some o from e] at this
      exact (Option.some.inj this).symm
     clear e
     subst this
     exact O'.sub _ _ (L.sub _ _ e')
 · clear O' O W hI hD hX
   rcases U.fp b hb' with rfl | ⟨o',e'⟩
   · exact .inl rfl
   · exact .inr ⟨o',L.sub _ _ e'⟩
 · refine x12 (U.pr i v hi hv) fun d h1 h2=>?_
   exact ⟨d,h1,fun B hB=>h2 B fun a o e=>hB a o (L.sub a o e)⟩
inductive CLI (lp:LexP) (hb:Heap) (tbl:List Str) (cenv:Env) (ts:List Nat) (σ:Sg) (S:St) (D I:Addr) (fp:List Addr) (Sti:Nat->Heap->Prop) (P:Nat->Value->Prop) (xs:List Mine.D) (step:Sg->W->(Option Mine.D->W->Prop)->Prop) (K:List Mine.D->W->Prop):Nat->Shared->Prop
 | mk {Si:St} {σi:Sg} {wi:W} {vs:Array Value} {ds:List Mine.D} {j:Nat} (Oi:Ok lp hb Si wi) (Fi:FrOk tbl cenv σi Si) (Ai:Agree ts σ σi) (Ui:Bun S D I fp Sti P xs Si j vs ds) (hj:j≤xs.length) (hvs:vs.size≤j)
  (qi:qBL (fun x w k=>qAJ ts x σ fun σ=>step σ w k) (xs.drop j) wi (fun rs w=>K (ds++rs) w)):CLI lp hb tbl cenv ts σ S D I fp Sti P xs step K (xs.length+1-j) Si.s
theorem qJT {A:Around} {cenv:Env} {σ σ3:Sg} {S S3:St} {w:W} (hA:AOk b A) {sc:Scope} (C3:ScOk { c with names:=sc.names } cenv)
 {t elt iter:Expr} {ifs:List Expr} {pos:Pos} {ts:List Nat} (ht:qAP { c with names:=sc.names } t=some ts) {step:Sg->W->(Option Mine.D->W->Prop)->Prop}
 (hst:qDg lp hb prog w₀ b { c with names:=sc.names } ifs elt step) {xs:List Mine.D} {K:List Mine.D->W->Prop} (q:qBL (fun x w k=>qAJ ts x σ fun σ=>step σ w k) xs w K)
 {I D:Addr} {fp:List Addr} {P:Nat->Value->Prop} {Sti:Nat->Heap->Prop} (W:Walks prog w₀ A I fp [I] xs.length P Sti) (hgo:GoOk prog w₀ A I Sti) (hIn:S.h.get? I=Option.none)
 (hIa:∀ i h,Sti i h->∃ o,h.get? I=some o) (hlen:xs.length≤16777216) (hHI:¬ Holds cenv I) (hHD:¬ Holds cenv D) (hOI:¬ Own { c with names:=sc.names } cenv I) (hOD:¬ Own { c with names:=sc.names } cenv D)
 (hOS:∀ a o,S.h.get? a=some o->¬ Own { c with names:=sc.names } cenv a) (hSDn:S.h.get? D=Option.none) (hID:I≠D) (O3:Ok lp hb S3 w) (F3:FrOk c.tbl cenv σ3 S3) (A3:Agree ts σ σ3) (U3:Bun S D I fp Sti P xs S3 0 #[] []) {R:Result->Shared->Prop}
 (hR:∀ Sj σj wj vs ds,Ok lp hb Sj wj->Le S Sj->FrOk c.tbl cenv σj Sj->Sj.B D=Option.none->D ∉ Sj.fps->Sj.h.PlainList D vs->RepL Sj.B vs.toList ds->K ds wj->R (.ok .next) Sj.s) :
 codeAny (model prog w₀) A (.compLoop (.ListComp elt [⟨t,iter,ifs,0⟩] sc pos) 0 (.ref I) (.ref D) cenv) R S3.s:=by
 refine qFN (CLI lp hb c.tbl cenv ts σ S D I fp Sti P xs step K) (fun n s h9=>?_) (xs.length+1) (.mk O3 F3 A3 U3 (Nat.zero_le _) (Nat.le_refl _) q)
 clear O3 F3 A3 U3 q
 obtain @⟨Si,σi,wi,vs,ds,j,Oi,Fi,Ai,Ui,hj,hvs,qi⟩:=h9
 have kp:∀ {h':Heap},(∀ b o,b ∉ [I]->Si.h.get? b=some o->h'.get? b=some o)->∀ b o,b≠I->Si.h.get? b=some o->h'.get? b=some o:=fun hk b o hne e=>hk b o (fun m=>hne (List.mem_singleton.mp m)) e
 by_cases hlt:j<xs.length
 · clear hR
   refine W.item j _ _ _ hlt Ui.st fun v h' tk hPv hst' hkeep=>?_
   have keepI:=kp hkeep
   refine x02 (Oi.pokeNew Ui.le (a:=I) (h':=h') (tk:=tk) Ui.ii.1 Ui.ii.2.1 hIn keepI) fun Oa La=>?_
   have Fa:=Fi.poke (a:=I) (h':=h') (tk:=tk) hHI keepI
   have Ua:Bun S D I fp Sti P xs (Si.at h' tk) (j+1) vs ds :=
    ⟨La,hst',Ui.dl.at fun o e=>keepI D o (Ne.symm hID) e,Ui.dr,⟨Ui.di.1,Ui.di.2.1,Ui.di.2.2.elim fun o ho=>⟨o,keepI D o (Ne.symm hID) ho⟩⟩,⟨Ui.ii.1,Ui.ii.2.1,hIa _ _ hst'⟩,Ui.fp,Ui.pr⟩
   refine x12 (Ui.pr j v hlt hPv) fun d hd hrep=>?_
   have qi:qBL (fun x w k=>qAJ ts x σ fun σ=>step σ w k) (d::xs.drop (j+1)) wi (fun rs w=>K (ds++rs) w):=(List.drop_eq_getElem_cons hlt).trans (congrArg (·::_) (Option.some.inj ((List.getElem?_eq_getElem hlt).symm.trans hd))) ▸ qi
   dsimp only [qBL] at qi
   clear hkeep kp Fi Oi Ui hd hPv hj
   refine hgo (j+1) _ t v _ _ hst' ?_
   refine wpAny_mono (qCN (c:={ c with names:=sc.names }) hA.handled C3 Fa Oa ht (hrep _ fun _ _ e=>e) (qGU qi Ai)) (fun _ s' h=>?_) fun _ _ h=>h
   clear qi hst' hrep keepI
   obtain ⟨Sb,σb,rfl,Ob,Lb,Fb,qb,Ab⟩:=h
   have Ub:=Ua.step Lb hOS hOD hOI W Oa Ob
   clear Ua Lb Oa Fa La Ai
   refine wpAny_mono (hst A cenv σb Sb _ _ hA C3 Fb Ob qb) (fun ok s' h=>?_) fun _ _ h=>h
   clear qb
   obtain ⟨Sc,wc,rfl,Oc,Lc,hc⟩:=h
   have Uc:=Ub.step Lc (fun _ _ _ h=>h) (fun h=>h) (fun h=>h) W Ob Oc
   have Fc:=Fb.up Lc
   clear Ub Lc Ob Fb
   cases ok with
   | false =>
    refine ⟨_,ar3 hlt,.mk Oc Fc Ab Uc hlt (Nat.le_succ_of_le hvs) ?_⟩
    simpa using hc
   | true =>
    refine wpAny_mono (show wpAny _ A (eval elt cenv) _ _ _ from hc) (fun x s' h=>?_) fun _ _ h=>h
    clear hc
    obtain ⟨Sd,wd,y,rfl,Od,Ld,Rd,qd⟩:=h
    have Ud:=Uc.step Ld (fun _ _ _ h=>h) (fun h=>h) (fun h=>h) W Oc Od
    have Fd:=Fc.up Ld
    clear Uc Oc Ld Fc
    refine wpAny_list_append_plain (hsz:=by rw [sizeLine_eq]; exact as51 hvs hlt hlen) Ud.dl fun h₂ hl₂ hs₂=>?_
    have keepD:∀ b o,b≠D->Sd.h.get? b=some o->h₂.get? b=some o:=fun b o hne e=>hs₂.extBut b o hne e
    refine x02 (Od.pokeNew Ud.le (a:=D) (h':=h₂) (tk:=Sd.s.toks) Ud.di.1 Ud.di.2.1 hSDn keepD) fun Oe Le'=>?_
    refine ⟨_,ar3 hlt,.mk (Si:=Sd.at h₂ Sd.s.toks) (vs:=vs.push x) (ds:=ds++[y]) Oe (Fd.poke hHD keepD) Ab ?_ hlt (by rw [Array.size_push]; exact Nat.succ_le_succ hvs) (by simpa using qd)⟩
    refine ⟨Le',?_,hl₂,by rw [Array.toList_push]; exact Ud.dr.append (.cons Rd .nil),⟨Ud.di.1,Ud.di.2.1,hl₂.elim fun n ho=>⟨_,ho⟩⟩,⟨Ud.ii.1,Ud.ii.2.1,Ud.ii.2.2.elim fun o ho=>⟨o,keepD I o hID ho⟩⟩,Ud.fp,Ud.pr⟩
    refine W.frame _ _ _ Ud.st fun b hb' o e=>keepD b o (fun e'=>?_) e
    rcases Ud.fp b hb' with rfl | ⟨o',e''⟩
    · exact hID e'
    · rw [e',Ud.di.1] at e''; cases e''
 · cases as50 hj hlt
   refine W.done _ _ _ Ui.st fun h' tk hkeep=>?_
   have keepI:=kp hkeep
   refine x02 (Oi.pokeNew Ui.le (a:=I) (h':=h') (tk:=tk) Ui.ii.1 Ui.ii.2.1 hIn keepI) fun Oa La=>?_
   refine hR (Si.at h' tk) _ _ _ _ Oa La (Fi.poke (a:=I) (h':=h') (tk:=tk) hHI keepI) Ui.di.1 Ui.di.2.1 (Ui.dl.at fun o e=>keepI D o (Ne.symm hID) e) Ui.dr ?_
   simpa [qBL] using qi
theorem qKm {A:Around} {env:Env} {σ:List Slot} {S S':St} {w:W} {E:Value->Shared->Prop} (hA:AOk b A) (C:ScOk c env) (Fk:FrOk c.tbl env σ S) (O:Ok lp hb S' w) (L:Le S S') {sc:Scope} (hk:sc.kind=.function)
 {t elt iter:Expr} {ifs:List Expr} {pos:Pos} {ts:List Nat} (ht:qAP { c with names:=sc.names } t=some ts) (hf:qBG c sc.names ts=true) {step:Sg->W->(Option Mine.D->W->Prop)->Prop}
 (hst:qDg lp hb prog w₀ b { c with names:=sc.names } ifs elt step) {xs:List Mine.D} {K:List Mine.D->W->Prop} (q:qBL (fun x w k=>qAJ ts x σ fun σ=>step σ w k) xs w K)
 {I:Addr} {fp:List Addr} {P:Nat->Value->Prop} {Sti:Nat->Heap->Prop} (W:Walks prog w₀ A I fp [I] xs.length P Sti) (hgo:GoOk prog w₀ A I Sti) (h0:Sti 0 S'.h) (hIn:S.h.get? I=Option.none) (hIB:S'.B I=Option.none) (hIf:I ∉ S'.fps)
 (hIa:∀ i h,Sti i h->∃ o,h.get? I=some o) (hfp:∀ b∈fp,b=I\/∃ o,S'.B b=some o) (hP:∀ (i:Nat) v,i<xs.length->P i v->∃ d,xs[i]?=some d/\∀ B:Fz,(∀ a o,S'.B a=some o->B a=some o)->Rep B v d)
 (hlen:xs.length≤16777216) {RR:Value->Addr->Result->Shared->Prop} (hR:∀ D Cc s',CEnd lp hb S Cc D K s'->RR (.ref D) Cc (.ok .next) s') :
 closureFor sc env=pure (qBt env.cells sc.names [])/\(∀ x∈sc.names,x.2=.local->sc.names.lookup x.1=some .local) /\
 wpAny (model prog w₀) A (newList []) (fun acc s₃=>wpAny (model prog w₀) A (newFunctionEnv sc env.globals (qBt env.cells sc.names []) [] env.qual none .none (some env)) (fun cenv s₄ =>
  codeAny (model prog w₀) A (.compStart (.ListComp elt [⟨t,iter,ifs,0⟩] sc pos) 0 (.ref I) acc { cenv with scope:=relabel sc env }) (RR acc cenv.locals) s₄) E s₃) E S'.s:=by
 refine x03 (qCX (tk:=0) C (Fk.up L) O hk ht hf) fun k1 k2 _=>?_
 refine ⟨k1,k2,?_⟩
 refine wpAny_newObj_type ?_
 have kk2:∀ b' o',S'.h.get? b'=some o'->(S'.h.push { cls:=.type "list",data:=.seq ([]:List Value).toArray }).get? b'=some o':=fun b' o' e=>Heap.get?_push_of_some _ e
 have hSD:S'.h.get? S'.h.objs.size=Option.none:=qAD _
 refine (fun S2 (hS2:S2=S'.at (S'.h.push { cls:=.type "list",data:=.seq ([]:List Value).toArray }) S'.s.toks)=>?_) _ rfl
 have O2:Ok lp hb S2 w:=by rw [hS2]; exact (O.quiet (tk:=S'.s.toks) kk2).1
 have L2:Le S' S2:=by rw [hS2]; exact (O.quiet (tk:=S'.s.toks) kk2).2
 have hD2:S2.h.get? S'.h.objs.size=some { cls:=.type "list",data:=.seq ([]:List Value).toArray }:=by rw [hS2]; exact Heap.get?_push_size _ rfl
 have eS2:S2.s={ S'.s with heap:=S'.h.push { cls:=.type "list",data:=.seq ([]:List Value).toArray } }:=by rw [hS2]
 have eB2:S2.B=S'.B:=by rw [hS2]
 have eO2:S2.own=S'.own:=by rw [hS2]
 have eh2:S2.h=S'.h.push { cls:=.type "list",data:=.seq ([]:List Value).toArray }:=by rw [hS2]
 have ef2:S2.fps=S'.fps:=by unfold St.fps; rw [eO2]
 clear hS2
 show wpAny _ A _ _ E { S'.s with heap:=S'.h.push { cls:=.type "list",data:=.seq ([]:List Value).toArray } }
 rw [← eS2]
 refine qEv ?_
 have Fk2:=(Fk.up L).up L2
 have IF:=(qCX (tk:=S2.s.toks) C Fk2 O2 hk ht hf).2.2
 dsimp only at IF
 refine (fun S3 (hS3:S3=S2.at (pushCells (S2.h.push { cls:=.type "dict",data:=.dict #[] }) sc.names) S2.s.toks)=>?_) _ rfl
 refine (fun cenv (hcenv:cenv=compEnvC sc (cellsFrom (S2.h.objs.size+1) sc.names (qBt env.cells sc.names [])) S2.h.objs.size env)=>?_) _ rfl
 rw [← hcenv,← hS3] at IF
 refine cps fun X9 k9=>?_
 obtain ⟨C3,F3,own3,keep3,holds3,m3,ns3⟩:=IF
 have O3:Ok lp hb S3 w:=by rw [hS3] at keep3 ⊢; exact (O2.quiet (tk:=S2.s.toks) keep3).1
 have L3:Le S2 S3:=by rw [hS3] at keep3 ⊢; exact (O2.quiet (tk:=S2.s.toks) keep3).2
 have LS2:Le S S2:=L.trans L2
 have LS3:=LS2.trans L3
 refine k9 ?_
 clear k9
 refine (fun D (hDa:D=S'.h.objs.size)=>?_) _ rfl
 refine (fun Cc (hCa:Cc=S2.h.objs.size)=>?_) _ rfl
 show codeAny _ A (.compStart (.ListComp elt [⟨t,iter,ifs,0⟩] sc pos) 0 (.ref I) (.ref S'.h.objs.size) (compEnvC sc (cellsFrom (S2.h.objs.size+1) sc.names (qBt env.cells sc.names [])) S2.h.objs.size env)) (RR (.ref S'.h.objs.size) S2.h.objs.size)
  (S2.at (pushCells (S2.h.push { cls:=.type "dict",data:=.dict #[] }) sc.names) S2.s.toks).s
 rw [← hcenv,← hS3,← hDa,← hCa]
 rw [← hDa] at hSD hD2
 rw [← hCa] at hcenv ns3
 have hSDn:S.h.get? D=Option.none:=L.none hSD
 have hCn2:S2.h.get? Cc=Option.none:=by rw [hCa]; exact qAD _
 have hCn:S.h.get? Cc=Option.none:=LS2.none hCn2
 have hI2:∃ o,S2.h.get? I=some o:=by
  refine x11 (hIa 0 _ h0) fun o ho=>?_
  exact ⟨o,by rw [eh2]; exact kk2 _ _ ho⟩
 have hID:I≠D:=fun e=>by
  obtain ⟨o,ho⟩:=hIa 0 _ h0
  rw [e,hSD] at ho; cases ho
 have hnH:∀ a,(∃ o,S2.h.get? a=some o)->S.h.get? a=Option.none->¬ Holds cenv a:=fun a ⟨o,ho⟩ hn hh=>by
  rcases holds3 a hh with q | q
  · rw [q] at ho; cases ho
  · refine x03 (Fk.hold a q) fun _ _ r9=>x11 r9 fun o' ho'=>?_
    rw [hn] at ho'; cases ho'
 have hHI:=hnH I hI2 hIn
 have hHD:=hnH D ⟨_,hD2⟩ hSDn
 have hnO:∀ a,(∃ o,S2.h.get? a=some o)->¬ Own { c with names:=sc.names } cenv a:=fun a ⟨o,ho⟩ hh=>by
  have:=own3 a hh; rw [this] at ho; cases ho
 have hOI:=hnO I hI2
 have hOD:=hnO D ⟨_,hD2⟩
 have hOS:∀ a o,S.h.get? a=some o->¬ Own { c with names:=sc.names } cenv a:=fun a o e=>hnO a (LS2.alive a o e)
 have hCl:cenv.locals=Cc:=by rw [hcenv]; rfl
 have U2:Bun S D I fp Sti P xs S2 0 #[] []:=by
  refine ⟨LS2,?_,⟨_,hD2⟩,.nil,⟨?_,?_,⟨_,hD2⟩⟩,⟨by rw [eB2]; exact hIB,by rw [ef2]; exact hIf,hI2⟩,fun b hb'=>by rw [eB2]; exact hfp b hb',fun i v hi hv=>by rw [eB2]; exact hP i v hi hv⟩
  · exact W.frame 0 _ _ h0 fun b _ o e=>by rw [eh2]; exact kk2 _ _ e
  · rw [eB2]; exact O.bNone hSD
  · rw [ef2]; exact O.fpNone hSD
 have U3:Bun S D I fp Sti P xs S3 0 #[] []:=U2.step L3 (fun _ _ _ h=>h) (fun h=>h) (fun h=>h) W O2 O3
 have start:codeAny (model prog w₀) A (.compLoop (.ListComp elt [⟨t,iter,ifs,0⟩] sc pos) 0 (.ref I) (.ref D) cenv) (RR (.ref D) Cc) S3.s :=
  qJT hA C3 ht hst q W hgo hIn hIa hlen hHI hHD hOI hOD hOS hSDn hID O3 F3 ⟨(qEW ts σ).symm,fun i hi=>(qCy ts σ i hi).symm⟩ U3 fun Sj σj wj vs ds Oj Lj Fj h8 h9 hl hr hk=>x12 Fj.loc fun m hm _ =>
   hR D Cc _ ⟨Sj,wj,vs,ds,m,rfl,Oj,Lj,hCl ▸ hm,(Fj.hold Cc (.inl hCl.symm)).1,(Fj.hold Cc (.inl hCl.symm)).2.1,hCn,(fun e=>by rw [e,hD2] at hCn2; cases hCn2),h8,h9,hSDn,hl,hr,hk⟩
 exact codeAny_compStart_list start (W.self 0 _ _ _ U3.st start)
end
section
variable {lp:LexP} {hb:Heap} {prog:Program} {w₀:World} {b:Nat} {F:Str->List D->D->Prop} {LF:LexF} {mg mb:Str->Option Value} {c:Sc}
theorem qHQ {elt:Expr} {me:ME} {c':Sc} (he:SoundE lp hb prog w₀ b F LF c' elt me):qDg lp hb prog w₀ b c' [] elt (fun σ w k=>E F LF me σ w fun d w=>k (some d) w):=by
 intro A env σ S w k hA C Fk O q
 refine wpAny_tests_nil ⟨S,w,rfl,O,LeX.refl _ _,?_⟩
 rw [if_pos rfl]
 exact he A env σ S w _ hA C Fk O q
theorem qJo {elt cnd:Expr} {me:ME} {mc:MC} {c':Sc} (he:SoundE lp hb prog w₀ b F LF c' elt me) (hc:SoundC lp hb prog w₀ b F LF c' cnd mc) :
 qDg lp hb prog w₀ b c' [cnd] elt (fun σ w k=>T F LF mc σ w fun t w=>if t=true then E F LF me σ w fun d w=>k (some d) w else k none w):=by
 intro A env σ S w k hA C Fk O q
 refine wpAny_tests_one (wpAny_mono (hc A env σ S w _ hA C Fk O q) (fun ok s' h=>?_) fun _ _ h=>h)
 obtain ⟨S',w',rfl,O',L',q⟩:=h
 refine ⟨S',w',rfl,O',L',?_⟩
 cases ok with
 | true=>rw [if_pos rfl] at q ⊢; exact he A env σ S' w' _ hA C (Fk.up L') O' q
 | false=>rw [if_neg (by decide)] at q ⊢; exact q
theorem CEnd.le {S S1:St} {C D:Addr} {K:List Mine.D->W->Prop} {s':Shared} (L:Le S S1) (h:CEnd lp hb S1 C D K s'):CEnd lp hb S C D K s':=by
 obtain ⟨S',w',vs,ds,m,e,O,L1,h1,h2,h3,h4,h5,h6,h7,h8,h9,r1,r2⟩:=h
 exact ⟨S',w',vs,ds,m,e,O,L.trans L1,h1,h2,h3,L.none h4,h5,h6,h7,L.none h8,h9,r1,r2⟩
theorem qHS {elt it t:Expr} {ifs:List Expr} {sc:Scope} {p pos:Pos} {ts:List Nat} {mit:ME} {step:Sg->W->(Option D->W->Prop)->Prop} {use:Option (Value->Sem Unit)} (hit:SoundE lp hb prog w₀ b F LF c it mit)
 (hst:qDg lp hb prog w₀ b { c with names:=sc.names } ifs elt step) (hk:sc.kind=.function) (ht:qAP { c with names:=sc.names } t=some ts) (hf:qBG c sc.names ts=true) (hs:∀ env x,foldedSetIterable it env x=pure x)
 {A:Around} {env:Env} {σ:List Slot} {S:St} {w:W} {K:List D->W->Prop} (hA:AOk b A) (C:ScOk c env) (Fk:FrOk c.tbl env σ S) (O:Ok lp hb S w)
 (q:E F LF mit σ w fun d w=>qAm d fun xs=>qBL (fun x w k=>qAJ ts x σ fun σ=>step σ w k) xs w K) {Q':Value->Shared->Prop}
 (hR:∀ D Cc s',CEnd lp hb S Cc D K s'->compPost (model prog w₀) A ff use Q' (.ref D) Cc (.ok .next) s') :
 wpAny (model prog w₀) A (comprehension (.ListComp elt [⟨t,it,ifs,0⟩] sc p) sc env pos (newList []) false (eval it env) use) Q' ff S.s:=by
 refine x03 (qCX (tk:=0) C Fk O hk ht hf) fun k1 k2 _=>?_
 refine wpAny_comprehension_free rfl (hs env) k1 hk k2 (hit.run hA C Fk O q fun S1 w1 d v O1 L1 R1 q=>?_)
 refine wpAny_mono (qD9 hA.handled O1 R1 q) (fun itv s' h=>?_) fun _ _ h=>h
 obtain ⟨S',I,fp,P,Sti,xs,rfl,rfl,O',L',W,hgo,h0,hIn,hIB,hIf,hIa,hfp,hP,hlen,q⟩:=h
 exact (qKm hA C (Fk.up L1) O' L' hk ht hf hst q W hgo h0 hIn hIB hIf hIa hfp hP hlen fun D Cc s' h=>hR D Cc s' (h.le L1)).2.2
theorem qMQ {elt it t:Expr} {ifs:List Expr} {sc:Scope} {p:Pos} {ts:List Nat} {mit:ME} {step:Sg->W->(Option D->W->Prop)->Prop} (hit:SoundE lp hb prog w₀ b F LF c it mit)
 (hst:qDg lp hb prog w₀ b { c with names:=sc.names } ifs elt step) (hk:sc.kind=.function) (ht:qAP { c with names:=sc.names } t=some ts) (hf:qBG c sc.names ts=true) (hs:∀ env x,foldedSetIterable it env x=pure x)
 {A:Around} {env:Env} {σ:List Slot} {S:St} {w:W} {Q:D->W->Prop} (hA:AOk b A) (C:ScOk c env) (Fk:FrOk c.tbl env σ S) (O:Ok lp hb S w)
 (q:E F LF mit σ w fun d w=>qAm d fun xs=>qBL (fun x w k=>qAJ ts x σ fun σ=>step σ w k) xs w fun ds w=>Q (.list ds) w) :
 wpAny (model prog w₀) A (eval (.ListComp elt [⟨t,it,ifs,0⟩] sc p) env) (ERes lp hb S Q) ff S.s:=by
 rw [eval_ListComp]
 refine qHS (use:=none) hit hst hk ht hf hs hA C Fk O q fun D Cc s' h=>?_
 obtain ⟨S',w',vs,ds,m,rfl,O',L',hm,hcB,hcf,hcn,hne,hdB,hdf,hdn,hl,hr,k⟩:=h
 refine ⟨m,hm,fun h' hs'=>?_⟩
 have keep:∀ b o,b≠Cc->S'.h.get? b=some o->h'.get? b=some o:=fun b o hne e=>hs'.extBut b o hne e
 refine x02 (O'.pokeNew L' (a:=Cc) (h':=h') (tk:=S'.s.toks) hcB hcf hcn keep) fun O2 L2=>?_
 exact LRes.e (w:=w') ⟨S'.at h' S'.s.toks,D,vs,ds,rfl,rfl,O2,L2,hdn,hdB,hdf,hl.at fun o e=>keep D o (Ne.symm hne) e,hr,k⟩
theorem qO3 {elt it t:Expr} {sc:Scope} {p:Pos} {ts:List Nat} {mit me:ME} (hit:SoundE lp hb prog w₀ b F LF c it mit) (he:SoundE lp hb prog w₀ b F LF { c with names:=sc.names } elt me)
 (hk:sc.kind=.function) (ht:qAP { c with names:=sc.names } t=some ts) (hf:qBG c sc.names ts=true) (hs:∀ env x,foldedSetIterable it env x=pure x) :
 SoundE lp hb prog w₀ b F LF c (.ListComp elt [⟨t,it,[],0⟩] sc p) (.comp me ts mit):=by
 intro A env σ S w Q hA C Fk O q
 simp only [E] at q
 exact qMQ hit (qHQ he) hk ht hf hs hA C Fk O q
theorem qMb {elt it t cnd:Expr} {sc:Scope} {p:Pos} {ts:List Nat} {mit me:ME} {mc:MC} (hit:SoundE lp hb prog w₀ b F LF c it mit) (he:SoundE lp hb prog w₀ b F LF { c with names:=sc.names } elt me)
 (hc:SoundC lp hb prog w₀ b F LF { c with names:=sc.names } cnd mc)
 (hk:sc.kind=.function) (ht:qAP { c with names:=sc.names } t=some ts) (hf:qBG c sc.names ts=true) (hs:∀ env x,foldedSetIterable it env x=pure x) :
 SoundE lp hb prog w₀ b F LF c (.ListComp elt [⟨t,it,[cnd],0⟩] sc p) (.compIf me ts mit mc):=by
 intro A env σ S w Q hA C Fk O q
 simp only [E] at q
 exact qMQ hit (qJo he hc) hk ht hf hs hA C Fk O q
end
section
variable {R:Expr->Prop} {e:Expr}
theorem eNmE {x:Str} (h:eNm e=some x) (k:∀ p,R (.Name x p)):R e:=by
 cases e <;> first | exact nos h | exact okE (R:=fun x=>(∀ p,R (.Name x p))->R (.Name _ _)) h (fun k=>k _) k
theorem qOI {x:Const} (h:eCst e=some x) (k:∀ n p,R (.Constant x n p)):R e:=by
 cases e <;> first | exact nos h | exact okE (R:=fun x=>(∀ n p,R (.Constant x n p))->R (.Constant _ _ _)) h (fun k=>k _ _) k
set_option tactic.hygienic true in
theorem qNk {i:Int} (h:eNeg e=some i) (k:∀ k p p',R (.UnaryOp .USub (.Constant (.int i) k p) p')):R e:=by
 cases e <;> first | exact nos h | skip
 rename_i op x p
 refine gdE h fun ho q1_=>qAC q1_ fun kk hk q2_=>?_
 clear h q1_
 have ho:=beq_iff_eq.mp ho
 subst ho
 refine qOI (R:=fun x=>R (.UnaryOp .USub x p)) hk fun n p1=>?_
 clear hk
 cases kk <;> first | exact nos q2_ | exact okE (R:=fun i=>(∀ k p p',R (.UnaryOp .USub (.Constant (.int i) k p) p'))->R (.UnaryOp .USub (.Constant (.int _) _ _) _)) q2_ (fun k=>k _ _ _) k
theorem qOu {q:Option Expr×Option Expr×Option Expr} (h:eSlc e=some q) (k:∀ p,R (.Slice q.1 q.2.1 q.2.2 p)):R e:=by
 cases e <;> first | exact nos h | exact okE (R:=fun q:Option Expr×Option Expr×Option Expr=>(∀ p,R (.Slice q.1 q.2.1 q.2.2 p))->R (.Slice _ _ _ _)) h (fun k=>k _) k
theorem qNc {q:Expr×Str×Pos} (h:eAtt e=some q) (k:R (.Attribute q.1 q.2.1 q.2.2)):R e:=by
 cases e <;> first | exact nos h | exact okE (R:=fun q:Expr×Str×Pos=>R (.Attribute q.1 q.2.1 q.2.2)->R (.Attribute _ _ _)) h id k
set_option tactic.hygienic true in
theorem eFnE {q:Str×List Expr} (h:eFn e=some q) (k:∀ p1 p,R (.Call (.Name q.1 p1) q.2 [] p)):R e:=by
 cases e <;> first | exact nos h | skip
 rename_i f args kws p
 refine gdE h fun hk q1_=>?_
 clear h
 rw [qCq hk]
 cases f <;> first | exact nos q1_ | exact okE (R:=fun q:Str×List Expr=>(∀ p1 p,R (.Call (.Name q.1 p1) q.2 [] p))->R (.Call (.Name _ _) _ [] _)) q1_ (fun k=>k _ _) k
theorem qNJ {c:Sc} {x:Str} (h:isGl c e x=true) (k:c.isGlob x=true->∀ p,R (.Name x p)):R e :=
 andE h fun h1 h2=>eNmE (beq_iff_eq.mp h2) (k h1)
end
section
variable {lp:LexP} {hb:Heap} {prog:Program} {w₀:World} {b:Nat} {F:Str->List D->D->Prop} {LF:LexF} {mg mb:Str->Option Value} {c:Sc}
theorem qBS {e:Expr} (h:∀ es k p,e≠.Set es k p):∀ env x,foldedSetIterable e env x=pure x:=by
 intro env x
 cases e <;> first | rfl | exact absurd rfl (h _ _ _)
theorem qBf {e:Expr} {r:List Expr} (h:∀ x p,e≠.Starred x p):∀ env,starEach (e::r) env=(false,eval e env)::starEach r env:=by
 intro env
 cases e <;> first | rfl | exact absurd rfl (h _ _)
set_option tactic.hygienic true in
theorem qHw {o:Expr} (h:qGP o=true) (a:Str) (env:Env):attributeBase o a env (eval o env)=eval o env:=by
 cases o <;> first | rfl | skip
 rename_i f args kws p
 cases f <;> first | rfl | skip
 cases args with
 | cons=>rfl
 | nil=>cases h
structure STR (lp:LexP) (hb:Heap) (prog:Program) (w₀:World) (b:Nat) (F:Str->List D->D->Prop) (LF:LexF) (t:TR):Prop where
 E:∀ {c e m},t.E c e=some m->SoundE lp hb prog w₀ b F LF c e m
 C:∀ {c e m},t.C c e=some m->SoundC lp hb prog w₀ b F LF c e m
 star:∀ {c e m},t.E c e=some m->∀ x p,e≠.Starred x p
 set:∀ {c e m},t.E c e=some m->∀ es k p,e≠.Set es k p
variable {t:TR} (ST:STR lp hb prog w₀ b F LF t)
include ST
theorem STR.s1 {e:Expr} {m:ME} (h:t.E c e=some m):NoStar [e]:=fun env=>by rw [qBf (ST.star h)]; rfl
theorem STR.L:∀ {es:List Expr} {m:ML},trLs (t.E c) es=some m->qBg lp hb prog w₀ b F LF c es m/\NoStar es/\(es=[]->m=.nil):=by
 intro L9
 induction L9 with
 | nil =>
  intro m h
  exact okE (R:=fun m=>qBg lp hb prog w₀ b F LF c [] m/\NoStar []/\([]=[]->m=.nil)) h ⟨sNil,fun _=>rfl,fun _=>rfl⟩
 | cons e r ih9 =>
  intro m h
  exact qAC h fun me he h=>qAC h fun mr hr h=>okE (R:=fun m=>qBg lp hb prog w₀ b F LF c (e::r) m/\NoStar (e::r)/\(e::r=[]->m=.nil)) h
   ⟨qPV (ST.E he) (ih9 hr).1 (qBf (ST.star he)),fun env=>by rw [qBf (ST.star he) env,(ih9 hr).2.1 env]; rfl,fun q=>nomatch q⟩
omit ST in
theorem nm_s (G:Glo lp hb prog w₀ b F LF mg mb) {x:Str} {p:Pos} {m:ME} (h:trNm c x=some m):SoundE lp hb prog w₀ b F LF c (.Name x p) m :=
 iteE h (fun hg h=>gdE h fun hx h=>okE h (qO9 G hg hx _)) fun h=>mapE h fun k hk=>sVar hk _
theorem bl_s {op:BoolOp} {es:List Expr} {p:Pos} {m:ME} (h:trBl t c op es=some m):SoundE lp hb prog w₀ b F LF c (.BoolOp op es p) m :=
 qAC h fun q hq q1_=>qAC q1_ fun x hx q2_=>qAC q2_ fun y hy q3_=>okE q3_ (by
  clear h q1_ q2_
  rw [two?_eq hq]
  clear q3_ hq
  cases op with
  | And=>exact qPT (ST.E hx) (ST.E hy) _
  | Or=>exact sOr2 (ST.E hx) (ST.E hy) _)
omit ST in
theorem qLS {op:CmpOp} {o:COp} (h:qDo op=some o) (ho:(o == .isin)=true):op=.In:=by
 cases op <;> first | rfl | exact nos h | (cases h; cases ho)
theorem cp_s (G:Glo lp hb prog w₀ b F LF mg mb) {l:Expr} {ops:List CmpOp} {rs:List Expr} {p:Pos} {m:ME} (h:trCp t c l ops rs=some m):SoundE lp hb prog w₀ b F LF c (.Compare l ops rs p) m :=
 qAC h fun op hop h=>qAC h fun r hr h=>qAC h fun o ho h=>qAC h fun x hx h=>by
  rw [one?_eq hop,one?_eq hr]
  exact iteE h (fun hc h=>andE hc fun h1 h2=>okE h (qNJ (R:=fun r=>SoundE lp hb prog w₀ b F LF c (.Compare l [op] [r] p) _) h2 fun hg p1=>qLS ho h1 ▸ qOr G hg (ST.E hx) _ _))
   fun h=>qAC h fun y hy h=>okE h (sCmp G ho (ST.E hx) (ST.E hy) (qEH _ _ (ST.set hy)) _)
theorem qOf {o:Option Expr} {m:ME} (h:qNR t c o=some m):OptS lp hb prog w₀ b F LF c o m:=by
 cases o with
 | none=>exact okE (R:=fun m=>m=.cst .none) h rfl
 | some e=>exact ST.E h
theorem qPJ {v:Expr} {lo hi st:Option Expr} {p1 p:Pos} {m:ME} (h:qOb t c v lo hi st=some m):SoundE lp hb prog w₀ b F LF c (.Subscript v (.Slice lo hi st p1) p) m:=by
 cases st with
 | none=>exact qAC h fun l hl h=>qAC h fun r hr h=>qAC h fun x hx h=>okE h (sSl (ST.E hx) (qOf ST hl) (qOf ST hr) _ _)
 | some e =>
  refine gdE h fun hc q1_=>mapE q1_ fun x hx=>andE hc fun hc h3=>andE hc fun h1 h2=>?_
  clear h
  clear hc
  cases lo <;> cases h1; cases hi <;> cases h2
  exact qNk (R:=fun e=>SoundE lp hb prog w₀ b F LF c (.Subscript v (.Slice none none (some e) p1) p) _) (beq_iff_eq.mp h3) fun _ _ _=>sRev (ST.E hx) _ _ _ _ _
theorem qOx {v i:Expr} {p:Pos} {m:ME} (h:qOU t c v i=some m):SoundE lp hb prog w₀ b F LF c (.Subscript v i p) m :=
 orE h (fun h=>orE h (fun h=>qAC h fun x hx h=>qAC h fun y hy h=>okE h (sIdx (ST.E hx) (ST.E hy) _))
  fun x hx h=>qAC h fun k hk h=>qAC h fun y hy h=>okE h (eNmE (R:=fun v=>SoundE lp hb prog w₀ b F LF c (.Subscript v i p) _) hx fun p1=>qOv hk (ST.E hy) _ _))
 fun s hs h=>qOu (R:=fun i=>SoundE lp hb prog w₀ b F LF c (.Subscript v i p) m) hs fun p1=>qPJ ST h
theorem qOc {elt:Expr} {gs:List Comprehension} {sc:Scope} {p:Pos} {m:ME} (h:qMK t c elt gs sc=some m):SoundE lp hb prog w₀ b F LF c (.ListComp elt gs sc p) m :=
 qAC h fun g hg q1_=>qAC q1_ fun ts ht q2_=>qAC q2_ fun it hit q3_=>qAC q3_ fun x hx q4_=>gdE q4_ fun hc q5_=>andE hc fun hc h3=>andE hc fun h1 h2=>by
  clear h q1_ q2_ q3_ q4_
  rw [one?_eq hg]
  clear hc hg
  obtain ⟨tg,ie,ifs,ia⟩:=g
  cases beq_iff_eq.mp h1
  refine orE q5_ (fun q5_=>gdE q5_ fun hn q5_=>okE q5_ ?_) fun e he q5_=>qAC q5_ fun mc hmc q5_=>okE q5_ ?_
  · cases qCq hn
    exact qO3 (ST.E hit) (ST.E hx) (beq_iff_eq.mp h2) ht h3 (qBS (ST.set hit))
  · cases one?_eq he
    exact qMb (ST.E hit) (ST.E hx) (ST.C hmc) (beq_iff_eq.mp h2) ht h3 (qBS (ST.set hit))
theorem fn_s (G:Glo lp hb prog w₀ b F LF mg mb) {x:Str} {args:List Expr} {p1 p:Pos} {m:ME} (h:trFn t c x args=some m):SoundE lp hb prog w₀ b F LF c (.Call (.Name x p1) args [] p) m :=
 gdE h fun hg h=>iteE h (fun hx h=>qAC h fun q hq h=>gdE h fun hc h=>mapE h fun y hy=>by
  rw [beq_iff_eq.mp hx,two?_eq hq]
  exact qNJ (R:=fun e=>SoundE lp hb prog w₀ b F LF c (.Call (.Name "isinstance" p1) [q.1,e] [] p) _) hc fun hd p2=>sIsb G (beq_iff_eq.mp hx ▸ hg) hd (ST.E hy) _ _ _ fun env=>by rw [qBf (ST.star hy)]; rfl)
  fun h=>orE h (fun h=>iteE h (fun hd h=>mapE h fun l hl=>andE hd fun hd _=>qPO G hg (List.contains_iff_mem.mp hd) (ST.L hl).1 (ST.L hl).2.1 (ST.L hl).2.2 _ _)
   fun h=>qAC h fun bb hbb h=>qAC h fun l hl h=>okE h (sBi G hg hbb (ST.L hl).1 (ST.L hl).2.1 (ST.L hl).2.2 _ _))
   fun k hk h=>okE h (gdE hk fun hx hk=>qAC hk fun a ha hk=>qAC hk fun y hy hk=>by
    rw [beq_iff_eq.mp hx,one?_eq ha]
    exact eNmE (R:=fun a=>SoundE lp hb prog w₀ b F LF c (.Call (.Name "len" p1) [a] [] p) _) hy fun p2=>qOw G (beq_iff_eq.mp hx ▸ hg) hk _ _ _)
theorem qOt (G:Glo lp hb prog w₀ b F LF mg mb) {v:Expr} {a:Str} {args:List Expr} {ap p:Pos} {m:ME} (hl:qA6 ap p=true) (hn:args.length≤20) (h:qOW t c v a args=some m):SoundE lp hb prog w₀ b F LF c (.Call (.Attribute v a ap) args [] p) m :=
 iteE h (fun ha h=>gdE h fun hn h=>by
  rw [beq_iff_eq.mp ha,qCq hn]
  exact orE h (fun h=>qAC h fun q hq h=>gdE h fun hc h=>qAC h fun e he h=>mapE h fun x hx=>andE hc fun h1 h2=>eFnE (R:=fun v=>SoundE lp hb prog w₀ b F LF c (.Call (.Attribute v "get_token" ap) [] [] p) _) hq fun p1 p2=>by
   rw [beq_iff_eq.mp h2,one?_eq he]
   exact qNT G h1 (ST.E hx) (ST.s1 hx) _ _ _ _ hl)
   fun x hx h=>mapE h fun k hk=>eNmE (R:=fun v=>SoundE lp hb prog w₀ b F LF c (.Call (.Attribute v "get_token" ap) [] [] p) _) hx fun p1=>sTok G hk _ _ _ hl)
  fun h=>iteE h (fun ha h=>qAC h fun e he h=>mapE h fun x hx=>andE ha fun h1 h2=>by
   rw [beq_iff_eq.mp h1,one?_eq he]
   exact qNJ (R:=fun v=>SoundE lp hb prog w₀ b F LF c (.Call (.Attribute v "get" ap) [e] [] p) _) h2 fun hg p1=>qOE G hg (ST.E hx) _ _ _ hl (ST.s1 hx))
  fun h=>gdE h fun hp h=>qAC h fun mm hmm h=>qAC h fun x hx h=>qAC h fun l hl' h=>okE h (sMet (ST.E hx) (ST.L hl').1 (ST.L hl').2.1 (ST.L hl').2.2 hn hmm (fun env=>qHw hp _ env) _ _ hl)
theorem qOR (G:Glo lp hb prog w₀ b F LF mg mb) {f:Expr} {args:List Expr} {kws:List Keyword} {p:Pos} {m:ME} (h:qMT t c f args kws p=some m):SoundE lp hb prog w₀ b F LF c (.Call f args kws p) m :=
 gdE h fun hk h=>by
  rw [qCq hk]
  exact orE h (fun h=>qAC h fun q hq h=>gdE h fun hc h=>andE hc fun h1 h2=>qNc (R:=fun f=>SoundE lp hb prog w₀ b F LF c (.Call f args [] p) m) hq (qOt ST G h1 (of_decide_eq_true h2) h))
   fun x hx h=>eNmE (R:=fun f=>SoundE lp hb prog w₀ b F LF c (.Call f args [] p) m) hx fun p1=>fn_s ST G h
theorem e_s (G:Glo lp hb prog w₀ b F LF mg mb) {e:Expr} {m:ME} (h:stE t c e=some m):SoundE lp hb prog w₀ b F LF c e m:=by
 cases e with
 | Constant k n p=>exact mapE h fun cc hc=>sCst hc _ _
 | Name x p=>exact nm_s G h
 | BinOp l op r p=>exact qAC h fun o ho h=>qAC h fun x hx h=>qAC h fun y hy h=>okE h (sBin ho (ST.E hx) (ST.E hy) _)
 | UnaryOp op x p=>exact qAC h fun i hi h=>okE h (qNk (R:=fun e=>SoundE lp hb prog w₀ b F LF c e _) hi fun _ _ _=>sNeg _ _ _ _)
 | BoolOp op es p=>exact bl_s ST h
 | IfExp t a b p=>exact qAC h fun k hk h=>qAC h fun x hx h=>qAC h fun y hy h=>okE h (sIfe (ST.C hk) (ST.E hx) (ST.E hy) _)
 | List es p=>exact mapE h fun l hl=>qOn (ST.L hl).1 _
 | Tuple es k p=>exact mapE h fun l hl=>sTup (ST.L hl).1 _ _
 | Compare l ops rs p=>exact cp_s ST G h
 | Subscript v i p=>exact qOx ST h
 | ListComp elt gs sc p=>exact qOc ST h
 | Call f args kws p=>exact qOR ST G h
 | _=>exact nos h
theorem c_s (G:Glo lp hb prog w₀ b F LF mg mb) {e:Expr} {m:MC} (h:stC t c e=some m):SoundC lp hb prog w₀ b F LF c e m:=by
 cases e with
 | UnaryOp op x p=>exact gdE h fun ho h=>mapE h fun y hy=>beq_iff_eq.mp ho ▸ qOp (ST.C hy) _
 | BoolOp op es p=>exact qAC h fun q hq h=>qAC h fun x hx h=>qAC h fun y hy h=>okE h (by
  rw [two?_eq hq]
  clear h hq G
  cases op with
  | And=>exact qO8 (ST.C hx) (ST.C hy) _
  | Or=>exact sTor (ST.C hx) (ST.C hy) _)
 | Compare l ops rs p =>
  exact orE h (fun h=>qAC h fun o ho h=>qAC h fun q hq h=>qAC h fun o1 h1 h=>qAC h fun o2 h2 h=>qAC h fun x hx h=>qAC h fun y hy h=>qAC h fun z hz h=>okE h (by
   rw [two?_eq ho,two?_eq hq]
   exact qOG G h1 h2 (ST.E hx) (ST.E hy) (ST.E hz) (qEH _ _ (ST.set hz)) _))
   fun op hop h=>qAC h fun r hr h=>by
    rw [one?_eq hop,one?_eq hr]
    exact iteE h (fun hc h=>mapE h fun x hx=>andE hc fun h1 h2=>beq_iff_eq.mp h1 ▸ qOI (R:=fun r=>SoundC lp hb prog w₀ b F LF c (.Compare l [.IsNot] [r] p) _) (beq_iff_eq.mp h2) fun _ _=>qOZ (ST.E hx) _ _ _)
     fun h=>qAC h fun o ho h=>qAC h fun x hx h=>qAC h fun y hy h=>okE h (qPI G ho (ST.E hx) (ST.E hy) (qEH _ _ (ST.set hy)) _)
 | IfExp=>exact nos h
 | _=>exact mapE h fun x hx=>qO0 (ST.E hx) fun env whole=>rfl
end
section
variable {lp:LexP} {hb:Heap} {prog:Program} {w₀:World} {b:Nat} {F:Str->List D->D->Prop} {LF:LexF} {mg mb:Str->Option Value} {c:Sc}
theorem qBm {n:Nat} {e:Expr} {m:ME} (h:trE n c e=some m):∀ x p,e≠.Starred x p:=fun x p q=>by
 subst q; cases n <;> exact nos h
theorem qDC {n:Nat} {e:Expr} {m:ME} (h:trE n c e=some m):∀ es k p,e≠.Set es k p:=fun es k p q=>by
 subst q; cases n <;> exact nos h
theorem qD3 {n:Nat} {e:Expr} {m:ME} (h:trE n c e=some m):NoStar [e]:=fun env=>by rw [qBf (qBm h)]; rfl
theorem qAk (G:Glo lp hb prog w₀ b F LF mg mb):∀ n:Nat,STR lp hb prog w₀ b F LF (tr n)
 | 0=>⟨fun h=>nos h,fun h=>nos h,qBm (n:=0),qDC (n:=0)⟩
 | n+1=>⟨e_s (qAk G n) G,c_s (qAk G n) G,qBm (n:=n+1),qDC (n:=n+1)⟩
end
section
variable {lp:LexP} {hb:Heap} {prog:Program} {w₀:World} {b:Nat} {F:Str->List D->D->Prop} {LF:LexF} {mg mb:Str->Option Value} {c:Sc}
theorem LRes.le {S₀ S:St} {w:W} {K:List D->Prop} {v:Value} {s':Shared} (L:Le S₀ S) (h:LRes lp hb S w K v s'):LRes lp hb S₀ w K v s':=by
 obtain ⟨S',a,vs,xs,e1,e2,O,L',h1,r1,r2,r3,r4,r5⟩:=h
 exact ⟨S',a,vs,xs,e1,e2,O,L.trans L',L.none h1,r1,r2,r3,r4,r5⟩
noncomputable def ORes (lp:LexP) (hb:Heap) (S:St) (Q:List D->W->Prop) (v:Value) (s':Shared):Prop:=∃ w',LRes lp hb S w' (fun xs=>Q xs w') v s'
theorem qI8 (G:Glo lp hb prog w₀ b F LF mg mb) {e:Expr} {m:ME} (h:trO c e=some m) {A:Around} {env:Env} {σ:List Slot} {S:St} {w:W} {Q:List D->W->Prop} (hA:AOk b A) (C:ScOk c env) (Fk:FrOk c.tbl env σ S) (O:Ok lp hb S w)
 (q:EO F LF m σ w Q):wpAny (model prog w₀) A (eval e env) (ORes lp hb S Q) ff S.s:=by
 have T:=qAk G 60
 cases e with
 | List es p =>
  refine gdE h fun hn q1_=>?_
  clear h
  cases q1_
  rw [qCq hn]
  refine List_ (Calls.spliced_nil ?_)
  refine wpAny_newObj_type ?_ (by show ([]:List Value).toArray.size≤sizeLine; rw [sizeLine_eq]; exact Nat.zero_le _)
  exact ⟨w,LRes.push O (K:=fun xs=>Q xs w) (tk:=S.s.toks) (vs:=#[]) (xs:=[]) (n:=0) .nil q⟩
 | BinOp l op r p =>
  refine qAC h fun o ho q1_=>qAC q1_ fun ml hl q2_=>qAC q2_ fun mr hr q3_=>?_
  clear h q1_ q2_
  cases q3_
  refine wpAny_BinOp ((T.E hl).run hA C Fk O q fun S1 w1 d1 v O1 L1 R1 q=>?_)
  refine (T.E hr).run hA C (Fk.up L1) O1 q fun S2 w2 d2 v2 O2 L2 R2 q=>?_
  exact wpAny_mono (qEb O2 ho (R1.mono L2.sub) R2 q) (fun v s' q3_=>⟨w2,q3_.le (L1.trans L2)⟩) fun _ _ q3_=>q3_
 | Call f args kws p =>
  refine gdE h fun hk q1_=>qAC q1_ fun a ha q2_=>gdE q2_ fun hc q3_=>qAC q3_ fun x hx q4_=>qAC q4_ fun k hk' q5_=>qAC q5_ fun mm hmm q6_=>qAC q6_ fun ml hl q7_=>andE hc fun hline hfew=>?_
  clear h q1_ q2_ q3_ q4_ q5_ q6_
  cases q7_
  rw [qCq hk]
  refine qNc (R:=fun f=>wpAny (model prog w₀) A (eval (.Call f args [] p) env) (ORes lp hb S Q) ff S.s) ha ?_
  refine eNmE (R:=fun v=>wpAny (model prog w₀) A (eval (.Call (.Attribute v a.2.1 a.2.2) args [] p) env) (ORes lp hb S Q) ff S.s) hx fun p1=>?_
  refine qJv (sVar hk' _) (T.L hl).1 (T.L hl).2.1 (T.L hl).2.2 (of_decide_eq_true hfew) hmm (fun env=>rfl) _ _ hline hA C Fk O q (fun S' w' v d vs ds O' L R RL q=>?_)
  exact wpAny_mono (qES O' R RL q) (fun v s' q7_=>⟨w',q7_.le L⟩) fun _ _ q7_=>q7_
 | _=>exact nos h
theorem Ok.own1 {S₀ S:St} {w:W} (O:Ok lp hb S w) (L:Le S₀ S) {a:Addr} {vs:Array Value} {xs:List D} (hn:S₀.h.get? a=none) (hB:S.B a=none) (hf:a ∉ S.fps) (hl:S.h.PlainList a vs) (r:RepL S.B vs.toList xs) :
 Ok lp hb ⟨S.B,S.own++[(a,[a])],S.s⟩ (w++[.lst xs])/\Le S₀ ⟨S.B,S.own++[(a,[a])],S.s⟩/\(S.own++[(a,[a])])[w.length]?=some (a,[a]):=by
 refine ⟨O.addOwn (p:=(a,[a])) (x:=.lst xs) ⟨rfl,vs,hl,r⟩ (fun b hb'=>?_) (fun b hb'=>?_) (by simp),L.addOwn (p:=(a,[a])) fun b hb'=>?_,?_⟩
 · simp at hb'; subst hb'; exact hB
 · simp at hb'; subst hb'; exact hf
 · simp at hb'; subst hb'; exact hn
 · rw [← O.len]; simp
inductive SRes (lp:LexP) (hb:Heap) (c:Sc) (env:Env) (S:St) (Q:Fl->Sg->W->Prop) (f:Flow) (s':Shared):Prop
 | mk (S':St) (σ':List Slot) (w':W) (fl:Fl) (h0:S'.s=s') (h1:Ok lp hb S' w') (h2:LeX (Own c env) S S') (h3:FrOk c.tbl env σ' S') (h4:(match fl with | .nxt=>f=.next | .cnt=>f=.cont | .ret d=>∃ v,f=.ret v/\Rep S'.B v d)) (h5:Q fl σ' w'):SRes lp hb c env S Q f s'
noncomputable def qAR (lp:LexP) (hb:Heap) (prog:Program) (w₀:World) (b:Nat) (F:Str->List D->D->Prop) (LF:LexF) (c:Sc) (s:Stmt) (m:MS):Prop :=
 ∀ A env σ S w Q,AOk b A->ScOk c env->FrOk c.tbl env σ S->Ok lp hb S w->SS F LF m σ w Q->wpAny (model prog w₀) A (exec s env) (SRes lp hb c env S Q) ff S.s
noncomputable def qBZ (lp:LexP) (hb:Heap) (prog:Program) (w₀:World) (b:Nat) (F:Str->List D->D->Prop) (LF:LexF) (c:Sc) (ss:List Stmt) (m:MSL):Prop :=
 ∀ A env σ S w Q,AOk b A->ScOk c env->FrOk c.tbl env σ S->Ok lp hb S w->SL F LF m σ w Q->wpAny (model prog w₀) A (execs ss env) (SRes lp hb c env S Q) ff S.s
theorem SRes.le {X:Addr->Prop} {env:Env} {S₀ S:St} {Q:Fl->Sg->W->Prop} {f:Flow} {s':Shared} (L:LeX X S₀ S) (hX:∀ a o,S₀.h.get? a=some o->X a->Own c env a) (h:SRes lp hb c env S Q f s'):SRes lp hb c env S₀ Q f s':=by
 obtain ⟨S',σ',w',fl,e,O,L',r1,r2,r3⟩:=h
 exact ⟨S',σ',w',fl,e,O,(L.weaken hX).trans L',r1,r2,r3⟩
theorem SRes.up {env:Env} {S₀ S:St} {Q:Fl->Sg->W->Prop} {f:Flow} {s':Shared} (L:Le S₀ S) (h:SRes lp hb c env S Q f s'):SRes lp hb c env S₀ Q f s':=h.le L fun _ _ _ h=>h.elim
theorem SRes.ups {env:Env} {S₀ S:St} {Q:Fl->Sg->W->Prop} {f:Flow} {s':Shared} (L:LeX (Own c env) S₀ S) (h:SRes lp hb c env S Q f s'):SRes lp hb c env S₀ Q f s':=h.le L fun _ _ _ h=>h
theorem tRet {e:Expr} {m:ME} (h:SoundE lp hb prog w₀ b F LF c e m) (p:Pos):qAR lp hb prog w₀ b F LF c (.Return (some e) p) (.ret m):=by
 intro A env σ S w Q hA C Fk O q
 simp only [SS] at q
 refine wpAny_Return_some (h.run hA C Fk O q fun S1 w1 d1 v O1 L1 R1 q=>?_)
 exact ⟨S1,σ,w1,.ret d1,rfl,O1,L1.weaken fun _ _ _ h=>h.elim,Fk.up L1,⟨v,rfl,R1⟩,q⟩
theorem qPH (p:Pos):qAR lp hb prog w₀ b F LF c (.Continue p) .cont:=by
 intro A env σ S w Q hA C Fk O q
 simp only [SS] at q
 exact wpAny_Continue ⟨S,σ,w,.cnt,rfl,O,LeX.refl _ _,Fk,rfl,q⟩
theorem tIf {t:Expr} {xs ys:List Stmt} {mt:MC} {mx my:MSL} (ht:SoundC lp hb prog w₀ b F LF c t mt) (hx:qBZ lp hb prog w₀ b F LF c xs mx) (hy:qBZ lp hb prog w₀ b F LF c ys my) (p:Pos) :
 qAR lp hb prog w₀ b F LF c (.If t xs ys p) (.ife mt mx my):=by
 intro A env σ S w Q hA C Fk O q
 simp only [SS] at q
 refine wpAny_If (ht.run hA C Fk O q fun S1 w1 t O1 L1 q=>?_)
 cases t with
 | true =>
  rw [if_pos rfl] at q ⊢
  exact wpAny_mono (hx A env σ S1 w1 _ hA C (Fk.up L1) O1 q) (fun v s' h=>h.up L1) fun _ _ h=>h
 | false =>
  rw [if_neg (by decide)] at q ⊢
  exact wpAny_mono (hy A env σ S1 w1 _ hA C (Fk.up L1) O1 q) (fun v s' h=>h.up L1) fun _ _ h=>h
theorem qPB {t:Expr} {mt:MC} (ht:SoundC lp hb prog w₀ b F LF c t mt) (p:Pos):qAR lp hb prog w₀ b F LF c (.Assert t none p) (.asrt mt):=by
 intro A env σ S w Q hA C Fk O q
 simp only [SS] at q
 refine wpAny_Assert_holds (ht.run hA C Fk O q fun S1 w1 t O1 L1 q=>?_)
 refine x02 q fun e q=>?_
 exact ⟨e,S1,σ,w1,.nxt,rfl,O1,L1.weaken fun _ _ _ h=>h.elim,Fk.up L1,rfl,q⟩
theorem tNil:qBZ lp hb prog w₀ b F LF c [] .nil:=by
 intro A env σ S w Q hA C Fk O q
 simp only [SL] at q
 exact wpAny_execs_nil ⟨S,σ,w,.nxt,rfl,O,LeX.refl _ _,Fk,rfl,q⟩
theorem qPP {s:Stmt} {r:List Stmt} {ms:MS} {mr:MSL} (hs:qAR lp hb prog w₀ b F LF c s ms) (hr:qBZ lp hb prog w₀ b F LF c r mr):qBZ lp hb prog w₀ b F LF c (s::r) (.cons ms mr):=by
 intro A env σ S w Q hA C Fk O q
 dsimp only [SL] at q
 refine wpAny_execs_cons (wpAny_mono (hs A env σ S w _ hA C Fk O q) (fun f s' h=>?_) fun _ _ h=>h)
 obtain ⟨S1,σ1,w1,fl,rfl,O1,L1,F1,hf,q⟩:=h
 cases fl with
 | nxt =>
  have hf:f=.next:=hf
  subst hf
  exact wpAny_mono (hr A env σ1 S1 w1 _ hA C F1 O1 q) (fun v s' h=>h.ups L1) fun _ _ h=>h
 | cnt =>
  have hf:f=.cont:=hf
  subst hf
  exact ⟨S1,σ1,w1,.cnt,rfl,O1,L1,F1,rfl,q⟩
 | ret d =>
  refine x12 hf fun v eq1 r=>?_
  clear hf
  subst eq1
  exact ⟨S1,σ1,w1,.ret d,rfl,O1,L1,F1,⟨v,rfl,r⟩,q⟩
theorem qHV {A:Around} {env:Env} {σ:List Slot} {S₀ S:St} {w:W} (C:ScOk c env) (Fk:FrOk c.tbl env σ S) (O:Ok lp hb S w) {x:Str} {k:Nat} (hv:c.var x=some k) (hL:qAY c x=true) {v:Value} {d:D} (r:Rep S.B v d) {Q:Fl->Sg->W->Prop} (L:Le S₀ S)
 (q:Q .nxt (σ.set k (.dat d)) w):wpAny (model prog w₀) A (storeName env x v) (fun _ s'=>SRes lp hb c env S₀ Q .next s') ff S.s :=
 wpAny_mono (qCl C Fk O hv hL r (K:=fun σ'=>Q .nxt σ' w) q) (fun _ s' h=>(by
  obtain ⟨S2,σ2,rfl,O2,L2,F2,q⟩:=h
  exact SRes.up L ⟨S2,σ2,w,.nxt,rfl,O2,L2,F2,rfl,q⟩)) fun _ _ h=>h
theorem qL4 {A:Around} {env:Env} {σ:List Slot} {S₀:St} (C:ScOk c env) (Fk:FrOk c.tbl env σ S₀) {x:Str} {k:Nat} (hv:c.var x=some k) (hL:qAY c x=true) {v:Value} {s:Shared} {Q:Fl->Sg->W->Prop}
 (h:ORes lp hb S₀ (fun xs w=>Q .nxt (σ.set k (.loc w.length)) (w++[.lst xs])) v s):wpAny (model prog w₀) A (storeName env x v) (fun _ s'=>SRes lp hb c env S₀ Q .next s') ff s:=by
 obtain ⟨w1,S1,a,vs,xs,rfl,rfl,O1,L1,hn,hB,hf,hl,r,q⟩:=h
 refine x03 (O1.own1 L1 hn hB hf hl r) fun O2 L2 h2=>?_
 refine qCu (S:=⟨S1.B,S1.own++[(a,[a])],S1.s⟩) C (Fk.up L2) O2 hv hL (sl:=.loc w1.length) ⟨_,h2,rfl⟩ fun S' O' L' _ _ Fk'=>?_
 exact ⟨S',_,_,.nxt,rfl,O',LeX.trans (L2.weaken fun _ _ _ h=>h.elim) (L'.weaken fun y _ _ e=>⟨x,k,hv,hL,e⟩),Fk',rfl,q⟩
end
section
variable {lp:LexP} {hb:Heap} {prog:Program} {w₀:World} {b:Nat} {F:Str->List D->D->Prop} {LF:LexF} {mg mb:Str->Option Value} {c:Sc}
set_option tactic.hygienic true in
theorem qEE {env:Env} {σ:List Slot} {S:St} (C:ScOk c env) (Fk:FrOk c.tbl env σ S) {a:Addr} (h:Own c env a):Holds env a:=by
 refine x23 h fun x k hv hL eq4=>?_
 clear h
 subst eq4
 unfold qDy
 split
 · exact .inl rfl
 · rename_i hl
   have hcell:env.kindOf x=some .cell:=by
    rcases C.isL hL with e | e
    · exact absurd e hl
    · exact e
   have hk:k<σ.length:=by rw [Fk.size]; exact (List.getElem?_eq_some_iff.mp (Sc.var_get hv)).1
   refine x23 (Fk.cel k x _ (Sc.var_get hv) (List.getElem?_eq_getElem hk) (.inl hcell)) fun cc v' h1 _ _=>?_
   rw [h1]
   exact .inr ⟨x,qAw h1⟩
theorem qFY {x:Str} {k:Nat} {v:Expr} {m:ME} (hv:c.var x=some k) (hL:qAY c x=true) (h:SoundE lp hb prog w₀ b F LF c v m) (px p:Pos) {A:Around} {env:Env} {σ:List Slot} {S:St} {w:W} {Q:Fl->Sg->W->Prop} (hA:AOk b A) (C:ScOk c env)
 (Fk:FrOk c.tbl env σ S) (O:Ok lp hb S w) (q:SS F LF (.asg k m) σ w Q) (hs:swapsWith v (some (.Name x px)) p.line env=pure false):wpAny (model prog w₀) A (exec (.Assign [.Name x px] v p) env) (SRes lp hb c env S Q) ff S.s:=by
 simp only [SS] at q
 refine wpAny_Assign_Name (h.run hA C Fk O q fun S1 w1 d1 v O1 L1 R1 q=>?_) hs
 exact qHV C (Fk.up L1) O1 hv hL R1 L1 q
theorem qIj (G:Glo lp hb prog w₀ b F LF mg mb) {n:Nat} {elt:Expr} {gens:List Comprehension} {sc:Scope} {p:Pos} {m:ME} (h:trE n c (.ListComp elt gens sc p)=some m):∃ t it ifs ts mit step,gens=[⟨t,it,ifs,0⟩]/\SoundE lp hb prog w₀ b F LF c it mit /\
 qDg lp hb prog w₀ b { c with names:=sc.names } ifs elt step/\sc.kind=.function/\qAP { c with names:=sc.names } t=some ts/\qBG c sc.names ts=true/\(∀ env x,foldedSetIterable it env x=pure x) /\
 ∀ σ w Q,E F LF m σ w Q->E F LF mit σ w fun d w=>qAm d fun xs=>qBL (fun x w k=>qAJ ts x σ fun σ=>step σ w k) xs w fun ds w=>Q (.list ds) w:=by
 cases n with
 | zero=>exact nos h
 | succ n =>
  have T:=qAk G n
  refine qAC h fun g hg q1_=>qAC q1_ fun ts ht q2_=>qAC q2_ fun it hit q3_=>qAC q3_ fun x hx q4_=>gdE q4_ fun hc q5_=>andE hc fun hc h3=>andE hc fun h1 h2=>?_
  clear h q1_ q2_ q3_ q4_
  clear hc
  obtain ⟨tg,ie,ifs,ia⟩:=g
  cases beq_iff_eq.mp h1
  refine ⟨tg,ie,ifs,ts,it,?_⟩
  refine orE q5_ (fun q5_=>gdE q5_ fun hn q5_=>?_) fun e he q5_=>qAC q5_ fun mc hmc q5_=>?_
  · cases q5_
    cases qCq hn
    exact ⟨_,one?_eq hg,T.E hit,qHQ (T.E hx),beq_iff_eq.mp h2,ht,h3,qBS (T.set hit),fun σ w Q q=>q⟩
  · cases q5_
    clear q5_ h1 hc G
    cases one?_eq he
    exact ⟨_,one?_eq hg,T.E hit,qJo (T.E hx) (T.C hmc),beq_iff_eq.mp h2,ht,h3,qBS (T.set hit),fun σ w Q q=>q⟩
theorem tAsg (G:Glo lp hb prog w₀ b F LF mg mb) {x:Str} {k:Nat} {v:Expr} {m:ME} (hv:c.var x=some k) (hL:qAY c x=true) (h:trE 60 c v=some m) (px p:Pos):qAR lp hb prog w₀ b F LF c (.Assign [.Name x px] v p) (.asg k m):=by
 intro A env σ S w Q hA C Fk O q
 by_cases hlc:∃ elt gens sc p',v=.ListComp elt gens sc p'
 · refine x41 hlc fun elt gens sc p' eq4=>?_
   clear hlc
   subst eq4
   have hsw:∃ bb,swapsWith (.ListComp elt gens sc p') (some (.Name x px)) p.line env=pure bb:=⟨_,rfl⟩
   obtain ⟨bb,hsw⟩:=hsw
   cases bb with
   | false=>exact qFY hv hL ((qAk G 60).E h) px p hA C Fk O q hsw
   | true =>
    refine x68 (qIj G h) fun t it ifs ts mit step eq6 hit hst hk ht hf hs hE=>?_
    subst eq6
    simp only [SS] at q
    rw [exec_Assign_Name_used _ _ _ _ hsw]
    refine wpAny_bind (wpAny_standAt (wpAny_bind ?_))
    show wpAny _ A (do let _ ← comprehension (.ListComp elt [⟨t,it,ifs,0⟩] sc p') sc env _ (newList []) false (eval it env) (some (assign (.Name x px) env))) _ _ _
    refine wpAny_bind (wpAny_mono (qHS (use:=some (assign (.Name x px) env)) (Q':=fun _ s'=>SRes lp hb c env S Q .next s') hit hst hk ht hf hs hA C Fk O (hE _ _ _ q) fun D Cc s' h=>?_) (fun _ s' hq=>wpAny_pure (wpAny_pure hq)) fun _ _ e=>e)
    obtain ⟨S',w',vs,ds,m',rfl,O',L',hm,hcB,hcf,hcn,hne,hdB,hdf,hdn,⟨n,hl⟩,hr,k'⟩:=h
    show wpAny _ A (assign (.Name x px) env (.ref D)) _ _ _
    have L2:Le S _:=L'.freeze (o:={ cls:=.type "list",data:=.seq vs n }) hdn hdB
    have hHC:¬ Holds env Cc:=fun hh=>by
     refine x03 (Fk.hold Cc hh) fun _ _ r9=>x11 r9 fun o ho=>?_
     rw [hcn] at ho; cases ho
    refine wpAny_assign_Name (wpAny_mono (qCl (S:={ S' with B:=S'.B.put D { cls:=.type "list",data:=.seq vs n } }) C (Fk.up L2) (O'.freeze hl hdB hdf) hv hL (.list (Fz.put_self _ _ _) rfl rfl (hr.mono (qHP hdB))) (K:=fun σ'=>Q .nxt σ' w') k') (fun _ s' h=>?_) fun _ _ h=>h)
    obtain ⟨S3,σ3,rfl,O3,L3,F3,q⟩:=h
    have hidle:Idle { S' with B:=S'.B.put D { cls:=.type "list",data:=.seq vs n } } Cc:=by
     refine ⟨?_,hcf,let ⟨o,_,_,ho,_⟩:=hm; ⟨o,ho⟩⟩
     show Fz.put _ _ _ _=_
     unfold Fz.put
     rw [if_neg hne]; exact hcB
    obtain ⟨hi3,keepC⟩:=L3.idle hidle (fun hh=>hHC (qEE C Fk hh))
    refine ⟨m',hm.at' keepC,fun h' hs'=>?_⟩
    have keep:∀ b o,b≠Cc->S3.h.get? b=some o->h'.get? b=some o:=fun b o hne e=>hs'.extBut b o hne e
    refine x02 (O3.pokeNew (LeX.trans (L2.weaken fun _ _ _ h=>h.elim) L3) (a:=Cc) (h':=h') (tk:=S3.s.toks) hi3.1 hi3.2.1 hcn keep) fun O4 L4=>?_
    exact ⟨S3.at h' S3.s.toks,σ3,w',.nxt,rfl,O4,L4,F3.poke hHC keep,rfl,q⟩
 · refine qFY hv hL ((qAk G 60).E h) px p hA C Fk O q ?_
   cases v <;> first
    | rfl
    | exact absurd ⟨_,_,_,_,rfl⟩ hlc
    | exact nos h
theorem qPS (G:Glo lp hb prog w₀ b F LF mg mb) {x:Str} {k:Nat} {v:Expr} {m:ME} (hv:c.var x=some k) (hL:qAY c x=true) (h:trO c v=some m) (px p:Pos):qAR lp hb prog w₀ b F LF c (.Assign [.Name x px] v p) (.asgO k m):=by
 intro A env σ S w Q hA C Fk O q
 simp only [SS] at q
 refine wpAny_Assign_Name (wpAny_mono (qI8 G h hA C Fk O q) (fun v s' h=>qL4 C Fk hv hL h) fun _ _ h=>h) ?_
 cases v <;> first | rfl | exact nos h
theorem qNH (G:Glo lp hb prog w₀ b F LF mg mb) {x:Str} {k n:Nat} {e:Expr} {m:ME} (hv:c.var x=some k) (hL:qAY c x=true) (hx:c.isGlob "_law_lexer" = true) (h:trE n c e=some m) (px p1 p2 p:Pos) :
 qAR lp hb prog w₀ b F LF c (.Assign [.Name x px] (.Call (.Name "_law_lexer" p1) [e] [] p2) p) (.newlex k m):=by
 intro A env σ S w Q hA C Fk O q
 dsimp only [SS] at q
 refine wpAny_Assign_Name (qDq G hx ((qAk G n).E h) (qD3 h) p1 p2 hA C Fk O (K:=fun s w=>Q .nxt (σ.set k (.loc w.length)) (w++[.lex [] s])) q fun S1 S' w' pp s L1 O' L' hl hp kk hs=>?_) rfl
 refine qCu C (Fk.up (L1.trans L')) O' hv hL (sl:=.loc w'.length) ⟨_,hp,rfl⟩ fun S2 O2 L2 _ _ F2=>?_
 exact ⟨S2,_,_,.nxt,rfl,O2,LeX.trans ((L1.trans L').weaken fun _ _ _ h=>h.elim) (L2.weaken fun y _ _ e=>⟨x,k,hv,hL,e⟩),F2,rfl,kk⟩
theorem tUnp (G:Glo lp hb prog w₀ b F LF mg mb) {n:Nat} {ts:List Expr} {kk:Nat} {ks:List Nat} {pt p:Pos} {v:Expr} {m:ME} (ht:qAP c (.Tuple ts kk pt)=some ks) (h:trE n c v=some m) (hnt:∀ es k p,v≠.Tuple es k p) :
 qAR lp hb prog w₀ b F LF c (.Assign [.Tuple ts kk pt] v p) (.unp ks m):=by
 intro A env σ S w Q hA C Fk O q
 simp only [SS] at q
 refine wpAny_Assign_stores (wpAny_mono ((qAk G n).E h A env σ S w _ hA C Fk O q) (fun v s' h=>?_) fun _ _ h=>h) ?_ ?_
 · obtain ⟨S1,w1,d1,rfl,O1,L1,R1,q⟩:=h
   show wpAny _ A (assignAll v [assign (.Tuple ts kk pt) env]) _ _ _
   show wpAny _ A (assign (.Tuple ts kk pt) env v) _ _ _
   refine wpAny_mono (qCN (K:=fun σ'=>Q .nxt σ' w1) hA.handled C (Fk.up L1) O1 ht R1 q) (fun _ s' h=>?_) fun _ _ h=>h
   obtain ⟨S2,σ2,rfl,O2,L2,F2,q⟩:=h
   exact SRes.up L1 ⟨S2,σ2,w1,.nxt,rfl,O2,L2,F2,rfl,q⟩
 · show swapsWith v (some (.Tuple ts kk pt)) p.line env=pure false
   clear q O Fk C hA hnt ht G
   cases n with
   | zero=>exact nos h
   | succ n=>cases v <;> first | rfl | exact nos h
 · clear h
   cases v <;> first | rfl | exact absurd rfl (hnt _ _ _)
set_option tactic.hygienic true in
theorem tAug {x:Str} {k:Nat} {op:Operator} {o:BOp} {v:Expr} {m:ME} (hv:c.var x=some k) (hL:qAY c x=true) (ho:trOp op=some o) (h:SoundE lp hb prog w₀ b F LF c v m) (px p:Pos):qAR lp hb prog w₀ b F LF c (.AugAssign (.Name x px) op v p) (.aug k o m):=by
 intro A env σ S w Q hA C Fk O q
 simp only [SS] at q
 generalize hsl:σ.getD k .unb=sl at q
 split at q
 · rename_i i
   refine cps fun X9 k9=>?_
   refine x13 (qJB (prog:=prog) (w₀:=w₀) (A:=A) (Er:=ff) C Fk hv (qB7 σ k hsl (by simp)) (by simp)) fun v0 hs _ ld=>?_
   obtain ⟨v',e,r⟩:=hs
   refine k9 ?_
   clear k9
   cases e
   refine wpAny_AugAssign_Name (ld _ (h.run hA C Fk O q fun S1 w1 d1 v2 O1 L1 R1 q=>?_))
   clear ld hsl O hA h
   obtain ⟨t,rfl⟩:=r.int'
   have fin:∀ (y:Int),Q .nxt (σ.set k (.dat (.int y))) w1->wpAny (model prog w₀) A (storeName env x (.int y S1.s.toks)) (fun _ s'=>SRes lp hb c env S Q .next s') ff { S1.s with toks:=S1.s.toks+1 }:=fun y q=>by
    refine x02 (O1.tok (tk:=S1.s.toks+1)) fun O2 L2=>?_
    exact qHV (S:={ S1 with s:={ S1.s with toks:=S1.s.toks+1 } }) C ((Fk.up L1).up L2) O2 hv hL (.int _ _) (L1.trans L2) q
   split at q
   · obtain ⟨u,rfl⟩:=R1.int'
     cases op <;> simp [trOp] at ho
     exact P.iadd_int (fin _ q)
   · obtain ⟨u,rfl⟩:=R1.int'
     cases op <;> simp [trOp] at ho
     exact P.isub_int (fin _ q)
   · exact q.elim
 · exact q.elim
end
section
variable {lp:LexP} {hb:Heap} {prog:Program} {w₀:World} {b:Nat} {F:Str->List D->D->Prop} {LF:LexF} {mg mb:Str->Option Value} {c:Sc}
theorem qEk {vs:Array Value} (h:vs.size≠0):(vs.eraseIdxIfInBounds 0).toList=vs.toList.tail:=by
 simp [Array.eraseIdxIfInBounds,Nat.pos_of_ne_zero h]
theorem qEj {vs:Array Value} (h:vs.size≠0):(vs.eraseIdxIfInBounds (vs.size-1)).toList=vs.toList.dropLast:=by
 have:vs.size-1<vs.size:=by exact ar39 ‹_›
 have e:vs.toList.length-1+1=vs.toList.length:=by rw [Array.length_toList]; (exact ar40 ‹_›)
 rw [Array.eraseIdxIfInBounds,dif_pos this,Array.toList_eraseIdx,List.eraseIdx_eq_take_drop_succ,List.dropLast_eq_take,← Array.length_toList,e,List.drop_length,List.append_nil]
theorem RepL.tail {B:Fz} {vs:List Value} {xs:List D} (r:RepL B vs xs):RepL B vs.tail xs.tail:=by
 cases r with
 | nil=>exact .nil
 | cons _ r=>exact r
theorem RepL.dropLast {B:Fz} {vs:List Value} {xs:List D} (r:RepL B vs xs):RepL B vs.dropLast xs.dropLast:=by
 rw [List.dropLast_eq_take,List.dropLast_eq_take,r.length]
 exact r.take _
theorem qKA {A:Around} {env:Env} {σ:List Slot} {S:St} {w:W} (C:ScOk c env) (Fk:FrOk c.tbl env σ S) (O:Ok lp hb S w) {x:Str} {k j:Nat} (hv:c.var x=some k) (hs:σ.getD k .unb=.loc j) {xs:List D} (hw:w[j]?=some (.lst xs)) :
 ∃ p vs,S.own[j]?=some p/\S.h.PlainList p.1 vs/\RepL S.B vs.toList xs/\∀ (ps:Pos) (Q:Value->Shared->Prop),Q (.ref p.1) S.s->wpAny (model prog w₀) A (eval (.Name x ps) env) Q ff S.s:=by
 refine cps fun X9 k9=>?_
 refine x12 (qHB (prog:=prog) (w₀:=w₀) (A:=A) C Fk hv hs) fun p hp ld=>?_
 refine x02 (O.at_ j p _ hp hw) fun _ r9=>x12 r9 fun vs l r=>?_
 refine k9 ?_
 clear k9
 exact ⟨p,vs,hp,l,r,ld⟩
set_option tactic.hygienic true in
theorem tDel {x:Str} {k:Nat} {i:Int} {ie:Expr} (hv:c.var x=some k) (hi:SoundE lp hb prog w₀ b F LF c ie (.cst (.int i))) (p1 p2 p:Pos):qAR lp hb prog w₀ b F LF c (.Delete [.Subscript (.Name x p1) ie p2] p) (.del k i):=by
 intro A env σ S w Q hA C Fk O q
 simp only [SS] at q
 generalize hsl:σ.getD k .unb=sl at q
 split at q
 · rename_i j
   split at q
   · rename_i xs hw
     obtain ⟨hlen,q⟩:=q
     refine x24 (qKA (prog:=prog) (w₀:=w₀) (A:=A) C Fk O hv hsl hw) fun pp vs hp hl hr ld=>?_
     refine wpAny_Delete (wpAny_deleteEach_cons (wpAny_delete_Subscript (ld p1 _ ?_)))
     refine wpAny_mono (hi A env σ S w (fun d w1=>d=.int i/\w1=w) hA C Fk O (by simp only [E]; exact ⟨rfl,trivial⟩)) (fun v s' h=>?_) fun _ _ h=>h
     refine cps fun X9 k9=>?_
     obtain ⟨S1,w1,d1,rfl,O1,L1,R1,rfl,rfl⟩:=h
     obtain ⟨t,rfl⟩:=R1.int'
     obtain ⟨p',hp',e'⟩:=L1.own j pp hp
     refine x02 (O1.at_ j p' _ hp' hw) fun e2 r9=>x12 r9 fun vs1 hl1 hr1=>?_
     refine k9 ?_
     clear k9
     rw [← e']
     have e1:vs1.size=xs.length:=by simpa using hr1.length
     have fin:∀ (kk:Nat) ys,seqIndex? i vs1.size=some kk->Builtin.List.listFitsIndex i=true->RepL S1.B (vs1.eraseIdxIfInBounds kk).toList ys->Q .nxt σ (w1.set j (.lst ys)) ->
      wpAny (model prog w₀) A (delItem (.ref p'.1) (.int i t)) (fun _ s₁=>wpAny (model prog w₀) A (deleteEach [] env) (fun _ s₁=>SRes lp hb c env S Q .next s₁) ff s₁) ff S1.s:=by
      intro kk ys hk hfit hr2 q
      refine wpAny_delItem_plain hl1 hfit hk (fun h' hl' hs'=>wpAny_deleteEach_nil ?_) (by rw [e1,sizeLine_eq]; exact hlen)
      refine x13 (O1.turn (tk:=S1.s.toks) hp' hw hl' hr2 fun b o e hne=>hs'.extBut b o hne e) fun S2 e3 O2 L2=>?_
      have LL:Le S S2:=L1.trans L2
      rw [show ({ S1.s with heap:=h' }:Shared)=S2.s by rw [e3]]
      exact ⟨S2,σ,_,.nxt,rfl,O2,LL.weaken fun _ _ _ h=>h.elim,Fk.up LL,rfl,q⟩
     clear r9 hp' R1 hw O O1 hr hp hlen hsl Fk hi
     rcases q with ⟨rfl,hne,q⟩ | ⟨rfl,hne,q⟩
     · have h0:vs1.size≠0:=by rw [e1]; intro h; exact hne (List.length_eq_zero_iff.mp h)
       refine fin 0 xs.tail ?_ (by decide) (by rw [qEk h0]; exact hr1.tail) q
       rw [StrLaws.seqIndex_nonneg (by decide) (by exact as36 ‹_›)]; rfl
     · have h0:vs1.size≠0:=by rw [e1]; intro h; exact hne (List.length_eq_zero_iff.mp h)
       refine fin (vs1.size-1) xs.dropLast ?_ (by decide) (by rw [qEj h0]; exact hr1.dropLast) q
       rw [StrLaws.seqIndex_neg (by decide) (by lia)]
       congr 1
       (exact ar9 ‹_›)
   · exact q.elim
 · exact q.elim
set_option tactic.hygienic true in
theorem tApp {x:Str} {k:Nat} {e:Expr} {m:ME} {n:Nat} (hv:c.var x=some k) (he:SoundE lp hb prog w₀ b F LF c e m) (h0:trE n c e=some m) (p1 ap p2 p:Pos) (hline:qA6 ap p2=true) :
 qAR lp hb prog w₀ b F LF c (.Expr (.Call (.Attribute (.Name x p1) "append" ap) [e] [] p2) p) (.app k m):=by
 intro A env σ S w Q hA C Fk O q
 simp only [SS] at q
 generalize hsl:σ.getD k .unb=sl at q
 split at q
 · rename_i j
   refine cps fun X9 k9=>?_
   obtain ⟨⟨xs0,hw0⟩,q⟩:=q
   refine x24 (qKA (prog:=prog) (w₀:=w₀) (A:=A) C Fk O hv hsl hw0) fun pp vs hp hl hr ld=>?_
   have hint:interactive env=false:=by unfold interactive; rw [Fk.kind]; rfl
   refine k9 ?_
   clear k9
   rw [PySem.exec_Expr (hi:=hint) (hs:=rfl)]
   refine wpAny_bind (wpAny_standAt (wpAny_bind (qAx rfl (qD3 h0) (by simp) hline (ld p1 _ fun pl=>?_))))
   refine x11 (id hl) fun nn ho=>?_
   refine getMethod_list_append ho rfl rfl ?_
   show wpAny _ A (callWith p2 (.builtin "list.append") [.ref pp.1] (backTo p2 (starEach [e] env)) []) _ _ _
   rw [(qD3 h0).back]
   refine Calls.callWith_builtin rfl (evalArgs_plain (Calls.spliced_cons (he.run hA C Fk O q fun S1 w1 d1 v O1 L1 R1 q=>Calls.spliced_nil ?_)))
   split at q
   · rename_i xs hw
     refine cps fun X9 k9=>?_
     obtain ⟨p',hp',e'⟩:=L1.own j pp hp
     refine x02 (O1.at_ j p' _ hp' hw) fun e2 r9=>x12 r9 fun vs1 hl1 hr1=>?_
     have e1:vs1.size=xs.length:=by simpa using hr1.length
     refine k9 ?_
     clear k9
     show wpAny _ A (call (.builtin "list.append") [.ref pp.1,v]) _ _ _
     rw [← e']
     refine wpAny_list_append_plain (hsz:=by rw [e1,sizeLine_eq]; lia) hl1 fun h' hl' hs'=>?_
     refine wpAny_dropValue ?_
     refine x13 (O1.turn (tk:=S1.s.toks) hp' hw hl' (by simpa using hr1.append (.cons R1 .nil)) fun b o e hne=>hs'.extBut b o hne e) fun S2 e3 O2 L2=>?_
     have LL:Le S S2:=L1.trans L2
     rw [show ({ S1.s with heap:=h' }:Shared)=S2.s by rw [e3]]
     exact ⟨S2,σ,_,.nxt,rfl,O2,LL.weaken fun _ _ _ h=>h.elim,Fk.up LL,rfl,q.2⟩
   · exact q.elim
 · exact q.elim
set_option tactic.hygienic true in
theorem qPF (G:Glo lp hb prog w₀ b F LF mg mb) {x:Str} {k:Nat} {e:Expr} {m:ME} {n:Nat} (hv:c.var x=some k) (he:SoundE lp hb prog w₀ b F LF c e m) (h0:trE n c e=some m) (p1 ap p2 p:Pos) (hline:qA6 ap p2=true) :
 qAR lp hb prog w₀ b F LF c (.Expr (.Call (.Attribute (.Name x p1) "push_token" ap) [e] [] p2) p) (.push k m):=by
 intro A env σ S w Q hA C Fk O q
 simp only [SS] at q
 generalize hsl:σ.getD k .unb=sl at q
 split at q
 · rename_i j
   refine cps fun X9 k9=>?_
   obtain ⟨⟨pb0,sg0,hw0⟩,q⟩:=q
   refine x12 (qHB (prog:=prog) (w₀:=w₀) (A:=A) C Fk hv hsl) fun pp hp ld=>?_
   refine x34 G.push fun fa o fd ho hf hm hc=>?_
   have hint:interactive env=false:=by unfold interactive; rw [Fk.kind]; rfl
   refine k9 ?_
   clear k9
   rw [PySem.exec_Expr (hi:=hint) (hs:=rfl)]
   refine wpAny_bind (wpAny_standAt (wpAny_bind (qAx rfl (qD3 h0) (by simp) hline (ld p1 _ fun pl=>?_))))
   refine wpAny_mono (hm A S w j pp pb0 sg0 pl hA O hp hw0) (fun r s₂ h₂=>?_) fun _ _ e=>e
   obtain ⟨rfl,rfl⟩:=h₂
   show wpAny _ A (callWith p2 (.ref fa) [.ref pp.1] (backTo p2 (starEach [e] env)) []) _ _ _
   rw [(qD3 h0).back]
   refine Calls.callWith_function (o:=o) (fd:=fd) (evalArgs_plain (Calls.spliced_cons (he.run hA C Fk O q fun S1 w1 d1 v O1 L1 R1 q=>Calls.spliced_nil ?_)))
   refine ⟨⟨O1.heap _ _ ho,hf⟩,?_⟩
   split at q
   · rename_i t pb sg hw
     refine x12 (L1.own j pp hp) fun p' hp' e'=>?_
     show wpAny _ A (call (.ref fa) [.ref pp.1,v]) _ _ _
     rw [← e']
     refine wpAny_mono (hc A S1 w1 j p' pb sg v t hA O1 hp' hw q.1 R1) (fun v' s' h=>?_) fun _ _ e=>e
     refine x14 h fun S2 eq1 eq2 L2 O2=>?_
     subst eq1
     subst eq2
     refine wpAny_dropValue ?_
     have LL:Le S S2:=L1.trans L2
     exact ⟨S2,σ,_,.nxt,rfl,O2,LL.weaken fun _ _ _ h=>h.elim,Fk.up LL,rfl,q.2⟩
   · exact q.elim
 · exact q.elim
end
section
variable {lp:LexP} {hb:Heap} {prog:Program} {w₀:World} {b:Nat} {F:Str->List D->D->Prop} {LF:LexF} {mg mb:Str->Option Value} {c:Sc}
structure BunF (I:Addr) (fp:List Addr) (Sti:Nat->Heap->Prop) (P:Nat->Value->Prop) (xs:List Mine.D) (Si:St) (j:Nat):Prop where
 st:Sti j Si.h
 ii:Idle Si I
 fp:∀ b∈fp,b=I\/∃ o,Si.B b=some o
 pr:∀ (i:Nat) v,i<xs.length->P i v->∃ d,xs[i]?=some d/\∀ B:Fz,(∀ a o,Si.B a=some o->B a=some o)->Rep B v d
theorem BunF.step {Si Sj:St} {I:Addr} {fp:List Addr} {Sti:Nat->Heap->Prop} {P:Nat->Value->Prop} {xs:List Mine.D} {j:Nat} {A:Around} (U:BunF I fp Sti P xs Si j) {X:Addr->Prop} (L:LeX X Si Sj)
 (hI:¬ X I) (W:Walks prog w₀ A I fp [I] xs.length P Sti) {w w':Mine.W} (O:Ok lp hb Si w) (O':Ok lp hb Sj w'):BunF I fp Sti P xs Sj j:=by
 refine ⟨W.frame j _ _ U.st fun b hb' o e=>?_,(L.idle U.ii hI).1,fun b hb'=>?_,fun i v hi hv=>?_⟩
 · clear W
   rcases U.fp b hb' with rfl | ⟨o',e'⟩
   · exact (L.idle U.ii hI).2 o e
   · have:o'=o:=by
      have:=O.sub _ _ e'
      rw [show Si.h.get? b=some o from e] at this
      exact (Option.some.inj this).symm
     clear e
     subst this
     exact O'.sub _ _ (L.sub _ _ e')
 · clear O' O W hI
   rcases U.fp b hb' with rfl | ⟨o',e'⟩
   · exact .inl rfl
   · exact .inr ⟨o',L.sub _ _ e'⟩
 · refine x12 (U.pr i v hi hv) fun d h1 h2=>?_
   exact ⟨d,h1,fun B hB=>h2 B fun a o e=>hB a o (L.sub a o e)⟩
inductive FLI (lp:LexP) (hb:Heap) (F:Str->List Mine.D->Mine.D->Prop) (LF:LexF) (c:Sc) (env:Env) (ts:List Nat) (mb':MSL) (S:St) (I:Addr) (fp:List Addr) (Sti:Nat->Heap->Prop) (P:Nat->Value->Prop) (xs:List Mine.D) (Q:Fl->Sg->W->Prop):Nat->Shared->Prop
 | mk {Si:St} {σi:Sg} {wi:W} {j:Nat} (Oi:Ok lp hb Si wi) (Fi:FrOk c.tbl env σi Si) (Li:LeX (Own c env) S Si) (Ui:BunF I fp Sti P xs Si j) (hj:j≤xs.length) (qi:qA2 (fun x σ w k=>qAJ ts x σ fun σ=>SL F LF mb' σ w k) (xs.drop j) σi wi Q):FLI lp hb F LF c env ts mb' S I fp Sti P xs Q (xs.length+1-j) Si.s
theorem tFor {t it:Expr} {ts:List Nat} {m:ME} {body:List Stmt} {mb':MSL} (ht:qAP c t=some ts) (hit:SoundE lp hb prog w₀ b F LF c it m) (hs:∀ env x,foldedSetIterable it env x=pure x) (hbody:qBZ lp hb prog w₀ b F LF c body mb') (p:Pos) :
 qAR lp hb prog w₀ b F LF c (.For t it body [] p) (.forr ts m mb'):=by
 intro A env σ S w Q hA C Fk O q
 simp only [SS] at q
 refine wpAny_For (wpAny_mono (hit A env σ S w _ hA C Fk O q) (fun v s' h=>?_) fun _ _ h=>h) (hs env)
 obtain ⟨S1,w1,d,rfl,O1,L1,R1,q⟩:=h
 refine wpAny_mono (qD9 hA.handled O1 R1 q) (fun itv s' h=>?_) fun _ _ h=>h
 obtain ⟨S',I,fp,P,Sti,xs,rfl,rfl,O',L',W,hgo,h0,hIn,hIB,hIf,hIa,hfp,hP,hlen,q⟩:=h
 have LS:Le S S':=L1.trans L'
 have hISn:S.h.get? I=Option.none:=L1.none hIn
 have hHI:¬ Holds env I:=fun hh=>by
  refine x03 (Fk.hold I hh) fun _ _ r9=>x11 r9 fun o ho=>?_
  rw [hISn] at ho; cases ho
 have hOI:¬ Own c env I:=fun hh=>hHI (qEE C Fk hh)
 have U0:BunF I fp Sti P xs S' 0:=⟨h0,⟨hIB,hIf,hIa _ _ h0⟩,hfp,hP⟩
 refine codeAny_forLoop_any (FLI lp hb F LF c env ts mb' S I fp Sti P xs Q) (fun n s h9=>?_) (xs.length+1) (.mk O' (Fk.up LS) (LS.weaken fun _ _ _ h=>h.elim) U0 (Nat.zero_le _) q)
 clear U0 O' Fk LS q L' h0 hIn hIB hIf hfp hP L1 R1 O1 O hs hit
 obtain @⟨Si,σi,wi,j,Oi,Fi,Li,Ui,hj,qi⟩:=h9
 by_cases hlt:j<xs.length
 · refine W.item j _ _ _ hlt Ui.st fun v h' tk hPv hst' hkeep=>?_
   have keepI:∀ b o,b≠I->Si.h.get? b=some o->h'.get? b=some o:=fun b o hne e=>hkeep b o (fun m=>hne (List.mem_singleton.mp m)) e
   refine x02 (Oi.pokeNew Li (a:=I) (h':=h') (tk:=tk) Ui.ii.1 Ui.ii.2.1 hISn keepI) fun Oa La=>?_
   have Fa:=Fi.poke (a:=I) (h':=h') (tk:=tk) hHI keepI
   have Ua:BunF I fp Sti P xs (Si.at h' tk) (j+1):=⟨hst',⟨Ui.ii.1,Ui.ii.2.1,hIa _ _ hst'⟩,Ui.fp,Ui.pr⟩
   refine x12 (Ui.pr j v hlt hPv) fun d hd hrep=>?_
   have qi:qA2 (fun x σ w k=>qAJ ts x σ fun σ=>SL F LF mb' σ w k) (d::xs.drop (j+1)) σi wi Q:=(List.drop_eq_getElem_cons hlt).trans (congrArg (·::_) (Option.some.inj ((List.getElem?_eq_getElem hlt).symm.trans hd))) ▸ qi
   dsimp only [qA2] at qi
   clear hd hkeep Fi Oi Li hPv hj
   refine hgo (j+1) _ t v _ _ hst' ?_
   refine wpAny_mono (qCN (Er:=ff) (K:=fun σ'=>SL F LF mb' σ' wi _) hA.handled C Fa Oa ht (hrep _ fun _ _ e=>e) qi) (fun _ s' h=>?_) fun _ _ h=>h.elim
   obtain ⟨Sb,σb,rfl,Ob,Lb,Fb,qb⟩:=h
   have Ub:=Ua.step Lb hOI W Oa Ob
   clear Ua qi hst' hrep keepI
   refine wpAny_mono (hbody A env σb Sb wi _ hA C Fb Ob qb) (fun f s' h=>?_) fun _ _ h=>h.elim
   obtain ⟨Sc,σc,wc,fl,rfl,Oc,Lc,Fc,hf,qc⟩:=h
   have Uc:=Ub.step Lc hOI W Ob Oc
   have LL:LeX (Own c env) S Sc:=(La.trans Lb).trans Lc
   clear La Lb Lc Ub Ob Oa Fa Fb qb
   cases fl with
   | nxt =>
    have hf:f=.next:=hf
    subst hf
    exact ⟨_,ar3 hlt,.mk Oc Fc LL Uc hlt qc⟩
   | cnt =>
    have hf:f=.cont:=hf
    subst hf
    exact ⟨_,ar3 hlt,.mk Oc Fc LL Uc hlt qc⟩
   | ret d =>
    refine x12 hf fun v eq1 r=>?_
    clear hf
    subst eq1
    exact ⟨Sc,σc,wc,.ret d,rfl,Oc,LL,Fc,⟨v,rfl,r⟩,qc⟩
 · cases as50 hj hlt
   refine W.done _ _ _ Ui.st fun h' tk hkeep=>?_
   have keepI:∀ b o,b≠I->Si.h.get? b=some o->h'.get? b=some o:=fun b o hne e=>hkeep b o (fun m=>hne (List.mem_singleton.mp m)) e
   refine x02 (Oi.pokeNew Li (a:=I) (h':=h') (tk:=tk) Ui.ii.1 Ui.ii.2.1 hISn keepI) fun Oa La=>?_
   have Fa:=Fi.poke (a:=I) (h':=h') (tk:=tk) hHI keepI
   exact wpAny_execs_nil ⟨Si.at h' tk,σi,wi,.nxt,rfl,Oa,La,Fa,rfl,by simpa [qA2] using qi⟩
end
section
variable {lp:LexP} {hb:Heap} {prog:Program} {w₀:World} {b:Nat} {F:Str->List D->D->Prop} {LF:LexF} {mg mb:Str->Option Value} {c:Sc}
inductive PL:List Bool->St->List Value->List Mine.D->List Addr->Prop
 | nil {S}:PL [] S [] [] []
 | dat {S fs v vs d ds as}:Rep S.B v d->PL fs S vs ds as->PL (false::fs) S (v::vs) (d::ds) as
 | own {S fs a vs ds as}:S.h.PlainList a #[]->Idle S a->a ∉ as->PL fs S vs ds as->PL (true::fs) S (.ref a::vs) (.list []::ds) (a::as)
theorem PL.mono {S S':St} (L:Le S S') {fs:List Bool} {vs:List Value} {ds:List Mine.D} {as:List Addr} (h:PL fs S vs ds as):PL fs S' vs ds as:=by
 induction h with
 | nil=>exact .nil
 | dat r _ ih=>exact .dat (r.mono L.sub) (ih L)
 | own l i n _ ih=>exact .own (l.at (L.idle i fun h=>h).2) (L.idle i fun h=>h).1 n (ih L)
theorem PL.len {S:St} {fs:List Bool} {vs:List Value} {ds:List Mine.D} {as:List Addr} (h:PL fs S vs ds as):vs.length=ds.length/\fs.length=ds.length:=by
 induction h with
 | nil=>exact ⟨rfl,rfl⟩
 | dat _ _ ih=>exact ⟨congrArg (· + 1) ih.1,congrArg (· + 1) ih.2⟩
 | own _ _ _ _ ih=>exact ⟨congrArg (· + 1) ih.1,congrArg (· + 1) ih.2⟩
noncomputable def flags:List Expr->List Bool
 | []=>[]
 | e::r=>qCG e::flags r
theorem qGy (ks:List Nat):∀ (m:List Expr),qLd ks m=ks.zip (flags m):=by
 induction ks with
 | nil=>exact fun m=>by cases m <;> rfl
 | cons k ks ih =>
  intro m
  cases m with
  | nil=>rfl
  | cons e r=>exact congrArg ((k,qCG e)::·) (ih r)
set_option tactic.hygienic true in
theorem qH8 {e:Expr} (h:qCG e=true):∃ p,e=.List [] p:=by
 cases e with
 | List es p=>exact ⟨p,congrArg (Expr.List · p) (List.isEmpty_iff.mp h)⟩
 | _=>exact nomatch (show false=true from h)
inductive PendOut (lp:LexP) (hb:Heap) (fs:List Bool) (S:St) (Q:List D->W->Prop) (vs:List Value) (s':Shared):Prop
 | mk (S':St) (w':W) (ds:List D) (as:List Addr) (e:S'.s=s') (O:Ok lp hb S' w') (L:Le S S') (P:PL fs S' vs ds as) (n:∀ a∈as,S.h.get? a=none) (q:Q ds w')
theorem qKu (G:Glo lp hb prog w₀ b F LF mg mb) (n:Nat) (es:List Expr):∀ (ml:ML),trL n c es=some ml->∀ (A:Around) (env:Env) (σ:List Slot) (S:St) (w:W) (Q:List D->W->Prop) (pos:Pos),AOk b A->ScOk c env->FrOk c.tbl env σ S->Ok lp hb S w ->
 EL F LF ml σ w Q->wpAny (model prog w₀) A (spliced (backTo pos (starEach es env))) (PendOut lp hb (flags es) S Q) ff S.s:=by
 induction es with
 | nil =>
  intro ml h A env σ S w Q pos hA C Fk O q
  cases h
  exact Calls.spliced_nil ⟨S,w,[],[],rfl,O,LeX.refl _ _,.nil,fun _ h=>(nomatch h),q⟩
 | cons e r ih =>
  intro ml h A env σ S w Q pos hA C Fk O q
  refine qAC h fun me he h=>qAC h fun mr hr h=>?_
  cases h
  rw [qBf (qBm he)]
  show wpAny _ A (spliced ((false,eval e env)::backTo pos (starEach r env))) (PendOut lp hb (qCG e::flags r) S Q) _ _
  cases hem:qCG e with
  | true =>
   obtain ⟨p,rfl⟩:=qH8 hem
   have hme:me=.list .nil:=by
    clear hem h q hr O Fk C hA ih G
    cases n with
    | zero=>exact nos he
    | succ n=>exact (Option.some.inj he).symm
   clear he
   subst hme
   have q:=(show ([]:List Mine.D).length≤16777216/\EL F LF mr σ w (fun ds w=>Q (.list []::ds) w) from q).2
   refine Calls.spliced_cons (List_ (Calls.spliced_nil ?_))
   refine wpAny_newObj_type ?_ (by show ([]:List Value).toArray.size≤sizeLine; rw [sizeLine_eq]; exact Nat.zero_le _)
   have hn:=qAD S.h
   have hg:(S.h.push { cls:=.type "list",data:=.seq ([]:List Value).toArray }).get? S.h.objs.size=some { cls:=.type "list",data:=.seq ([]:List Value).toArray }:=Heap.get?_push_size _ rfl
   refine x02 (O.quiet (tk:=S.s.toks) fun b' o' e=>Heap.get?_push_of_some { cls:=.type "list",data:=.seq ([]:List Value).toArray } e) fun O1 L1=>?_
   have hid:Idle (S.at (S.h.push { cls:=.type "list",data:=.seq ([]:List Value).toArray }) S.s.toks) S.h.objs.size:=⟨O.bNone hn,O.fpNone hn,_,hg⟩
   refine wpAny_mono (ih mr hr _ _ _ (S.at (S.h.push { cls:=.type "list",data:=.seq ([]:List Value).toArray }) S.s.toks) _ _ _ hA C (Fk.up L1) O1 q) (fun vs s' h=>?_) fun _ _ h=>h
   obtain ⟨S2,w2,ds,as,rfl,O2,L2,P2,ha,q⟩:=h
   obtain ⟨hi2,hk2⟩:=L2.idle hid fun h=>h
   have hna:S.h.objs.size ∉ as:=fun hm=>nomatch hg.symm.trans (ha _ hm)
   refine ⟨S2,w2,_,S.h.objs.size::as,rfl,O2,L1.trans L2,.own ⟨0,hk2 _ hg⟩ hi2 hna P2,fun a hm=>?_,q⟩
   cases hm with
   | head=>exact hn
   | tail _ hm=>exact L1.none (ha a hm)
  | false =>
   have q:E F LF me σ w fun d w=>EL F LF mr σ w fun ds w=>Q (d::ds) w:=q
   refine Calls.spliced_cons (wpAny_mono ((qAk G n).E he A env σ S w _ hA C Fk O q) (fun v s' h=>?_) fun _ _ h=>h)
   obtain ⟨S1,w1,d1,rfl,O1,L1,R1,q⟩:=h
   refine wpAny_mono (ih mr hr _ _ _ _ _ _ _ hA C (Fk.up L1) O1 q) (fun vs s' h=>?_) fun _ _ h=>h
   obtain ⟨S2,w2,ds,as,rfl,O2,L2,P2,ha,q⟩:=h
   exact ⟨S2,w2,_,as,rfl,O2,L1.trans L2,.dat (R1.mono L2.sub) P2,fun a hm=>L1.none (ha a hm),q⟩
noncomputable def qAq:Nat->List Bool->List Mine.D->List Slot
 | _,[],_=>[]
 | n,f::fs,ds=>match ds with
  | []=>[]
  | d::ds=>match f with
   | true=>.loc n::qAq (n+1) fs ds
   | false=>.dat d::qAq n fs ds
noncomputable def lstO:Mine.D->List OO
 | .list xs=>[.lst xs]
 | _=>[]
noncomputable def qDB:List Bool->List Mine.D->List OO
 | [],_=>[]
 | f::fs,ds=>match ds with
  | []=>[]
  | d::ds=>match f with
   | true=>lstO d++qDB fs ds
   | false=>qDB fs ds
noncomputable def qGQ:List Nat->List Slot->Sg->Sg
 | [],_,σ=>σ
 | k::ks,ss,σ=>match ss with
  | []=>σ
  | s::ss=>qGQ ks ss (σ.set k s)
theorem lisE {d:Mine.D} {f:List Mine.D->Prop} {P:Mine.D->Prop} (h:qFg d f) (k:∀ xs,f xs->P (.list xs)):P d:=by
 unfold qFg at h
 split at h
 · exact k _ h
 · exact h.elim
theorem qNU (ks:List Nat):∀ (fs:List Bool) (ds:List Mine.D) (σ:Sg) (w:W) (Q:Sg->W->Prop),ks.length=fs.length->tupK (ks.zip fs) ds σ w Q->ks.length=ds.length/\Q (qGQ ks (qAq w.length fs ds) σ) (w++qDB fs ds):=by
 induction ks with
 | nil =>
  intro fs ds σ w Q hl h
  cases fs with
  | cons f fs=>cases hl
  | nil=>cases ds with
   | nil=>exact ⟨rfl,(List.append_nil w).symm ▸ h⟩
   | cons d ds=>exact h.elim
 | cons k ks ih =>
  intro fs ds σ w Q hl h
  cases fs with
  | nil=>cases hl
  | cons f fs=>cases ds with
   | nil=>exact h.elim
   | cons d ds =>
    cases f with
    | true =>
     have h:qFg d fun xs=>tupK (ks.zip fs) ds (σ.set k (.loc w.length)) (w++[.lst xs]) Q:=h
     refine lisE (P:=fun d=>(k::ks).length=(d::ds).length/\Q (qGQ (k::ks) (qAq w.length (true::fs) (d::ds)) σ) (w++qDB (true::fs) (d::ds))) h fun xs h=>?_
     obtain ⟨h1,h2⟩:=ih fs ds _ _ Q (Nat.succ.inj hl) h
     rw [List.length_append,List.append_assoc] at h2
     exact ⟨congrArg (· + 1) h1,h2⟩
    | false =>
     obtain ⟨h1,h2⟩:=ih fs ds _ _ Q (Nat.succ.inj hl) h
     exact ⟨congrArg (· + 1) h1,h2⟩
inductive SlL (S:St):List Slot->List Value->Prop
 | nil:SlL S [] []
 | cons {s v ss vs}:SlotV S s (some v)->SlL S ss vs->SlL S (s::ss) (v::vs)
theorem SlL.mono {S S':St} (L:Le S S') {ss:List Slot} {vs:List Value} (h:SlL S ss vs):SlL S' ss vs:=by
 induction h with
 | nil=>exact .nil
 | cons h _ ih=>exact .cons (h.mono L) ih
theorem SlotV.same {S S':St} (e1:S'.B=S.B) (e2:S'.own=S.own) {s:Slot} {v:Option Value} (h:SlotV S s v):SlotV S' s v:=by
 cases s with
 | unb=>exact h
 | dat d=>obtain ⟨v,e,r⟩:=h; exact ⟨v,e,e1 ▸ r⟩
 | loc k=>obtain ⟨p,e,r⟩:=h; exact ⟨p,e2 ▸ e,r⟩
theorem SlL.same {S S':St} (e1:S'.B=S.B) (e2:S'.own=S.own) {ss:List Slot} {vs:List Value} (h:SlL S ss vs):SlL S' ss vs:=by
 induction h with
 | nil=>exact .nil
 | cons h _ ih=>exact .cons (h.same e1 e2) ih
theorem PL.own1 {S:St} {a:Addr} {fs:List Bool} {vs:List Value} {ds:List Mine.D} {as:List Addr} (p:PL fs S vs ds as):a ∉ as->PL fs ⟨S.B,S.own++[(a,[a])],S.s⟩ vs ds as:=by
 induction p with
 | nil=>exact fun _=>.nil
 | dat r _ ih=>exact fun h=>.dat r (ih h)
 | own l i n _ ih =>
  refine fun h=>.own l ⟨i.1,fun hm=>?_,i.2.2⟩ n (ih fun hm=>h (.tail _ hm))
  have e:∀ S:St,({ B:=S.B,own:=S.own++[(a,[a])],s:=S.s }:St).fps=S.fps++[a]:=fun S=>by simp [St.fps]
  rw [e] at hm
  rcases List.mem_append.mp hm with hm | hm
  · exact i.2.1 hm
  · exact h (List.mem_singleton.mp hm ▸ .head _)
set_option tactic.hygienic true in
theorem qNj:∀ (fs:List Bool) (vs:List Value) (ds:List Mine.D) (as:List Addr) (S₀ S:St) (w:W),PL fs S vs ds as->Ok lp hb S w->Le S₀ S->(∀ a∈as,S₀.h.get? a=none) ->
 ∃ S',S'.s=S.s/\S'.B=S.B/\(∀ (k:Nat) p,S.own[k]?=some p->S'.own[k]?=some p)/\Ok lp hb S' (w++qDB fs ds)/\Le S₀ S'/\SlL S' (qAq w.length fs ds) vs:=by
 intro fs
 induction fs with
 | nil =>
  intro vs ds as S₀ S w h O L ha
  clear ha
  cases h
  exact ⟨S,rfl,rfl,fun _ _ e=>e,(List.append_nil w).symm ▸ O,L,.nil⟩
 | cons f fs ih =>
  intro vs ds as S₀ S w h O L ha
  cases h with
  | dat r p =>
   refine x16 (ih _ _ _ S₀ S w p O L ha) fun S' e eB eO O' L' sl=>?_
   exact ⟨S',e,eB,eO,O',L',.cons ⟨_,rfl,eB ▸ r⟩ sl⟩
  | own l i n p =>
   rename_i a vs ds as
   have hn:=ha a List.mem_cons_self
   refine x03 (O.own1 L hn i.1 i.2.1 l (xs:=[]) .nil) fun O1 L1 h1=>?_
   refine x16 (ih _ _ _ S₀ _ _ (p.own1 n) O1 L1 fun a hm=>ha a (List.mem_cons_of_mem _ hm)) fun S' e eB eO O' L' sl=>?_
   refine ⟨S',e,eB,fun k p hk=>eO k p ?_,by rw [List.append_assoc] at O'; exact O',L',.cons ⟨_,eO _ _ h1,rfl⟩ ?_⟩
   · show (S.own++[(a,[a])])[k]?=_
     rw [List.getElem?_append_left (List.getElem?_eq_some_iff.mp hk).1]; exact hk
   · rw [List.length_append] at sl; exact sl
noncomputable def qOC (prog:Program) (w₀:World) (env:Env) (act:Value->Sem Unit) (x:Str):Prop :=
 ∀ (A:Around) (s:Shared) (v:Value) (Q:Unit->Shared->Prop),wpAny (model prog w₀) A (storeName env x v) Q ff s->wpAny (model prog w₀) A (act v) Q ff s
inductive Acts (prog:Program) (w₀:World) (c:Sc) (env:Env):List (Value->Sem Unit)->List Nat->Prop
 | nil:Acts prog w₀ c env [] []
 | cons {act acts k ks x}:qOC prog w₀ env act x->c.var x=some k->qAY c x=true->Acts prog w₀ c env acts ks->Acts prog w₀ c env (act::acts) (k::ks)
theorem Acts.append {env:Env} {as bs:List (Value->Sem Unit)} {ks ls:List Nat} (h:Acts prog w₀ c env as ks) (q:Acts prog w₀ c env bs ls):Acts prog w₀ c env (as++bs) (ks++ls):=by
 induction h with
 | nil=>exact q
 | cons h1 h2 h3 _ ih=>exact .cons h1 h2 h3 ih
theorem Acts.reverse {env:Env} {as:List (Value->Sem Unit)} {ks:List Nat} (h:Acts prog w₀ c env as ks):Acts prog w₀ c env as.reverse ks.reverse:=by
 induction h with
 | nil=>exact .nil
 | cons h1 h2 h3 _ ih=>rw [List.reverse_cons,List.reverse_cons]; exact ih.append (.cons h1 h2 h3 .nil)
theorem SlL.append {S:St} {ss ts:List Slot} {vs us:List Value} (h:SlL S ss vs) (q:SlL S ts us):SlL S (ss++ts) (vs++us):=by
 induction h with
 | nil=>exact q
 | cons h _ ih=>exact .cons h ih
theorem SlL.reverse {S:St} {ss:List Slot} {vs:List Value} (h:SlL S ss vs):SlL S ss.reverse vs.reverse:=by
 induction h with
 | nil=>exact .nil
 | cons h _ ih=>rw [List.reverse_cons,List.reverse_cons]; exact ih.append (.cons h .nil)
set_option tactic.hygienic true in
theorem qJY {env:Env} (C:ScOk c env):∀ (acts:List (Value->Sem Unit)) (ks:List Nat) (ss:List Slot) (vs:List Value) (A:Around) (σ:List Slot) (S:St) (w:W) (K:Sg->Prop),Acts prog w₀ c env acts ks->SlL S ss vs->ks.length=ss.length->FrOk c.tbl env σ S->Ok lp hb S w ->
 K (qGQ ks ss σ)->wpAny (model prog w₀) A (assignInOrder acts vs) (fun _ s'=>BRes lp hb c env S w K s') ff S.s:=by
 intro acts
 induction acts with
 | nil =>
  intro ks ss vs A σ S w K ha hs hl Fk O q
  cases ha
  have:ss=[]:=List.length_eq_zero_iff.mp hl.symm
  subst this
  cases hs
  exact wpAny_pure ⟨S,σ,rfl,O,LeX.refl _ _,Fk,q⟩
 | cons act acts ih =>
  intro ks ss vs A σ S w K ha hs hl Fk O q
  cases ha with
  | cons h1 h2 h3 r =>
   cases hs with
   | nil=>simp at hl
   | cons s1 sr =>
    rename_i k ks x s v ss vs
    show wpAny _ A (do holding vs (act v); assignInOrder acts vs) _ _ _
    refine wpAny_bind (wpAny_holding (h1 A S.s v _ (qCu C Fk O h2 h3 s1 fun S' O' L' eB eO Fk'=>?_)))
    refine wpAny_mono (ih ks ss vs A _ S' w K r (sr.same eB eO) (by simpa using hl) Fk' O' q) (fun _ s' h=>?_) fun _ _ h=>h
    obtain ⟨S2,σ2,e,O2,L2,F2,q⟩:=h
    exact ⟨S2,σ2,e,O2,LeX.trans (L'.weaken fun y _ _ e=>⟨x,k,h2,h3,e⟩) L2,F2,q⟩
theorem qGr {env:Env} (es:List Expr):∀ (ts:List Nat),qA9 c es=some ts->Acts prog w₀ c env ((assignEach es env).map (·.2)) ts:=by
 induction es with
 | nil=>intro ts h; cases h; exact .nil
 | cons e es ih =>
  intro ts ht
  exact qCk (P:=fun e ts=>Acts prog w₀ c env ((assignEach (e::es) env).map (·.2)) ts) ht fun x p k ks hL hv hr=>.cons (fun A s v Q h=>wpAny_assign_Name h) hv hL (ih ks hr)
end
section
variable {lp:LexP} {hb:Heap} {prog:Program} {w₀:World} {b:Nat} {F:Str->List D->D->Prop} {LF:LexF} {mg mb:Str->Option Value} {c:Sc}
theorem qH1 {env:Env} (es:List Expr):∀ (ts:List Nat),qA9 c es=some ts->Acts prog w₀ c env ((es.filterMap qB1).map fun n=>bindName env n) ts/\(es.filterMap qB1).length=es.length:=by
 induction es with
 | nil=>intro ts h; cases h; exact ⟨.nil,rfl⟩
 | cons e es ih =>
  intro ts ht
  exact qCk (P:=fun e ts=>Acts prog w₀ c env (((e::es).filterMap qB1).map fun n=>bindName env n) ts/\((e::es).filterMap qB1).length=(e::es).length) ht fun x p k ks hL hv hr =>
   ⟨.cons (fun A s v Q h=>wpAny_bindName h) hv hL (ih ks hr).1,congrArg (· + 1) (ih ks hr).2⟩
theorem qEP {α β:Type} (f g:α->Option β) (hfg:∀ a b,f a=some b->g a=some b):∀ (l:List α),(l.filterMap f).length=l.length->l.filterMap f=l.filterMap g:=by
 intro L9
 induction L9 with
 | nil =>
  intro _
  exact rfl
 | cons a l ih9 =>
  intro h
  cases hf:f a with
  | none =>
   rw [List.filterMap_cons,hf] at h
   have:=List.length_filterMap_le f l
   simp at h; lia
  | some b =>
   rw [List.filterMap_cons,hf] at h ⊢
   rw [List.filterMap_cons,hfg a b hf]
   have h':(l.filterMap f).length=l.length:=Nat.succ.inj h
   show b::l.filterMap f=b::l.filterMap g
   rw [ih9 h']
set_option tactic.hygienic true in
theorem qEw {env:Env} {ts vs:List Expr} {k1 k2:Nat} {p1 p2:Pos} (hv:(vs.all (foldedForSure 8) || !vs.all (constantsAlone 8))=true) :
 ∃ r,swappedStores [.Tuple ts k1 p1] (.Tuple vs k2 p2) env=pure r/\(r=none\/(r=some (ts.filterMap qB1)/\(ts.length=2\/ts.length=3))):=by
 unfold swappedStores
 dsimp only
 split
 · exact ⟨none,rfl,.inl rfl⟩
 · rename_i h1
   split
   · exact ⟨none,rfl,.inl rfl⟩
   · split
     · exact ⟨none,rfl,.inl rfl⟩
     · rename_i h3
       split
       · exact ⟨none,rfl,.inl rfl⟩
       · rename_i h4
         split
         · rename_i h5
           simp only [Bool.or_eq_true,Bool.not_eq_true'] at hv
           rcases hv with hv | hv
           · exact absurd hv h4
           · rw [hv] at h5; cases h5
         · simp only [Bool.or_eq_true,not_or,bne_iff_ne,ne_eq,Decidable.not_not] at h3
           have:=qEP _ qB1 (by
            intro a b h
            split at h
            · split at h
              · exact h
              · cases h
            · cases h) ts h3.1
           refine ⟨_,rfl,.inr ⟨by rw [← this],?_⟩⟩
           simp only [Bool.or_eq_true,Bool.not_eq_true',not_or,Bool.not_eq_false,beq_iff_eq] at h1
           exact h1.1.1
end
section
variable {lp:LexP} {hb:Heap} {prog:Program} {w₀:World} {b:Nat} {F:Str->List D->D->Prop} {LF:LexF} {mg mb:Str->Option Value} {c:Sc}
theorem qJu {ks:List Nat} {ss:List Slot} (hl:ks.length=ss.length) (hn:ks.Nodup) (h:ks.length=2\/ks.length=3) (σ:Sg):qGQ ks.reverse ss.reverse σ=qGQ ks ss σ:=by
 rcases h with h | h
 · revert hl hn
   refine lenE h fun a r h=>lenE h fun b r h hl hn=>?_
   cases len0 h
   refine lenE (l:=ss) hl.symm fun x r h=>lenE h fun y r h=>?_
   cases len0 h
   exact List.set_comm _ _ fun e=>(List.nodup_cons.mp hn).1 (e ▸ .head _)
 · revert hl hn
   refine lenE h fun a r h=>lenE h fun b r h=>lenE h fun d r h hl hn=>?_
   cases len0 h
   refine lenE (l:=ss) hl.symm fun x r h=>lenE h fun y r h=>lenE h fun z r h=>?_
   cases len0 h
   have h1:=(List.nodup_cons.mp hn).1
   have h2:=(List.nodup_cons.mp (List.nodup_cons.mp hn).2).1
   show ((σ.set d z).set b y).set a x=((σ.set a x).set b y).set d z
   rw [List.set_comm (z) (y) (fun (e:d=b)=>h2 (e ▸ .head _)),List.set_comm (z) (x) (fun (e:d=a)=>h1 (e ▸ .tail _ (.head _))),List.set_comm (y) (x) (fun (e:b=a)=>h1 (e ▸ .head _))]
theorem qJl (es:List Expr):(flags es).length=es.length:=by
 induction es with
 | nil=>rfl
 | cons e es ih=>exact congrArg (· + 1) ih
theorem qFF (fs:List Bool):∀ (ds:List Mine.D) (n:Nat),fs.length=ds.length->(qAq n fs ds).length=ds.length:=by
 induction fs with
 | nil=>exact fun ds n h=>h
 | cons f fs ih =>
  intro ds n h
  cases ds with
  | nil=>cases h
  | cons d ds=>cases f <;> exact congrArg (· + 1) (ih ds _ (Nat.succ.inj h))
theorem qPC (G:Glo lp hb prog w₀ b F LF mg mb) {n:Nat} {ts es:List Expr} {k1 k2:Nat} {p1 p2 p:Pos} {ks:List Nat} {ml:ML} (ht:qAP c (.Tuple ts k1 p1)=some ks) (hl:trL n c es=some ml) (hlen:ks.length=es.length) (hnd:ks.Nodup)
 (hv:(es.all (foldedForSure 8) || !es.all (constantsAlone 8))=true):qAR lp hb prog w₀ b F LF c (.Assign [.Tuple ts k1 p1] (.Tuple es k2 p2) p) (.asgT (qLd ks es) ml):=by
 intro A env σ S w Q hA C Fk O q
 simp only [SS,qGy] at q
 have htn:qA9 c ts=some ks:=gdE (c:=!(ts.length == 1)) ht fun _ h=>h
 have hfi:=qCf (env:=env) ts ks htn
 rw [arm_exec_Assign]
 refine wpAny_bind (wpAny_standAt (wpAny_bind (wpAny_of_eq (a:=false) rfl ?_)))
 simp only [Bool.false_eq_true,if_false]
 refine wpAny_bind (Tuple_ (wpAny_mono (qKu G n es ml hl A env σ S w _ p2 hA C Fk O q) (fun vs s' h=>?_) fun _ _ h=>h))
 obtain ⟨S1,w1,ds,as,rfl,O1,L1,P1,ha,hd8,q⟩:=h
 obtain ⟨hkd,q⟩:=qNU ks (flags es) ds σ w1 _ (by rw [qJl]; exact hlen) q
 have hvd:vs.length=ds.length:=P1.len.1
 refine wpAny_newObj_type ?_ (by show vs.toArray.size≤sizeLine; rw [List.size_toArray,hvd,sizeLine_eq]; (exact Nat.le_trans ‹_› (by decide)))
 have kk:∀ b' o',S1.h.get? b'=some o'->(S1.h.push { cls:=.type "tuple",data:=.seq vs.toArray }).get? b'=some o':=fun b' o' e=>Heap.get?_push_of_some _ e
 obtain ⟨O2,L2⟩:=O1.quiet (tk:=S1.s.toks) kk
 have hT:(S1.h.push { cls:=.type "tuple",data:=.seq vs.toArray }).IsTuple S1.h.objs.size vs.toArray:=⟨_,Heap.get?_push_size _ rfl,rfl,_,rfl⟩
 have hdk:ds.length=ks.length:=hkd.symm
 refine x12 (qEw (env:=env) (ts:=ts) (k1:=k1) (k2:=k2) (p1:=p1) (p2:=p2) hv) fun r hr hrc=>?_
 have rest:∀ (acts:List (Value->Sem Unit)) (ks':List Nat) (ss':List Slot) (us:List Value) (h':Heap),Heap.ExtBut (S1.h.push { cls:=.type "tuple",data:=.seq vs.toArray }).objs.size (S1.h.push { cls:=.type "tuple",data:=.seq vs.toArray }) h' ->
  Acts prog w₀ c env acts ks'->ks'.length=ss'.length->(∀ S4:St,SlL S4 (qAq w1.length (flags es) ds) vs->SlL S4 ss' us)->qGQ ks' ss' σ=qGQ ks (qAq w1.length (flags es) ds) σ ->
  wpAny (model prog w₀) A (assignInOrder acts us) (fun _ s'=>SRes lp hb c env S Q .next s') ff { S1.s with heap:=h' }:=by
  intro acts ks' ss' us h' he hacts hks hsl heq
  refine x02 (O2.quiet (h':=h') (tk:=S1.s.toks) fun b o e=>he b o (Nat.ne_of_lt (Heap.lt_size e)) e) fun O3 L3=>?_
  have LS:Le S _:=(L1.trans L2).trans L3
  refine x16 (qNj (flags es) vs ds as S _ w1 ((P1.mono L2).mono L3) O3 LS ha) fun S4 e4 eB eO O4 L4 sl=>?_
  rw [show ({ S1.s with heap:=h' }:Shared)=S4.s by rw [e4]]
  refine wpAny_mono (qJY C acts ks' ss' us A σ S4 _ (fun σ'=>Q .nxt σ' (w1++qDB (flags es) ds)) hacts (hsl S4 sl) hks (Fk.up L4) O4 (by rw [heq]; exact q)) (fun _ s' h=>?_) fun _ _ h=>h
  obtain ⟨S5,σ5,rfl,O5,L5,F5,q5⟩:=h
  exact SRes.up L4 ⟨S5,σ5,_,.nxt,rfl,O5,L5,F5,rfl,q5⟩
 have hsz:vs.toArray.size=ks.length:=by rw [List.size_toArray,hvd,hdk]
 have hsl0:ks.length=(qAq w1.length (flags es) ds).length:=by rw [qFF _ _ _ P1.len.2,hdk]
 refine wpAny_bind (wpAny_of_eq hr ?_)
 clear hr ht
 rcases hrc with rfl | ⟨rfl,h23⟩
 · show wpAny _ A (do assignAll (.ref S1.h.objs.size) [assign (.Tuple ts k1 p1) env]; pure Flow.next) _ _ _
   refine wpAny_bind ?_
   show wpAny _ A (assign (.Tuple ts k1 p1) env (.ref S1.h.objs.size)) _ _ _
   rw [arm_assign_Tuple]
   refine wpAny_bind (wpAny_standAt ?_)
   refine wpAny_mono (wpAny_unpack_tuple (Q:=fun _ s'=>SRes lp hb c env S Q .next s') hA.handled hT (by rw [hfi.2,hsz]) hfi.1 fun h' he=>?_) (fun _ s' h=>wpAny_pure h) fun _ _ h=>h
   exact rest _ ks _ vs h' he (qGr ts ks htn) hsl0 (fun _ h=>h) rfl
 · obtain ⟨ha1,ha2⟩:=qH1 (prog:=prog) (w₀:=w₀) (env:=env) ts ks htn
   have hk3:ks.length=2\/ks.length=3:=by
    have e:ts.length=ks.length:=by
     rw [← hfi.2,qBa]
    rw [← e]; exact h23
   show wpAny _ A (do
    rule "assign.swapped-stores"
    let items ← unpackItems (.ref S1.h.objs.size) (ts.filterMap qB1).length none
    assignInOrder ((ts.filterMap qB1).reverse.map fun n=>bindName env n) items.reverse
    pure Flow.next) _ _ _
   refine wpAny_bind (wpAny_rule (wpAny_bind ?_))
   have e5:(ts.filterMap qB1).length=vs.toArray.size:=by
    rw [hsz,ha2,← hfi.2,qBa]
   rw [e5]
   refine wpAny_unpackItems_tuple hA.handled hT fun h' he=>wpAny_bind ?_
   rw [List.map_reverse]
   refine wpAny_mono (rest _ ks.reverse (qAq w1.length (flags es) ds).reverse vs.reverse h' he ha1.reverse (by simpa using hsl0) (fun _ h=>h.reverse) (qJu hsl0 hnd hk3 σ)) (fun _ s' h=>wpAny_pure h) fun _ _ h=>h
end
section
variable {lp:LexP} {hb:Heap} {prog:Program} {w₀:World} {b:Nat} {F:Str->List D->D->Prop} {LF:LexF} {mg mb:Str->Option Value} {c:Sc}
theorem qC6 {f:Stmt->Option MS} (hf:∀ {s m},f s=some m->qAR lp hb prog w₀ b F LF c s m):∀ {ss:List Stmt} {m:MSL},trSs f ss=some m->qBZ lp hb prog w₀ b F LF c ss m
 | [],m,h=>okE (R:=fun m=>qBZ lp hb prog w₀ b F LF c [] m) h tNil
 | e::r,m,h=>qAC h fun me he h=>qAC h fun mr hr h=>okE (R:=fun m=>qBZ lp hb prog w₀ b F LF c (e::r) m) h (qPP (hf he) (qC6 hf hr))
theorem qOa {R:Expr->Prop} {e:Expr} {q:List Expr×Nat×Pos} (h:eTup e=some q) (k:R (.Tuple q.1 q.2.1 q.2.2)):R e:=by
 cases e <;> first | exact nos h | exact okE (R:=fun q:List Expr×Nat×Pos=>R (.Tuple q.1 q.2.1 q.2.2)->R (.Tuple _ _ _)) h id k
theorem qOo {R:Expr->Prop} {e:Expr} {q:Expr×Expr} (h:eSub e=some q) (k:∀ p,R (.Subscript q.1 q.2 p)):R e:=by
 cases e <;> first | exact nos h | exact okE (R:=fun q:Expr×Expr=>(∀ p,R (.Subscript q.1 q.2 p))->R (.Subscript _ _ _)) h (fun k=>k _) k
theorem qOS {R:Expr->Prop} {e:Expr} {q:Expr×List Expr×Pos} (h:qN1 e=some q) (k:R (.Call q.1 q.2.1 [] q.2.2)):R e:=by
 cases e <;> first | exact nos h | skip
 refine gdE h fun hk h=>?_
 rw [qCq hk]
 exact okE (R:=fun q:Expr×List Expr×Pos=>R (.Call q.1 q.2.1 [] q.2.2)->R (.Call _ _ [] _)) h id k
theorem qKY {v:Expr} (h:eTup v=none):∀ es k p,v≠.Tuple es k p:=fun es k p q=>by subst q; cases h
set_option tactic.hygienic true in
theorem qPR {R:ME->Prop} {m:ME} {i:Int} (h:mInt m=some i) (k:R (.cst (.int i))):R m:=by
 cases m <;> first | exact nos h | skip
 rename_i cc
 cases cc <;> first | exact nos h | exact okE (R:=fun i=>R (.cst (.int i))->R (.cst (.int _))) h id k
theorem qPU (G:Glo lp hb prog w₀ b F LF mg mb) {own:List Str} {x:Str} {v:Expr} {px p:Pos} {m:MS} (h:qNy c own x v=some m):qAR lp hb prog w₀ b F LF c (.Assign [.Name x px] v p) m :=
 gdE h fun hL h=>qAC h fun k hk h=>orE h (fun h=>iteE h (fun _ h=>mapE h fun y hy=>qPS G hk hL hy _ _) fun h=>mapE h fun y hy=>tAsg G hk hL hy _ _)
  fun e he h=>mapE h fun y hy=>qAC he fun q hq h=>gdE h fun hc h=>andE hc fun h1 h2=>eFnE (R:=fun v=>qAR lp hb prog w₀ b F LF c (.Assign [.Name x px] v p) _) hq fun p1 p2=>by
   rw [beq_iff_eq.mp h2,one?_eq h]
   exact qNH G hk hL h1 hy _ _ _ _
theorem qPD (G:Glo lp hb prog w₀ b F LF mg mb) {q:List Expr×Nat×Pos} {v:Expr} {p:Pos} {m:MS} (h:qN6 c q v=some m):qAR lp hb prog w₀ b F LF c (.Assign [.Tuple q.1 q.2.1 q.2.2] v p) m:=by
 refine qAC h fun ks hk h=>?_
 cases hv:eTup v with
 | none =>
  unfold orOn at h
  rw [hv] at h
  exact mapE h fun y hy=>tUnp G hk hy (qKY hv)
 | some w =>
  unfold orOn at h
  rw [hv] at h
  exact qAC h fun l hl h=>gdE h fun hc h=>okE h (andE hc fun hc h3=>andE hc fun h1 h2=>qOa (R:=fun v=>qAR lp hb prog w₀ b F LF c (.Assign [.Tuple q.1 q.2.1 q.2.2] v p) _) hv (qPC G hk hl (beq_iff_eq.mp h1) (of_decide_eq_true h2) h3))
theorem ex_s (G:Glo lp hb prog w₀ b F LF mg mb) {e:Expr} {p:Pos} {m:MS} (h:trEx c e=some m):qAR lp hb prog w₀ b F LF c (.Expr e p) m :=
 qAC h fun q hq h=>qAC h fun a ha h=>qAC h fun x hx h=>qAC h fun y hy h=>qAC h fun k hk h=>qAC h fun z hz h=>gdE h fun hl h =>
  qOS (R:=fun e=>qAR lp hb prog w₀ b F LF c (.Expr e p) m) hq (qNc (R:=fun f=>qAR lp hb prog w₀ b F LF c (.Expr (.Call f q.2.1 [] q.2.2) p) m) ha
   (eNmE (R:=fun v=>qAR lp hb prog w₀ b F LF c (.Expr (.Call (.Attribute v a.2.1 a.2.2) q.2.1 [] q.2.2) p) m) hx fun p1=>by
     rw [one?_eq hy]
     refine iteE h (fun ha h=>okE h ?_) fun h=>gdE h fun ha h=>okE h ?_
     · rw [beq_iff_eq.mp ha]; exact tApp hk ((qAk G 60).E hz) hz _ _ _ _ hl
     · rw [beq_iff_eq.mp ha]; exact qPF G hk ((qAk G 60).E hz) hz _ _ _ _ hl))
theorem dl_s (G:Glo lp hb prog w₀ b F LF mg mb) {e:Expr} {p:Pos} {m:MS} (h:trDl c e=some m):qAR lp hb prog w₀ b F LF c (.Delete [e] p) m :=
 qAC h fun q hq h=>qAC h fun x hx h=>qAC h fun k hk h=>qAC h fun z hz h=>qAC h fun i hi h=>okE h
  (qOo (R:=fun e=>qAR lp hb prog w₀ b F LF c (.Delete [e] p) _) hq fun p1=>eNmE (R:=fun v=>qAR lp hb prog w₀ b F LF c (.Delete [.Subscript v q.2 p1] p) _) hx fun p2 =>
    tDel hk (qPR (R:=fun m=>SoundE lp hb prog w₀ b F LF c q.2 m->SoundE lp hb prog w₀ b F LF c q.2 (.cst (.int i))) hi id ((qAk G 60).E hz)) _ _ _)
theorem qFo (G:Glo lp hb prog w₀ b F LF mg mb) {own:List Str}:∀ (n:Nat) {s:Stmt} {m:MS},trS c own n s=some m->qAR lp hb prog w₀ b F LF c s m
 | 0,_,_,h=>nos h
 | n+1,s,m,h=>by
  have T:=qAk G 60
  have ih:=fun {ss:List Stmt} {m:MSL}=>qC6 (ss:=ss) (m:=m) (qFo G (own:=own) n)
  cases s with
  | Return o p =>
   refine qAC h fun e he h=>mapE h fun y hy=>?_
   rw [he]; exact tRet (T.E hy) _
  | Assign ts v p =>
   refine qAC h fun t ht h=>?_
   rw [one?_eq ht]
   exact orE h (fun h=>qAC h fun x hx h=>eNmE (R:=fun t=>qAR lp hb prog w₀ b F LF c (.Assign [t] v p) m) hx fun p1=>qPU G h)
    fun q hq h=>qOa (R:=fun t=>qAR lp hb prog w₀ b F LF c (.Assign [t] v p) m) hq (qPD G h)
  | AugAssign t op e p =>
   exact qAC h fun x hx h=>gdE h fun hL h=>qAC h fun k hk h=>qAC h fun o ho h=>mapE h fun y hy=>eNmE (R:=fun t=>qAR lp hb prog w₀ b F LF c (.AugAssign t op e p) _) hx fun p1=>tAug hk hL ho (T.E hy) _ _
  | If t x y p=>exact qAC h fun k hk h=>qAC h fun a ha h=>qAC h fun b' hb' h=>okE h (tIf (T.C hk) (ih ha) (ih hb') _)
  | For t it bd els p =>
   refine gdE h fun hn h=>qAC h fun ts ht h=>qAC h fun e he h=>qAC h fun b' hb' h=>okE h ?_
   rw [qCq hn]
   exact tFor ht (T.E he) (qBS (qDC he)) (ih hb') _
  | Continue p=>exact okE h (qPH _)
  | Assert t o p =>
   refine gdE h fun hn q1_=>mapE q1_ fun y hy=>?_
   clear h
   cases o with
   | none=>exact qPB (T.C hy) _
   | some=>cases hn
  | Delete ts p =>
   refine qAC h fun t ht h=>?_
   rw [one?_eq ht]
   exact dl_s G h
  | Expr e p=>exact ex_s G h
  | _=>exact nos h
theorem qIA (G:Glo lp hb prog w₀ b F LF mg mb) {own:List Str} {n:Nat} {ss:List Stmt} {m:MSL} (h:trSL n c own ss=some m):qBZ lp hb prog w₀ b F LF c ss m:=qC6 (qFo G n) h
end
section
variable {lp:LexP} {hb:Heap} {prog:Program} {w₀:World} {b:Nat} {F:Str->List D->D->Prop} {LF:LexF} {mg mb:Str->Option Value} {c:Sc}
set_option tactic.hygienic true in
theorem Ok.dropAll {S₀ S:St} {w ext:W} (O:Ok lp hb S (w++ext)) (L:Le S₀ S) (hlen:S₀.own.length=w.length) :
 Ok lp hb { S with own:=S.own.take w.length } w/\Le S₀ { S with own:=S.own.take w.length }:=by
 have hl:S.own.length=w.length+ext.length:=by rw [O.len]; simp
 have hsub:∀ a,a∈({ S with own:=S.own.take w.length }:St).fps->a∈S.fps:=fun a ha=>by
  refine x22 (St.mem_fps.mp ha) fun k p hk hm=>?_
  have hk':(S.own.take w.length)[k]?=some p:=hk
  rw [List.getElem?_take] at hk'
  split at hk'
  · exact St.mem_fps.mpr ⟨k,p,hk',hm⟩
  · cases hk'
 constructor
 · refine ⟨O.base,O.sub,?_,fun i q x h1 h2=>?_,?_,fun a ha=>O.apart a (hsub a ha)⟩
   · show (S.own.take w.length).length=_
     rw [List.length_take]; (exact au24 ‹_›)
   · have h1':(S.own.take w.length)[i]?=some q:=h1
     rw [List.getElem?_take] at h1'
     split at h1'
     · rename_i hi
       exact O.at_ i q x h1' (by rw [List.getElem?_append_left hi]; exact h2)
     · cases h1'
   · have:=O.nodup
     unfold St.fps at this ⊢
     show (((S.own.take w.length).map (·.2)).flatten).Nodup
     have e:S.own=S.own.take w.length++S.own.drop w.length:=(List.take_append_drop _ _).symm
     rw [e,List.map_append,List.flatten_append] at this
     exact (List.nodup_append.mp this).1
 · refine ⟨L.sh,L.alive,L.keep,L.sub,L.newB,fun k p e=>?_,fun a ha=>L.newF a (hsub a ha)⟩
   refine x12 (L.own k p e) fun p' e' r=>?_
   refine ⟨p',?_,r⟩
   have hk:k<w.length:=hlen ▸ (List.getElem?_eq_some_iff.mp e).1
   show (S.own.take w.length)[k]?=_
   rw [List.getElem?_take,if_pos hk]
   exact e'
theorem qJH {K:Str->Option NameKind}:∀ (binds:List (Str×Value)) (m:Str->Option Value) (x:Str),(∀ v,(x,v) ∉ binds)->bindL K binds m x=m x:=by
 intro L9
 induction L9 with
 | nil =>
  intro _ _ _
  exact rfl
 | cons p9 r ih9 =>
  obtain ⟨n,v⟩:=p9
  intro m x h
  unfold bindL
  rw [ih9 _ x fun v hv=>h v (List.mem_cons_of_mem _ hv)]
  split
  · have hne:x≠n:=fun e=>h v (by rw [e]; exact List.mem_cons_self)
    show (if x=n then some v else m x)=m x
    rw [if_neg hne]
  · rfl
theorem qKg {K:Str->Option NameKind}:∀ (binds:List (Str×Value)) (m:Str->Option Value) (x:Str) (v:Value),(binds.map (·.1)).Nodup->(x,v)∈binds->K x=some .local->bindL K binds m x=some v:=by
 intro L9
 induction L9 with
 | nil=>intros; contradiction
 | cons p9 r ih9 =>
  obtain ⟨n,u⟩:=p9
  intro m x v h hm hk
  unfold bindL
  simp only [List.map_cons,List.nodup_cons] at h
  rcases List.mem_cons.mp hm with e | hm
  · cases e
    rw [qJH r _ _ fun v hv=>h.1 (List.mem_map.mpr ⟨_,hv,rfl⟩),if_pos hk]
    exact if_pos rfl
  · exact ih9 _ x v h.2 hm hk
theorem qJF {K:Str->Option NameKind}:∀ (binds:List (Str×Value)) (m:Str->Option Value) (x:Str),(∀ v,(x,v) ∉ binds)->bindC K binds m x=m x:=by
 intro L9
 induction L9 with
 | nil =>
  intro _ _ _
  exact rfl
 | cons p9 r ih9 =>
  obtain ⟨n,v⟩:=p9
  intro m x h
  unfold bindC
  rw [ih9 _ x fun v hv=>h v (List.mem_cons_of_mem _ hv)]
  split
  · rfl
  · have hne:x≠n:=fun e=>h v (by rw [e]; exact List.mem_cons_self)
    show (if x=n then some v else m x)=m x
    rw [if_neg hne]
theorem qKD {K:Str->Option NameKind}:∀ (binds:List (Str×Value)) (m:Str->Option Value) (x:Str) (v:Value),(binds.map (·.1)).Nodup->(x,v)∈binds->K x≠some .local->bindC K binds m x=some v:=by
 intro L9
 induction L9 with
 | nil=>intros; contradiction
 | cons p9 r ih9 =>
  obtain ⟨n,u⟩:=p9
  intro m x v h hm hk
  unfold bindC
  simp only [List.map_cons,List.nodup_cons] at h
  rcases List.mem_cons.mp hm with e | hm
  · cases e
    rw [qJF r _ _ fun v hv=>h.1 (List.mem_map.mpr ⟨_,hv,rfl⟩),if_neg hk]
    exact if_pos rfl
  · exact ih9 _ x v h.2 hm hk
theorem qDY:∀ (names:List (Str×NameKind)) (n:Nat),(names.map (·.1)).Nodup->((cellsFrom n names []).map (·.1)).Nodup:=by
 intro L9
 induction L9 with
 | nil =>
  intro _ _
  simp [cellsFrom]
 | cons p9 r ih9 =>
  obtain ⟨x,k⟩:=p9
  intro n h
  simp only [List.map_cons,List.nodup_cons] at h
  unfold cellsFrom
  split
  · rw [qBH,List.map_append,List.nodup_append]
    refine ⟨ih9 (n+1) h.2,by simp,fun a ha b hb e=>?_⟩
    simp at hb
    subst hb
    subst e
    refine x12 (List.mem_map.mp ha) fun p hp hp1=>?_
    exact h.1 (List.mem_map.mpr ⟨_,(qAO _ _ _ _ hp).1,hp1⟩)
  · exact ih9 n h.2
noncomputable def iniS (tbl names:List Str) (ds:List Mine.D):List Slot:=tbl.map fun x=>match (names.zip ds).lookup x with | some d=>.dat d | none=>.unb
theorem qHK {B:Fz}:∀ (names:List Str) (vs:List Value) (ds:List Mine.D),RepL B vs ds->names.length=vs.length->∀ x d,(names.zip ds).lookup x=some d->∃ v,(x,v)∈names.zip vs/\Rep B v d
 | [],_,_,_,_,x,d,h=>by simp at h
 | n::ns,_,_,.nil,hl,_,_,h=>by simp at hl
 | n::ns,_,_,.cons (v:=v) (d:=d0) r1 r2,hl,x,d,h=>by
  rw [List.zip_cons_cons,List.lookup_cons] at h
  cases hx:x == n with
  | true =>
   rw [hx] at h; cases h
   exact ⟨v,by rw [beq_iff_eq.mp hx]; exact List.mem_cons_self,r1⟩
  | false =>
   rw [hx] at h
   refine x12 (qHK ns _ _ r2 (by simpa using hl) x d h) fun u h1 h2=>?_
   exact ⟨u,List.mem_cons_of_mem _ h1,h2⟩
theorem qGM:∀ (names:List Str) (vs:List Value),names.length=vs.length->(names.zip vs).map (·.1)=names
 | [],_,_=>rfl
 | _::_,[],h=>by simp at h
 | n::ns,v::vs,h=>by rw [List.zip_cons_cons,List.map_cons,qGM ns vs (by simpa using h)]
noncomputable def qDx (sc:Scope) (tbl names:List Str):Bool :=
 sc.kind == .function && !sc.isCoroutine && !sc.isGenerator && decide ((sc.names.map (·.1)).Nodup) && decide names.Nodup && decide tbl.Nodup && sc.names.all (fun x=>x.2 != .free) && names.all fun x=>sc.names.lookup x == some .local || sc.names.lookup x == some .cell
noncomputable def FnRes (r:Mine.D) (w:W):Fl->Sg->W->Prop:=fun fl σ w'=>(match fl with | .ret d=>d=r | _=>False)/\∃ ext,w'=w++ext
set_option tactic.hygienic true in
theorem qL5 (G:Glo lp hb prog w₀ (b+1) F LF mg mb) (hlim:hb.NoLimit) {x:Str} {params:Arguments} {body:List Stmt} {sc:Scope} {own tbl:List Str} {m:MSL} (htr:trSL 60 ⟨tbl,sc.names⟩ own body=some m) {pm cd doc:Value} {a:Addr} {o:Obj}
 (ho:hb.get? a=some o) (hdata:o.data=.func (Calls.docDef x params body sc pm cd doc)) (hcd:hb.CodeRec cd x) {names:List Str} (hfit:qDx sc tbl names=true)
 {A:Around} {S:St} {w:W} {vs:List Value} {ds:List Mine.D} {r:Mine.D} (hA:AOk b A) (O:Ok lp hb S w) (R:RepL S.B vs ds) (hn:names.length=vs.length) (hbind:bindArgs (Calls.docDef x params body sc pm cd doc) ⟨vs,[]⟩=pure (names.zip vs))
 (q:SL F LF m (iniS tbl names ds) w (FnRes r w)):wpAny (model prog w₀) A (call (.ref a) vs) (KRes lp hb S w (·=r)) ff S.s:=by
 unfold qDx at hfit
 simp only [Bool.and_eq_true,Bool.not_eq_true',beq_iff_eq,decide_eq_true_eq,List.all_eq_true,bne_iff_ne,ne_eq,Bool.or_eq_true] at hfit
 refine cps fun X9 k9=>?_
 obtain ⟨⟨⟨⟨⟨⟨⟨hk,hco⟩,hgen⟩,hnd⟩,hpn⟩,htn⟩,hfree⟩,hpar⟩:=hfit
 have hroom:A.depth<recursionLimit:=by
  have:=hA.depth; have:=G.room; show A.depth<1000; (exact as18 ‹_› ‹_› (by decide))
 have hkeep0:=O.heap
 have hmem:∀ y∈names.zip vs,y.1∈names:=fun y hy=>(List.of_mem_zip (a:=y.1) (b:=y.2) hy).1
 refine k9 ?_
 clear k9
 refine wpAny_call (call_cells_ret hroom (hkeep0 _ _ ho) hdata (hlim.keeps hkeep0) (hcd.keeps hkeep0) hbind ?_ (fun h₁ tk Fm X=>?_) hco hgen hk)
 · intro y hy
   rcases hpar y.1 (hmem y hy) with h | h
   · exact .inl h
   · refine .inr ⟨h,?_⟩
     refine x11 (qBq sc.names (S.h.objs.size+1) [] y.1 (mem_of_lookup h)) fun a' ha'=>?_
     obtain ⟨c',hc'⟩:=qBF ha'
     rw [hc']; rfl
 refine (fun env (henv:env=envOfC x sc S.s.heap.objs.size a cd)=>?_) _ rfl
 rw [← henv] at Fm X ⊢
 have hnone:∀ z,S.h.objs.size≤z->S.h.get? z=none:=fun z hz=>by
  cases e:S.h.get? z with
  | none=>rfl
  | some o=>exact absurd (Heap.lt_size e) (Nat.not_lt.mpr hz)
 refine x02 (O.quiet (h':=h₁) (tk:=tk) Fm.keep) fun O1 L1=>?_
 have hkindOf:∀ y,env.kindOf y=sc.names.lookup y:=fun y=>by rw [henv]; rfl
 have hcells:env.cells=cellsFrom (S.h.objs.size+1) sc.names []:=by rw [henv]; rfl
 have hloc:env.locals=S.h.objs.size:=by rw [henv]; rfl
 have hC:ScOk ⟨tbl,sc.names⟩ env:=fun y kk h=>.inl (by rw [hkindOf]; exact h)
 have cellAt:∀ y z,(y,z)∈env.cells->env.cells.lookup y=some z:=fun y z hm=>by
  rw [hcells] at hm ⊢
  exact qDF (qDY _ _ hnd) hm
 have slotAt:∀ (k:Nat) y sl,tbl[k]?=some y->(iniS tbl names ds)[k]?=some sl->sl=(match (names.zip ds).lookup y with | some d=>.dat d | none=>.unb):=fun k y sl h1 h2=>by
  unfold iniS at h2
  rw [List.getElem?_map,h1] at h2
  exact (Option.some.inj h2).symm
 have hzn:=qGM names vs hn
 have hnd2:((names.zip vs).map (·.1)).Nodup:=by rw [hzn]; exact hpn
 have Fk:FrOk tbl env (iniS tbl names ds) ⟨S.B,S.own,{ S.s with heap:=h₁,toks:=tk }⟩:=by
  refine ⟨by rw [henv]; exact hk,by rw [henv]; rfl,by rw [henv]; rfl,by simp [iniS],⟨_,hloc ▸ Fm.ns,fun k y sl h1 h2 h3=>?_⟩,fun k y sl h1 h2 h3=>?_,fun z hz=>?_,fun y z hm=>?_,fun y y' z hm hm'=>?_,htn⟩
  · rw [slotAt k y sl h1 h2]
    split
    · rename_i d hd
      refine x12 (qHK names vs ds R hn y d hd) fun v hv rv=>?_
      exact ⟨v,qKg _ _ y v hnd2 hv h3,rv⟩
    · trivial
  · have hcell:sc.names.lookup y=some .cell:=by
     rw [hkindOf] at h3
     rcases h3 with h3 | h3
     · exact h3
     · exact absurd rfl (hfree _ (mem_of_lookup h3))
    obtain ⟨z0,hz0⟩:=qBq sc.names (S.h.objs.size+1) [] y (mem_of_lookup hcell)
    rw [← hcells] at hz0
    have hz:=cellAt y z0 hz0
    refine ⟨z0,_,hz,X.cell y z0 (by rw [← hcells]; exact hz),?_⟩
    rw [slotAt k y sl h1 h2]
    split
    · rename_i d hd
      refine x12 (qHK names vs ds R hn y d hd) fun v hv rv=>?_
      exact ⟨v,qKD _ _ y v hnd2 hv (by rw [hkindOf,hcell]; decide),rv⟩
    · trivial
  · have new:S.h.get? z=none->(∃ o,h₁.get? z=some o)->S.B z=none/\z ∉ S.fps/\∃ o,h₁.get? z=some o:=fun h1 h2=>⟨O.bNone h1,O.fpNone h1,h2⟩
    rcases hz with hz | ⟨y,hm⟩
    · rw [hloc] at hz
      subst hz
      exact new (qAD _) (let ⟨o,_,_,ho,_⟩:=Fm.ns; ⟨o,ho⟩)
    · refine x12 (X.cell y z (by rw [← hcells]; exact cellAt y z hm)) fun o ho _=>?_
      rw [hcells] at hm
      exact new (hnone z (Nat.le_of_succ_le (qAO _ _ _ _ hm).2)) ⟨o,ho⟩
  · rw [hloc]
    rw [hcells] at hm
    exact Nat.ne_of_gt (qAO _ _ _ _ hm).2
  · rw [hcells] at hm hm'
    exact name_of_addr X.apart hm hm'
 have hA':AOk (b+1) (A.deeper env):=⟨hA.handled,by have:=hA.depth; show A.depth+1≤b+1; (exact Nat.succ_le_succ ‹_›),by have:=hA.units; show A.units+3≤10*(b+1); (exact as19 ‹_›)⟩
 refine wpAny_mono (qIA G htr _ env _ _ w _ hA' hC Fk O1 q) (fun f s' h=>?_) fun _ _ h=>h
 clear hA' slotAt cellAt hkindOf O1 henv Fm X hkeep0 hco hk hgen hnd htn hfree hpar q hbind R hcd hdata ho htr hlim G
 obtain ⟨S2,σ2,w2,fl,rfl,O2,L2,F2,hf,hr,ext,rfl⟩:=h
 cases fl with
 | nxt=>exact hr.elim
 | cnt=>exact hr.elim
 | ret d =>
  refine x12 hf fun v eq1 rv=>?_
  clear hf
  subst eq1
  have hr:d=r:=hr
  subst hr
  have LS:Le S S2:=L1.trans' L2 fun z o e hz=>by
   have hh:=qEE hC Fk hz
   have:S.h.get? z=none:=by
    rcases hh with rfl | ⟨y,hm⟩
    · rw [hloc]; exact qAD _
    · rw [hcells] at hm
      exact hnone z (Nat.le_of_succ_le (qAO _ _ _ _ hm).2)
   rw [this] at e; cases e
  refine x02 (O2.dropAll LS O.len) fun O3 L3=>?_
  exact ⟨⟨S2.B,S2.own.take w.length,S2.s⟩,d,rfl,O3,L3,rv,rfl⟩
end
noncomputable def dA (P:Program) (x:Str):Arguments×List Stmt×Scope:=(qNq P x).getD default
noncomputable def qA0:MSL:=(.cons (.asg 3 (.met (.find) (.var 1) (.cons (.var 5) (.cons (.var 3) (.cons (.var 4) (.nil)))))) (.cons (.ife (.cmp (.lt) (.var 3) (.cst (.int 0))) (.cons (.ret (.cst (.bool false))) (.nil)) (.nil)) (.cons (.aug 3 (.add) (.lenV 5)) (.nil))))
noncomputable def qC8:MSL:=.cons (.ife (.cmp (.notin) (.mark) (.var 0)) (.cons (.ret (.cmp (.eq) (.var 0) (.var 1))) (.nil)) (.nil)) (.cons (.asgO 2 (.met (.split) (.var 0) (.cons (.mark) (.nil)))) (.cons (.asrt (.cmp (.ge) (.lenV 2) (.cst (.int 2)))) (.cons (.asgT [(3,false),(4,false)] (.cons (.cst (.int 0)) (.cons (.lenV 1) (.nil)))) (.cons (.asg 5 (.idxV 2 (.cst (.int 0)))) (.cons (.ife (.val (.var 5)) (.cons (.ife (.val (.met (.startswith) (.var 1) (.cons (.var 5) (.nil)))) (.cons (.asg 3 (.lenV 5)) (.cons (.del 2 0) (.nil))) (.cons (.ret (.cst (.bool false))) (.nil))) (.nil)) (.nil)) (.cons (.asg 5 (.idxV 2 (.cst (.int (-1))))) (.cons (.ife (.val (.var 5)) (.cons (.ife (.val (.met (.endswith) (.var 1) (.cons (.var 5) (.nil)))) (.cons (.aug 4 (.sub) (.lenV 5)) (.cons (.del 2 (-1)) (.nil))) (.cons (.ret (.cst (.bool false))) (.nil))) (.nil)) (.nil)) (.cons (.ife (.cmp (.gt) (.var 3) (.var 4)) (.cons (.ret (.cst (.bool false))) (.nil)) (.nil)) (.cons (.forr [5] (.var 2) qA0) (.cons (.ret (.cst (.bool true))) (.nil)))))))))))
theorem qF3:trSL 60 ⟨qAN (dA P91 "_ellipsis_match").2.2,(dA P91 "_ellipsis_match").2.2.names⟩ (qC2 "_ellipsis_match") (dA P91 "_ellipsis_match").2.1=some qC8:=by kernel_rfl
noncomputable def qGv:MSL:=.cons (.ret (.inB1 (.bi (.ord) (.cons (.var 0) (.nil))))) (.nil)
theorem qI1:trSL 60 ⟨qAN (dA P91 "in_table_b1").2.2,(dA P91 "in_table_b1").2.2.names⟩ (qC2 "in_table_b1") (dA P91 "in_table_b1").2.1=some qGv:=by kernel_rfl
noncomputable def qDr:MSL:=.cons (.asg 1 (.getB3 (.bi (.ord) (.cons (.var 0) (.nil))))) (.cons (.ife (.isnn (.var 1)) (.cons (.ret (.var 1)) (.nil)) (.nil)) (.cons (.ret (.met (.lower) (.var 0) (.nil))) (.nil)))
theorem qJ5:trSL 60 ⟨qAN (dA P91 "map_table_b3").2.2,(dA P91 "map_table_b3").2.2.names⟩ (qC2 "map_table_b3") (dA P91 "map_table_b3").2.1=some qDr:=by kernel_rfl
noncomputable def qG1:MSL:=.cons (.unp [1,2] (.bi (.divmod) (.cons (.var 0) (.cons (.cst (.int 6)) (.nil))))) (.cons (.ife (.cmp (.lt) (.var 2) (.cst (.int 2))) (.cons (.ret (.bin (.mul) (.list (.cons (.list (.cons (.cst (.str [46])) (.cons (.cst (.str [46])) (.nil)))) (.nil))) (.ife (.cmp (.eq) (.var 2) (.cst (.int 0))) (.cst (.int 3)) (.bin (.add) (.cst (.int 1)) (.bin (.mod) (.var 1) (.cst (.int 2))))))) (.nil)) (.nil)) (.cons (.ife (.cmp (.eq) (.var 2) (.cst (.int 2))) (.cons (.asg 3 (.bin (.add) (.list (.cons (.cst (.int 173)) (.cons (.cst (.int 847)) (.cons (.cst (.int 6150)) (.cons (.cst (.int 6155)) (.cons (.cst (.int 6156)) (.cons (.cst (.int 6157)) (.cons (.cst (.int 8203)) (.cons (.cst (.int 8204)) (.cons (.cst (.int 8205)) (.cons (.cst (.int 8288)) (.cons (.cst (.int 65279)) (.nil))))))))))))) (.bi (.list) (.cons (.bi (.range2) (.cons (.cst (.int 65024)) (.cons (.cst (.int 65040)) (.nil)))) (.nil))))) (.cons (.ret (.bin (.mul) (.list (.cons (.list (.cons (.bi (.chr) (.cons (.idxV 3 (.bin (.mod) (.var 1) (.cst (.int 27)))) (.nil))) (.cons (.cst (.str [])) (.nil)))) (.nil))) (.bin (.add) (.cst (.int 1)) (.bin (.mod) (.bin (.fdiv) (.var 1) (.cst (.int 27))) (.cst (.int 3)))))) (.nil))) (.nil)) (.cons (.ife (.cmp (.eq) (.var 2) (.cst (.int 3))) (.cons (.ret (.list (.cons (.ife (.cmp (.eq) (.bin (.mod) (.var 1) (.cst (.int 2))) (.cst (.int 0))) (.list (.cons (.cst (.str [13255])) (.cons (.cst (.str [99,111,46])) (.nil)))) (.list (.cons (.cst (.str [890])) (.cons (.cst (.str [32,953])) (.nil))))) (.nil)))) (.nil)) (.nil)) (.cons (.ife (.cmp (.eq) (.var 2) (.cst (.int 4))) (.cons (.asg 4 (.list (.cons (.cst (.int 97)) (.cons (.cst (.int 65)) (.cons (.cst (.int 119808)) (.cons (.cst (.int 119860)) (.cons (.cst (.int 119912)) (.cons (.cst (.int 120016)) (.cons (.cst (.int 120172)) (.cons (.cst (.int 120224)) (.cons (.cst (.int 120276)) (.cons (.cst (.int 120328)) (.cons (.cst (.int 120380)) (.cons (.cst (.int 120432)) (.nil))))))))))))))) (.cons (.asg 5 (.ife (.cmp (.eq) (.bin (.mod) (.var 1) (.cst (.int 2))) (.cst (.int 1))) (.cst (.int 14)) (.cst (.int 2)))) (.cons (.ret (.list (.cons (.list (.cons (.bi (.chr) (.cons (.bin (.add) (.idxV 4 (.bin (.mod) (.bin (.fdiv) (.var 1) (.cst (.int 2))) (.cst (.int 12)))) (.var 5)) (.nil))) (.cons (.bi (.chr) (.cons (.bin (.add) (.cst (.int 97)) (.var 5)) (.nil))) (.nil)))) (.nil)))) (.nil)))) (.nil)) (.cons (.asg 6 (.bin (.add) (.bin (.mod) (.var 1) (.cst (.int 127))) (.ife (.cmp (.gt) (.bin (.mod) (.var 1) (.cst (.int 127))) (.cst (.int 32))) (.cst (.int 1)) (.cst (.int 0))))) (.cons (.ret (.list (.cons (.list (.cons (.bi (.chr) (.cons (.var 6) (.nil))) (.cons (.bi (.chr) (.cons (.ife (.cmp2 (.lt) (.lt) (.cst (.int 64)) (.var 6) (.cst (.int 91))) (.bin (.add) (.var 6) (.cst (.int 32))) (.var 6)) (.nil))) (.nil)))) (.nil)))) (.nil)))))))
theorem qKd:trSL 60 ⟨qAN (dA P91 "_law_drawn").2.2,(dA P91 "_law_drawn").2.2.names⟩ (qC2 "_law_drawn") (dA P91 "_law_drawn").2.1=some qG1:=by kernel_rfl
noncomputable def qBk:ME:=(.call { cps:=#[109,97,112,95,116,97,98,108,101,95,98,51] } (.cons (.var 9) (.nil)))
noncomputable def qBv:MC:=(.not (.val (.call { cps:=#[105,110,95,116,97,98,108,101,95,98,49] } (.cons (.var 9) (.nil)))))
noncomputable def qC0:MSL:=.cons (.ret (.met (.join) (.cst (.str [])) (.cons (.compIf qBk [9] (.var 0) qBv) (.nil)))) (.nil)
theorem qFV:trSL 60 ⟨qAN (dA P91 "_law_prepared").2.2,(dA P91 "_law_prepared").2.2.names⟩ (qC2 "_law_prepared") (dA P91 "_law_prepared").2.1=some qC0:=by kernel_rfl
noncomputable def qBV:MSL:=(.cons (.asg 2 (.bin (.add) (.bin (.add) (.var 2) (.ife (.or2 (.val (.var 1)) (.cmp (.isin) (.var 3) (.list (.cons (.cst (.str [34])) (.cons (.cst (.str [92])) (.nil)))))) (.cst (.str [92])) (.cst (.str [])))) (.var 3))) (.nil))
noncomputable def qEB:MSL:=.cons (.asg 2 (.cst (.str []))) (.cons (.forr [3,4] (.var 0) qBV) (.cons (.ret (.bin (.add) (.cst (.str [10,9,13,32])) (.ife (.val (.var 1)) (.var 2) (.bin (.add) (.bin (.add) (.cst (.str [34])) (.var 2)) (.cst (.str [34])))))) (.nil)))
theorem qHE:trSL 60 ⟨qAN (dA P91 "_law_written").2.2,(dA P91 "_law_written").2.2.names⟩ (qC2 "_law_written") (dA P91 "_law_written").2.1=some qEB:=by kernel_rfl
noncomputable def qC9:MSL:=(.cons (.asg 2 (.ife (.cmp (.eq) (.var 3) (.cst (.str [46]))) (.bin (.add) (.var 2) (.cst (.int 1))) (.cst (.int 0)))) (.cons (.app 1 (.cst (.bool false))) (.cons (.ife (.and2 (.cmp (.gt) (.var 2) (.cst (.int 0))) (.cmp (.eq) (.bin (.mod) (.var 2) (.cst (.int 3))) (.cst (.int 0)))) (.cons (.asgO 1 (.bin (.add) (.sl (.var 1) (.cst (.none)) (.cst (.int (-3)))) (.list (.cons (.cst (.bool true)) (.cons (.cst (.bool true)) (.cons (.cst (.bool true)) (.nil))))))) (.nil)) (.nil)) (.nil))))
noncomputable def qGX:MSL:=.cons (.asgT [(1,true),(2,false)] (.cons (.list (.nil)) (.cons (.cst (.int 0)) (.nil)))) (.cons (.forr [3,4] (.var 0) qC9) (.cons (.ret (.var 1)) (.nil)))
theorem qI6:trSL 60 ⟨qAN (dA P91 "_law_marks").2.2,(dA P91 "_law_marks").2.2.names⟩ (qC2 "_law_marks") (dA P91 "_law_marks").2.1=some qGX:=by kernel_rfl
noncomputable def qBN:MSL:=(.cons (.ife (.val (.idxV 1 (.var 5))) (.cons (.asg 4 (.bin (.add) (.var 4) (.cst (.int 1)))) (.cons (.asgO 3 (.bin (.add) (.var 3) (.ife (.cmp (.eq) (.bin (.mod) (.var 4) (.cst (.int 3))) (.cst (.int 0))) (.var 2) (.list (.nil))))) (.nil))) (.cons (.app 3 (.idxV 0 (.var 5))) (.nil))) (.nil))
noncomputable def qFI:MSL:=.cons (.asgT [(3,true),(4,false)] (.cons (.list (.nil)) (.cons (.cst (.int 0)) (.nil)))) (.cons (.forr [5] (.bi (.range1) (.cons (.lenV 0) (.nil))) qBN) (.cons (.ret (.var 3)) (.nil)))
theorem qH9:trSL 60 ⟨qAN (dA P91 "_law_filled").2.2,(dA P91 "_law_filled").2.2.names⟩ (qC2 "_law_filled") (dA P91 "_law_filled").2.1=some qFI:=by kernel_rfl
noncomputable def qFU:ME:=(.list (.cons (.var 12) (.cons (.idxV 1 (.var 6)) (.nil))))
noncomputable def qB4:MSL:=(.cons (.unp [7,8] (.idxV 0 (.var 6))) (.cons (.ife (.cmp (.eq) (.var 8) (.cst (.str []))) (.cons (.asg 4 (.bin (.add) (.var 4) (.ife (.val (.var 2)) (.cst (.int 1)) (.cst (.int 0))))) (.nil)) (.cons (.ife (.cmp (.eq) (.var 7) (.cst (.str [92]))) (.cons (.asg 5 (.bin (.add) (.var 5) (.cst (.int 1)))) (.nil)) (.cons (.asg 3 (.bin (.add) (.var 3) (.bin (.mul) (.list (.cons (.list (.cons (.cst (.str [92])) (.cons (.cst (.bool false)) (.nil)))) (.nil))) (.bin (.add) (.var 5) (.bin (.fdiv) (.bin (.add) (.var 4) (.cst (.int 1))) (.cst (.int 2))))))) (.cons (.ife (.and2 (.cmp (.isin) (.idxV 8 (.cst (.int 0))) (.cst (.str [10,9,13,32]))) (.cmp (.eq) (.bin (.mod) (.var 4) (.cst (.int 2))) (.cst (.int 1)))) (.cons (.ret (.var 3)) (.nil)) (.nil)) (.cons (.asg 3 (.bin (.add) (.var 3) (.comp qFU [12] (.var 8)))) (.cons (.asgT [(4,false),(5,false)] (.cons (.cst (.int 0)) (.cons (.cst (.int 0)) (.nil)))) (.nil)))))) (.nil))) (.nil)))
noncomputable def qKk:MSL:=.cons (.asgT [(3,true),(4,false),(5,false)] (.cons (.list (.nil)) (.cons (.cst (.int 0)) (.cons (.cst (.int 0)) (.nil))))) (.cons (.forr [6] (.bi (.range1) (.cons (.lenV 0) (.nil))) qB4) (.cons (.ret (.bin (.add) (.var 3) (.bin (.mul) (.list (.cons (.list (.cons (.cst (.str [92])) (.cons (.cst (.bool false)) (.nil)))) (.nil))) (.bin (.add) (.var 5) (.bin (.fdiv) (.var 4) (.cst (.int 2))))))) (.nil)))
theorem qLw:trSL 60 ⟨qAN (dA P91 "_law_left").2.2,(dA P91 "_law_left").2.2.names⟩ (qC2 "_law_left") (dA P91 "_law_left").2.1=some qKk:=by kernel_rfl
noncomputable def qCw:MSL:=(.cons (.ife (.cmp (.eq) (.var 5) (.cst (.str [46]))) (.cons (.app 4 (.var 6)) (.nil)) (.cons (.asg 7 (.bin (.mod) (.lenV 4) (.cst (.int 3)))) (.cons (.ife (.cmp (.gt) (.lenV 4) (.cst (.int 2))) (.cons (.app 2 (.lenV 1)) (.cons (.asg 3 (.and2 (.var 3) (.cmp (.notin) (.cst (.bool true)) (.sl (.var 4) (.bin (.sub) (.lenV 4) (.var 7)) (.cst (.none)))))) (.nil))) (.nil)) (.cons (.asg 1 (.bin (.add) (.bin (.add) (.var 1) (.bin (.mul) (.cst (.str [46])) (.var 7))) (.var 5))) (.cons (.asgO 4 (.list (.nil))) (.nil)))))) (.nil))
noncomputable def qGk:MSL:=.cons (.asgT [(1,false),(2,true),(3,false),(4,true)] (.cons (.cst (.str [])) (.cons (.list (.nil)) (.cons (.cst (.bool true)) (.cons (.list (.nil)) (.nil)))))) (.cons (.forr [5,6] (.bin (.add) (.var 0) (.list (.cons (.list (.cons (.cst (.str [])) (.cons (.cst (.bool false)) (.nil)))) (.nil)))) qCw) (.cons (.ret (.tup (.cons (.var 1) (.cons (.var 2) (.cons (.var 3) (.nil)))))) (.nil)))
theorem qKs:trSL 60 ⟨qAN (dA P91 "_law_shape").2.2,(dA P91 "_law_shape").2.2.names⟩ (qC2 "_law_shape") (dA P91 "_law_shape").2.1=some qGk:=by kernel_rfl
noncomputable def qDU:ME:=(.cmp (.eq) (.bin (.mod) (.bin (.fdiv) (.idx (.bin (.add) (.var 0) (.list (.cons (.cst (.int 0)) (.nil)))) (.cst (.int 0))) (.var 26)) (.cst (.int 2))) (.cst (.int 1)))
noncomputable def qBl:MSL:=(.cons (.asg 3 (.bin (.add) (.var 3) (.call { cps:=#[95,108,97,119,95,100,114,97,119,110] } (.cons (.var 5) (.nil))))) (.nil))
noncomputable def qCt:ME:=(.call { cps:=#[105,110,95,116,97,98,108,101,95,98,49] } (.cons (.idxV 27 (.cst (.int 0))) (.nil)))
noncomputable def qDP:ME:=(.cmp (.eq) (.idxV 27 (.cst (.int 1))) (.cst (.str [])))
noncomputable def qHo:ME:=(.var 29)
noncomputable def qDT:MC:=(.not (.val (.isb (.var 29))))
noncomputable def qLo:ME:=(.list (.cons (.idxV 27 (.cst (.int 0))) (.cons (.idxV 27 (.cst (.int 0))) (.nil))))
noncomputable def qHL:ME:=(.comp qLo [27] (.var 28))
noncomputable def qHm:ME:=(.call { cps:=#[95,108,97,119,95,102,105,108,108,101,100] } (.cons (.var 3) (.cons (.var 7) (.cons (.var 35) (.nil)))))
noncomputable def qKp:ME:=(.idxV 27 (.cst (.int 0)))
noncomputable def qDW:ME:=(.met (.join) (.cst (.str [])) (.cons (.comp qKp [27] (.var 28)) (.nil)))
noncomputable def qGE:ME:=(.call { cps:=#[95,108,97,119,95,119,114,105,116,116,101,110] } (.cons (.var 28) (.cons (.var 1) (.nil))))
noncomputable def qDj:ME:=(.ife (.val (.var 2)) (.var 11) (.call { cps:=#[95,108,97,119,95,112,114,101,112,97,114,101,100] } (.cons (.var 11) (.nil))))
noncomputable def qFc:ME:=(.bin (.add) (.bin (.add) (.sl (.var 13) (.cst (.none)) (.var 30)) (.var 17)) (.sl (.var 13) (.var 30) (.cst (.none))))
noncomputable def qKI:ME:=(.bin (.add) (.sl (.var 11) (.cst (.none)) (.var 33)) (.sl (.var 11) (.bin (.add) (.var 33) (.cst (.int 1))) (.cst (.none))))
noncomputable def qF8:ME:=(.cmp (.isin) (.var 13) (.comp qKI [33] (.var 14)))
noncomputable def qFq:ME:=(.bin (.add) (.sl (.var 13) (.cst (.none)) (.var 30)) (.sl (.var 13) (.bin (.add) (.var 30) (.cst (.int 1))) (.cst (.none))))
noncomputable def qF4:ME:=(.bin (.add) (.bin (.add) (.sl (.var 13) (.cst (.none)) (.var 30)) (.var 17)) (.sl (.var 13) (.bin (.add) (.var 30) (.cst (.int 1))) (.cst (.none))))
noncomputable def qCg:ME:=(.cmp (.eq) (.var 34) (.var 17))
noncomputable def qCb:MSL:=(.cons (.push 20 (.var 11)) (.nil))
noncomputable def qEC:ME:=(.newtok (.var 31))
noncomputable def qBc:ME:=(.tok 20)
noncomputable def qI7:ME:=(.var 34)
noncomputable def qEA:ME:=(.met (.join) (.cst (.str [])) (.cons (.comp qI7 [34,32] (.call { cps:=#[95,108,97,119,95,108,101,102,116] } (.cons (.var 28) (.cons (.bin (.mul) (.list (.cons (.cst (.bool false)) (.nil))) (.lenV 28)) (.cons (.var 1) (.nil)))))) (.nil)))
noncomputable def qF6:ME:=(.call { cps:=#[95,101,108,108,105,112,115,105,115,95,109,97,116,99,104] } (.cons (.idxV 24 (.cst (.int 0))) (.cons (.var 11) (.nil))))
noncomputable def qFT:ME:=(.call { cps:=#[95,101,108,108,105,112,115,105,115,95,109,97,116,99,104] } (.cons (.idxV 10 (.cst (.int 0))) (.cons (.var 11) (.nil))))
noncomputable def qF1:ME:=(.var 29)
noncomputable def qCs:MC:=(.not (.val (.isb (.var 29))))
noncomputable def qM7:MSL:=.cons (.unp [1,2] (.comp qDU [26] (.list (.cons (.cst (.int 1)) (.cons (.cst (.int 2)) (.nil)))))) (.cons (.asgT [(3,true),(4,false)] (.cons (.list (.nil)) (.cons (.call { cps:=#[95,108,97,119,95,100,114,97,119,110] } (.cons (.bi (.sum) (.cons (.var 0) (.nil))) (.nil))) (.nil)))) (.cons (.forr [5] (.ife (.cmp (.gt) (.lenV 0) (.cst (.int 1))) (.sl (.var 0) (.cst (.int 1)) (.cst (.int 7))) (.list (.cons (.cst (.int 4)) (.cons (.cst (.int 0)) (.cons (.cst (.int 10)) (.cons (.cst (.int 1)) (.cons (.cst (.int 2)) (.cons (.cst (.int 0)) (.cons (.cst (.int 16)) (.nil)))))))))) qBl) (.cons (.asg 6 (.comp qCt [27] (.var 3))) (.cons (.ife (.or2 (.cmp (.ne) (.var 6) (.comp qDP [27] (.var 3))) (.cmp (.ne) (.compIf qHo [29] (.var 6) qDT) (.list (.nil)))) (.cons (.ret (.cst (.bool false))) (.nil)) (.nil)) (.cons (.ife (.val (.var 2)) (.cons (.unp [3,4] (.comp qHL [28] (.list (.cons (.var 3) (.cons (.var 4) (.nil)))))) (.nil)) (.nil)) (.cons (.asgT [(7,false),(8,false)] (.cons (.call { cps:=#[95,108,97,119,95,109,97,114,107,115] } (.cons (.var 3) (.nil))) (.cons (.list (.cons (.list (.cons (.cst (.str [33])) (.cons (.cst (.str [33])) (.nil)))) (.nil))) (.nil)))) (.cons (.asg 9 (.bin (.add) (.list (.cons (.var 3) (.nil))) (.comp qHm [35] (.list (.cons (.var 8) (.cons (.bin (.add) (.bin (.add) (.var 8) (.var 4)) (.var 8)) (.nil))))))) (.cons (.asg 10 (.comp qDW [28] (.var 9))) (.cons (.asg 12 (.comp qDj [11] (.comp qGE [28] (.var 9)))) (.cons (.unp [13,14,15] (.call { cps:=#[95,108,97,119,95,115,104,97,112,101] } (.cons (.call { cps:=#[95,108,97,119,95,108,101,102,116] } (.cons (.var 3) (.cons (.var 7) (.cons (.var 1) (.nil))))) (.nil)))) (.cons (.asgT [(16,false),(17,false)] (.cons (.lenV 13) (.cons (.bi (.chr) (.cons (.bin (.mod) (.bin (.add) (.cst (.int 33)) (.bi (.sum) (.cons (.var 0) (.nil)))) (.cst (.int 128))) (.nil))) (.nil)))) (.cons (.asg 18 (.comp qFc [30] (.bi (.range1) (.cons (.bin (.add) (.var 16) (.cst (.int 1))) (.nil))))) (.cons (.asg 19 (.comp qF8 [11] (.var 18))) (.cons (.asg 18 (.bin (.add) (.bin (.add) (.var 18) (.comp qFq [30] (.bi (.range1) (.cons (.var 16) (.nil))))) (.comp qF4 [30] (.bi (.range1) (.cons (.var 16) (.nil)))))) (.cons (.asg 18 (.bin (.add) (.var 18) (.list (.cons (.var 13) (.cons (.met (.join) (.cst (.str [])) (.cons (.rev (.bi (.list) (.cons (.var 13) (.nil)))) (.nil))) (.cons (.bin (.add) (.var 13) (.var 13)) (.nil))))))) (.cons (.asg 19 (.bin (.add) (.bin (.add) (.bin (.add) (.var 19) (.bin (.mul) (.list (.cons (.cst (.bool false)) (.nil))) (.var 16))) (.comp qCg [34] (.var 13))) (.list (.cons (.cst (.bool true)) (.cons (.cmp (.eq) (.idxV 18 (.cst (.int (-2)))) (.var 13)) (.cons (.or2 (.cmp (.ne) (.var 14) (.list (.nil))) (.cmp (.eq) (.var 13) (.cst (.str [])))) (.nil))))))) (.cons (.newlex 20 (.bin (.add) (.cst (.str [34,92,67,67,34,67,67])) (.idxV 12 (.cst (.int 0))))) (.cons (.asg 21 (.list (.cons (.tok 20) (.cons (.tok 20) (.nil))))) (.cons (.forr [11] (.var 18) qCb) (.cons (.asg 22 (.comp qEC [31] (.sl (.var 12) (.cst (.int 1)) (.cst (.none))))) (.cons (.asg 23 (.comp qBc [11] (.var 18))) (.cons (.asg 24 (.bin (.add) (.list (.cons (.tok 20) (.nil))) (.var 22))) (.cons (.ife (.or2 (.cmp (.ne) (.bin (.add) (.var 21) (.var 23)) (.bin (.add) (.list (.cons (.cst (.str [67,67])) (.cons (.cst (.str [67,67])) (.nil)))) (.var 18))) (.cmp (.ne) (.var 24) (.comp qEA [28] (.var 9)))) (.cons (.ret (.cst (.bool false))) (.nil)) (.nil)) (.cons (.asg 25 (.bin (.add) (.comp qF6 [11] (.bin (.add) (.var 23) (.var 22))) (.comp qFT [11] (.sl (.var 10) (.cst (.int 1)) (.cst (.none)))))) (.cons (.asg 19 (.bin (.add) (.var 19) (.list (.cons (.var 15) (.cons (.or2 (.var 15) (.and2 (.cmp (.ne) (.idx (.idxV 4 (.cst (.int 0))) (.cst (.int 0))) (.cst (.str [46]))) (.idxV 25 (.cst (.int (-3)))))) (.cons (.cst (.bool true)) (.cons (.cst (.bool true)) (.nil)))))))) (.cons (.ret (.and2 (.cmp (.eq) (.var 25) (.var 19)) (.cmp (.eq) (.compIf qF1 [29] (.var 25) qCs) (.list (.nil))))) (.nil)))))))))))))))))))))))))))
theorem qMn:trSL 60 ⟨qAN (dA P91 "law").2.2,(dA P91 "law").2.2.names⟩ (qC2 "law") (dA P91 "law").2.1=some qM7:=by kernel_rfl
theorem gd0 {x:Slot} {r:Sg} {d:Slot}:List.getD (x::r) 0 d=x:=rfl
theorem gd1 {x:Slot} {r:Sg} {k:Nat} {d:Slot}:List.getD (x::r) (k+1) d=List.getD r k d:=rfl
theorem vd {d:D} {w:W} {Q:D->W->Prop}:varK (.dat d) w Q=Q d w:=rfl
theorem ldd {d:D} {w:W} {Q:D->Prop}:qBY (.dat d) w Q=Q d:=rfl
noncomputable abbrev It:=List Nat×List Nat
noncomputable def itD (p:It):D:=.list [.str p.1,.str p.2]
noncomputable def itsD (l:List It):D:=.list (l.map itD)
noncomputable def bsD (l:List Bool):D:=.list (l.map .bool)
noncomputable def Ext (w₀ w:W):Prop:=∃ ext,w=w₀++ext
theorem Ext.refl (w:W):Ext w w:=⟨[],by simp⟩
theorem Ext.len {w₀ w:W} (h:Ext w₀ w):w₀.length≤w.length:=by obtain ⟨e,rfl⟩:=h; simp
theorem Ext.set {w₀ w:W} (h:Ext w₀ w) {k:Nat} (hk:w₀.length≤k) (x:OO):Ext w₀ (w.set k x):=by
 obtain ⟨e,rfl⟩:=h
 exact ⟨e.set (k-w₀.length) x,by rw [List.set_append,if_neg (by exact Nat.not_lt.mpr ‹_›)]⟩
theorem Ext.snoc {w₀ w:W} (h:Ext w₀ w) (x:OO):Ext w₀ (w++[x]):=by
 obtain ⟨e,rfl⟩:=h
 exact ⟨e++[x],by simp⟩
theorem qBB {w:W} {k:Nat} {x y:OO} (h:w[k]?=some x):(w.set k y)[k]?=some y:=List.getElem?_set_self (List.getElem?_eq_some_iff.mp h).1
theorem qAX (w:W) (x:OO):(w++[x])[w.length]?=some x:=by simp
theorem lk_ {j:Nat} {w:W} {xs:List D} {Q:D->Prop} (hx:w[j]?=some (.lst xs)) (q:Q (.list xs)):qBY (.loc j) w Q:=by
 delta qBY; dsimp only; rw [hx]; exact q
theorem lkf_ {j:Nat} {w:W} {xs:List D} {Q:D->Prop} (hx:w[j]?=some (.fro xs)) (q:Q (.list xs)):qBY (.loc j) w Q:=by
 delta qBY; dsimp only; rw [hx]; exact q
theorem vr_ {j:Nat} {w:W} {xs:List D} {Q:D->W->Prop} (hx:w[j]?=some (.lst xs)) (q:Q (.list xs) (w.set j (.fro xs))):varK (.loc j) w Q:=by
 delta varK; dsimp only; rw [hx]; exact q
theorem ifT {a b:Prop} (h:a):if true=true then a else b:=h
theorem iteD {p:Prop} [Decidable p] {a b:Prop} (h1:p->a) (h2:¬p->b):if decide p=true then a else b:=by
 by_cases h:p
 · rw [if_pos (decide_eq_true h)]; exact h1 h
 · rw [if_neg fun e=>h (of_decide_eq_true e)]; exact h2 h
theorem app_ {F:Str->List D->D->Prop} {LF:LexF} {k:Nat} {e:ME} {σ:Sg} {w:W} {Q:Fl->Sg->W->Prop} {j:Nat} {xs:List D} {d:D} (hσ:σ.getD k .unb=.loc j) (hw:w[j]?=some (.lst xs)) (hl:xs.length<16777216) (he:∀ R:D->W->Prop,R d w->E F LF e σ w R) (q:Q .nxt σ (w.set j (.lst (xs++[d])))):SS F LF (.app k e) σ w Q:=by
 rw [xSS13,hσ]
 exact ⟨⟨_,hw⟩,he _ (by rw [hw]; exact ⟨hl,q⟩)⟩
theorem FnRes.of {r:D} {w₀ w:W} (h:Ext w₀ w) (σ:Sg):FnRes r w₀ (.ret r) σ w:=⟨rfl,h⟩
section
variable (F:Str->List D->D->Prop) (LF:LexF)
noncomputable def qAc (s:List Bool×Nat) (p:It):List Bool×Nat :=
 if p.1=[46] then (if (s.2+1) % 3=0 then ((s.1++[false]).take (s.1.length-2)++[true,true,true],s.2+1) else (s.1++[false],s.2+1))
 else (s.1++[false],0)
noncomputable def qDt (l:List It):List Bool:=(l.foldl qAc ([],0)).1
theorem fmod3' (r:Nat):((r:Int)).fmod 3=((r % 3:Nat):Int):=by
 rw [Int.fmod_eq_emod_of_nonneg _ (by decide)]; lia
theorem fmod3 (r:Nat):((r:Int)+1).fmod 3=(((r+1) % 3:Nat):Int):=fmod3' (r+1)
noncomputable def mkC:MSL:=.cons (.asgO 1 (.bin .add (.sl (.var 1) (.cst .none) (.cst (.int (-3)))) (.list (.cons (.cst (.bool true)) (.cons (.cst (.bool true)) (.cons (.cst (.bool true)) .nil)))))) .nil
noncomputable def mkB:MSL:=.cons (.app 1 (.cst (.bool false))) (.cons (.ife (.and2 (.cmp .gt (.var 2) (.cst (.int 0))) (.cmp .eq (.bin .mod (.var 2) (.cst (.int 3))) (.cst (.int 0)))) mkC .nil) .nil)
theorem qJK {w₀ w:W} {m:List Bool} {k r:Nat} {s0 s3 s4:Slot} {rest:Sg} {K:Fl->Sg->W->Prop} (hE:Ext w₀ w) (hk:w₀.length≤k) (hw:w[k]?=some (.lst (m.map .bool))) (hl:m.length≤16000000)
 (q1:0<r->r % 3=0->∀ k' w',Ext w₀ w'->w₀.length≤k'->w'[k']?=some (.lst (((m++[false]).take (m.length-2)++[true,true,true]).map .bool))->K .nxt (s0::.loc k'::.dat (.int r)::s3::s4::rest) w')
 (q2:¬ (0<r/\r % 3=0)->∀ w',Ext w₀ w'->w'[k]?=some (.lst ((m++[false]).map .bool))->K .nxt (s0::.loc k::.dat (.int r)::s3::s4::rest) w') :
 SL F LF mkB (s0::.loc k::.dat (.int r)::s3::s4::rest) w K:=by
 have hget:(w.set k (.lst (m.map .bool++[.bool false])))[k]?=some (.lst ((m++[false]).map .bool)):=by rw [qBB hw]; simp
 have hE1:=hE.set hk (.lst (m.map .bool++[.bool false]))
 delta mkB
 refine app_ rfl hw (by rw [List.length_map]; exact Nat.lt_of_le_of_lt hl (by decide)) (fun R h=>h) ?_
 refine iteD (p:=(r:Int)>0) (fun h0=>?_) fun h0=>?_
 · refine ⟨by decide,iteD (p:=(r:Int).fmod 3=0) (fun h3=>?_) fun h3=>?_⟩
   · have e3:r % 3=0:=Int.ofNat.inj ((fmod3' r).symm.trans h3)
     delta mkC
     dsimp only [SL,SS,EO,E,EL,Cst.d,gd0,gd1]
     refine vr_ hget ?_
     have e2:((((m++[false]).map D.bool).length:Int) + -3).toNat=m.length-2:=by rw [List.length_map,List.length_append]; exact ar46
     have e4:cut ((m++[false]).map D.bool) 0 (if (-3:Int)<0 then ((((m++[false]).map D.bool).length:Int) + -3).toNat else min (-3:Int).toNat ((m++[false]).map D.bool).length)=((m++[false]).take (m.length-2)).map D.bool:=by
      rw [if_pos (by decide),e2]; simp [cut,List.map_take]
     refine ⟨by simp; (exact Nat.le_trans ‹_› (by decide)),trivial,⟨by decide,by decide⟩,0,_,rfl,rfl,?_⟩
     rw [e4]
     refine ⟨by decide,by rw [List.length_map,List.length_take,List.length_append]; exact Nat.le_trans (Nat.add_le_add_right (Nat.min_le_right _ _) _) (Nat.le_trans (Nat.add_le_add_right (Nat.succ_le_succ hl) 3) (by decide)),q1 (Int.ofNat_lt.mp h0) e3 _ _ ((hE1.set hk (.fro ((m++[false]).map .bool))).snoc _) (hE1.set hk _).len ?_⟩
     rw [qAX,List.map_append]; rfl
   · exact q2 (fun e=>h3 ((fmod3' r).trans (congrArg Int.ofNat e.2))) _ hE1 hget
 · exact q2 (fun e=>h0 (Int.ofNat_lt.mpr e.1)) _ hE1 hget
theorem qIG (w₀ w:W) (p:It) (s:List Bool×Nat) (k:Nat) (s0 s3 s4:Slot) (rest:Sg) (K:Fl->Sg->W->Prop) (hE:Ext w₀ w) (hk:w₀.length≤k) (hw:w[k]?=some (.lst (s.1.map .bool))) (hl:s.1.length≤16000000)
 (q:∀ k' w' s3' s4',Ext w₀ w'->w₀.length≤k'->w'[k']?=some (.lst ((qAc s p).1.map .bool))->K .nxt (s0::.loc k'::.dat (.int (qAc s p).2)::s3'::s4'::rest) w') :
 qAJ [3,4] (itD p) (s0::.loc k::.dat (.int s.2)::s3::s4::rest) fun σ=>SL F LF qC9 σ w K:=by
 refine ⟨rfl,Nat.le_add_left _ _,?_⟩
 show SL F LF (.cons (.asg 2 (.ife (.cmp .eq (.var 3) (.cst (.str [46]))) (.bin .add (.var 2) (.cst (.int 1))) (.cst (.int 0)))) mkB) (s0::.loc k::.dat (.int s.2)::.dat (.str p.1)::.dat (.str p.2)::rest) w K
 refine iteD (p:=p.1=[46]) (fun hp=>?_) fun hp=>?_
 · rw [show qAc s p=_ from if_pos hp] at q
   refine qJK F LF (r:=s.2+1) hE hk hw hl (fun _ e k' w' a b c=>?_) fun e w' a c=>?_
   · rw [if_pos e] at q; exact q k' w' _ _ a b c
   · rw [if_neg fun e3=>e ⟨Nat.succ_pos _,e3⟩] at q; exact q k w' _ _ a hk c
 · rw [show qAc s p=_ from if_neg hp] at q
   exact qJK F LF (r:=0) hE hk hw hl (fun h=>nomatch h) fun _ w' a c=>q k w' _ _ a hk c
theorem qFx (s:List Bool×Nat) (p:It):(qAc s p).1.length≤s.1.length+3:=by
 unfold qAc
 split
 · split <;> simp <;> (exact ar8)
 · simp
theorem qIs (w₀:W) (Q:Fl->Sg->W->Prop):∀ (l:List It) (s:List Bool×Nat) (k:Nat) (w:W) (s0 s3 s4:Slot) (rest:Sg),Ext w₀ w->w₀.length≤k->w[k]?=some (.lst (s.1.map .bool))->s.1.length+3*l.length≤16000000 ->
 (∀ k' w' r' s3' s4',Ext w₀ w'->w₀.length≤k'->w'[k']?=some (.lst ((l.foldl qAc s).1.map .bool))->Q .nxt (s0::.loc k'::.dat (.int r')::s3'::s4'::rest) w') ->
 qA2 (fun x σ w k=>qAJ [3,4] x σ fun σ=>SL F LF qC9 σ w k) (l.map itD) (s0::.loc k::.dat (.int s.2)::s3::s4::rest) w Q:=by
 intro l
 induction l with
 | nil =>
  intro s k w s0 s3 s4 rest hE hk hw hl q
  exact q k w s.2 s3 s4 hE hk hw
 | cons p l ih =>
  intro s k w s0 s3 s4 rest hE hk hw hl q
  refine qIG F LF w₀ w p s k s0 s3 s4 rest _ hE hk hw (by simp at hl; (exact Nat.le_trans (Nat.le_add_right _ _) ‹_›)) fun k' w' s3' s4' hE' hk' hw'=>?_
  exact ih (qAc s p) k' w' s0 s3' s4' rest hE' hk' hw' (by have:=qFx s p; simp at hl; (exact ar56 ‹_› ‹_›)) q
theorem qIi (l:List It) (w:W) (hl:l.length≤5000000) (rest:Sg):SL F LF qGX (.dat (itsD l)::.unb::.unb::.unb::.unb::rest) w (FnRes (bsD (qDt l)) w):=by
 delta qGX
 refine ⟨Nat.zero_le _,Nat.le_add_left _ _,by rw [List.length_map]; exact Nat.le_trans hl (by decide),?_⟩
 refine qIs F LF w _ l ([],0) w.length (w++[.lst []]) _ _ _ rest ((Ext.refl w).snoc _) (Nat.le_refl _) (qAX _ _) (by rw [List.length_nil,Nat.zero_add]; exact Nat.le_trans (Nat.mul_le_mul_left _ hl) (by decide)) fun k' w' r' s3' s4' hE hk hw=>?_
 dsimp only [SL,SS,E,EL,vd,gd0,gd1]
 exact vr_ hw ⟨rfl,hE.set hk _⟩
end
section
variable (F:Str->List D->D->Prop) (LF:LexF)
noncomputable def esc (g:Bool) (p:It):List Nat:=(if g=true\/p.1=[34]\/p.1=[92] then [92] else [])++p.1
noncomputable def qAf (g:Bool) (l:List It):List Nat:=(l.map (esc g)).flatten
noncomputable def qAS (g:Bool) (l:List It):List Nat:=[10,9,13,32]++(if g=true then qAf g l else [34]++qAf g l++[34])
theorem qFp (w:W) (p:It) (g:Bool) (t:List Nat) (s0 s3 s4:Slot) (rest:Sg) (K:Fl->Sg->W->Prop) (ht:t.length+p.1.length≤16000000)
 (q:∀ s3' s4',K .nxt (s0::.dat (.bool g)::.dat (.str (t++esc g p))::s3'::s4'::rest) w) :
 qAJ [3,4] (itD p) (s0::.dat (.bool g)::.dat (.str t)::s3::s4::rest) fun σ=>SL F LF qBV σ w K:=by
 unfold itD
 try simp only [qAJ,qA3,List.set,List.length_cons,List.length_nil]
 refine ⟨trivial,by exact Nat.le_add_left _ _,?_⟩
 have fin:∀ e:List Nat,e.length≤1->esc g p=e++p.1 ->
  binA .add (.str t) (.str e) (fun d=>binA .add d (.str p.1) (fun d=>K .nxt (s0::.dat (.bool g)::.dat d::.dat (.str p.1)::.dat (.str p.2)::rest) w) fun xs=>K .nxt (s0::.dat (.bool g)::.dat (.list xs)::.dat (.str p.1)::.dat (.str p.2)::rest) w)
   (fun xs=>binA .add (.list xs) (.str p.1) (fun d=>K .nxt (s0::.dat (.bool g)::.dat d::.dat (.str p.1)::.dat (.str p.2)::rest) w) fun xs=>K .nxt (s0::.dat (.bool g)::.dat (.list xs)::.dat (.str p.1)::.dat (.str p.2)::rest) w):=by
  intro e he1 he
  refine ⟨by exact as64 ‹_› ‹_› (by decide),by simp; (exact as65 ‹_› ‹_› (by decide)),?_⟩
  have:=q (.dat (.str p.1)) (.dat (.str p.2))
  rw [he,← List.append_assoc] at this
  exact this
 unfold qBV
 try dsimp only [SL,SS,EL,E,T,vd,cmpK,truK,List.set,gd0,gd1,Cst.d]
 cases g with
 | true =>
  simp only [if_true]
  exact fin [92] (by simp) (by simp [esc])
 | false =>
  simp only [Bool.false_eq_true,if_false]
  refine ⟨by decide,decide (p.1∈[[34],[92]]),.ss p.1 [[34],[92]],?_⟩
  by_cases h:p.1∈[[34],[92]]
  · simp only [h,decide_true,if_true]
    refine fin [92] (by simp) ?_
    simp at h
    simp [esc,h]
  · simp only [h,decide_false,Bool.false_eq_true,if_false]
    refine fin [] (by simp) ?_
    simp at h
    simp [esc,h]
theorem qFl (w:W) (g:Bool) (Q:Fl->Sg->W->Prop):∀ (l:List It) (t:List Nat) (s0 s3 s4:Slot) (rest:Sg),(∀ p∈l,p.1.length≤8)->t.length+9*l.length≤16000000 ->
 (∀ s3' s4',Q .nxt (s0::.dat (.bool g)::.dat (.str (t++qAf g l))::s3'::s4'::rest) w) ->
 qA2 (fun x σ w k=>qAJ [3,4] x σ fun σ=>SL F LF qBV σ w k) (l.map itD) (s0::.dat (.bool g)::.dat (.str t)::s3::s4::rest) w Q:=by
 intro l
 induction l with
 | nil =>
  intro t s0 s3 s4 rest hp hl q
  have:=q s3 s4
  simpa [qAf,qA2] using this
 | cons p l ih =>
  intro t s0 s3 s4 rest hp hl q
  have h8:=hp p List.mem_cons_self
  have he:(esc g p).length≤9:=by unfold esc; split <;> simp <;> lia
  refine qFp F LF w p g t s0 s3 s4 rest _ (by simp at hl; (exact ar43 ‹_› ‹_›)) fun s3' s4'=>?_
  exact ih _ s0 s3' s4' rest (fun p hp'=>hp p (List.mem_cons_of_mem _ hp')) (by simp at hl ⊢; (exact au15 ‹_› ‹_›)) (by simpa [qAf] using q)
theorem qER (g:Bool):∀ (l:List It),(∀ p∈l,p.1.length≤8)->(qAf g l).length≤9*l.length:=by
 intro L9
 induction L9 with
 | nil =>
  intro _
  simp [qAf]
 | cons p l ih9 =>
  intro h
  have h8:=h p List.mem_cons_self
  have he:(esc g p).length≤9:=by unfold esc; split <;> simp <;> lia
  have ih:=ih9 fun p hp=>h p (List.mem_cons_of_mem _ hp)
  have e:qAf g (p::l)=esc g p++qAf g l:=by simp [qAf]
  rw [e,List.length_append]
  simp; (exact as49 ‹_› ‹_›)
theorem qFZ (l:List It) (g:Bool) (w:W) (hl:l.length≤1000000) (hp:∀ p∈l,p.1.length≤8) (rest:Sg):SL F LF qEB (.dat (itsD l)::.dat (.bool g)::.unb::.unb::.unb::rest) w (FnRes (.str (qAS g l)) w):=by
 delta qEB
 have ht:=qER g l hp
 have ht':(qAf g l).length≤9000000:=Nat.le_trans ht (Nat.le_trans (Nat.mul_le_mul_left _ hl) (by decide))
 refine ⟨by rw [List.length_map]; exact Nat.le_trans hl (by decide),qFl F LF w g _ l [] _ _ _ rest hp (by rw [List.length_nil,Nat.zero_add]; exact Nat.le_trans (Nat.mul_le_mul_left _ hl) (by decide)) fun s3' s4'=>?_⟩
 cases g with
 | true=>exact ⟨Nat.le_trans (Nat.add_le_add_left ht' _) (by decide),.of (Ext.refl w) _⟩
 | false=>exact ⟨Nat.le_trans (Nat.add_le_add_left ht' _) (by decide),Nat.le_trans (Nat.add_le_add_right (show ([34]++([]++qAf false l)).length≤9000001 by simp; exact ht') _) (by decide),Nat.le_trans (Nat.add_le_add_left (show (([34]++([]++qAf false l))++[34]).length≤9000002 by simp; exact ht') _) (by decide),.of (Ext.refl w) _⟩
end
section
variable (F:Str->List D->D->Prop) (LF:LexF)
noncomputable def qAM (fl:List It) (s:List It×Nat) (x:Bool×It):List It×Nat :=
 if x.1=true then (s.1++(if (s.2+1) % 3=0 then fl else []),s.2+1) else (s.1++[x.2],s.2)
noncomputable def qBz (l:List It) (ms:List Bool) (fl:List It):List It:=((ms.zip l).foldl (qAM fl) ([],0)).1
theorem qBX (n:Nat):qAZ 0 (n:Int)=(List.range' 0 n).map fun (i:Nat)=>D.int (i:Int):=by
 unfold qAZ
 rw [List.range_eq_range']
 simp
theorem qDh {α:Type} (xs:List α) (i:Nat):qBE xs (i:Int)=xs[i]?:=by
 unfold qBE; rw [if_pos (by exact Int.natCast_nonneg _)]; simp
noncomputable def fbA:MSL:=.cons (.asgO 3 (.bin .add (.var 3) (.ife (.cmp .eq (.bin .mod (.var 4) (.cst (.int 3))) (.cst (.int 0))) (.var 2) (.list .nil)))) .nil
theorem qGx (w₀ w:W) (l fl:List It) (ms:List Bool) (i:Nat) (p:It) (m:Bool) (hp:l[i]?=some p) (hm:ms[i]?=some m) (hi:i≤1000000) (s:List It×Nat) (k:Nat) (s5:Slot) (rest:Sg) (K:Fl->Sg->W->Prop) (hE:Ext w₀ w) (hk:w₀.length≤k)
 (hw:w[k]?=some (.lst (s.1.map itD))) (hl:s.1.length+fl.length≤16000000)
 (q:∀ k' w' s5',Ext w₀ w'->w₀.length≤k'->w'[k']?=some (.lst ((qAM fl s (m,p)).1.map itD))->K .nxt (.dat (itsD l)::.dat (bsD ms)::.dat (itsD fl)::.loc k'::.dat (.int (qAM fl s (m,p)).2)::s5'::rest) w') :
 qAJ [5] (.int i) (.dat (itsD l)::.dat (bsD ms)::.dat (itsD fl)::.loc k::.dat (.int s.2)::s5::rest) fun σ=>SL F LF qBN σ w K:=by
 have hmi:qBE (ms.map D.bool) (i:Int)=some (.bool m):=by rw [qDh,List.getElem?_map,hm]; rfl
 have hpi:qBE (l.map itD) (i:Int)=some (itD p):=by rw [qDh,List.getElem?_map,hp]; rfl
 have i0:-(2 ^ 63:Int)≤(i:Int):=Int.le_trans (by decide) (Int.natCast_nonneg _)
 clear hp hm
 show SL F LF qBN (.dat (itsD l)::.dat (bsD ms)::.dat (itsD fl)::.loc k::.dat (.int s.2)::.dat (.int i)::rest) w K
 delta qBN
 refine ⟨rfl,i0,as31 hi (by decide),_,hmi,?_⟩
 cases m with
 | true =>
  rw [show qAM fl s (true,p)=_ from if_pos rfl] at q
  have hE1:=hE.set hk (.fro (s.1.map itD))
  show SL F LF fbA (.dat (itsD l)::.dat (bsD ms)::.dat (itsD fl)::.loc k::.dat (.int (s.2+1:Nat))::.dat (.int i)::rest) w _
  delta fbA
  dsimp only [SL,SS,EO,E,T,Cst.d,gd0,gd1]
  refine vr_ hw ⟨by decide,iteD (p:=((s.2+1:Nat):Int).fmod 3=0) (fun h3=>?_) fun h3=>?_⟩
  · rw [if_pos (Int.ofNat.inj ((fmod3' _).symm.trans h3))] at q
    refine ⟨by rw [List.length_map,List.length_map]; exact Nat.le_trans hl (by decide),q _ _ _ (hE1.snoc _) hE1.len ?_⟩
    rw [qAX,List.map_append]
  · rw [if_neg fun e=>h3 ((fmod3' _).trans (congrArg Int.ofNat e))] at q
    refine ⟨by decide,by rw [List.length_map]; exact as1 hl (by decide),q _ _ _ (hE1.snoc _) hE1.len ?_⟩
    rw [qAX,List.map_append]; rfl
 | false =>
  rw [show qAM fl s (false,p)=_ from if_neg nofun] at q
  show SL F LF (.cons (.app 3 (.idxV 0 (.var 5))) .nil) (.dat (itsD l)::.dat (bsD ms)::.dat (itsD fl)::.loc k::.dat (.int s.2)::.dat (.int i)::rest) w _
  refine app_ rfl hw (by rw [List.length_map]; exact as3 hl (by decide)) (fun R h=>⟨rfl,i0,as31 hi (by decide),_,hpi,h⟩) ?_
  refine q _ _ _ (hE.set hk _) hk ?_
  rw [qBB hw,List.map_append]; rfl
theorem qFi (fl:List It) (s:List It×Nat) (x:Bool×It):(qAM fl s x).1.length≤s.1.length+fl.length+1:=by
 unfold qAM
 split
 · split
   · simp
   · simp; lia
 · simp
theorem qHH (w₀:W) (l fl:List It) (ms:List Bool) (hlen:ms.length=l.length) (hl:l.length≤1000000) (Q:Fl->Sg->W->Prop):∀ (n i:Nat) (s:List It×Nat) (k:Nat) (w:W) (s5:Slot) (rest:Sg),i+n=l.length->Ext w₀ w->w₀.length≤k ->
 w[k]?=some (.lst (s.1.map itD))->s.1.length+fl.length+n*(fl.length+1)≤16000000 ->
 (∀ k' w' r' s5',Ext w₀ w'->w₀.length≤k'->w'[k']?=some (.lst ((((ms.zip l).drop i).foldl (qAM fl) s).1.map itD))->Q .nxt (.dat (itsD l)::.dat (bsD ms)::.dat (itsD fl)::.loc k'::.dat (.int r')::s5'::rest) w') ->
 qA2 (fun x σ w k=>qAJ [5] x σ fun σ=>SL F LF qBN σ w k) ((List.range' i n).map fun (i:Nat)=>D.int (i:Int)) (.dat (itsD l)::.dat (bsD ms)::.dat (itsD fl)::.loc k::.dat (.int s.2)::s5::rest) w Q:=by
 intro n
 induction n with
 | zero =>
  intro i s k w s5 rest hin hE hk hw hz q
  have hd:(ms.zip l).drop i=[]:=List.drop_eq_nil_of_le (by rw [List.length_zip]; (exact as16 ‹_›))
  rw [hd] at q
  exact q k w s.2 s5 hE hk hw
 | succ n ih =>
  intro i s k w s5 rest hin hE hk hw hz q
  show qA2 _ (D.int (i:Int)::(List.range' (i+1) n).map fun (i:Nat)=>D.int (i:Int)) _ _ _
  have h1:i<l.length:=by exact ar29 ‹_›
  have h2:i<ms.length:=by exact as12 ‹_› ‹_›
  have hd:(ms.zip l).drop i=(ms[i],l[i])::(ms.zip l).drop (i+1):=by
   rw [List.drop_eq_getElem_cons (by rw [List.length_zip]; (exact as14 ‹_› ‹_›))]
   simp
  rw [hd] at q
  have hmul:(n+1)*(fl.length+1)=n*(fl.length+1)+(fl.length+1):=by rw [Nat.succ_mul]
  refine qGx F LF w₀ w l fl ms i l[i] ms[i] (List.getElem?_eq_getElem h1) (List.getElem?_eq_getElem h2) (by exact as13 ‹_› ‹_›) s k s5 rest _ hE hk hw (by exact Nat.le_trans (Nat.le_add_right _ _) ‹_›) fun k' w' s5' hE' hk' hw'=>?_
  exact ih (i+1) (qAM fl s (ms[i],l[i])) k' w' s5' rest (by exact as11 ‹_›) hE' hk' hw' (by have:=qFi fl s (ms[i],l[i]); (exact au2 ‹_› ‹_›)) q
theorem qG7 (l fl:List It) (ms:List Bool) (hlen:ms.length=l.length) (w:W) (hl:l.length*(fl.length+1)+fl.length≤1000000) (rest:Sg) :
 SL F LF qFI (.dat (itsD l)::.dat (bsD ms)::.dat (itsD fl)::.unb::.unb::.unb::rest) w (FnRes (itsD (qBz l ms fl)) w):=by
 have hll:l.length≤1000000:=by
  have:l.length*(fl.length+1)=l.length*fl.length+l.length:=Nat.mul_succ _ _
  (exact as53 ‹_›)
 delta qFI
 refine ⟨Nat.zero_le _,Nat.le_add_left _ _,by rw [List.length_map]; exact Nat.le_trans hll (by decide),by decide,by decide,Int.le_trans (by decide) (Int.natCast_nonneg _),by rw [List.length_map]; exact as32 hll (by decide),by rw [List.length_map,Int.sub_zero]; exact Nat.le_trans hll (by decide),?_⟩
 rw [qBX,List.length_map]
 refine qHH F LF w l fl ms hlen hll _ l.length 0 ([],0) w.length (w++[.lst []]) _ rest (Nat.zero_add _) ((Ext.refl w).snoc _) (Nat.le_refl _) (qAX _ _) (by rw [List.length_nil,Nat.zero_add]; exact as52 hl) fun k' w' r' s5' hE hk hw=>?_
 dsimp only [SL,SS,E,EL,vd,gd0,gd1]
 exact vr_ hw ⟨rfl,hE.set hk _⟩
end
section
variable (F:Str->List D->D->Prop) (LF:LexF)
noncomputable abbrev Lt:=List Nat×Bool
noncomputable def ltD (p:Lt):D:=.list [.str p.1,.bool p.2]
set_option genInjectivity false in
structure Shape where
 joined:List Nat
 gaps:List Nat
 keeps:Bool
 run:List Bool
noncomputable def qAE (s:Shape) (p:Lt):Shape :=
 if p.1=[46] then { s with run:=s.run++[p.2] }
 else ⟨s.joined++List.replicate (s.run.length % 3) 46++p.1,(if s.run.length>2 then s.gaps++[s.joined.length] else s.gaps),
  (if s.run.length>2 then s.keeps && !decide (true∈s.run.drop (s.run.length-s.run.length % 3)) else s.keeps),[]⟩
noncomputable def qAo (l:List Lt):Shape:=(l++[([],false)]).foldl qAE ⟨[],[],true,[]⟩
noncomputable def qBx (l:List Nat):List D:=l.map fun (n:Nat)=>D.int (n:Int)
theorem repl46 (n:Nat):(List.replicate n [46]).flatten=List.replicate n 46:=by
 induction n with
 | zero=>rfl
 | succ n ih=>simp [List.replicate_succ,ih]
noncomputable def shC:MSL:=.cons (.asg 1 (.bin .add (.bin .add (.var 1) (.bin .mul (.cst (.str [46])) (.var 7))) (.var 5))) (.cons (.asgO 4 (.list .nil)) .nil)
noncomputable def shD:MSL:=.cons (.app 2 (.lenV 1)) (.cons (.asg 3 (.and2 (.var 3) (.cmp .notin (.cst (.bool true)) (.sl (.var 4) (.bin .sub (.lenV 4) (.var 7)) (.cst .none))))) .nil)
noncomputable def shB:MSL:=.cons (.ife (.cmp .gt (.lenV 4) (.cst (.int 2))) shD .nil) shC
theorem qKX {F:Str->List D->D->Prop} {LF:LexF} {joined p:List Nat} {n kg kr:Nat} {t:Int} {kk:Bool} {s0 s6:Slot} {rest:Sg} {w:W} {K:Fl->Sg->W->Prop} (ht:t=((n % 3:Nat):Int)) (hz:joined.length+p.length≤16000000)
 (q:K .nxt (s0::.dat (.str (joined++List.replicate (n % 3) 46++p))::.loc kg::.dat (.bool kk)::.loc w.length::.dat (.str p)::s6::.dat (.int t)::rest) (w++[.lst []])) :
 SL F LF shC (s0::.dat (.str joined)::.loc kg::.dat (.bool kk)::.loc kr::.dat (.str p)::s6::.dat (.int t)::rest) w K:=by
 have e:(List.replicate t.toNat [46]).flatten=List.replicate (n % 3) 46:=by rw [ht,Int.toNat_natCast,repl46]
 have hn:n % 3<3:=Nat.mod_lt _ (by decide)
 rw [← e] at q
 have el:(List.replicate t.toNat [46]).flatten.length=n % 3:=by rw [e,List.length_replicate]
 delta shC
 refine ⟨rfl,ht ▸ Int.natCast_nonneg _,by exact au18 ‹_›,?_,?_,q⟩
 · rw [el]; (exact au20 ‹_›)
 · rw [List.length_append,el]; (exact au19 ‹_›)
theorem qMy {F:Str->List D->D->Prop} {LF:LexF} {w₀ w:W} {joined gaps p:List Nat} {keeps p2:Bool} {run:List Bool} {kg kr:Nat} {t:Int} {s0:Slot} {rest:Sg} {K:Fl->Sg->W->Prop} (hE:Ext w₀ w) (hkg:w₀.length≤kg) (hkr:w₀.length≤kr) (hne:kg≠kr)
 (hg:w[kg]?=some (.lst (qBx gaps))) (hr:w[kr]?=some (.lst (run.map .bool))) (hz:joined.length+p.length≤16000000) (hz2:gaps.length≤16000000) (hz3:run.length≤16000000) (ht:t=((run.length % 3:Nat):Int))
 (q:∀ kk w',Ext w₀ w'->kk=(if run.length>2 then keeps && !decide (true∈run.drop (run.length-run.length % 3)) else keeps)->w'[kg]?=some (.lst (qBx (if run.length>2 then gaps++[joined.length] else gaps)))->SL F LF shC (s0::.dat (.str joined)::.loc kg::.dat (.bool kk)::.loc kr::.dat (.str p)::.dat (.bool p2)::.dat (.int t)::rest) w' K) :
 SL F LF shB (s0::.dat (.str joined)::.loc kg::.dat (.bool keeps)::.loc kr::.dat (.str p)::.dat (.bool p2)::.dat (.int t)::rest) w K:=by
 have hl:(run.map D.bool).length=run.length:=List.length_map ..
 have hl2:(run.map D.bool).length≤16777216:=hl ▸ Nat.le_trans hz3 (by decide)
 delta shB
 dsimp only [SL,SS,T,E,Cst.d,gd0,gd1]
 refine lk_ hr ?_
 refine ⟨hl2,?_⟩
 refine iteD (p:=((run.map D.bool).length:Int)>2) (fun h2=>?_) fun h2=>?_
 · have h2':run.length>2:=by lia
   rw [if_pos h2',if_pos h2'] at q
   delta shD
   refine app_ rfl hg (by rw [qBx,List.length_map]; exact Nat.lt_of_le_of_lt hz2 (by decide)) (fun R h=>⟨by exact as1 ‹_› (by decide),h⟩) ?_
   have hg1:(w.set kg (.lst (qBx gaps++[.int joined.length])))[kg]?=some (.lst (qBx (gaps++[joined.length]))):=by
    rw [qBB hg]; simp [qBx]
   have hE1:=hE.set hkg (.lst (qBx gaps++[.int joined.length]))
   have hr1:(w.set kg (.lst (qBx gaps++[.int joined.length])))[kr]?=some (.lst (run.map .bool)):=by
    rw [List.getElem?_set_ne hne]; exact hr
   cases keeps with
   | false=>exact q _ _ hE1 rfl hg1
   | true =>
    have hr2:=qBB (y:=.fro (run.map D.bool)) hr1
    dsimp only [SL,SS,E,vd,truK,Cst.d,gd0,gd1]
    refine ifT (vr_ hr1 ?_)
    refine lkf_ hr2 ?_
    have e4:cut (run.map D.bool) (if ((run.map D.bool).length:Int)-t<0 then (((run.map D.bool).length:Int)+(((run.map D.bool).length:Int)-t)).toNat else min (((run.map D.bool).length:Int)-t).toNat (run.map D.bool).length) (run.map D.bool).length=(run.drop (run.length-run.length % 3)).map D.bool:=by
     have e5:(((run.map D.bool).length:Int)-t).toNat=run.length-run.length % 3:=by lia
     unfold cut
     rw [List.take_length,if_neg (by lia),e5,hl,Nat.min_eq_left (Nat.sub_le _ _),List.map_drop]
    refine ⟨hl2,hl2,⟨by lia,by lia⟩,trivial,_,_,rfl,rfl,_,e4 ▸ .bs true _,q _ _ (hE1.set hkr _) rfl ?_⟩
    rw [List.getElem?_set_ne (Ne.symm hne)]; exact hg1
 · have h2':¬ run.length>2:=by lia
   rw [if_neg h2',if_neg h2'] at q
   exact q _ _ hE rfl hg
theorem qIw (w₀ w:W) (p:Lt) (s:Shape) (kg kr:Nat) (s0 s5 s6 s7:Slot) (rest:Sg) (K:Fl->Sg->W->Prop) (hE:Ext w₀ w) (hkg:w₀.length≤kg) (hkr:w₀.length≤kr) (hne:kg≠kr)
 (hg:w[kg]?=some (.lst (qBx s.gaps))) (hr:w[kr]?=some (.lst (s.run.map .bool))) (hz:s.joined.length+p.1.length≤16000000) (hz2:s.gaps.length≤16000000) (hz3:s.run.length≤16000000)
 (q:∀ kg' kr' w' s5' s6' s7',Ext w₀ w'->w₀.length≤kg'->w₀.length≤kr'->kg'≠kr'->w'[kg']?=some (.lst (qBx (qAE s p).gaps))->w'[kr']?=some (.lst ((qAE s p).run.map .bool)) ->
   K .nxt (s0::.dat (.str (qAE s p).joined)::.loc kg'::.dat (.bool (qAE s p).keeps)::.loc kr'::s5'::s6'::s7'::rest) w') :
 qAJ [5,6] (ltD p) (s0::.dat (.str s.joined)::.loc kg::.dat (.bool s.keeps)::.loc kr::s5::s6::s7::rest) fun σ=>SL F LF qCw σ w K:=by
 refine ⟨rfl,Nat.le_add_left _ _,?_⟩
 show SL F LF (.cons (.ife (.cmp .eq (.var 5) (.cst (.str [46]))) (.cons (.app 4 (.var 6)) .nil) (.cons (.asg 7 (.bin .mod (.lenV 4) (.cst (.int 3)))) shB)) .nil) (s0::.dat (.str s.joined)::.loc kg::.dat (.bool s.keeps)::.loc kr::.dat (.str p.1)::.dat (.bool p.2)::s7::rest) w K
 refine iteD (p:=p.1=[46]) (fun hp=>?_) fun hp=>?_
 · rw [show qAE s p={ s with run:=s.run++[p.2] } from if_pos hp] at q
   refine app_ rfl hr (by rw [List.length_map]; exact Nat.lt_of_le_of_lt hz3 (by decide)) (fun R h=>h) ?_
   refine q kg kr _ _ _ _ (hE.set hkr _) hkg hkr hne ?_ ?_
   · rw [List.getElem?_set_ne (Ne.symm hne)]; exact hg
   · rw [qBB hr]; simp
 · rw [show qAE s p=_ from if_neg hp] at q
   dsimp only [SL,SS,T,E,Cst.d,gd0,gd1]
   refine lk_ hr ?_
   refine ⟨by rw [List.length_map]; exact Nat.le_trans hz3 (by decide),by decide,?_⟩
   have ht:(((s.run.map D.bool).length:Nat):Int).fmod 3=((s.run.length % 3:Nat):Int):=by rw [fmod3',List.length_map]
   refine qMy hE hkg hkr hne hg hr hz hz2 hz3 ht fun kk w' hE' hkk hg'=>?_
   refine qKX ht hz ?_
   subst hkk
   have hlt:kg<w'.length:=(List.getElem?_eq_some_iff.mp hg').1
   refine q kg w'.length _ _ _ _ (hE'.snoc _) hkg hE'.len (Nat.ne_of_lt hlt) ?_ (qAX _ _)
   rw [List.getElem?_append_left hlt]; exact hg'
end
section
variable (F:Str->List D->D->Prop) (LF:LexF)
theorem qCe (s:Shape) (p:Lt):(qAE s p).joined.length≤s.joined.length+3+p.1.length/\(qAE s p).gaps.length≤s.gaps.length+1/\(qAE s p).run.length≤s.run.length+1:=by
 unfold qAE
 split
 · exact ⟨by dsimp only; lia,by dsimp only; (exact Nat.le_succ _),by simp⟩
 · refine ⟨by simp; (exact au34),?_,by simp⟩
   dsimp only
   split
   · simp
   · (exact Nat.le_succ _)
theorem qIb (w₀:W) (Q:Fl->Sg->W->Prop) (s0:Slot) (rest:Sg):∀ (l:List Lt) (s:Shape) (kg kr:Nat) (w:W) (s5 s6 s7:Slot),
 Ext w₀ w->w₀.length≤kg->w₀.length≤kr->kg≠kr->w[kg]?=some (.lst (qBx s.gaps))->w[kr]?=some (.lst (s.run.map .bool)) ->
 (∀ p∈l,p.1.length≤1)->s.joined.length+4*l.length≤15000000->s.gaps.length+l.length≤16000000->s.run.length+l.length≤16000000 ->
 (∀ kg' kr' w' s5' s6' s7',Ext w₀ w'->w₀.length≤kg'->w₀.length≤kr'->w'[kg']?=some (.lst (qBx (l.foldl qAE s).gaps)) ->
   Q .nxt (s0::.dat (.str (l.foldl qAE s).joined)::.loc kg'::.dat (.bool (l.foldl qAE s).keeps)::.loc kr'::s5'::s6'::s7'::rest) w') ->
 qA2 (fun x σ w k=>qAJ [5,6] x σ fun σ=>SL F LF qCw σ w k) (l.map ltD) (s0::.dat (.str s.joined)::.loc kg::.dat (.bool s.keeps)::.loc kr::s5::s6::s7::rest) w Q:=by
 intro l
 induction l with
 | nil =>
  intro s kg kr w s5 s6 s7 hE hkg hkr hne hg hr hp hj hgl hrl q
  exact q kg kr w s5 s6 s7 hE hkg hkr hg
 | cons p l ih =>
  intro s kg kr w s5 s6 s7 hE hkg hkr hne hg hr hp hj hgl hrl q
  show qA2 _ (ltD p::l.map ltD) _ _ _
  try dsimp only [qA2]
  have hp1:=hp p (List.mem_cons_self)
  simp only [List.length_cons] at hj hgl hrl
  have hs:=qCe s p
  refine qIw F LF w₀ w p s kg kr s0 s5 s6 s7 rest _ hE hkg hkr hne hg hr (by exact as64 ‹_› ‹_› (by decide)) (by exact Nat.le_trans (Nat.le_add_right _ _) ‹_›) (by exact Nat.le_trans (Nat.le_add_right _ _) ‹_›) fun kg' kr' w' s5' s6' s7' hE' hkg' hkr' hne' hg' hr'=>?_
  exact ih (qAE s p) kg' kr' w' s5' s6' s7' hE' hkg' hkr' hne' hg' hr' (fun x hx=>hp x (List.mem_cons_of_mem _ hx)) (by exact au10 ‹_› ‹_› ‹_›) (by lia) (by exact au12 ‹_› ‹_›) q
theorem qIN (l:List Lt) (w:W) (hp:∀ p∈l,p.1.length≤1) (hl:l.length≤1000000) (rest:Sg) :
 SL F LF qGk (.dat (.list (l.map ltD))::.unb::.unb::.unb::.unb::.unb::.unb::.unb::rest) w
  (FnRes (.tup [.str (qAo l).joined,.list (qBx (qAo l).gaps),.bool (qAo l).keeps]) w):=by
 delta qGk
 refine ⟨Nat.zero_le _,Nat.zero_le _,Nat.le_add_left _ _,Nat.le_add_left _ _,Nat.le_add_left _ _,by rw [List.length_map]; exact Nat.le_trans (Nat.add_le_add_right hl 1) (by decide),by rw [List.length_append,List.length_map]; exact Nat.le_trans (Nat.add_le_add_right hl 1) (by decide),?_⟩
 show qA2 _ (l.map ltD++[D.list [D.str [],D.bool false]]) _ _ _
 have el:List.map ltD l++[D.list [D.str [],D.bool false]]=(l++[(([],false):Lt)]).map ltD:=by simp [ltD]
 rw [el]
 refine qIb F LF w _ _ rest (l++[([],false)]) ⟨[],[],true,[]⟩ w.length (w++[OO.lst []]).length (w++[OO.lst []]++[OO.lst []]) .unb .unb .unb
  (((Ext.refl w).snoc _).snoc _) (Nat.le_refl _) (by simp) (by simp) ?_ (qAX _ _) ?_ (by simp; lia) (by simp; (exact Nat.le_trans ‹_› (by decide))) (by simp; (exact Nat.le_trans ‹_› (by decide))) fun kg' kr' w' s5' s6' s7' hE hkg hkr hg=>?_
 · rw [List.getElem?_append_left (by simp)]; exact qAX _ _
 · intro p hm
   rcases List.mem_append.mp hm with h | h
   · exact hp p h
   · rw [List.mem_singleton.mp h]; simp
 · dsimp only [SL,SS,E,EL,vd,gd0,gd1]
   exact vr_ hg ⟨Nat.le_add_left _ _,rfl,hE.set hkg _⟩
end
section
variable (F:Str->List D->D->Prop) (LF:LexF)
noncomputable abbrev LSt:=List Lt×Nat×Nat
noncomputable def bk (n:Nat):List Lt:=List.replicate n ([92],false)
noncomputable def qAd (g:Bool) (s:LSt) (x:It×Bool):LSt ⊕ List Lt :=
 if x.1.2=[] then .inl (s.1,s.2.1+(if g=true then 1 else 0),s.2.2)
 else if x.1.1=[92] then .inl (s.1,s.2.1,s.2.2+1)
 else if Infix (x.1.2.take 1) [10,9,13,32]=true/\s.2.1 % 2=1 then .inr (s.1++bk (s.2.2+(s.2.1+1) / 2))
 else .inl (s.1++bk (s.2.2+(s.2.1+1) / 2)++x.1.2.map (fun c=>([c],x.2)),0,0)
noncomputable def qAu (g:Bool):List (It×Bool)->LSt->List Lt
 | [],s=>s.1++bk (s.2.2+s.2.1 / 2)
 | x::r,s=>match qAd g s x with
  | .inl s'=>qAu g r s'
  | .inr o=>o
noncomputable def qBi (l:List It) (ms:List Bool) (g:Bool):List Lt:=qAu g (l.zip ms) ([],0,0)
noncomputable def Rd (w₀:W) (s3:Slot) (w:W) (ls:List Lt):Prop :=
 s3=.dat (.list (ls.map ltD))\/∃ k,w₀.length≤k/\s3=.loc k/\w[k]?=some (.lst (ls.map ltD))
theorem Rd.var {w₀ w:W} {s3:Slot} {ls:List Lt} (h:Rd w₀ s3 w ls) (hE:Ext w₀ w) (Q:D->W->Prop) (q:∀ w',Ext w₀ w'->Q (.list (ls.map ltD)) w'):varK s3 w Q:=by
 rcases h with h | ⟨k,hk,h,hw⟩
 · subst h; exact q w hE
 · subst h
   simp only [varK,hw]
   exact q _ (hE.set hk _)
theorem qI9 (n:Nat):(List.replicate n [D.list [.str [92],.bool false]]).flatten=(bk n).map ltD:=by
 induction n with
 | zero=>rfl
 | succ n ih=>rw [List.replicate_succ,List.flatten_cons,ih]; rfl
theorem fdiv2 (r:Nat):((r:Int)).fdiv 2=((r / 2:Nat):Int):=by
 rw [Int.fdiv_eq_ediv_of_nonneg _ (by decide)]; lia
theorem fdiv2' (r:Nat):((r:Int)+1).fdiv 2=(((r+1) / 2:Nat):Int):=by
 rw [Int.fdiv_eq_ediv_of_nonneg _ (by decide)]; lia
theorem fmod2 (r:Nat):((r:Int)).fmod 2=((r % 2:Nat):Int):=by
 rw [Int.fmod_eq_emod_of_nonneg _ (by decide)]; lia
theorem qEe (step:D->W->(Option D->W->Prop)->Prop) (g:D->D) (w:W):∀ (xs:List D) (K:List D->W->Prop),
 (∀ x∈xs,∀ k:Option D->W->Prop,k (some (g x)) w->step x w k)->K (xs.map g) w->qBL step xs w K:=by
 intro xs
 induction xs with
 | nil=>intro K h q; exact q
 | cons x xs ih =>
  intro K h q
  simp only [qBL]
  refine h x List.mem_cons_self _ ?_
  exact ih _ (fun y hy=>h y (List.mem_cons_of_mem _ hy)) q
noncomputable def qKS:MSL:=MSL.cons (MS.asgT [(4,false),(5,false)] (ML.cons (ME.cst (Cst.int 0)) (ML.cons (ME.cst (Cst.int 0)) (ML.nil)))) MSL.nil
noncomputable def qHD:MSL:=MSL.cons (MS.asg 3 (ME.bin (BOp.add) (ME.var 3) (ME.comp qFU [12] (ME.var 8)))) qKS
noncomputable def qKQ:MSL:=MSL.cons (MS.ife (MC.and2 (MC.cmp (COp.isin) (ME.idxV 8 (ME.cst (Cst.int 0))) (ME.cst (Cst.str [10,9,13,32]))) (MC.cmp (COp.eq) (ME.bin (BOp.mod) (ME.var 4) (ME.cst (Cst.int 2))) (ME.cst (Cst.int 1)))) (MSL.cons (MS.ret (ME.var 3)) (MSL.nil)) (MSL.nil)) qHD
noncomputable def qJ6:MSL:=MSL.cons (MS.asg 3 (ME.bin (BOp.add) (ME.var 3) (ME.bin (BOp.mul) (ME.list (ML.cons (ME.list (ML.cons (ME.cst (Cst.str [92])) (ML.cons (ME.cst (Cst.bool false)) (ML.nil)))) (ML.nil))) (ME.bin (BOp.add) (ME.var 5) (ME.bin (BOp.fdiv) (ME.bin (BOp.add) (ME.var 4) (ME.cst (Cst.int 1))) (ME.cst (Cst.int 2))))))) qKQ
noncomputable def qG6:MSL:=(MSL.cons (MS.ife (MC.cmp (COp.eq) (ME.var 7) (ME.cst (Cst.str [92]))) (MSL.cons (MS.asg 5 (ME.bin (BOp.add) (ME.var 5) (ME.cst (Cst.int 1)))) (MSL.nil)) qJ6) (MSL.nil))
theorem qIk:qB4=(MSL.cons (MS.unp [7,8] (ME.idxV 0 (ME.var 6))) (MSL.cons (MS.ife (MC.cmp (COp.eq) (ME.var 8) (ME.cst (Cst.str []))) (MSL.cons (MS.asg 4 (ME.bin (BOp.add) (ME.var 4) (ME.ife (MC.val (ME.var 2)) (ME.cst (Cst.int 1)) (ME.cst (Cst.int 0))))) (MSL.nil)) qG6) (MSL.nil))):=rfl
theorem qIz (w₀ w:W) (l:List It) (ms:List Bool) (g:Bool) (i:Nat) (p:It) (m:Bool) (hp:l[i]?=some p) (hm:ms[i]?=some m) (hi:i≤1000000)
 (ls:List Lt) (lost kept:Nat) (s3 s6 s7 s8 s9 s10 s11 s12:Slot) (rest:Sg) (K:Fl->Sg->W->Prop) (hE:Ext w₀ w) (hs:Rd w₀ s3 w ls)
 (hz:ls.length+kept+lost+p.2.length≤16000000)
 (qn:∀ s',qAd g (ls,lost,kept) (p,m)=.inl s'->∀ w' s3' s6' s7' s8',Ext w₀ w'->Rd w₀ s3' w' s'.1 ->
   K .nxt (.dat (itsD l)::.dat (bsD ms)::.dat (.bool g)::s3'::.dat (.int s'.2.1)::.dat (.int s'.2.2)::s6'::s7'::s8'::s9::s10::s11::s12::rest) w')
 (qr:∀ o,qAd g (ls,lost,kept) (p,m)=.inr o->∀ σ w',Ext w₀ w'->K (.ret (.list (o.map ltD))) σ w') :
 qAJ [6] (.int i) (.dat (itsD l)::.dat (bsD ms)::.dat (.bool g)::s3::.dat (.int lost)::.dat (.int kept)::s6::s7::s8::s9::s10::s11::s12::rest) fun σ=>SL F LF qB4 σ w K:=by
 obtain ⟨sign,fold⟩:=p
 dsimp only at hz
 have hge:∀ (xs:List D),qBE xs (i:Int)=xs[i]?:=fun xs=>qDh xs i
 have hpi:qBE (l.map itD) (i:Int)=some (itD (sign,fold)):=by rw [hge,List.getElem?_map,hp]; rfl
 have hmi:qBE (ms.map D.bool) (i:Int)=some (.bool m):=by rw [hge,List.getElem?_map,hm]; rfl
 unfold qAd at qn qr
 dsimp only at qn qr
 show SL F LF qB4 (.dat (itsD l)::.dat (bsD ms)::.dat (.bool g)::s3::.dat (.int lost)::.dat (.int kept)::.dat (.int i)::s7::s8::s9::s10::s11::s12::rest) w K
 rw [qIk]
 refine ⟨rfl,Int.le_trans (by decide) (Int.natCast_nonneg _),as31 hi (by decide),_,hpi,rfl,Nat.le_add_left _ _,?_⟩
 show SL F LF (.cons (.ife (.cmp .eq (.var 8) (.cst (.str []))) (.cons (.asg 4 (.bin .add (.var 4) (.ife (.val (.var 2)) (.cst (.int 1)) (.cst (.int 0))))) .nil) qG6) .nil) (.dat (itsD l)::.dat (bsD ms)::.dat (.bool g)::s3::.dat (.int lost)::.dat (.int kept)::.dat (.int i)::.dat (.str sign)::.dat (.str fold)::s9::s10::s11::s12::rest) w K
 clear hp hm
 refine iteD (p:=fold=[]) (fun hf=>?_) fun hf=>?_
 · rw [if_pos hf] at qn
   subst hf
   cases g
   · exact qn _ rfl w s3 _ _ _ hE hs
   · exact qn _ rfl w s3 _ _ _ hE hs
 · rw [if_neg hf] at qn qr
   delta qG6
   refine iteD (p:=sign=[92]) (fun hb=>?_) fun hb=>?_
   · rw [if_pos hb] at qn
     exact qn _ rfl w s3 _ _ _ hE hs
   · rw [if_neg hb] at qn qr
     delta qJ6
     try dsimp only [SL,SS,E,EL,List.set,gd0,gd1,Cst.d]
     refine hs.var hE _ fun w1 hE1=>?_
     try dsimp only [vd,binA,binL,List.length_cons,List.length_nil]
     have en:((kept:Int)+(((lost+1) / 2:Nat):Int)).toNat=kept+(lost+1) / 2:=by exact ar27
     rw [en,qI9,← List.map_append]
     refine ⟨by exact Nat.le_add_left _ _,by exact Nat.le_add_left _ _,by decide,by decide,by exact Int.le_trans (by decide) (Int.natCast_nonneg _),by lia,by lia,by simp [bk]; (exact ar44 ‹_›),?_⟩
     generalize hL:ls++bk (kept+(lost+1) / 2)=L at qn qr
     have hLl:L.length=ls.length+(kept+(lost+1) / 2):=by rw [← hL]; simp [bk]
     obtain ⟨c,cs,rfl⟩:∃ c cs,fold=c::cs:=by cases fold with | nil=>exact absurd rfl hf | cons c cs=>exact ⟨c,cs,rfl⟩
     unfold qKQ
     try dsimp only [SL,SS,T,E,EL,ldd,vd,idxK,cmpK,binA,binL,List.set,gd0,gd1,Cst.d]
     have e0:qBE (c::cs) (0:Int)=some c:=rfl
     simp only [e0]
     rw [show (c::cs).take 1=[c] from rfl] at qn qr
     refine ⟨by decide,by decide,by decide,c,rfl,?_⟩
     have tail:¬ (Infix [c] [10,9,13,32]=true/\lost % 2=1)->SL F LF qHD (.dat (.list (l.map itD))::.dat (.list (ms.map .bool))::.dat (.bool g)::.dat (.list (L.map ltD))::.dat (.int lost)::.dat (.int kept)::.dat (.int i)::.dat (.str sign)::.dat (.str (c::cs))::s9::s10::s11::s12::rest) w1 fun f σ w =>
      match f with
      | Fl.nxt=>K Fl.nxt σ w
      | f=>match f with
       | Fl.nxt=>K Fl.nxt σ w
       | f=>K f σ w:=by
      intro hc
      rw [if_neg hc] at qn
      have qn':=qn _ rfl
      unfold qHD
      try dsimp only [SL,SS,E,EL,vd,qAm,List.set,gd0,gd1,Cst.d]
      try simp only [SL,SS,E,EL,varK,qAm,List.set,List.getD_cons_zero,List.getD_cons_succ,Cst.d]
      refine ⟨by exact as2 ‹_› (by decide),?_⟩
      refine qEe _ (fun d=>match d with | .str t=>.list [.str t,.bool m] | d=>d) w1 _ _ ?_ ?_
      · intro x hx k q
        refine x12 (List.mem_map.mp hx) fun c1 _ eq2=>?_
        subst eq2
        exact ⟨rfl,Int.le_trans (by decide) (Int.natCast_nonneg _),as31 hi (by decide),_,hmi,Nat.le_add_left _ _,q⟩
      · have em:((singles (c::cs)).map fun d=>match d with | .str t=>D.list [.str t,.bool m] | d=>d)=((c::cs).map fun c=>(([c],m):Lt)).map ltD:=by
         unfold singles; rw [List.map_map,List.map_map]; rfl
        rw [em]
        try simp only [binA,binL,false_or,← List.map_append]
        refine ⟨by simp only [List.length_map]; (exact au5 ‹_› ‹_›),?_⟩
        unfold qKS
        try dsimp only [SL,SS,E,EL,tupK,List.set,gd0,gd1,Cst.d,List.length_cons,List.length_nil]
        refine ⟨by exact Nat.le_add_left _ _,?_⟩
        exact qn' w1 _ _ _ _ hE1 (Or.inl rfl)
     by_cases h1:Infix [c] [10,9,13,32]=true
     · rw [if_pos h1]
       refine ⟨by decide,?_⟩
       by_cases h2:lost % 2=1
       · rw [if_pos (decide_eq_true (fm2.trans (congrArg Int.ofNat h2)))]
         rw [if_pos ⟨h1,h2⟩] at qr
         exact qr _ rfl _ _ hE1
       · rw [if_neg fun e=>h2 (Int.ofNat.inj (fm2.symm.trans (of_decide_eq_true e)))]
         exact tail fun h=>h2 h.2
     · rw [if_neg h1]
       simp only [Bool.false_eq_true,if_false]
       exact tail fun h=>h1 h.1
end
section
variable (F:Str->List D->D->Prop) (LF:LexF)
theorem qGN (g:Bool) (s s':LSt) (x:It×Bool) (h:qAd g s x=.inl s'):s'.1.length+s'.2.1+s'.2.2≤s.1.length+s.2.1+s.2.2+x.1.2.length+1:=by
 obtain ⟨ls,lost,kept⟩:=s
 unfold qAd at h
 dsimp only at h ⊢
 split at h
 · obtain rfl:=Sum.inl.inj h
   dsimp only
   split <;> lia
 · split at h
   · obtain rfl:=Sum.inl.inj h
     dsimp only; lia
   · split at h
     · exact absurd h (by simp)
     · obtain rfl:=Sum.inl.inj h
       simp [bk]; (exact au30)
theorem qKl (w₀:W) (l:List It) (ms:List Bool) (g:Bool) (hlen:ms.length=l.length) (hl:l.length≤1000000) (hp:∀ p∈l,p.2.length≤8) (Q:Fl->Sg->W->Prop) (s9 s10 s11 s12:Slot) (rest:Sg) :
 ∀ (n i:Nat) (s:LSt) (w:W) (s3 s6 s7 s8:Slot),i+n=l.length->Ext w₀ w->Rd w₀ s3 w s.1->s.1.length+s.2.1+s.2.2+9*n≤15000000 ->
 (∀ s':LSt,qAu g ((l.zip ms).drop i) s=s'.1++bk (s'.2.2+s'.2.1 / 2)->s'.1.length+s'.2.1+s'.2.2≤15000000->∀ w' s3' s6' s7' s8',Ext w₀ w'->Rd w₀ s3' w' s'.1 ->
   Q .nxt (.dat (itsD l)::.dat (bsD ms)::.dat (.bool g)::s3'::.dat (.int s'.2.1)::.dat (.int s'.2.2)::s6'::s7'::s8'::s9::s10::s11::s12::rest) w') ->
 (∀ σ w',Ext w₀ w'->Q (.ret (.list ((qAu g ((l.zip ms).drop i) s).map ltD))) σ w') ->
 qA2 (fun x σ w k=>qAJ [6] x σ fun σ=>SL F LF qB4 σ w k) ((List.range' i n).map fun (i:Nat)=>D.int (i:Int))
  (.dat (itsD l)::.dat (bsD ms)::.dat (.bool g)::s3::.dat (.int s.2.1)::.dat (.int s.2.2)::s6::s7::s8::s9::s10::s11::s12::rest) w Q:=by
 intro n
 induction n with
 | zero =>
  intro i s w s3 s6 s7 s8 hin hE hs hz qn qr
  have hd:(l.zip ms).drop i=[]:=List.drop_eq_nil_of_le (by rw [List.length_zip]; (exact as17 ‹_›))
  rw [hd] at qn
  exact qn s rfl (by exact Nat.le_trans (Nat.le_add_right _ _) ‹_›) w s3 s6 s7 s8 hE hs
 | succ n ih =>
  intro i s w s3 s6 s7 s8 hin hE hs hz qn qr
  show qA2 _ (D.int (i:Int)::(List.range' (i+1) n).map fun (i:Nat)=>D.int (i:Int)) _ _ _
  have h1:i<l.length:=by exact ar29 ‹_›
  have h2:i<ms.length:=by exact as12 ‹_› ‹_›
  have hd:(l.zip ms).drop i=(l[i],ms[i])::(l.zip ms).drop (i+1):=by
   rw [List.drop_eq_getElem_cons (by rw [List.length_zip]; (exact as15 ‹_› ‹_›))]
   simp
  rw [hd] at qn qr
  have h8:=hp l[i] (List.getElem_mem h1)
  obtain ⟨ls,lost,kept⟩:=s
  dsimp only at hs hz
  refine qIz F LF w₀ w l ms g i l[i] ms[i] (List.getElem?_eq_getElem h1) (List.getElem?_eq_getElem h2) (by exact as13 ‹_› ‹_›) ls lost kept s3 s6 s7 s8 s9 s10 s11 s12 rest _ hE hs (by lia) ?_ ?_
  · intro s' hs' w' s3' s6' s7' s8' hE' hr'
    have e:qAu g ((l[i],ms[i])::(l.zip ms).drop (i+1)) (ls,lost,kept)=qAu g ((l.zip ms).drop (i+1)) s':=by
     rw [qAu,hs']
    rw [e] at qn qr
    have hs'':=qGN g _ _ _ hs'
    dsimp only at hs''
    exact ih (i+1) s' w' s3' s6' s7' s8' (by exact as11 ‹_›) hE' hr' (by exact au6 ‹_› ‹_› ‹_›) qn qr
  · intro o ho σ w' hE'
    have e:qAu g ((l[i],ms[i])::(l.zip ms).drop (i+1)) (ls,lost,kept)=o:=by
     rw [qAu,ho]
    rw [e] at qr
    exact qr σ w' hE'
theorem qJ1 (l:List It) (ms:List Bool) (g:Bool) (hlen:ms.length=l.length) (hl:l.length≤1000000) (hp:∀ p∈l,p.2.length≤8) (w:W) (rest:Sg) :
 SL F LF qKk (.dat (itsD l)::.dat (bsD ms)::.dat (.bool g)::.unb::.unb::.unb::.unb::.unb::.unb::.unb::.unb::.unb::.unb::rest) w (FnRes (.list ((qBi l ms g).map ltD)) w):=by
 delta qKk
 have hl2:(l.map itD).length≤1000000:=by rw [List.length_map]; exact hl
 refine ⟨Nat.zero_le _,Nat.le_add_left _ _,Nat.le_trans hl2 (by decide),by decide,by decide,Int.le_trans (by decide) (Int.natCast_nonneg _),as32 hl2 (by decide),by rw [Int.sub_zero]; exact Nat.le_trans hl2 (by decide),?_⟩
 rw [qBX,List.length_map]
 refine qKl F LF w l ms g hlen hl hp _ .unb .unb .unb .unb rest l.length 0 ([],0,0) (w++[.lst []]) (.loc w.length) .unb .unb .unb (Nat.zero_add _) ((Ext.refl w).snoc _)
  (Or.inr ⟨w.length,Nat.le_refl _,rfl,qAX _ _⟩) (by rw [List.length_nil,Nat.zero_add]; exact Nat.le_trans (Nat.mul_le_mul_left _ hl) (by decide)) ?_ ?_
 · intro s' hs' hz w' s3' s6' s7' s8' hE hr
   dsimp only [SL,SS,EL,E,Cst.d,gd0,gd1]
   refine hr.var hE _ fun w1 hE1=>?_
   have en:((s'.2.2:Int)+((s'.2.1 / 2:Nat):Int)).toNat=s'.2.2+s'.2.1 / 2:=by exact ar27
   try dsimp only [vd,binA,binL,List.length_cons,List.length_nil]
   try simp only [varK,binA,binL,or_false,false_or,fdiv2,List.length_cons,List.length_nil]
   rw [en,qI9,← List.map_append]
   refine ⟨by exact Nat.le_add_left _ _,by exact Nat.le_add_left _ _,by decide,by decide,by exact Int.le_trans (by decide) (Int.natCast_nonneg _),by lia,by exact au36 ‹_›,by simp [bk]; (exact au37 ‹_›),?_⟩
   rw [List.drop_zero] at hs'
   unfold qBi
   rw [hs']
   exact ⟨rfl,hE1⟩
 · intro σ w' hE
   rw [List.drop_zero]
   exact ⟨rfl,hE⟩
end
section
variable (F:Str->List D->D->Prop) (LF:LexF)
theorem qIH (c:Nat) (r:D) (h:F "#b1" [.int c] r) (w:W) (rest:Sg):SL F LF qGv (.dat (.str [c])::rest) w (FnRes r w):=by
 unfold qGv
 try dsimp only [SL,SS,E,EL,vd,biK,biA,gd0]
 exact ⟨c,rfl,r,h,rfl,Ext.refl w⟩
theorem qIm (c:Nat) (t:List Nat) (h:F "#b3" [.int c] (.str t)) (w:W) (rest:Sg):SL F LF qDr (.dat (.str [c])::.unb::rest) w (FnRes (.str t) w):=by
 unfold qDr
 try dsimp only [SL,SS,E,EL,vd,biK,biA,gd0]
 refine ⟨c,rfl,.str t,h,?_⟩
 exact ⟨rfl,Ext.refl w⟩
theorem qIC (c:Nat) (h:F "#b3" [.int c] .none) (hc:c<128) (w:W) (rest:Sg):SL F LF qDr (.dat (.str [c])::.unb::rest) w (FnRes (.str [if 65≤c/\c≤90 then c+32 else c]) w):=by
 unfold qDr
 try dsimp only [SL,SS,E,EL,vd,biK,biA,gd0]
 refine ⟨c,rfl,.none,h,?_⟩
 try dsimp only [SL,SS,T,E,EL,vd,metA,metL,List.set,gd0,gd1]
 exact ⟨⟨[c],rfl⟩,rfl,c,rfl,hc,rfl,Ext.refl w⟩
theorem qD0 (step:D->W->(Option D->W->Prop)->Prop) (g:D->Option D) (w:W):∀ (xs:List D) (K:List D->W->Prop),
 (∀ x∈xs,∀ k:Option D->W->Prop,k (g x) w->step x w k)->K (xs.filterMap g) w->qBL step xs w K:=by
 intro xs
 induction xs with
 | nil=>intro K h q; exact q
 | cons x xs ih =>
  intro K h q
  simp only [qBL]
  refine h x List.mem_cons_self _ ?_
  refine ih _ (fun y hy=>h y (List.mem_cons_of_mem _ hy)) ?_
  rw [List.filterMap_cons] at q
  cases hg:g x with
  | none=>rw [hg] at q; exact q
  | some y=>rw [hg] at q; exact q
noncomputable def qBC (b1:Nat->Bool) (b3:Nat->List Nat) (t:List Nat):List (List Nat):=(t.filter fun c=>!b1 c).map b3
theorem qE8 (b1:Nat->Bool) (b3:Nat->List Nat) (t:List Nat) (ht:t.length≤16000000) (h1:∀ c∈t,F "in_table_b1" [.str [c]] (.bool (b1 c))) (h3:∀ c∈t,b1 c=false->F "map_table_b3" [.str [c]] (.str (b3 c)))
 (hz:(qBC b1 b3 t).flatten.length≤16000000) (w:W) (s1 s2 s3 s4 s5 s6 s7 s8 s9:Slot) (rest:Sg) :
 SL F LF qC0 (.dat (.str t)::s1::s2::s3::s4::s5::s6::s7::s8::s9::rest) w (FnRes (.str (qBC b1 b3 t).flatten) w):=by
 unfold qC0
 try dsimp only [SL,SS,E,EL,vd,qAm,gd0,Cst.d]
 try simp only [SL,SS,E,EL,varK,qAm,List.getD_cons_zero,Cst.d]
 refine ⟨⟨[],rfl⟩,by exact Nat.le_trans ‹_› (by decide),?_⟩
 refine qD0 _ (fun d=>match d with | .str [c]=>if b1 c=true then none else some (.str (b3 c)) | _=>none) w _ _ ?_ ?_
 · intro x hx k q
   refine x12 (List.mem_map.mp hx) fun c hc eq2=>?_
   subst eq2
   try dsimp only [qAJ,List.set,qBv,qBk,T,E,EL,vd,gd0,gd1]
   try simp only [qAJ,List.set,qBv,qBk,T,E,EL,varK,List.getD_cons_zero,List.getD_cons_succ]
   refine ⟨.bool (b1 c),h1 c hc,?_⟩
   simp only [truK]
   cases hb:b1 c with
   | true =>
    simp only [hb,if_true,Bool.not_true,Bool.false_eq_true,if_false] at q ⊢
    exact q
   | false =>
    simp only [hb,if_true,Bool.not_false,Bool.false_eq_true,if_false] at q ⊢
    exact ⟨.str (b3 c),h3 c hc hb,q⟩
 · have e:(singles t).filterMap (fun d=>match d with | .str [c]=>if b1 c=true then none else some (D.str (b3 c)) | _=>none)=(qBC b1 b3 t).map .str:=by
    delta singles qBC
    clear h1 h3 hz ht
    induction t with
    | nil=>rfl
    | cons c t ih =>
     rw [List.map_cons,List.filterMap_cons,List.filter_cons]
     dsimp only
     cases hb:b1 c <;> simp [ih]
   rw [e]
   have hl:(qBC b1 b3 t).length≤t.length:=by unfold qBC; rw [List.length_map]; exact List.length_filter_le _ _
   exact ⟨qBC b1 b3 t,rfl,by exact Nat.le_trans ‹_› (by decide),by rw [List.length_map]; (exact Nat.le_trans ‹_› (Nat.le_trans ‹_› (by decide))),rfl,Ext.refl w⟩
end
noncomputable def qEo:MSL:=(MSL.cons (MS.ret (ME.bin (BOp.mul) (ME.list (ML.cons (ME.list (ML.cons (ME.cst (Cst.str [46])) (ML.cons (ME.cst (Cst.str [46])) (ML.nil)))) (ML.nil))) (ME.ife (MC.cmp (COp.eq) (ME.var 2) (ME.cst (Cst.int 0))) (ME.cst (Cst.int 3)) (ME.bin (BOp.add) (ME.cst (Cst.int 1)) (ME.bin (BOp.mod) (ME.var 1) (ME.cst (Cst.int 2))))))) (MSL.nil))
noncomputable def qE4:MSL:=(MSL.cons (MS.asg 3 (ME.bin (BOp.add) (ME.list (ML.cons (ME.cst (Cst.int 173)) (ML.cons (ME.cst (Cst.int 847)) (ML.cons (ME.cst (Cst.int 6150)) (ML.cons (ME.cst (Cst.int 6155)) (ML.cons (ME.cst (Cst.int 6156)) (ML.cons (ME.cst (Cst.int 6157)) (ML.cons (ME.cst (Cst.int 8203)) (ML.cons (ME.cst (Cst.int 8204)) (ML.cons (ME.cst (Cst.int 8205)) (ML.cons (ME.cst (Cst.int 8288)) (ML.cons (ME.cst (Cst.int 65279)) (ML.nil))))))))))))) (ME.bi (Bi.list) (ML.cons (ME.bi (Bi.range2) (ML.cons (ME.cst (Cst.int 65024)) (ML.cons (ME.cst (Cst.int 65040)) (ML.nil)))) (ML.nil))))) (MSL.cons (MS.ret (ME.bin (BOp.mul) (ME.list (ML.cons (ME.list (ML.cons (ME.bi (Bi.chr) (ML.cons (ME.idxV 3 (ME.bin (BOp.mod) (ME.var 1) (ME.cst (Cst.int 27)))) (ML.nil))) (ML.cons (ME.cst (Cst.str [])) (ML.nil)))) (ML.nil))) (ME.bin (BOp.add) (ME.cst (Cst.int 1)) (ME.bin (BOp.mod) (ME.bin (BOp.fdiv) (ME.var 1) (ME.cst (Cst.int 27))) (ME.cst (Cst.int 3)))))) (MSL.nil)))
noncomputable def qEn:MSL:=(MSL.cons (MS.ret (ME.list (ML.cons (ME.ife (MC.cmp (COp.eq) (ME.bin (BOp.mod) (ME.var 1) (ME.cst (Cst.int 2))) (ME.cst (Cst.int 0))) (ME.list (ML.cons (ME.cst (Cst.str [13255])) (ML.cons (ME.cst (Cst.str [99,111,46])) (ML.nil)))) (ME.list (ML.cons (ME.cst (Cst.str [890])) (ML.cons (ME.cst (Cst.str [32,953])) (ML.nil))))) (ML.nil)))) (MSL.nil))
noncomputable def qFC:MSL:=(MSL.cons (MS.asg 4 (ME.list (ML.cons (ME.cst (Cst.int 97)) (ML.cons (ME.cst (Cst.int 65)) (ML.cons (ME.cst (Cst.int 119808)) (ML.cons (ME.cst (Cst.int 119860)) (ML.cons (ME.cst (Cst.int 119912)) (ML.cons (ME.cst (Cst.int 120016)) (ML.cons (ME.cst (Cst.int 120172)) (ML.cons (ME.cst (Cst.int 120224)) (ML.cons (ME.cst (Cst.int 120276)) (ML.cons (ME.cst (Cst.int 120328)) (ML.cons (ME.cst (Cst.int 120380)) (ML.cons (ME.cst (Cst.int 120432)) (ML.nil))))))))))))))) (MSL.cons (MS.asg 5 (ME.ife (MC.cmp (COp.eq) (ME.bin (BOp.mod) (ME.var 1) (ME.cst (Cst.int 2))) (ME.cst (Cst.int 1))) (ME.cst (Cst.int 14)) (ME.cst (Cst.int 2)))) (MSL.cons (MS.ret (ME.list (ML.cons (ME.list (ML.cons (ME.bi (Bi.chr) (ML.cons (ME.bin (BOp.add) (ME.idxV 4 (ME.bin (BOp.mod) (ME.bin (BOp.fdiv) (ME.var 1) (ME.cst (Cst.int 2))) (ME.cst (Cst.int 12)))) (ME.var 5)) (ML.nil))) (ML.cons (ME.bi (Bi.chr) (ML.cons (ME.bin (BOp.add) (ME.cst (Cst.int 97)) (ME.var 5)) (ML.nil))) (ML.nil)))) (ML.nil)))) (MSL.nil))))
noncomputable def qCc:MSL:=MSL.cons (MS.ret (ME.list (ML.cons (ME.list (ML.cons (ME.bi (Bi.chr) (ML.cons (ME.var 6) (ML.nil))) (ML.cons (ME.bi (Bi.chr) (ML.cons (ME.ife (MC.cmp2 (COp.lt) (COp.lt) (ME.cst (Cst.int 64)) (ME.var 6) (ME.cst (Cst.int 91))) (ME.bin (BOp.add) (ME.var 6) (ME.cst (Cst.int 32))) (ME.var 6)) (ML.nil))) (ML.nil)))) (ML.nil)))) MSL.nil
noncomputable def qEy:MSL:=MSL.cons (MS.asg 6 (ME.bin (BOp.add) (ME.bin (BOp.mod) (ME.var 1) (ME.cst (Cst.int 127))) (ME.ife (MC.cmp (COp.gt) (ME.bin (BOp.mod) (ME.var 1) (ME.cst (Cst.int 127))) (ME.cst (Cst.int 32))) (ME.cst (Cst.int 1)) (ME.cst (Cst.int 0))))) qCc
noncomputable def qL2:MSL:=MSL.cons (MS.ife (MC.cmp (COp.eq) (ME.var 2) (ME.cst (Cst.int 4))) qFC (MSL.nil)) qEy
noncomputable def qLC:MSL:=MSL.cons (MS.ife (MC.cmp (COp.eq) (ME.var 2) (ME.cst (Cst.int 3))) qEn (MSL.nil)) qL2
noncomputable def qLN:MSL:=MSL.cons (MS.ife (MC.cmp (COp.eq) (ME.var 2) (ME.cst (Cst.int 2))) qE4 (MSL.nil)) qLC
noncomputable def qHi:MSL:=MSL.cons (MS.ife (MC.cmp (COp.lt) (ME.var 2) (ME.cst (Cst.int 2))) qEo (MSL.nil)) qLN
theorem qLQ:qG1=MSL.cons (MS.unp [1,2] (ME.bi (Bi.divmod) (ML.cons (ME.var 0) (ML.cons (ME.cst (Cst.int 6)) (ML.nil))))) qHi:=rfl
section
variable (F:Str->List D->D->Prop) (LF:LexF)
noncomputable def noise:List Nat:=[173,847,6150,6155,6156,6157,8203,8204,8205,8288,65279]++(List.range 16).map (65024 + ·)
noncomputable def bases:List Nat:=[97,65,119808,119860,119912,120016,120172,120224,120276,120328,120380,120432]
noncomputable def qAa (n:Int):List It :=
 if n.fmod 6<2 then List.replicate (if n.fmod 6=0 then 3 else (1+(n.fdiv 6).fmod 2).toNat) ([46],[46])
 else if n.fmod 6=2 then List.replicate (1+((n.fdiv 6).fdiv 27).fmod 3).toNat ([noise.getD ((n.fdiv 6).fmod 27).toNat 0],[])
 else if n.fmod 6=3 then [if (n.fdiv 6).fmod 2=0 then ([13255],[99,111,46]) else ([890],[32,953])]
 else if n.fmod 6=4 then [([bases.getD (((n.fdiv 6).fdiv 2).fmod 12).toNat 0+(if (n.fdiv 6).fmod 2=1 then 14 else 2)],[97+(if (n.fdiv 6).fmod 2=1 then 14 else 2)])]
 else [([((n.fdiv 6).fmod 127).toNat+(if (n.fdiv 6).fmod 127>32 then 1 else 0)],
  [if 64<((n.fdiv 6).fmod 127).toNat+(if (n.fdiv 6).fmod 127>32 then 1 else 0)/\((n.fdiv 6).fmod 127).toNat+(if (n.fdiv 6).fmod 127>32 then 1 else 0)<91
   then ((n.fdiv 6).fmod 127).toNat+(if (n.fdiv 6).fmod 127>32 then 1 else 0)+32 else ((n.fdiv 6).fmod 127).toNat+(if (n.fdiv 6).fmod 127>32 then 1 else 0)])]
theorem qMG (p:It) (n:Nat):(List.replicate n [D.list [.str p.1,.str p.2]]).flatten=(List.replicate n p).map itD:=by
 induction n with
 | zero=>rfl
 | succ n ih=>rw [List.replicate_succ,List.flatten_cons,ih,List.replicate_succ]; rfl
theorem qMz {n r k:Int} {w:W} {rest:Sg} {K:Fl->Sg->W->Prop} (q:∀ σ,K (.ret (itsD (List.replicate (if k=0 then 3 else (1+r.fmod 2).toNat) ([46],[46])))) σ w):SL F LF qEo (.dat (.int n)::.dat (.int r)::.dat (.int k)::rest) w K:=by
 have m2:=Int.fmod_nonneg_of_pos r (b:=2) (by decide)
 have m2':=Int.fmod_lt_of_pos r (b:=2) (by decide)
 delta qEo
 dsimp only [SL,SS,T,E,EL,vd,cmpK,gd0,gd1,Cst.d]
 refine ⟨by decide,by exact Nat.le_add_left _ _,iteD (fun h=>?_) fun h=>?_⟩
 · rw [if_pos h] at q
   exact ⟨by decide,by decide,by decide,q _⟩
 · rw [if_neg h,itsD,← qMG (([46],[46]):It)] at q
   have b:=at4 m2 (Int.lt_trans m2' (by decide))
   exact ⟨by decide,b.1,b.2.1,b.2.2,q _⟩
theorem qNM {n r k:Int} {w:W} {rest:Sg} {K:Fl->Sg->W->Prop} (q:∀ σ,K (.ret (itsD (List.replicate (1+(r.fdiv 27).fmod 3).toNat ([noise.getD (r.fmod 27).toNat 0],[])))) σ w):SL F LF qE4 (.dat (.int n)::.dat (.int r)::.dat (.int k)::.unb::rest) w K:=by
 have a1:=Int.fmod_nonneg_of_pos r (b:=27) (by decide)
 have a2:=Int.fmod_lt_of_pos r (b:=27) (by decide)
 have a3:=Int.fmod_nonneg_of_pos (r.fdiv 27) (b:=3) (by decide)
 have a4:=Int.fmod_lt_of_pos (r.fdiv 27) (b:=3) (by decide)
 have hj:(r.fmod 27).toNat<noise.length:=by exact ar6 (m:=27) a2 (by decide)
 have hcj:=(by decide:∀ c∈noise,c≤1114111) _ (List.getElem_mem hj)
 have ep:qBE (noise.map fun (c:Nat)=>D.int (c:Int)) (r.fmod 27)=some (.int ((noise[(r.fmod 27).toNat]:Nat):Int)):=by
  delta qBE
  rw [if_pos a1,List.getElem?_map,List.getElem?_eq_getElem hj]; rfl
 rw [show noise.getD (r.fmod 27).toNat 0=noise[(r.fmod 27).toNat] by rw [List.getD_eq_getElem?_getD,List.getElem?_eq_getElem hj]; rfl] at q
 generalize noise[(r.fmod 27).toNat]=c at hcj ep q
 rw [itsD,← qMG (([c],[]):It)] at q
 delta qE4
 dsimp only [SL,SS,T,E,EL,vd,gd0,gd1,Cst.d]
 refine ⟨by decide,by decide,by decide,by decide,by decide,by decide,by decide,by decide,rfl,Int.le_trans (by decide) a1,by exact Int.lt_of_lt_of_le ‹_› (by decide),_,ep,?_⟩
 have b:=at4 a3 a4
 exact ⟨by exact Int.natCast_nonneg _,as32 hcj (by decide),by exact Nat.le_add_left _ _,by exact Nat.le_add_left _ _,by decide,by decide,by decide,b.1,b.2.1,b.2.2,q _⟩
theorem qM4 {n r k:Int} {w:W} {rest:Sg} {K:Fl->Sg->W->Prop} (q:∀ σ,K (.ret (itsD [if r.fmod 2=0 then ([13255],[99,111,46]) else ([890],[32,953])])) σ w):SL F LF qEn (.dat (.int n)::.dat (.int r)::.dat (.int k)::rest) w K:=by
 delta qEn
 dsimp only [SL,SS,T,E,EL,vd,cmpK,binA,gd0,gd1,Cst.d]
 refine ⟨by decide,iteD (fun h=>?_) fun h=>?_⟩
 · rw [if_pos h] at q
   exact ⟨by decide,by exact Nat.le_add_left _ _,q _⟩
 · rw [if_neg h] at q
   exact ⟨by decide,by exact Nat.le_add_left _ _,q _⟩
noncomputable def qFB:MSL:=.cons (.ret (.list (.cons (.list (.cons (.bi .chr (.cons (.bin .add (.idxV 4 (.bin .mod (.bin .fdiv (.var 1) (.cst (.int 2))) (.cst (.int 12)))) (.var 5)) .nil)) (.cons (.bi .chr (.cons (.bin .add (.cst (.int 97)) (.var 5)) .nil)) .nil))) .nil))) .nil
theorem qNA {n r k:Int} {w:W} {s:Slot} {rest:Sg} {K:Fl->Sg->W->Prop} (q:∀ σ,K (.ret (itsD [([bases.getD ((r.fdiv 2).fmod 12).toNat 0+(if r.fmod 2=1 then 14 else 2)],[97+(if r.fmod 2=1 then 14 else 2)])])) σ w):SL F LF qFC (.dat (.int n)::.dat (.int r)::.dat (.int k)::s::.unb::.unb::rest) w K:=by
 have b1:=Int.fmod_nonneg_of_pos (r.fdiv 2) (b:=12) (by decide)
 have b2:=Int.fmod_lt_of_pos (r.fdiv 2) (b:=12) (by decide)
 have hj:((r.fdiv 2).fmod 12).toNat<bases.length:=by exact ar6 (m:=12) b2 (by decide)
 have hcj:=(by decide:∀ c∈bases,c≤1114000) _ (List.getElem_mem hj)
 have ep:qBE (bases.map fun (c:Nat)=>D.int (c:Int)) ((r.fdiv 2).fmod 12)=some (.int ((bases[((r.fdiv 2).fmod 12).toNat]:Nat):Int)):=by
  delta qBE
  rw [if_pos b1,List.getElem?_map,List.getElem?_eq_getElem hj]; rfl
 rw [show bases.getD ((r.fdiv 2).fmod 12).toNat 0=bases[((r.fdiv 2).fmod 12).toNat] by rw [List.getD_eq_getElem?_getD,List.getElem?_eq_getElem hj]; rfl] at q
 generalize bases[((r.fdiv 2).fmod 12).toNat]=c at hcj ep q
 have fin:∀ m:Nat,m≤14->(∀ σ,K (.ret (itsD [([c+m],[97+m])])) σ w)->SL F LF qFB
  (.dat (.int n)::.dat (.int r)::.dat (.int k)::s::.dat (.list (bases.map fun (c:Nat)=>D.int (c:Int)))::.dat (.int m)::rest) w K:=fun m hm q=>by
  delta qFB
  dsimp only [SL,SS,E,EL,vd,gd0,gd1,Cst.d]
  refine ⟨by decide,by decide,by decide,rfl,Int.le_trans (by decide) b1,by exact Int.lt_of_lt_of_le ‹_› (by decide),_,ep,?_⟩
  refine ⟨Int.natCast_nonneg (c+m),at8 hcj hm (by decide),Int.natCast_nonneg (97+m),at8 (c:=97) (n:=97) (Nat.le_refl _) hm (by decide),by exact Nat.le_add_left _ _,by exact Nat.le_add_left _ _,?_⟩
  have e1:((c:Int)+m).toNat=c+m:=by exact ar27
  have e2:((97:Int)+m).toNat=97+m:=rfl
  rw [e1,e2]
  exact q _
 delta qFC
 refine ⟨by decide,?_⟩
 show SL F LF (.cons (.asg 5 (.ife (.cmp .eq (.bin .mod (.var 1) (.cst (.int 2))) (.cst (.int 1))) (.cst (.int 14)) (.cst (.int 2)))) qFB) (.dat (.int n)::.dat (.int r)::.dat (.int k)::s::.dat (.list (bases.map fun (c:Nat)=>D.int (c:Int)))::.unb::rest) w K
 dsimp only [SL,SS,T,E,vd,cmpK,binA,gd0,gd1,Cst.d]
 refine ⟨by decide,iteD (fun h=>?_) fun h=>?_⟩
 · rw [if_pos h] at q
   exact fin 14 (by decide) q
 · rw [if_neg h] at q
   exact fin 2 (by decide) q
theorem qJ3 {n r k:Int} {c:Nat} {w:W} {s3 s4 s5:Slot} {rest:Sg} {K:Fl->Sg->W->Prop} (hc:c<128) (q:∀ σ,K (.ret (itsD [([c],[if 64<c/\c<91 then c+32 else c])])) σ w):SL F LF qCc (.dat (.int n)::.dat (.int r)::.dat (.int k)::s3::s4::s5::.dat (.int c)::rest) w K:=by
 delta qCc
 dsimp only [SL,SS,T,E,EL,vd,cmpK,gd0,gd1,Cst.d]
 refine ⟨by exact Int.natCast_nonneg _,at7 hc (by decide),iteD (fun h6=>iteD (fun h7=>?_) fun h7=>?_) fun h6=>?_⟩
 · rw [if_pos ⟨Int.ofNat_lt.mp h6,Int.ofNat_lt.mp h7⟩] at q
   refine ⟨Int.natCast_nonneg (c+32),at8 (m:=32) (k:=32) (Nat.le_of_lt hc) (Nat.le_refl _) (by decide),by exact Nat.le_add_left _ _,by exact Nat.le_add_left _ _,?_⟩
   rw [show ((c:Int)+32).toNat=c+32 from rfl]
   exact q _
 · rw [if_neg fun e=>h7 (Int.ofNat_lt.mpr e.2)] at q
   exact ⟨by exact Int.natCast_nonneg _,at7 hc (by decide),by exact Nat.le_add_left _ _,by exact Nat.le_add_left _ _,q _⟩
 · rw [if_neg fun e=>h6 (Int.ofNat_lt.mpr e.1)] at q
   exact ⟨by exact Int.natCast_nonneg _,at7 hc (by decide),by exact Nat.le_add_left _ _,by exact Nat.le_add_left _ _,q _⟩
theorem qM1 {n r k:Int} {w:W} {s3 s4 s5:Slot} {rest:Sg} {K:Fl->Sg->W->Prop} (q:∀ c σ,c=(r.fmod 127).toNat+(if r.fmod 127>32 then 1 else 0)->K (.ret (itsD [([c],[if 64<c/\c<91 then c+32 else c])])) σ w):SL F LF qEy (.dat (.int n)::.dat (.int r)::.dat (.int k)::s3::s4::s5::.unb::rest) w K:=by
 have b1:=Int.fmod_nonneg_of_pos r (b:=127) (by decide)
 have b2:=Int.fmod_lt_of_pos r (b:=127) (by decide)
 delta qEy
 dsimp only [SL,SS,T,E,EL,vd,cmpK,binA,gd0,gd1,Cst.d]
 refine ⟨by decide,by decide,iteD (fun h=>?_) fun h=>?_⟩
 · rw [if_pos h] at q
   show SL F LF qCc (.dat (.int n)::.dat (.int r)::.dat (.int k)::s3::s4::s5::.dat (.int (r.fmod 127+1))::rest) w K
   rw [show r.fmod 127+1=(((r.fmod 127).toNat+1:Nat):Int) by rw [Int.natCast_succ,Int.toNat_of_nonneg b1]]
   exact qJ3 F LF (Nat.succ_lt_succ (ar6 (m:=127) b2 (by decide))) fun σ=>q _ σ rfl
 · rw [if_neg h] at q
   show SL F LF qCc (.dat (.int n)::.dat (.int r)::.dat (.int k)::s3::s4::s5::.dat (.int (r.fmod 127+0))::rest) w K
   rw [show r.fmod 127+0=(((r.fmod 127).toNat+0:Nat):Int) from (Int.add_zero _).trans (Int.toNat_of_nonneg b1).symm]
   exact qJ3 F LF (Nat.lt_succ_of_lt (ar6 (m:=127) b2 (by decide))) fun σ=>q _ σ rfl
theorem ife_ {o:COp} {a b:ME} {t:MSL} {r:MSL} {σ:Sg} {w:W} {Q:Fl->Sg->W->Prop} {p:Prop} [Decidable p] (hc:∀ R:Bool->W->Prop,R (decide p) w->T F LF (.cmp o a b) σ w R) (h1:p->SL F LF t σ w fun f σ w=>match f with | .nxt=>SL F LF r σ w Q | f=>Q f σ w) (h2:¬p->SL F LF r σ w Q):SL F LF (.cons (.ife (.cmp o a b) t .nil) r) σ w Q :=
 hc (fun t' w=>if t'=true then SL F LF t σ w _ else SL F LF .nil σ w _) (iteD h1 h2)
theorem qHv (n:Int) (w:W) (rest:Sg):SL F LF qG1 (.dat (.int n)::.unb::.unb::.unb::.unb::.unb::.unb::rest) w (FnRes (itsD (qAa n)) w):=by
 rw [qLQ]
 refine ⟨by decide,by decide,rfl,by exact Nat.le_add_left _ _,?_⟩
 show SL F LF qHi (.dat (.int n)::.dat (.int (n.fdiv 6))::.dat (.int (n.fmod 6))::.unb::.unb::.unb::.unb::rest) w (FnRes (itsD (qAa n)) w)
 delta qAa
 generalize n.fdiv 6=r
 generalize n.fmod 6=k
 refine ife_ (p:=k<2) F LF (fun R h=>h) (fun h=>?_) fun h=>?_
 · rw [if_pos h]; exact qMz F LF fun σ=>.of (Ext.refl w) σ
 rw [if_neg h]
 refine ife_ (p:=k=2) F LF (fun R h=>h) (fun h=>?_) fun h=>?_
 · rw [if_pos h]; exact qNM F LF fun σ=>.of (Ext.refl w) σ
 rw [if_neg h]
 refine ife_ (p:=k=3) F LF (fun R h=>h) (fun h=>?_) fun h=>?_
 · rw [if_pos h]; exact qM4 F LF fun σ=>.of (Ext.refl w) σ
 rw [if_neg h]
 refine ife_ (p:=k=4) F LF (fun R h=>h) (fun h=>?_) fun h=>?_
 · rw [if_pos h]; exact qNA F LF fun σ=>.of (Ext.refl w) σ
 rw [if_neg h]
 exact qM1 F LF fun c σ hc=>hc ▸ .of (Ext.refl w) σ
end
section
variable (F:Str->List D->D->Prop) (LF:LexF)
noncomputable def fnd (s w:List Nat) (lo hi:Nat):Option Nat:=(List.range' lo (hi+1-w.length-lo)).find? fun i=>decide ((s.drop i).take w.length=w)
noncomputable def qCZ (s:List Nat) (hi:Nat):List (List Nat)->Nat->Bool
 | [],_=>true
 | w::r,lo=>match fnd s w lo hi with
  | none=>false
  | some i=>qCZ s hi r (i+w.length)
theorem qLE {s w:List Nat} {lo hi i:Nat} (h1:lo≤i) (h2:i+w.length≤hi) (h3:At s w i) (h4:∀ j,lo≤j->j<i->¬ At s w j):fnd s w lo hi=some i:=by
 unfold fnd
 rw [List.find?_range'_eq_some]
 refine ⟨decide_eq_true h3,?_,?_⟩
 · rw [List.mem_range'_1]; (exact ar34 ‹_› ‹_›)
 · intro j hj hji
   have:=h4 j hj hji
   simpa [At] using this
theorem qLq {s w:List Nat} {lo hi:Nat} (h:∀ j,lo≤j->j+w.length≤hi->¬ At s w j):fnd s w lo hi=none:=by
 unfold fnd
 rw [List.find?_eq_none]
 intro j hj
 rw [List.mem_range'_1] at hj
 have:=h j (by exact And.left ‹_›) (by exact ar35 ‹_›)
 simpa [At] using this
theorem qLr (got p:List Nat) (w:W) (lo hi:Nat) (h1:lo≤hi) (h2:hi≤got.length) (h3:got.length≤16000000) (s0 s2 s5:Slot) (rest:Sg) (K:Fl->Sg->W->Prop)
 (qf:fnd got p lo hi=none->∀ σ,K (.ret (.bool false)) σ w)
 (qn:∀ i,fnd got p lo hi=some i->i+p.length≤hi->K .nxt (s0::.dat (.str got)::s2::.dat (.int ((i+p.length:Nat):Int))::.dat (.int hi)::.dat (.str p)::rest) w) :
 qAJ [5] (.str p) (s0::.dat (.str got)::s2::.dat (.int lo)::.dat (.int hi)::s5::rest) fun σ=>SL F LF qA0 σ w K:=by
 delta qA0
 refine ⟨⟨got,rfl⟩,by exact Int.natCast_nonneg _,by exact Int.ofNat_le.mpr ‹_›,by exact Int.ofNat_le.mpr ‹_›,by exact Nat.le_trans ‹_› (by decide),fun r hr=>?_⟩
 simp only [Int.toNat_natCast] at hr
 rcases hr with ⟨i,rfl,hi1,hi2,hi3,hi4⟩ | ⟨rfl,hn⟩
 · have hneg:¬ ((i:Int)<0):=by lia
   refine ⟨by lia,?_⟩
   have:=qn i (qLE hi1 hi2 hi3 hi4) hi2
   rw [show ((i+p.length:Nat):Int)=(i:Int)+(p.length:Int) from by lia] at this
   exact this
 · try dsimp only [cmpK,SL,SS,E,Cst.d]
   exact qf (qLq hn) _
theorem qLe (got:List Nat) (w:W) (hi:Nat) (h2:hi≤got.length) (h3:got.length≤16000000) (s0 s2:Slot) (rest:Sg) (Q:Fl->Sg->W->Prop):∀ (ws:List (List Nat)) (lo:Nat) (s5:Slot),lo≤hi ->
 (qCZ got hi ws lo=false->∀ σ,Q (.ret (.bool false)) σ w)->(qCZ got hi ws lo=true->∀ σ,Q .nxt σ w) ->
 qA2 (fun x σ w k=>qAJ [5] x σ fun σ=>SL F LF qA0 σ w k) (ws.map .str) (s0::.dat (.str got)::s2::.dat (.int lo)::.dat (.int hi)::s5::rest) w Q:=by
 intro ws
 induction ws with
 | nil=>intro lo s5 h1 qf qt; exact qt rfl _
 | cons p ws ih =>
  intro lo s5 h1 qf qt
  show qA2 _ (D.str p::ws.map .str) _ _ _
  refine qLr F LF got p w lo hi h1 h2 h3 s0 s2 s5 rest _ ?_ ?_
  · intro hn σ
    refine qf ?_ σ
    rw [qCZ,hn]
  · intro i hs hle
    have e:qCZ got hi (p::ws) lo=qCZ got hi ws (i+p.length):=by rw [qCZ,hs]
    rw [e] at qf qt
    exact ih (i+p.length) _ hle qf qt
end
noncomputable def qMH:MSL:=(MSL.cons (MS.ret (ME.cmp (COp.eq) (ME.var 0) (ME.var 1))) (MSL.nil))
noncomputable def qMU:MSL:=(MSL.cons (MS.ife (MC.val (ME.met (Met.startswith) (ME.var 1) (ML.cons (ME.var 5) (ML.nil)))) (MSL.cons (MS.asg 3 (ME.lenV 5)) (MSL.cons (MS.del 2 0) (MSL.nil))) (MSL.cons (MS.ret (ME.cst (Cst.bool false))) (MSL.nil))) (MSL.nil))
noncomputable def qMJ:MSL:=(MSL.cons (MS.ife (MC.val (ME.met (Met.endswith) (ME.var 1) (ML.cons (ME.var 5) (ML.nil)))) (MSL.cons (MS.aug 4 (BOp.sub) (ME.lenV 5)) (MSL.cons (MS.del 2 (-1)) (MSL.nil))) (MSL.cons (MS.ret (ME.cst (Cst.bool false))) (MSL.nil))) (MSL.nil))
noncomputable def qL9:MSL:=(MSL.cons (MS.ret (ME.cst (Cst.bool false))) (MSL.nil))
noncomputable def qKO:MSL:=MSL.cons (MS.ret (ME.cst (Cst.bool true))) MSL.nil
noncomputable def qL8:MSL:=MSL.cons (MS.forr [5] (ME.var 2) qA0) qKO
noncomputable def qJx:MSL:=MSL.cons (MS.ife (MC.cmp (COp.gt) (ME.var 3) (ME.var 4)) qL9 (MSL.nil)) qL8
noncomputable def qMP:MSL:=MSL.cons (MS.ife (MC.val (ME.var 5)) qMJ (MSL.nil)) qJx
noncomputable def qHh:MSL:=MSL.cons (MS.asg 5 (ME.idxV 2 (ME.cst (Cst.int (-1))))) qMP
noncomputable def qMI:MSL:=MSL.cons (MS.ife (MC.val (ME.var 5)) qMU (MSL.nil)) qHh
noncomputable def qMV:MSL:=MSL.cons (MS.asg 5 (ME.idxV 2 (ME.cst (Cst.int 0)))) qMI
noncomputable def qML:MSL:=MSL.cons (MS.asgT [(3,false),(4,false)] (ML.cons (ME.cst (Cst.int 0)) (ML.cons (ME.lenV 1) (ML.nil)))) qMV
noncomputable def qME:MSL:=MSL.cons (MS.asrt (MC.cmp (COp.ge) (ME.lenV 2) (ME.cst (Cst.int 2)))) qML
noncomputable def qL6:MSL:=MSL.cons (MS.asgO 2 (ME.met (Met.split) (ME.var 0) (ML.cons (ME.mark) (ML.nil)))) qME
theorem qOY:qC8=MSL.cons (MS.ife (MC.cmp (COp.notin) (ME.mark) (ME.var 0)) qMH (MSL.nil)) qL6:=rfl
section
variable (F:Str->List D->D->Prop) (LF:LexF)
theorem qHq (w₀ w:W) (got:List Nat) (ws:List (List Nat)) (k lo hi:Nat) (hE:Ext w₀ w) (hk:w₀.length≤k) (hw:w[k]?=some (.lst (ws.map .str))) (h2:hi≤got.length) (h3:got.length≤16000000)
 (h4:ws.length≤16777216) (s0 s5:Slot) (rest:Sg) :
 SL F LF qJx (s0::.dat (.str got)::.loc k::.dat (.int lo)::.dat (.int hi)::s5::rest) w (FnRes (.bool (decide (lo≤hi) && qCZ got hi ws lo)) w₀):=by
 unfold qJx
 try dsimp only [SL,SS,T,E,EL,vd,cmpK,gd0,gd1,Cst.d]
 by_cases h:lo≤hi
 · have hn:¬ ((lo:Int)>hi):=by lia
   simp only [hn,h,decide_true,decide_false,Bool.false_eq_true,if_false,Bool.true_and]
   unfold qL8
   try dsimp only [SL,SS,T,E,EL,vd,qAm,gd0,gd1,Cst.d]
   try simp only [SL,SS,T,E,EL,varK,qAm,hw,List.getD_cons_zero,List.getD_cons_succ,Cst.d]
   have hE1:=hE.set hk (.fro (ws.map .str))
   refine ⟨by rw [List.length_map]; exact h4,?_⟩
   refine qLe F LF got _ hi h2 h3 s0 _ rest _ ws lo s5 h ?_ ?_
   · intro hf σ
     rw [hf]
     exact ⟨rfl,hE1⟩
   · intro ht σ
     rw [ht]
     unfold qKO
     exact ⟨rfl,hE1⟩
 · have hn:((lo:Int)>hi):=by lia
   simp only [hn,h,decide_true,decide_false,if_true,Bool.false_and]
   unfold qL9
   exact ⟨rfl,hE⟩
noncomputable def qEY (got:List Nat) (lo:Nat) (init:List (List Nat)) (z:List Nat):Bool :=
 if z=[] then decide (lo≤got.length) && qCZ got got.length (init++[z]) lo
 else if z.length≤got.length/\got.drop (got.length-z.length)=z then decide (lo≤got.length-z.length) && qCZ got (got.length-z.length) init lo
 else false
theorem qNO (w₀ w:W) (got z:List Nat) (init:List (List Nat)) (k lo:Nat) (hE:Ext w₀ w) (hk:w₀.length≤k) (hw:w[k]?=some (.lst ((init++[z]).map .str))) (h3:got.length≤16000000)
 (h4:init.length≤16000000) (h5:z.length≤16000000) (s0 s5:Slot) (rest:Sg) :
 SL F LF qHh (s0::.dat (.str got)::.loc k::.dat (.int lo)::.dat (.int got.length)::s5::rest) w (FnRes (.bool (qEY got lo init z)) w₀):=by
 unfold qHh
 try dsimp only [SL,SS,T,E,EL,ldd,idxK,List.set,gd0,gd1,Cst.d]
 try simp only [SL,SS,T,E,EL,qBY,hw,idxK,List.set,List.getD_cons_zero,List.getD_cons_succ,Cst.d]
 have ei:qBE ((init++[z]).map D.str) (-1:Int)=some (.str z):=by
  have el:((init++[z]).map D.str).length=init.length+1:=by simp
  unfold qBE
  rw [if_neg (by decide),el,if_pos (by exact as73),show (((init.length+1:Nat):Int) + -1).toNat=init.length from by exact ar37,List.map_append]
  simp
 refine ⟨trivial,by decide,by decide,_,ei,?_⟩
 delta qMP
 refine ⟨by exact Nat.le_trans ‹_› (by decide),?_⟩
 unfold qEY
 by_cases hz:z=[]
 · subst hz
   dsimp only [List.isEmpty_nil,Bool.not_true,Bool.false_eq_true,if_false,if_true]
   exact qHq F LF w₀ w got (init++[[]]) k lo got.length hE hk hw (Nat.le_refl _) h3 (by simp; (exact Nat.le_trans ‹_› (by decide))) _ _ _
 · rw [if_neg hz]
   have hze:z.isEmpty=false:=by cases z with | nil=>exact absurd rfl hz | cons a b=>rfl
   simp only [hze,Bool.not_false,if_true]
   unfold qMJ
   try dsimp only [SL,SS,T,E,EL,vd,metA,metL,truK,gd0,gd1,Cst.d]
   refine ⟨⟨got,rfl⟩,?_⟩
   by_cases hc:z.length≤got.length/\got.drop (got.length-z.length)=z
   · rw [if_pos hc,if_pos (by simp only [hc,decide_true,and_self])]
     try dsimp only [SL,SS,E,ldd,biK,biA,List.set,gd0,gd1]
     try simp only [SL,SS,E,qBY,biK,biA,or_false,hw,List.set,List.getD_cons_zero,List.getD_cons_succ]
     refine ⟨by exact Nat.le_trans ‹_› (by decide),by simp; (exact Nat.le_trans ‹_› (by decide)),Or.inr ⟨trivial,by simp,?_⟩⟩
     rw [show (got.length:Int)-(z.length:Int)=((got.length-z.length:Nat):Int) from by exact ar38 ‹_›]
     refine qHq F LF w₀ _ got init k lo (got.length-z.length) (hE.set hk _) hk ?_ (by exact Nat.sub_le _ _) h3 (by exact Nat.le_trans ‹_› (by decide)) _ _ _
     rw [qBB hw]; simp
   · rw [if_neg hc,if_neg (by simp only [hc,decide_false]; decide)]
     exact ⟨rfl,hE⟩
end
theorem qDe (acc s:List Nat):1≤(qAB acc s).length/\(qAB acc s).length≤s.length+1:=by
 induction acc,s using qAB.induct with
 | case1 acc r ih=>rw [qAB]; simp only [List.length_cons]; lia
 | case2 acc c r h ih =>
  rw [qAB]
  · simp only [List.length_cons]; (exact au28 ‹_›)
  · exact h
 | case3 acc=>rw [qAB]; simp
theorem qIu (acc s:List Nat):∀ p∈qAB acc s,p.length≤acc.length+s.length:=by
 induction acc,s using qAB.induct with
 | case1 acc r ih =>
  rw [qAB]
  intro p hp
  rcases List.mem_cons.mp hp with h | h
  · subst h; simp
  · have:=ih p h; simp only [List.length_cons,List.length_nil] at this ⊢; (exact au35 ‹_›)
 | case2 acc c r h ih =>
  rw [qAB]
  · intro p hp
    have:=ih p hp; simp only [List.length_cons] at this ⊢; lia
  · exact h
 | case3 acc=>rw [qAB]; simp
theorem qFR (acc s:List Nat):∀ i,(s.drop i).take 3=[46,46,46]->2≤(qAB acc s).length:=by
 induction acc,s using qAB.induct with
 | case1 acc r ih=>intro i hi; rw [qAB]; simp only [List.length_cons]; have:=(qDe [] r).1; (exact Nat.succ_le_succ ‹_›)
 | case2 acc c r h ih =>
  intro i hi
  rw [qAB]
  · cases i with
    | zero =>
     exfalso
     match r,hi with
     | a::b::r',hi =>
      simp at hi
      obtain ⟨rfl,rfl,rfl⟩:=hi
      exact h r' rfl rfl
    | succ i=>exact ih i (by exact hi)
  · exact h
 | case3 acc=>intro i hi; simp at hi
section
variable (F:Str->List D->D->Prop) (LF:LexF)
noncomputable def qB6 (got:List Nat) (lo:Nat) (ws:List (List Nat)):Bool:=match ws.getLast? with
 | some z=>qEY got lo ws.dropLast z
 | none=>false
noncomputable def qAt (want got:List Nat):Bool :=
 if Infix [46,46,46] want=true then (match qAB [] want with
  | a::r=>if a=[] then qB6 got 0 (a::r) else if got.take a.length=a then qB6 got a.length r else false
  | []=>false)
 else decide (want=got)
theorem qMA (w₀ w:W) (got:List Nat) (ws:List (List Nat)) (k lo:Nat) (hE:Ext w₀ w) (hk:w₀.length≤k) (hw:w[k]?=some (.lst (ws.map .str))) (hne:ws≠[]) (h3:got.length≤16000000)
 (h4:ws.length≤16000000) (h5:∀ z∈ws,z.length≤16000000) (s0 s5:Slot) (rest:Sg) :
 SL F LF qHh (s0::.dat (.str got)::.loc k::.dat (.int lo)::.dat (.int got.length)::s5::rest) w (FnRes (.bool (qB6 got lo ws)) w₀):=by
 unfold qB6
 rw [List.getLast?_eq_some_getLast hne]
 refine qNO F LF w₀ w got (ws.getLast hne) ws.dropLast k lo hE hk ?_ h3 (by simp; (exact Nat.le_succ_of_le ‹_›)) (h5 _ (List.getLast_mem hne)) s0 s5 rest
 rw [List.dropLast_concat_getLast]; exact hw
theorem qK3 (want got:List Nat) (h1:want.length≤15000000) (h3:got.length≤15000000) (w:W) (rest:Sg) :
 SL F LF qC8 (.dat (.str want)::.dat (.str got)::.unb::.unb::.unb::.unb::rest) w (FnRes (.bool (qAt want got)) w):=by
 rw [qOY]
 try dsimp only [SL,SS,T,E,EL,vd,cmpK,gd0,gd1,Cst.d]
 unfold qAt
 cases hI:Infix [46,46,46] want with
 | false =>
  simp only [Bool.not_false,Bool.false_eq_true,if_true,if_false]
  delta qMH
  exact ⟨rfl,Ext.refl w⟩
 | true =>
  simp only [Bool.not_true,Bool.false_eq_true,if_true,if_false]
  refine x12 (of_decide_eq_true hI) fun i _ hi=>?_
  have h2:=qFR [] want i hi
  have hl:=(qDe [] want).2
  have hp:=qIu [] want
  unfold qL6
  try dsimp only [SL,SS,E,EO,EL,vd,metL,List.set,gd0,gd1,Cst.d]
  try simp only [SL,SS,E,EO,EL,varK,metL,List.set,List.getD_cons_zero,List.getD_cons_succ,Cst.d]
  refine ⟨⟨want,rfl⟩,trivial,by exact Nat.le_trans ‹_› (by decide),?_⟩
  generalize qAB [] want=ws at h2 hl hp ⊢
  unfold qME
  try dsimp only [SL,SS,T,E,ldd,biK,biA,cmpK,List.set,gd0,gd1,Cst.d]
  try simp only [SL,SS,T,E,qBY,biK,biA,or_false,cmpK,qAX,List.set,List.getD_cons_zero,List.getD_cons_succ,Cst.d,List.length_map]
  refine ⟨by exact as67 ‹_› ‹_› (by decide),by simp; lia,?_⟩
  unfold qML
  try dsimp only [SL,SS,T,E,EL,ldd,biK,biA,tupK,List.set,gd0,gd1,Cst.d,List.length_cons,List.length_nil]
  refine ⟨by exact Nat.le_trans ‹_› (by decide),by exact Nat.le_add_left _ _,?_⟩
  match ws,h2,hl,hp with
  | a::r,h2,hl,hp =>
   simp only [List.length_cons] at h2 hl
   unfold qMV
   try dsimp only [SL,SS,T,E,EL,ldd,idxK,List.set,gd0,gd1,Cst.d]
   try simp only [SL,SS,T,E,EL,qBY,idxK,qAX,List.set,List.getD_cons_zero,List.getD_cons_succ,Cst.d]
   refine ⟨trivial,by decide,by decide,.str a,rfl,?_⟩
   have ha:=hp a List.mem_cons_self
   dsimp only [List.length_nil,Nat.zero_add] at ha
   unfold qMI
   try dsimp only [SL,SS,T,E,EL,vd,truK,gd0,gd1,Cst.d]
   refine ⟨by lia,?_⟩
   have hE:=(Ext.refl w).snoc (.lst ((a::r).map .str))
   by_cases hz:a=[]
   · subst hz
     dsimp only [List.isEmpty_nil,Bool.not_true,Bool.false_eq_true,if_false,if_true]
     exact qMA F LF w _ got ([]::r) w.length 0 hE (Nat.le_refl _) (qAX _ _) (by simp) (by exact Nat.le_trans ‹_› (by decide)) (by simp; lia) (fun z hz=>by have:=hp z hz; simp at this; (exact Nat.le_trans ‹_› (Nat.le_trans ‹_› (by decide)))) _ _ _
   · rw [if_neg hz]
     have hze:a.isEmpty=false:=by cases a with | nil=>exact absurd rfl hz | cons a b=>rfl
     simp only [hze,Bool.not_false,if_true]
     unfold qMU
     try dsimp only [SL,SS,T,E,EL,vd,metA,metL,truK,gd0,gd1,Cst.d]
     refine ⟨⟨got,rfl⟩,?_⟩
     by_cases hc:got.take a.length=a
     · rw [if_pos hc,if_pos (by simp only [hc,decide_true])]
       try dsimp only [SL,SS,E,ldd,biK,biA,List.set,gd0,gd1]
       try simp only [SL,SS,E,qBY,biK,biA,or_false,qAX,List.set,List.getD_cons_zero,List.getD_cons_succ]
       refine ⟨by lia,by simp; lia,Or.inl ⟨trivial,by simp,?_⟩⟩
       refine qMA F LF w _ got r w.length a.length (hE.set (Nat.le_refl _) _) (Nat.le_refl _) ?_ (by intro h; subst h; simp at h2) (by exact Nat.le_trans ‹_› (by decide)) (by lia) (fun z hz=>by have:=hp z (List.mem_cons_of_mem _ hz); simp at this; (exact Nat.le_trans ‹_› (Nat.le_trans ‹_› (by decide)))) _ _ _
       rw [qBB (qAX _ _)]; rfl
     · rw [if_neg hc,if_neg (by simp only [hc,decide_false]; decide)]
       exact ⟨rfl,hE⟩
end
noncomputable def qOM:MSL:=(MSL.cons (MS.ret (ME.cst (Cst.bool false))) (MSL.nil))
noncomputable def qMN:MSL:=(MSL.cons (MS.unp [3,4] (ME.comp qHL [28] (ME.list (ML.cons (ME.var 3) (ML.cons (ME.var 4) (ML.nil)))))) (MSL.nil))
noncomputable def qNe:MSL:=(MSL.cons (MS.ret (ME.cst (Cst.bool false))) (MSL.nil))
noncomputable def qGS:MSL:=MSL.cons (MS.ret (ME.and2 (ME.cmp (COp.eq) (ME.var 25) (ME.var 19)) (ME.cmp (COp.eq) (ME.compIf qF1 [29] (ME.var 25) qCs) (ME.list (ML.nil))))) MSL.nil
noncomputable def qGt:MSL:=MSL.cons (MS.asg 19 (ME.bin (BOp.add) (ME.var 19) (ME.list (ML.cons (ME.var 15) (ML.cons (ME.or2 (ME.var 15) (ME.and2 (ME.cmp (COp.ne) (ME.idx (ME.idxV 4 (ME.cst (Cst.int 0))) (ME.cst (Cst.int 0))) (ME.cst (Cst.str [46]))) (ME.idxV 25 (ME.cst (Cst.int (-3)))))) (ML.cons (ME.cst (Cst.bool true)) (ML.cons (ME.cst (Cst.bool true)) (ML.nil)))))))) qGS
noncomputable def qGb:MSL:=MSL.cons (MS.asg 25 (ME.bin (BOp.add) (ME.comp qF6 [11] (ME.bin (BOp.add) (ME.var 23) (ME.var 22))) (ME.comp qFT [11] (ME.sl (ME.var 10) (ME.cst (Cst.int 1)) (ME.cst (Cst.none)))))) qGt
noncomputable def qG5:MSL:=MSL.cons (MS.ife (MC.or2 (MC.cmp (COp.ne) (ME.bin (BOp.add) (ME.var 21) (ME.var 23)) (ME.bin (BOp.add) (ME.list (ML.cons (ME.cst (Cst.str [67,67])) (ML.cons (ME.cst (Cst.str [67,67])) (ML.nil)))) (ME.var 18))) (MC.cmp (COp.ne) (ME.var 24) (ME.comp qEA [28] (ME.var 9)))) qNe (MSL.nil)) qGb
noncomputable def qGp:MSL:=MSL.cons (MS.asg 24 (ME.bin (BOp.add) (ME.list (ML.cons (ME.tok 20) (ML.nil))) (ME.var 22))) qG5
noncomputable def qHG:MSL:=MSL.cons (MS.asg 23 (ME.comp qBc [11] (ME.var 18))) qGp
noncomputable def qHA:MSL:=MSL.cons (MS.asg 22 (ME.comp qEC [31] (ME.sl (ME.var 12) (ME.cst (Cst.int 1)) (ME.cst (Cst.none))))) qHG
noncomputable def qGg:MSL:=MSL.cons (MS.forr [11] (ME.var 18) qCb) qHA
noncomputable def qGc:MSL:=MSL.cons (MS.asg 21 (ME.list (ML.cons (ME.tok 20) (ML.cons (ME.tok 20) (ML.nil))))) qGg
noncomputable def qHC:MSL:=MSL.cons (MS.newlex 20 (ME.bin (BOp.add) (ME.cst (Cst.str [34,92,67,67,34,67,67])) (ME.idxV 12 (ME.cst (Cst.int 0))))) qGc
noncomputable def qGo:MSL:=MSL.cons (MS.asg 19 (ME.bin (BOp.add) (ME.bin (BOp.add) (ME.bin (BOp.add) (ME.var 19) (ME.bin (BOp.mul) (ME.list (ML.cons (ME.cst (Cst.bool false)) (ML.nil))) (ME.var 16))) (ME.comp qCg [34] (ME.var 13))) (ME.list (ML.cons (ME.cst (Cst.bool true)) (ML.cons (ME.cmp (COp.eq) (ME.idxV 18 (ME.cst (Cst.int (-2)))) (ME.var 13)) (ML.cons (ME.or2 (ME.cmp (COp.ne) (ME.var 14) (ME.list (ML.nil))) (ME.cmp (COp.eq) (ME.var 13) (ME.cst (Cst.str [])))) (ML.nil))))))) qHC
noncomputable def qHI:MSL:=MSL.cons (MS.asg 18 (ME.bin (BOp.add) (ME.var 18) (ME.list (ML.cons (ME.var 13) (ML.cons (ME.met (Met.join) (ME.cst (Cst.str [])) (ML.cons (ME.rev (ME.bi (Bi.list) (ML.cons (ME.var 13) (ML.nil)))) (ML.nil))) (ML.cons (ME.bin (BOp.add) (ME.var 13) (ME.var 13)) (ML.nil))))))) qGo
noncomputable def qGm:MSL:=MSL.cons (MS.asg 18 (ME.bin (BOp.add) (ME.bin (BOp.add) (ME.var 18) (ME.comp qFq [30] (ME.bi (Bi.range1) (ML.cons (ME.var 16) (ML.nil))))) (ME.comp qF4 [30] (ME.bi (Bi.range1) (ML.cons (ME.var 16) (ML.nil)))))) qHI
noncomputable def qGR:MSL:=MSL.cons (MS.asg 19 (ME.comp qF8 [11] (ME.var 18))) qGm
noncomputable def qHF:MSL:=MSL.cons (MS.asg 18 (ME.comp qFc [30] (ME.bi (Bi.range1) (ML.cons (ME.bin (BOp.add) (ME.var 16) (ME.cst (Cst.int 1))) (ML.nil))))) qGR
noncomputable def qGn:MSL:=MSL.cons (MS.asgT [(16,false),(17,false)] (ML.cons (ME.lenV 13) (ML.cons (ME.bi (Bi.chr) (ML.cons (ME.bin (BOp.mod) (ME.bin (BOp.add) (ME.cst (Cst.int 33)) (ME.bi (Bi.sum) (ML.cons (ME.var 0) (ML.nil)))) (ME.cst (Cst.int 128))) (ML.nil))) (ML.nil)))) qHF
noncomputable def qGT:MSL:=MSL.cons (MS.unp [13,14,15] (ME.call { cps:=#[95,108,97,119,95,115,104,97,112,101] } (ML.cons (ME.call { cps:=#[95,108,97,119,95,108,101,102,116] } (ML.cons (ME.var 3) (ML.cons (ME.var 7) (ML.cons (ME.var 1) (ML.nil))))) (ML.nil)))) qGn
noncomputable def qJU:MSL:=MSL.cons (MS.asg 12 (ME.comp qDj [11] (ME.comp qGE [28] (ME.var 9)))) qGT
noncomputable def qIx:MSL:=MSL.cons (MS.asg 10 (ME.comp qDW [28] (ME.var 9))) qJU
noncomputable def qJz:MSL:=MSL.cons (MS.asg 9 (ME.bin (BOp.add) (ME.list (ML.cons (ME.var 3) (ML.nil))) (ME.comp qHm [35] (ME.list (ML.cons (ME.var 8) (ML.cons (ME.bin (BOp.add) (ME.bin (BOp.add) (ME.var 8) (ME.var 4)) (ME.var 8)) (ML.nil))))))) qIx
noncomputable def qKb:MSL:=MSL.cons (MS.asgT [(7,false),(8,false)] (ML.cons (ME.call { cps:=#[95,108,97,119,95,109,97,114,107,115] } (ML.cons (ME.var 3) (ML.nil))) (ML.cons (ME.list (ML.cons (ME.list (ML.cons (ME.cst (Cst.str [33])) (ML.cons (ME.cst (Cst.str [33])) (ML.nil)))) (ML.nil))) (ML.nil)))) qJz
noncomputable def qKe:MSL:=MSL.cons (MS.ife (MC.val (ME.var 2)) qMN (MSL.nil)) qKb
noncomputable def qHZ:MSL:=MSL.cons (MS.ife (MC.or2 (MC.cmp (COp.ne) (ME.var 6) (ME.comp qDP [27] (ME.var 3))) (MC.cmp (COp.ne) (ME.compIf qHo [29] (ME.var 6) qDT) (ME.list (ML.nil)))) qOM (MSL.nil)) qKe
noncomputable def qHn:MSL:=MSL.cons (MS.asg 6 (ME.comp qCt [27] (ME.var 3))) qHZ
noncomputable def qJV:MSL:=MSL.cons (MS.forr [5] (ME.ife (MC.cmp (COp.gt) (ME.lenV 0) (ME.cst (Cst.int 1))) (ME.sl (ME.var 0) (ME.cst (Cst.int 1)) (ME.cst (Cst.int 7))) (ME.list (ML.cons (ME.cst (Cst.int 4)) (ML.cons (ME.cst (Cst.int 0)) (ML.cons (ME.cst (Cst.int 10)) (ML.cons (ME.cst (Cst.int 1)) (ML.cons (ME.cst (Cst.int 2)) (ML.cons (ME.cst (Cst.int 0)) (ML.cons (ME.cst (Cst.int 16)) (ML.nil)))))))))) qBl) qHn
noncomputable def qJA:MSL:=MSL.cons (MS.asgT [(3,true),(4,false)] (ML.cons (ME.list (ML.nil)) (ML.cons (ME.call { cps:=#[95,108,97,119,95,100,114,97,119,110] } (ML.cons (ME.bi (Bi.sum) (ML.cons (ME.var 0) (ML.nil))) (ML.nil))) (ML.nil)))) qJV
theorem qOg:qM7=MSL.cons (MS.unp [1,2] (ME.comp qDU [26] (ME.list (ML.cons (ME.cst (Cst.int 1)) (ML.cons (ME.cst (Cst.int 2)) (ML.nil)))))) qJA:=rfl
noncomputable def qBn (ns:List Int):List It:=(ns.map qAa).flatten
section
variable (F:Str->List D->D->Prop) (LF:LexF)
theorem qIe (hF:∀ n,F "_law_drawn" [.int n] (itsD (qAa n))) (w₀:W) (s0 s1 s2 s4:Slot) (rest:Sg) (Q:Fl->Sg->W->Prop):∀ (ns:List Int) (s:List It) (w:W) (s3 s5:Slot),
 Ext w₀ w->(s3=.dat (itsD s)\/∃ k,w₀.length≤k/\s3=.loc k/\w[k]?=some (.lst (s.map itD)))->s.length+3*ns.length≤1000000 ->
 (∀ n,(qAa n).length≤3) ->
 (∀ w' s3' s5',Ext w₀ w'->(s3'=.dat (itsD (s++qBn ns))\/∃ k,w₀.length≤k/\s3'=.loc k/\w'[k]?=some (.lst ((s++qBn ns).map itD)))->Q .nxt (s0::s1::s2::s3'::s4::s5'::rest) w') ->
 qA2 (fun x σ w k=>qAJ [5] x σ fun σ=>SL F LF qBl σ w k) (ns.map .int) (s0::s1::s2::s3::s4::s5::rest) w Q:=by
 intro ns
 induction ns with
 | nil=>intro s w s3 s5 hE h3 hz hd q; exact q w s3 s5 hE (by simpa [qBn] using h3)
 | cons n ns ih =>
  intro s w s3 s5 hE h3 hz hd q
  show qA2 _ (D.int n::ns.map .int) _ _ _
  have h3n:=hd n
  simp only [List.length_cons] at hz
  have key:∀ w1,Ext w₀ w1->(∃ r,F { cps:=#[95,108,97,119,95,100,114,97,119,110] } [.int n] r /\
   (binA .add (itsD s) r (fun d=>qA2 (fun x σ w k=>qAJ [5] x σ fun σ=>SL F LF qBl σ w k) (ns.map .int) (s0::s1::s2::.dat d::s4::.dat (.int n)::rest) w1 Q)
    (fun xs=>qA2 (fun x σ w k=>qAJ [5] x σ fun σ=>SL F LF qBl σ w k) (ns.map .int) (s0::s1::s2::.dat (.list xs)::s4::.dat (.int n)::rest) w1 Q))):=by
   intro w1 hE1
   refine ⟨_,hF n,?_⟩
   unfold itsD
   try simp only [binA,← List.map_append]
   refine ⟨by simp only [List.length_map]; (exact ar57 ‹_› ‹_›),?_⟩
   refine ih (s++qAa n) w1 _ _ hE1 (Or.inl rfl) (by simp only [List.length_append]; (exact au15 ‹_› ‹_›)) hd ?_
   intro w' s3' s5' hE' h'
   have e:s++qAa n++qBn ns=s++qBn (n::ns):=by simp [qBn]
   rw [e] at h'
   exact q w' s3' s5' hE' h'
  try dsimp only [qA2,qAJ,List.set]
  conv=>unfold qBl
  try dsimp only [SL,SS,E,EL,vd,List.set,gd0,gd1]
  try simp only [SL,SS,E,EL,varK,List.set,List.getD_cons_zero,List.getD_cons_succ]
  rcases h3 with h3 | ⟨k,hk,h3,hw⟩
  · subst h3
    exact key w hE
  · subst h3
    simp only [hw]
    exact key _ (hE.set hk _)
end
theorem qDd (n:Int):1≤(qAa n).length/\(qAa n).length≤3:=by
 have a1:=Int.fmod_nonneg_of_pos (n.fdiv 6) (b:=2) (by decide)
 have a2:=Int.fmod_lt_of_pos (n.fdiv 6) (b:=2) (by decide)
 have a3:=Int.fmod_nonneg_of_pos ((n.fdiv 6).fdiv 27) (b:=3) (by decide)
 have a4:=Int.fmod_lt_of_pos ((n.fdiv 6).fdiv 27) (b:=3) (by decide)
 unfold qAa
 split
 · rw [List.length_replicate]; split; exact ⟨by decide,by decide⟩; exact ar23 a1 (Int.lt_trans a2 (by decide))
 · split
   · rw [List.length_replicate]; (exact ar23 ‹_› ‹_›)
   · split
     · simp
     · split <;> simp
noncomputable def qAb:List It:=[([46],[46]),([13255],[99,111,46]),([890],[32,953])]++noise.map (fun c=>([c],[]))++bases.map (fun b=>([b+2],[97+2]))++bases.map (fun b=>([b+14],[97+14])) ++
 ((List.range 128).filter (·≠33)).map fun c=>([c],[if 64<c/\c<91 then c+32 else c])
theorem qFQ (n:Int):∀ p∈qAa n,p∈qAb:=by
 intro p hp
 unfold qAb
 simp only [List.mem_append]
 unfold qAa at hp
 split at hp
 · rw [List.eq_of_mem_replicate hp]; exact Or.inl (Or.inl (Or.inl (Or.inl (by decide))))
 · split at hp
   · rw [List.eq_of_mem_replicate hp]
     have a1:=Int.fmod_nonneg_of_pos (n.fdiv 6) (b:=27) (by decide)
     have a2:=Int.fmod_lt_of_pos (n.fdiv 6) (b:=27) (by decide)
     have hj:((n.fdiv 6).fmod 27).toNat<noise.length:=by exact ar6 (m:=27) a2 (by decide)
     refine Or.inl (Or.inl (Or.inl (Or.inr (List.mem_map.mpr ⟨_,List.getElem_mem hj,?_⟩))))
     rw [List.getD_eq_getElem?_getD,List.getElem?_eq_getElem hj]; rfl
   · split at hp
     · refine Or.inl (Or.inl (Or.inl (Or.inl ?_)))
       rw [List.mem_singleton.mp hp]; split <;> simp
     · split at hp
       · have b1:=Int.fmod_nonneg_of_pos ((n.fdiv 6).fdiv 2) (b:=12) (by decide)
         have b2:=Int.fmod_lt_of_pos ((n.fdiv 6).fdiv 2) (b:=12) (by decide)
         have hj:(((n.fdiv 6).fdiv 2).fmod 12).toNat<bases.length:=by exact ar6 (m:=12) b2 (by decide)
         rw [List.mem_singleton.mp hp,List.getD_eq_getElem?_getD,List.getElem?_eq_getElem hj]
         split
         · exact Or.inl (Or.inr (List.mem_map.mpr ⟨_,List.getElem_mem hj,rfl⟩))
         · exact Or.inl (Or.inl (Or.inr (List.mem_map.mpr ⟨_,List.getElem_mem hj,rfl⟩)))
       · have a1:=Int.fmod_nonneg_of_pos (n.fdiv 6) (b:=127) (by decide)
         have a2:=Int.fmod_lt_of_pos (n.fdiv 6) (b:=127) (by decide)
         rw [List.mem_singleton.mp hp]
         refine Or.inr (List.mem_map.mpr ⟨_,List.mem_filter.mpr ⟨List.mem_range.mpr ?_,?_⟩,rfl⟩)
         · split
           · exact Nat.succ_lt_succ (ar6 (m:=127) a2 (by decide))
           · exact Nat.lt_succ_of_lt (ar6 (m:=127) a2 (by decide))
         · simp only [decide_eq_true_eq,ne_eq,decide_not,Bool.not_eq_eq_eq_not,Bool.not_true,decide_eq_false_iff_not]
           split
           · exact at5 ‹_›
           · exact at6 ‹_›
noncomputable def wsp (c:Nat):Bool:=c == 10 || c == 9 || c == 13 || c == 32
noncomputable def inQ:List Nat->List Nat->List Nat×List Nat
 | t,[]=>(t,[])
 | t,c::r=>if c=34 then (t,r) else if c=92 then (match r with | []=>(t,[]) | d::r'=>inQ (t++[d]) r') else inQ (t++[c]) r
noncomputable def inB:List Nat->List Nat->List Nat×List Nat
 | t,[]=>(t,[])
 | t,c::r=>if wsp c=true then (t,r) else if c=92 then (match r with | []=>(t,[]) | d::r'=>inB (t++[d]) r') else inB (t++[c]) r
noncomputable def qAQ:List Nat->List Nat×List Nat
 | []=>([],[])
 | c::r=>if wsp c=true then qAQ r else if c=34 then inQ [] r else if c=92 then (match r with | []=>([],[]) | d::r'=>inB [d] r') else inB [c] r
noncomputable def LFx:LexF:=⟨qAQ⟩
noncomputable def isB1 (c:Nat):Bool:=decide (c∈noise)
noncomputable def b3Of (c:Nat):List Nat:=if c<128 then [if 65≤c/\c≤90 then c+32 else c] else ((qAb.find? fun p=>p.1 == [c]).map (·.2)).getD []
noncomputable def okB3 (c:Nat):Prop:=c<128\/∃ p∈qAb,p.1=[c]/\p.2≠[]
inductive FF:Str->List D->D->Prop
 | ell (want got:List Nat):want.length≤15000000->got.length≤15000000->FF "_ellipsis_match" [.str want,.str got] (.bool (qAt want got))
 | tabB1 (c:Nat):c<1114112->FF "in_table_b1" [.str [c]] (.bool (isB1 c))
 | mapB3 (c:Nat):okB3 c->FF "map_table_b3" [.str [c]] (.str (b3Of c))
 | drawn (n:Int):FF "_law_drawn" [.int n] (itsD (qAa n))
 | prepared (t:List Nat):t.length≤16000000->(∀ c∈t,c<1114112)->(∀ c∈t,isB1 c=false->okB3 c)->(qBC isB1 b3Of t).flatten.length≤16000000->FF "_law_prepared" [.str t] (.str (qBC isB1 b3Of t).flatten)
 | written (l:List It) (g:Bool):l.length≤1000000->(∀ p∈l,p.1.length≤8)->FF "_law_written" [itsD l,.bool g] (.str (qAS g l))
 | marks (l:List It):l.length≤5000000->FF "_law_marks" [itsD l] (bsD (qDt l))
 | filled (l fl:List It) (ms:List Bool):ms.length=l.length->l.length*(fl.length+1)+fl.length≤1000000->FF "_law_filled" [itsD l,bsD ms,itsD fl] (itsD (qBz l ms fl))
 | left (l:List It) (ms:List Bool) (g:Bool):ms.length=l.length->l.length≤1000000->(∀ p∈l,p.2.length≤8)->FF "_law_left" [itsD l,bsD ms,.bool g] (.list ((qBi l ms g).map ltD))
 | shape (l:List Lt):(∀ p∈l,p.1.length≤1)->l.length≤1000000->FF "_law_shape" [.list (l.map ltD)] (.tup [.str (qAo l).joined,.list (qBx (qAo l).gaps),.bool (qAo l).keeps])
 | inB1 (c:Nat):c<1114112->FF "#b1" [.int c] (.bool (isB1 c))
 | getB3n (c:Nat):c<128->FF "#b3" [.int c] .none
 | getB3s (c:Nat):¬ c<128->okB3 c->FF "#b3" [.int c] (.str (b3Of c))
section
variable (sc:List Int)
noncomputable def qAA:Bool:=decide ((((sc++[0]).headD 0).fdiv 1).fmod 2=1)
noncomputable def qAy:Bool:=decide ((((sc++[0]).headD 0).fdiv 2).fmod 2=1)
noncomputable def qCj:List Int:=if sc.length>1 then (sc.take 7).drop 1 else [4,0,10,1,2,0,16]
noncomputable def qCL (p:It):It:=(p.1,p.1)
noncomputable def items0:List It:=qBn (qCj sc)
noncomputable def some0:List It:=qAa sc.sum
noncomputable def qAK:List It:=if qAy sc=true then (items0 sc).map qCL else items0 sc
noncomputable def qAz:List It:=if qAy sc=true then (some0 sc).map qCL else some0 sc
noncomputable def frIt:It:=([33],[33])
noncomputable def qBD:List Bool:=qDt (qAK sc)
noncomputable def row1:List It:=qBz (qAK sc) (qBD sc) [frIt]
noncomputable def row2:List It:=qBz (qAK sc) (qBD sc) ([frIt]++qAz sc++[frIt])
noncomputable def qAL (r:List It):List Nat:=(r.map (·.1)).flatten
noncomputable def qBh (r:List It):List Nat:=if qAy sc=true then qAS (qAA sc) r else (qBC isB1 b3Of (qAS (qAA sc) r)).flatten
noncomputable def qB9:Shape:=qAo (qBi (qAK sc) (qBD sc) (qAA sc))
noncomputable def qDl:Nat:=((33+sc.sum).fmod 128).toNat
noncomputable def qAe (r:List It):List Nat:=((qBi r (List.replicate r.length false) (qAA sc)).map (·.1)).flatten
end
noncomputable def qBP (j:List Nat) (o:Nat):List (List Nat):=(List.range (j.length+1)).map fun p=>j.take p++[o]++j.drop p
noncomputable def qEQ (j:List Nat):List (List Nat):=(List.range j.length).map fun p=>j.take p++j.drop (p+1)
noncomputable def qEM (j:List Nat) (o:Nat):List (List Nat):=(List.range j.length).map fun p=>j.take p++[o]++j.drop (p+1)
noncomputable def qBA (j:List Nat) (o:Nat):List (List Nat):=qBP j o++qEQ j++qEM j o++[j,j.reverse,j++j]
noncomputable def qCJ (j:List Nat) (gaps:List Nat) (t:List Nat):Bool:=decide (j∈gaps.map fun g=>t.take g++t.drop (g+1))
noncomputable def qJg (j:List Nat) (gaps:List Nat) (o:Nat):List Bool:=(qBP j o).map (qCJ j gaps)++List.replicate j.length false++j.map (fun c=>decide ([c]=[o])) ++
 [true,decide (j.reverse=j),decide (gaps≠[]) || decide (j=[])]
noncomputable def qAT (l:List (List Nat)):D:=.list (l.map .str)
theorem gset {σ:Sg} {k:Nat} (hk:k<σ.length) (j:Nat) (v:Slot):(σ.set k v).getD j .unb=if j=k then v else σ.getD j .unb:=by
 rw [List.getD_eq_getElem?_getD,List.getD_eq_getElem?_getD,List.getElem?_set]
 by_cases h:j=k
 · subst h; simp [hk]
 · rw [if_neg (Ne.symm h),if_neg h]
theorem gne {σ:Sg} {k i:Nat} {v x:Slot} (h:i≠k) (e:σ.getD i .unb=x):(σ.set k v).getD i .unb=x:=by
 rw [List.getD_eq_getElem?_getD,List.getElem?_set_ne (Ne.symm h),← List.getD_eq_getElem?_getD]; exact e
theorem nek {l:List Nat} {i k:Nat} (h:k ∉ l) (m:i∈l):i≠k:=fun e=>h (e ▸ m)
theorem lek {i n k:Nat} (h:n≤k) (d:i<n):i≠k:=Nat.ne_of_lt (Nat.lt_of_lt_of_le d h)
theorem gse {σ:Sg} {k n:Nat} {v:Slot} (hl:σ.length=n) (h:k<n):(σ.set k v).getD k .unb=v:=by
 rw [List.getD_eq_getElem?_getD,List.getElem?_set_self (hl ▸ h)]; rfl
theorem qB5 {α:Type} (step:D->W->(Option D->W->Prop)->Prop) (f g:α->D) (w:W):∀ (xs:List α) (K:List D->W->Prop),
 (∀ x∈xs,∀ k:Option D->W->Prop,k (some (g x)) w->step (f x) w k)->K (xs.map g) w->qBL step (xs.map f) w K:=by
 intro xs
 induction xs with
 | nil=>intro K h q; exact q
 | cons x xs ih =>
  intro K h q
  simp only [List.map_cons,qBL]
  refine h x List.mem_cons_self _ ?_
  exact ih _ (fun y hy=>h y (List.mem_cons_of_mem _ hy)) q
section
variable {F:Str->List D->D->Prop} {LF:LexF} {σ:Sg} {w:W}
noncomputable def Ew (F:Str->List D->D->Prop) (LF:LexF) (σ:Sg) (w:W) (e:ME) (d:D):Prop:=∀ Q:D->W->Prop,Q d w->E F LF e σ w Q
noncomputable def EwL (F:Str->List D->D->Prop) (LF:LexF) (σ:Sg) (w:W) (e:ML) (d:List D):Prop:=∀ Q:List D->W->Prop,Q d w->EL F LF e σ w Q
noncomputable def EwT (F:Str->List D->D->Prop) (LF:LexF) (σ:Sg) (w:W) (e:MC) (t:Bool):Prop:=∀ Q:Bool->W->Prop,Q t w->T F LF e σ w Q
theorem ewC {c:Cst}:Ew F LF σ w (.cst c) c.d:=fun Q q=>q
theorem ewR {e:ME} {d:D} {Q:D->W->Prop} (h:Ew F LF σ w e d) (q:Q d w):E F LF e σ w Q:=h _ q
theorem ewV {k:Nat} {d:D} (h:σ.getD k .unb=.dat d):Ew F LF σ w (.var k) d:=fun Q q=>by rw [xE2,h]; exact q
theorem ewN:EwL F LF σ w .nil []:=fun Q q=>q
theorem ewS {e:ME} {es:ML} {d:D} {ds:List D} (h:Ew F LF σ w e d) (hs:EwL F LF σ w es ds):EwL F LF σ w (.cons e es) (d::ds):=fun Q q=>by rw [xEL2]; exact h _ (hs _ q)
theorem qD7 {es:ML} {ds:List D} (h:EwL F LF σ w es ds) (hl:ds.length≤16777216):Ew F LF σ w (.list es) (.list ds):=fun Q q=>by rw [xE9]; exact h _ ⟨hl,q⟩
theorem qCn {l r:ME} {x y:List D} (ha:Ew F LF σ w l (.list x)) (hb:Ew F LF σ w r (.list y)) (hl:x.length+y.length≤16777216):Ew F LF σ w (.bin .add l r) (.list (x++y)):=fun Q q=>by rw [xE4]; exact ha _ (hb _ ⟨hl,q⟩)
theorem qDf {l r:ME} {x y:List Nat} (ha:Ew F LF σ w l (.str x)) (hb:Ew F LF σ w r (.str y)) (hl:x.length+y.length≤16777216):Ew F LF σ w (.bin .add l r) (.str (x++y)):=fun Q q=>by rw [xE4]; exact ha _ (hb _ ⟨hl,q⟩)
theorem qHl {l r:ME} {x y:Int} (ha:Ew F LF σ w l (.int x)) (hb:Ew F LF σ w r (.int y)):Ew F LF σ w (.bin .add l r) (.int (x+y)):=fun Q q=>by rw [xE4]; exact ha _ (hb _ q)
theorem qPa {l r:ME} {x y:Int} (ha:Ew F LF σ w l (.int x)) (hb:Ew F LF σ w r (.int y)) (h:y≠0):Ew F LF σ w (.bin .mod l r) (.int (x.fmod y)):=fun Q q=>by rw [xE4]; exact ha _ (hb _ ⟨h,q⟩)
theorem qOL {l r:ME} {x:List D} {n:Int} (ha:Ew F LF σ w l (.list x)) (hb:Ew F LF σ w r (.int n)) (h1:-(2 ^ 63:Int)≤n) (h2:n<2 ^ 63) (h3:x.length*n.toNat≤16777216):Ew F LF σ w (.bin .mul l r) (.list (List.replicate n.toNat x).flatten):=fun Q q=>by rw [xE4]; exact ha _ (hb _ ⟨h1,h2,h3,q⟩)
theorem qIX {o:COp} {a b:ME} {x y:D} {t:Bool} (ha:Ew F LF σ w a x) (hb:Ew F LF σ w b y) (h:∀ K:Bool->Prop,K t->cmpK o x y K):Ew F LF σ w (.cmp o a b) (.bool t):=fun Q q=>by rw [xE5]; exact ha _ (hb _ (h _ q))
theorem ewTc {o:COp} {a b:ME} {x y:D} {t:Bool} (ha:Ew F LF σ w a x) (hb:Ew F LF σ w b y) (h:∀ K:Bool->Prop,K t->cmpK o x y K):EwT F LF σ w (.cmp o a b) t:=fun Q q=>by rw [xT2]; exact ha _ (hb _ (h _ q))
theorem ewOr {a b:ME} {x y:Bool} (ha:Ew F LF σ w a (.bool x)) (hb:x=false->Ew F LF σ w b (.bool y)):Ew F LF σ w (.or2 a b) (.bool (x || y)):=fun Q q=>by
 rw [xE7]
 refine ha _ ?_
 cases x with
 | false=>exact hb rfl _ q
 | true=>exact q
theorem qO6 {a b:ME} {x y:Bool} (ha:Ew F LF σ w a (.bool x)) (hb:x=true->Ew F LF σ w b (.bool y)):Ew F LF σ w (.and2 a b) (.bool (x && y)):=fun Q q=>by
 rw [xE6]
 refine ha _ ?_
 cases x with
 | true=>exact hb rfl _ q
 | false=>exact q
theorem qOl {a b:MC} {x y:Bool} (ha:EwT F LF σ w a x) (hb:x=false->EwT F LF σ w b y):EwT F LF σ w (.or2 a b) (x || y):=fun Q q=>by
 rw [xT6]
 refine ha _ ?_
 cases x with
 | false=>exact hb rfl _ q
 | true=>exact q
theorem qDK {k:Nat} {i:ME} {a b d:D} (h:σ.getD k .unb=.dat a) (hi:Ew F LF σ w i b) (hx:∀ K:D->Prop,K d->idxK a b K):Ew F LF σ w (.idxV k i) d:=fun Q q=>by rw [xE19,h]; exact hi _ ⟨rfl,hx _ q⟩
theorem qPL {e i:ME} {a b d:D} (h:Ew F LF σ w e a) (hi:Ew F LF σ w i b) (hx:∀ K:D->Prop,K d->idxK a b K):Ew F LF σ w (.idx e i) d:=fun Q q=>by rw [xE11]; exact h _ (hi _ (hx _ q))
theorem ewSl {e lo hi:ME} {a l h:D} {xs:List D} (ha:Ew F LF σ w e a) (hl:Ew F LF σ w lo l) (hh:Ew F LF σ w hi h) (hs:∀ (K:D->Prop) (L:List D->Prop),L xs->slA a l h K L):Ew F LF σ w (.sl e lo hi) (.list xs):=fun Q q=>by rw [xE12]; exact ha _ (hl _ (hh _ (hs _ _ q)))
theorem qNm {elt it:ME} {ts:List Nat} {d:D} {xs:List D} {g:D->D} (hit:Ew F LF σ w it d) (hi:∀ K:List D->Prop,K xs->qAm d K) (h:∀ x∈xs,∀ k:D->W->Prop,k (g x) w->qAJ ts x σ fun σ=>E F LF elt σ w k):Ew F LF σ w (.comp elt ts it) (.list (xs.map g)):=fun Q q=>by
 rw [xE14]
 exact hit _ (hi _ (qEe _ g w xs _ (fun x hx k hk=>h x hx _ hk) q))
theorem qNa {m:Met} {e:ME} {es:ML} {s:List Nat} {ds:List D} {d:D} (ha:Ew F LF σ w e (.str s)) (hes:EwL F LF σ w es ds) (h:∀ (K:D->Prop) (L:List D->Prop),K d->metA m (.str s) ds K L):Ew F LF σ w (.met m e es) d:=fun Q q=>by rw [xE18]; exact ha _ ⟨⟨_,rfl⟩,hes _ (h _ _ q)⟩
theorem ewBi {b:Bi} {es:ML} {ds xs:List D} (hes:EwL F LF σ w es ds) (h:∀ (K:D->Prop) (L:List D->Prop),L xs->biA b ds K L):Ew F LF σ w (.bi b es) (.list xs):=fun Q q=>by rw [xE17]; exact hes _ (h _ _ q)
theorem qO1 {e:ME} {xs:List D} (ha:Ew F LF σ w e (.list xs)) (hl:xs.length≤16777216):Ew F LF σ w (.rev e) (.list xs.reverse):=fun Q q=>by rw [xE13]; exact ha _ ⟨hl,q⟩
theorem qFW {e lo hi:ME} {a l h d:D} (ha:Ew F LF σ w e a) (hl:Ew F LF σ w lo l) (hh:Ew F LF σ w hi h) (hs:∀ (K:D->Prop) (L:List D->Prop),K d->slA a l h K L):Ew F LF σ w (.sl e lo hi) d:=fun Q q=>by rw [xE12]; exact ha _ (hl _ (hh _ (hs _ _ q)))
theorem qMZ {b:Bi} {es:ML} {ds:List D} {d:D} (hes:EwL F LF σ w es ds) (h:∀ (K:D->Prop) (L:List D->Prop),K d->biA b ds K L):Ew F LF σ w (.bi b es) d:=fun Q q=>by rw [xE17]; exact hes _ (h _ _ q)
theorem qDL {f:Str} {es:ML} {ds:List D} {r:D} (hes:EwL F LF σ w es ds) (h:F f ds r):Ew F LF σ w (.call f es) r:=fun Q q=>by rw [xE16]; exact hes _ ⟨r,h,q⟩
theorem qJk {α:Type} {elt it:ME} {ts:List Nat} {d:D} (f g:α->D) {xs:List α} (hit:Ew F LF σ w it d) (hi:∀ K:List D->Prop,K (xs.map f)->qAm d K) (h:∀ x∈xs,∀ k:D->W->Prop,k (g x) w->qAJ ts (f x) σ fun σ=>E F LF elt σ w k):Ew F LF σ w (.comp elt ts it) (.list (xs.map g)):=fun Q q=>by
 rw [xE14]
 exact hit _ (hi _ (qB5 _ f g w xs _ (fun x hx k hk=>h x hx _ hk) q))
theorem qAs {α:Type} {elt it:ME} {t:Nat} {d:D} (f g:α->D) {xs:List α} (hit:Ew F LF σ w it d) (hi:∀ K:List D->Prop,K (xs.map f)->qAm d K) (h:∀ x∈xs,Ew F LF (σ.set t (.dat (f x))) w elt (g x)):Ew F LF σ w (.comp elt [t] it) (.list (xs.map g)):=qJk f g hit hi fun x hx k q=>h x hx _ q
theorem qOB {k:Nat} {xs:List D} (h:σ.getD k .unb=.dat (.list xs)) (hl:xs.length≤16777216):Ew F LF σ w (.lenV k) (.int xs.length):=fun Q q=>by rw [xE20,h]; exact ⟨hl,q⟩
theorem ewTv {e:ME} {b:Bool} (h:Ew F LF σ w e (.bool b)):EwT F LF σ w (.val e) b:=fun Q q=>by rw [xT1]; exact h _ q
theorem ewIf {c:MC} {a b:ME} {t:Bool} {d:D} (hc:EwT F LF σ w c t) (h:Ew F LF σ w (if t=true then a else b) d):Ew F LF σ w (.ife c a b) d:=fun Q q=>by
 rw [xE8]
 refine hc _ ?_
 cases t <;> exact h _ q
theorem ifeT {c:MC} {t a r:MSL} {Q:Fl->Sg->W->Prop} (h:EwT F LF σ w c true) (q:SL F LF t σ w fun f σ w=>match f with | .nxt=>SL F LF r σ w Q | f=>Q f σ w):SL F LF (.cons (.ife c t a) r) σ w Q:=by
 rw [xSL2,xSS8]; exact h _ q
theorem unp_ {ks:List Nat} {e:ME} {r:MSL} {d:D} {Q:Fl->Sg->W->Prop} (h:Ew F LF σ w e d) (q:qAJ ks d σ fun σ=>SL F LF r σ w Q):SL F LF (.cons (.unp ks e) r) σ w Q:=by
 rw [xSL2,xSS5]; exact h _ q
theorem ifeF {c:MC} {t r:MSL} {Q:Fl->Sg->W->Prop} (h:EwT F LF σ w c false) (q:SL F LF r σ w Q):SL F LF (.cons (.ife c t .nil) r) σ w Q:=by
 rw [xSL2,xSS8]; exact h _ q
theorem asg_ {k:Nat} {e:ME} {r:MSL} {d:D} {Q:Fl->Sg->W->Prop} (h:Ew F LF σ w e d) (q:SL F LF r (σ.set k (.dat d)) w Q):SL F LF (.cons (.asg k e) r) σ w Q:=by
 rw [xSL2,xSS2]; exact h _ q
end
theorem qIt {w₀ w:W} {σ:Sg} (hl:σ.length=36) (hE:Ext w₀ w) (told:List Bool) (h25:σ.getD 25 .unb=.dat (bsD told)) (h19:σ.getD 19 .unb=.dat (bsD told)) (hn:told.length≤1000000) :
 SL FF LFx qGS σ w (FnRes (.bool true) w₀):=by
 unfold qGS
 try dsimp only [SL,SS,E,EL,vd,bsD,cmpK]
 try simp only [SL,SS,E,EL,varK,h25,h19,bsD,cmpK]
 refine ⟨_,.bs told told,?_⟩
 try simp only [decide_true,truK,if_true,qAm,List.length_map]
 refine ⟨by exact Nat.le_trans ‹_› (by decide),qD0 _ (fun _=>none) w _ _ ?_ ?_⟩
 · intro x hx k q
   refine x12 (List.mem_map.mp hx) fun b _ eq2=>?_
   subst eq2
   try dsimp only [qAJ,qCs,T,E,vd,truK]
   try simp only [qAJ,qCs,T,E,varK,gset (σ:=σ) (k:=29) (by (refine Mine.rwx (‹List.length _=_›) ?_; decide)),if_true,truK,Bool.not_true,Bool.false_eq_true,if_false]
   exact q
 · have e:((told.map D.bool).filterMap fun _=>(none:Option D))=([]:List Bool).map D.bool:=by simp
   rw [e]
   exact ⟨by decide,_,.bs [] [],rfl,hE⟩
theorem qIK {w₀ w:W} {σ:Sg} (hl:σ.length=36) (hE:Ext w₀ w) (told due:List Bool) (keeps:Bool) (p:It) (rest:List It) (z1 z2 z3 z4:Bool) (init:List Bool) (hT:told=init++[z1,z2,z3,z4])
 (h25:σ.getD 25 .unb=.dat (bsD told)) (h19:σ.getD 19 .unb=.dat (bsD due)) (h15:σ.getD 15 .unb=.dat (.bool keeps)) (h4:σ.getD 4 .unb=.dat (itsD (p::rest)))
 (heq:told=due++[keeps,keeps || (decide (p.1≠[46]) && z2),true,true]) (hn:told.length≤1000000) :
 SL FF LFx qGt σ w (FnRes (.bool true) w₀):=by
 have ez:qBE (told.map D.bool) (-3)=some (.bool z2):=by
  delta qBE
  rw [if_neg (by decide),hT,if_pos (by simp; lia)]
  have e:((((init++[z1,z2,z3,z4]).map D.bool).length:Int) + -3).toNat=init.length+1:=by simp; (exact ar51)
  rw [e,List.map_append,List.getElem?_append_right (by simp)]
  simp
 have hdl:due.length+4=told.length:=by rw [heq,List.length_append]; rfl
 delta qGt
 refine asg_ (qCn (ewV h19) (qD7 (ewS (ewV h15) (ewS (ewOr (ewV h15) fun _=>qO6 (qIX (qPL (qDK h4 ewC fun K k=>⟨by decide,by decide,itD p,rfl,k⟩) ewC fun K k=>⟨by decide,by decide,.str p.1,rfl,k⟩) ewC fun K k=>k) fun _=>qDK h25 ewC fun K k=>⟨by decide,by decide,_,ez,k⟩) (ewS ewC (ewS ewC ewN)))) (Nat.le_add_left _ _)) (by rw [List.length_map]; exact au41 hdl hn)) ?_
 refine qIt (by rw [List.length_set]; exact hl) hE told (gne (by decide) h25) ?_ hn
 rw [gse hl (by decide),heq]
 unfold bsD
 rw [List.map_append]
 rfl
theorem qIZ {w₀ w:W} {σ:Sg} (hl:σ.length=36) (hE:Ext w₀ w) (heard late:List (List Nat)) (r0:List Nat) (rr:List (List Nat)) (y0:List Nat) (yy:List (List Nat)) (due:List Bool) (keeps:Bool) (p:It) (rest:List It) (z1 z2 z3 z4:Bool) (init:List Bool)
 (h23:σ.getD 23 .unb=.dat (qAT heard)) (h22:σ.getD 22 .unb=.dat (qAT late)) (h24:σ.getD 24 .unb=.dat (qAT (r0::rr))) (h10:σ.getD 10 .unb=.dat (qAT (y0::yy)))
 (h19:σ.getD 19 .unb=.dat (bsD due)) (h15:σ.getD 15 .unb=.dat (.bool keeps)) (h4:σ.getD 4 .unb=.dat (itsD (p::rest)))
 (hT:(heard++late).map (qAt r0)++yy.map (qAt y0)=init++[z1,z2,z3,z4]) (heq:(heard++late).map (qAt r0)++yy.map (qAt y0)=due++[keeps,keeps || (decide (p.1≠[46]) && z2),true,true])
 (hn:heard.length+late.length+yy.length≤1000000) (b1:∀ t∈heard++late,t.length≤15000000) (b2:r0.length≤15000000) (b3:∀ t∈yy,t.length≤15000000) (b4:y0.length≤15000000) :
 SL FF LFx qGb σ w (FnRes (.bool true) w₀):=by
 have hh:heard.length+late.length≤1000000:=Nat.le_trans (Nat.le_add_right _ _) hn
 have hy:yy.length≤1000000:=Nat.le_trans (Nat.le_add_left _ _) hn
 have ec:cut (D.str y0::yy.map D.str) (if (1:Int)<0 then (((D.str y0::yy.map D.str).length:Int)+1).toNat else min (1:Int).toNat (D.str y0::yy.map D.str).length) (D.str y0::yy.map D.str).length=yy.map D.str:=by
  rw [if_neg (by decide),show min (1:Int).toNat (D.str y0::yy.map D.str).length=1 from by simp]
  unfold cut
  rw [List.take_length]; rfl
 delta qGb
 refine asg_ (qCn (qAs D.str (fun t=>.bool (qAt r0 t)) (xs:=heard++late) (qCn (ewV h23) (ewV h22) ?_) (fun K k=>⟨?_,by rw [← List.map_append]; exact k⟩) fun t ht=>qDL (ewS (qDK (gne (by decide) h24) ewC fun K k=>⟨by decide,by decide,.str r0,rfl,k⟩) (ewS (ewV (gse hl (by decide))) ewN)) (.ell r0 t b2 (b1 t ht)))
  (qAs D.str (fun t=>.bool (qAt y0 t)) (xs:=yy) (ewSl (xs:=yy.map D.str) (ewV h10) ewC ewC fun K L k=>⟨?_,⟨by decide,by decide⟩,trivial,_,_,rfl,rfl,?_⟩) (fun K k=>⟨?_,k⟩) fun t ht=>qDL (ewS (qDK (gne (by decide) h10) ewC fun K k=>⟨by decide,by decide,.str y0,rfl,k⟩) (ewS (ewV (gse hl (by decide))) ewN)) (.ell y0 t b4 (b3 t ht))) ?_) ?_
 · rw [List.length_map,List.length_map]; exact Nat.le_trans hh (by decide)
 · rw [List.length_append,List.length_map,List.length_map]; exact Nat.le_trans hh (by decide)
 · rw [List.length_map]; exact Nat.le_trans (Nat.succ_le_succ hy) (by decide)
 · exact (congrArg L ec).mpr k
 · rw [List.length_map]; exact Nat.le_trans hy (by decide)
 · rw [List.length_map,List.length_map,List.length_append]; exact Nat.le_trans hn (by decide)
 · refine qIK (by rw [List.length_set]; exact hl) hE _ due keeps p rest z1 z2 z3 z4 init hT ?_ (gne (by decide) h19) (gne (by decide) h15) (gne (by decide) h4) heq ?_
   · have e:∀ (r:List Nat) (l:List (List Nat)),l.map (fun t=>D.bool (qAt r t))=(l.map (qAt r)).map D.bool:=fun r l=>by rw [List.map_map]; rfl
     rw [gse hl (by decide),e,e,← List.map_append]; rfl
   · rw [List.length_append,List.length_map,List.length_map,List.length_append]; exact hn
theorem Ext.get {w₀ w:W} (h:Ext w₀ w) {k:Nat} {x:OO} (e:w₀[k]?=some x):w[k]?=some x:=by
 obtain ⟨ext,rfl⟩:=h
 rw [List.getElem?_append_left (List.getElem?_eq_some_iff.mp e).1]; exact e
theorem qEV (n:Nat):(List.replicate n [D.bool false]).flatten=(List.replicate n false).map .bool:=by
 induction n with
 | zero=>rfl
 | succ n ih=>rw [List.replicate_succ,List.flatten_cons,ih,List.replicate_succ]; rfl
noncomputable abbrev itD0:List It->D:=itsD
structure RowOk (sc:List Int) (r:List It):Prop where
 len:r.length≤100000
 fold:∀ p∈r,p.2.length≤8
 left:(qBi r (List.replicate r.length false) (qAA sc)).length≤10000000
 read:(qAe sc r).length≤10000000
structure Hand (sc:List Int) (σ:Sg) (rows:List (List It)) (asked late:List (List Nat)) (due:List Bool) (keeps:Bool) (p:It) (rest:List It) (y0:List Nat) (yy:List (List Nat)):Prop where
 hl:σ.length=36
 h1:σ.getD 1 .unb=.dat (.bool (qAA sc))
 h4:σ.getD 4 .unb=.dat (itsD (p::rest))
 h9:σ.getD 9 .unb=.dat (.list (rows.map itsD))
 h10:σ.getD 10 .unb=.dat (qAT (y0::yy))
 h15:σ.getD 15 .unb=.dat (.bool keeps)
 h18:σ.getD 18 .unb=.dat (qAT asked)
 h19:σ.getD 19 .unb=.dat (bsD due)
theorem Hand.set {sc σ rows asked late due keeps p rest y0 yy} (H:Hand sc σ rows asked late due keeps p rest y0 yy) (k:Nat) (v:Slot) (h:k ∉ [1,4,9,10,15,18,19]) (hk:k<36):Hand sc (σ.set k v) rows asked late due keeps p rest y0 yy :=
 ⟨by rw [List.length_set]; exact H.hl,gne (nek h (by decide)) H.h1,gne (nek h (by decide)) H.h4,gne (nek h (by decide)) H.h9,gne (nek h (by decide)) H.h10,gne (nek h (by decide)) H.h15,gne (nek h (by decide)) H.h18,gne (nek h (by decide)) H.h19⟩
structure Facts (sc:List Int) (rows:List (List It)) (asked late:List (List Nat)) (due:List Bool) (keeps:Bool) (p:It) (rest:List It) (y0:List Nat) (yy:List (List Nat)) (r0:List Nat):Prop where
 rws:∀ r∈rows,RowOk sc r
 few:rows.length≤100
 read:r0::late=rows.map (qAe sc)
 told:∃ init z1 z2 z3 z4,(asked++late).map (qAt r0)++yy.map (qAt y0)=init++[z1,z2,z3,z4]/\(asked++late).map (qAt r0)++yy.map (qAt y0)=due++[keeps,keeps || (decide (p.1≠[46]) && z2),true,true]
 n:asked.length+late.length+yy.length≤900000
 b1:∀ t∈asked++late,t.length≤15000000
 b2:r0.length≤15000000
 b3:∀ t∈yy,t.length≤15000000
 b4:y0.length≤15000000
section
variable {sc:List Int} {w₀ w:W} {σ:Sg} {rows:List (List It)} {asked late:List (List Nat)} {due:List Bool} {keeps:Bool} {p:It} {rest:List It} {y0:List Nat} {yy:List (List Nat)} {r0:List Nat}
theorem qIF (H:Hand sc σ rows asked late due keeps p rest y0 yy) (P:Facts sc rows asked late due keeps p rest y0 yy r0) (hE:Ext w₀ w)
 (h21:σ.getD 21 .unb=.dat (qAT [[67,67],[67,67]])) (h22:σ.getD 22 .unb=.dat (qAT late)) (h23:σ.getD 23 .unb=.dat (qAT asked)) (h24:σ.getD 24 .unb=.dat (qAT (r0::late))) :
 SL FF LFx qG5 σ w (FnRes (.bool true) w₀):=by
 have hl:=H.hl
 have hn:=P.n
 have e1:[D.str [67,67],D.str [67,67]]=[[67,67],[67,67]].map D.str:=rfl
 have ha:(asked.map D.str).length+2≤16777216:=by rw [List.length_map]; lia
 delta qG5
 refine ifeF (qOl (x:=false) (y:=false) (ewTc (qCn (ewV h21) (ewV h23) (Nat.add_comm _ 2 ▸ ha)) (qCn (qD7 (ewS ewC (ewS ewC ewN)) (Nat.le_add_left _ _)) (ewV H.h18) (Nat.add_comm _ 2 ▸ ha)) fun K k=>⟨true,?_,k⟩) fun _=>ewTc (ewV h24) (qAs itsD (fun r=>D.str (qAe sc r)) (xs:=rows) (ewV H.h9) (fun K k=>⟨by rw [List.length_map]; exact Nat.le_trans P.few (by decide),k⟩) fun r hr=>?_) fun K k=>⟨true,?_,k⟩) ?_
 · have h:=FlatEq.ss ([[67,67],[67,67]]++asked) ([[67,67],[67,67]]++asked)
   rw [decide_eq_true rfl,List.map_append] at h
   exact h
 · have R:=P.rws r hr
   have hr1:=R.len
   have v28:(σ.set 28 (.dat (itsD r))).getD 28 .unb=.dat (itsD r):=gse hl (by decide)
   have hl2:(r.map itD).length≤16777216:=by rw [List.length_map]; exact Nat.le_trans hr1 (by decide)
   have M:=qOL (F:=FF) (LF:=LFx) (w:=w) (qD7 (ewS (ewC (c:=.bool false)) ewN) (by exact Nat.le_add_left _ _)) (qOB v28 hl2) (Int.le_trans (by decide) (Int.natCast_nonneg _)) (as31 hl2 (by decide)) (by rw [Int.toNat_natCast]; exact (Nat.one_mul _).symm ▸ hl2)
   rw [Int.toNat_natCast,List.length_map,show ([Cst.d (.bool false)]:List D)=[D.bool false] from rfl,qEV] at M
   delta qEA
   refine qNa ewC (ewS (qJk ltD (fun x=>D.str x.1) (qDL (ewS (ewV v28) (ewS M (ewS (ewV (gne (by decide) H.h1)) ewN))) (.left r (List.replicate r.length false) (qAA sc) (by simp) (Nat.le_trans hr1 (by decide)) R.fold)) (fun K k=>⟨?_,k⟩) fun x hx k q=>⟨rfl,Nat.le_add_left _ _,?_⟩) ewN) fun K L k=>⟨(qBi r (List.replicate r.length false) (qAA sc)).map (Prod.fst (α:=List Nat) (β:=Bool)),by rw [List.map_map]; rfl,?_,?_,k⟩
   · rw [List.length_map]; exact Nat.le_trans R.left (by decide)
   · exact ewR (ewV (gne (by decide) (gse (n:=36) (by rw [List.length_set]; exact hl) (by decide)))) q
   · exact Nat.le_trans R.read (by decide)
   · rw [List.length_map]; exact Nat.le_trans R.left (by decide)
 · have e2:rows.map (fun r=>D.str (qAe sc r))=(r0::late).map D.str:=by rw [P.read,List.map_map]; rfl
   have h:=FlatEq.ss (r0::late) (r0::late)
   rw [decide_eq_true rfl] at h
   rw [e2]; exact h
 · refine x52 P.told fun init z1 z2 z3 z4 hT heq=>?_
   exact qIZ hl hE asked late r0 late y0 yy due keeps p rest z1 z2 z3 z4 init h23 h22 h24 H.h10 H.h19 H.h15 H.h4 hT heq (by exact Nat.le_trans ‹_› (by decide)) P.b1 P.b2 P.b3 P.b4
end
section
variable {sc:List Int} {w₀ w:W} {σ:Sg} {rows:List (List It)} {asked late:List (List Nat)} {due:List Bool} {keeps:Bool} {p:It} {rest:List It} {y0:List Nat} {yy:List (List Nat)} {r0:List Nat}
theorem qIr (H:Hand sc σ rows asked late due keeps p rest y0 yy) (P:Facts sc rows asked late due keeps p rest y0 yy r0) (hE:Ext w₀ w) {k:Nat} {sg:List Nat} (hk:w₀.length≤k) (hw:w[k]?=some (.lex [] sg)) (h20:σ.getD 20 .unb=.loc k) (hs:sg.length≤16000000) (hr:(qAQ sg).1=r0)
 (h21:σ.getD 21 .unb=.dat (qAT [[67,67],[67,67]])) (h22:σ.getD 22 .unb=.dat (qAT late)) (h23:σ.getD 23 .unb=.dat (qAT asked)) :
 SL FF LFx qGp σ w (FnRes (.bool true) w₀):=by
 have hl:=H.hl
 have hn:=P.n
 unfold qGp
 try simp only [SL,SS,T,E,EL,tokK,h20,hw]
 refine ⟨by exact Nat.le_trans ‹_› (by decide),by simp,?_⟩
 try simp only [varK,h22,qAT,binA,binL,false_or,List.length_map,List.length_cons,List.length_nil]
 refine ⟨by exact as63 ‹_› (by decide),?_⟩
 have e:([D.str (LFx.tok sg).1]++late.map D.str)=(r0::late).map D.str:=by
  show D.str (qAQ sg).1::late.map D.str=_
  rw [hr]; rfl
 rw [e]
 refine qIF (H.set 24 _ (by decide) (by decide)) P (hE.set hk _) ?_ ?_ ?_ ?_
 · exact gne (by decide) h21
 · exact gne (by decide) h22
 · exact gne (by decide) h23
 · rw [gse ‹List.length _=_› (by decide)]; rfl
theorem hear {k:Nat} {sg:List Nat} (h20:σ.getD 20 .unb=.loc k) (hl:σ.length=36):∀ (pb:List (List Nat)) (w:W) (K:List D->W->Prop),Ext w₀ w->w₀.length≤k->w[k]?=some (.lex pb sg) ->
 (∀ w',Ext w₀ w'->w'[k]?=some (.lex [] sg)->K (pb.map D.str) w')->qBL (fun x w k=>qAJ [11] x σ fun σ=>E FF LFx qBc σ w fun d w=>k (some d) w) (pb.map D.str) w K:=by
 intro pb
 induction pb with
 | nil=>intro w K hE hk hw q; exact q w hE hw
 | cons t pb ih =>
  intro w K hE hk hw q
  have step:∀ kk:Option D->W->Prop,kk (some (.str t)) (w.set k (.lex pb sg))->(qAJ [11] (.str t) σ fun σ=>E FF LFx qBc σ w fun d w=>kk (some d) w):=by
   intro kk h
   try simp only [qAJ,qBc,E,gset (σ:=σ) (k:=11) (by (refine Mine.rwx (‹List.length _=_›) ?_; decide)),Nat.reduceEqDiff,if_false,h20,tokK,hw]
   exact h
  rw [List.map_cons,qBL]
  refine step (fun r w1=>qBL (fun x w k=>qAJ [11] x σ fun σ=>E FF LFx qBc σ w fun d w=>k (some d) w) (pb.map D.str) w1 fun rs w2=>K (r.toList++rs) w2) ?_
  refine ih _ _ (hE.set hk _) hk (qBB hw) ?_
  intro w' hE' hw'
  exact q w' hE' hw'
theorem qIT (H:Hand sc σ rows asked late due keeps p rest y0 yy) (P:Facts sc rows asked late due keeps p rest y0 yy r0) (hE:Ext w₀ w) {k:Nat} {sg:List Nat} (hk:w₀.length≤k) (hw:w[k]?=some (.lex asked sg)) (h20:σ.getD 20 .unb=.loc k) (hs:sg.length≤16000000) (hr:(qAQ sg).1=r0)
 (h21:σ.getD 21 .unb=.dat (qAT [[67,67],[67,67]])) (h22:σ.getD 22 .unb=.dat (qAT late)) :
 SL FF LFx qHG σ w (FnRes (.bool true) w₀):=by
 have hl:=H.hl
 have hn:=P.n
 unfold qHG
 try dsimp only [SL,SS,T,E,EL,vd,qAT,qAm]
 try simp only [SL,SS,T,E,EL,varK,H.h18,qAT,qAm,List.length_map]
 refine ⟨by lia,hear h20 hl asked w _ hE hk hw fun w' hE' hw'=>?_⟩
 refine qIr (H.set 23 _ (by decide) (by decide)) P hE' hk hw' ?_ hs hr ?_ ?_ ?_
 · exact gne (by decide) h20
 · exact gne (by decide) h21
 · exact gne (by decide) h22
 · rw [gse ‹List.length _=_› (by decide)]; rfl
theorem qId (H:Hand sc σ rows asked late due keeps p rest y0 yy) (P:Facts sc rows asked late due keeps p rest y0 yy r0) (hE:Ext w₀ w) (hf:w₀[0]?=some .fac) {k:Nat} {sg:List Nat} (hk:w₀.length≤k) (hw:w[k]?=some (.lex asked sg)) (h20:σ.getD 20 .unb=.loc k) (hs:sg.length≤16000000) (hr:(qAQ sg).1=r0)
 (h21:σ.getD 21 .unb=.dat (qAT [[67,67],[67,67]])) {g0:List Nat} {pages:List (List Nat)} (h12:σ.getD 12 .unb=.dat (qAT (g0::pages))) (hp:∀ g∈pages,g.length≤16000000) (hq:pages.length≤100000) (hlate:late=pages.map fun g=>(qAQ g).1) :
 SL FF LFx qHA σ w (FnRes (.bool true) w₀):=by
 have hl:=H.hl
 have hn:=P.n
 unfold qHA
 try dsimp only [SL,SS,T,E,EL,vd,qAT,Cst.d,slA,List.map_cons,List.length_cons,qC3,clamp]
 try simp only [SL,SS,T,E,EL,varK,h12,qAT,Cst.d,slA,false_or,List.map_cons,List.length_cons,List.length_map,qC3,clamp]
 refine ⟨by exact Nat.le_trans (Nat.add_le_add_right ‹_› _) (by decide),by decide,trivial,_,_,rfl,rfl,?_⟩
 have ec:cut (D.str g0::pages.map D.str) (if (1:Int)<0 then (((pages.length+1:Nat):Int)+1).toNat else min (1:Int).toNat (pages.length+1)) (pages.length+1)=pages.map D.str:=by
  rw [if_neg (by decide),show min (1:Int).toNat (pages.length+1)=1 from by simp]
  unfold cut
  rw [List.take_of_length_le (by simp)]; rfl
 rw [ec]
 try simp only [qAm,List.length_map]
 refine ⟨by exact Nat.le_trans ‹_› (by decide),?_⟩
 refine qB5 _ D.str (fun g=>D.str (qAQ g).1) w _ _ ?_ ?_
 · intro g hg kk q
   have:=hp g hg
   try simp only [qAJ,qEC,E,varK,gset (σ:=σ) (k:=31) (by (refine Mine.rwx (‹List.length _=_›) ?_; decide)),if_true]
   exact ⟨hE.get hf,by exact Nat.le_trans ‹_› (by decide),q⟩
 · have e:pages.map (fun g=>D.str (qAQ g).1)=late.map D.str:=by rw [hlate,List.map_map]; rfl
   rw [e]
   refine qIT (H.set 22 _ (by decide) (by decide)) P hE hk hw ?_ hs hr ?_ ?_
   · exact gne (by decide) h20
   · exact gne (by decide) h21
   · rw [gse ‹List.length _=_› (by decide)]; rfl
theorem qI3 {k:Nat} {sg:List Nat} (Q:Fl->Sg->W->Prop) (hk:w₀.length≤k):∀ (xs:List (List Nat)) (pb:List (List Nat)) (σ:Sg) (w:W),σ.getD 20 .unb=.loc k->σ.length=36->Ext w₀ w->w[k]?=some (.lex pb sg)->pb.length+xs.length≤1000000 ->
 (∀ w' s11,Ext w₀ w'->w'[k]?=some (.lex (pb++xs) sg)->Q .nxt (σ.set 11 s11) w')->qA2 (fun x σ w k=>qAJ [11] x σ fun σ=>SL FF LFx qCb σ w k) (xs.map D.str) σ w Q:=by
 intro xs
 induction xs with
 | nil =>
  intro pb σ w h20 hl hE hw hn q
  have hq:=q w (σ.getD 11 .unb) hE (by simpa using hw)
  have e:σ.set 11 (σ.getD 11 .unb)=σ:=by
   rw [List.getD_eq_getElem?_getD,List.getElem?_eq_getElem (by (refine Mine.rwx (‹List.length _=_›) ?_; decide))]
   exact List.set_getElem_self (by (refine Mine.rwx (‹List.length _=_›) ?_; decide))
  rw [e] at hq
  exact hq
 | cons t xs ih =>
  intro pb σ w h20 hl hE hw hn q
  simp only [List.length_cons] at hn
  try simp only [List.map_cons,qA2,qAJ]
  unfold qCb
  try dsimp only [SL,SS,E,vd]
  try simp only [SL,SS,E,varK,gset (σ:=σ) (k:=11) (by (refine Mine.rwx (‹List.length _=_›) ?_; decide)),Nat.reduceEqDiff,if_true,if_false,h20,hw]
  refine ⟨⟨_,_,rfl⟩,by exact as3 ‹_› (by decide),?_⟩
  refine ih (pb++[t]) _ _ ?_ (by simp [hl]) (hE.set hk _) (qBB hw) (by simp; (exact as41 ‹_›)) fun w' s11 hE' hw'=>?_
  · exact gne (by decide) h20
  · rw [List.set_set]
    exact q w' s11 hE' (by simpa using hw')
theorem qIh (H:Hand sc σ rows asked late due keeps p rest y0 yy) (P:Facts sc rows asked late due keeps p rest y0 yy r0) (hE:Ext w₀ w) (hf:w₀[0]?=some .fac) {k:Nat} {sg:List Nat} (hk:w₀.length≤k) (hw:w[k]?=some (.lex [] sg)) (h20:σ.getD 20 .unb=.loc k) (hs:sg.length≤16000000) (hr:(qAQ sg).1=r0)
 (h21:σ.getD 21 .unb=.dat (qAT [[67,67],[67,67]])) {g0:List Nat} {pages:List (List Nat)} (h12:σ.getD 12 .unb=.dat (qAT (g0::pages))) (hp:∀ g∈pages,g.length≤16000000) (hq:pages.length≤100000) (hlate:late=pages.map fun g=>(qAQ g).1) :
 SL FF LFx qGg σ w (FnRes (.bool true) w₀):=by
 have hl:=H.hl
 have hn:=P.n
 unfold qGg
 try dsimp only [SL,SS,T,E,EL,vd,qAT,qAm]
 try simp only [SL,SS,T,E,EL,varK,H.h18,qAT,qAm,List.length_map]
 refine ⟨by lia,qI3 (k:=k) (sg:=sg) _ hk asked [] σ w h20 hl hE hw (by simp; lia) fun w' s11 hE' hw'=>?_⟩
 refine qId (g0:=g0) (H.set 11 s11 (by decide) (by decide)) P hE' hf hk (by simpa using hw') ?_ hs hr ?_ ?_ hp hq hlate
 · exact gne (by decide) h20
 · exact gne (by decide) h21
 · exact gne (by decide) h12
theorem qIY (H:Hand sc σ rows asked late due keeps p rest y0 yy) (P:Facts sc rows asked late due keeps p rest y0 yy r0) (hE:Ext w₀ w) (hf:w₀[0]?=some .fac) {k:Nat} {s0 s1 s2:List Nat} (hk:w₀.length≤k) (hw:w[k]?=some (.lex [] s0)) (h20:σ.getD 20 .unb=.loc k) (hs0:s0.length≤16000000) (hs1:s1.length≤16000000) (hs2:s2.length≤16000000)
 (ht0:qAQ s0=([67,67],s1)) (ht1:qAQ s1=([67,67],s2)) (hr:(qAQ s2).1=r0)
 {g0:List Nat} {pages:List (List Nat)} (h12:σ.getD 12 .unb=.dat (qAT (g0::pages))) (hp:∀ g∈pages,g.length≤16000000) (hq:pages.length≤100000) (hlate:late=pages.map fun g=>(qAQ g).1) :
 SL FF LFx qGc σ w (FnRes (.bool true) w₀):=by
 have hl:=H.hl
 unfold qGc
 have e0:LFx.tok s0=([67,67],s1):=ht0
 have e1:LFx.tok s1=([67,67],s2):=ht1
 have hg:(w.set k (.lex [] s1))[k]?=some (.lex [] s1):=qBB hw
 try dsimp only [SL,SS,T,E,EL]
 try simp only [SL,SS,T,E,EL,tokK,h20,hw,e0,hg,e1]
 refine ⟨by exact Nat.le_trans ‹_› (by decide),by exact Nat.le_trans ‹_› (by decide),by decide,?_⟩
 refine qIh (g0:=g0) (H.set 21 _ (by decide) (by decide)) P ((hE.set hk _).set hk _) hf hk (qBB hg) ?_ hs2 hr ?_ ?_ hp hq hlate
 · exact gne (by decide) h20
 · rw [gse ‹List.length _=_› (by decide)]; rfl
 · exact gne (by decide) h12
theorem qIB (H:Hand sc σ rows asked late due keeps p rest y0 yy) (P:Facts sc rows asked late due keeps p rest y0 yy r0) (hE:Ext w₀ w) (hf:w₀[0]?=some .fac) {g0 s1 s2:List Nat} (hs0:g0.length≤15000000) (hs1:s1.length≤16000000) (hs2:s2.length≤16000000)
 (ht0:qAQ ([34,92,67,67,34,67,67]++g0)=([67,67],s1)) (ht1:qAQ s1=([67,67],s2)) (hr:(qAQ s2).1=r0)
 {pages:List (List Nat)} (h12:σ.getD 12 .unb=.dat (qAT (g0::pages))) (hp:∀ g∈pages,g.length≤16000000) (hq:pages.length≤100000) (hlate:late=pages.map fun g=>(qAQ g).1) :
 SL FF LFx qHC σ w (FnRes (.bool true) w₀):=by
 have hl:=H.hl
 unfold qHC
 try dsimp only [SL,SS,T,E,EL,vd,ldd,qAT,idxK,Cst.d,List.map_cons]
 try simp only [SL,SS,T,E,EL,varK,qBY,h12,qAT,idxK,Cst.d,List.map_cons]
 refine ⟨trivial,by decide,by decide,_,rfl,?_⟩
 try simp only [binA,binL,or_false,List.length_cons,List.length_nil,List.length_append]
 refine ⟨by exact Nat.le_trans (Nat.add_le_add_left ‹_› _) (by decide),hE.get hf,by exact Nat.le_trans (Nat.add_le_add_left ‹_› _) (by decide),?_⟩
 refine qIY (g0:=g0) (s0:=[34,92,67,67,34,67,67]++g0) (H.set 20 _ (by decide) (by decide)) P (hE.snoc _) hf hE.len (qAX _ _) ?_ (by simp; (exact Nat.le_trans ‹_› (by decide))) hs1 hs2 ht0 ht1 hr ?_ hp hq hlate
 · rw [gse ‹List.length _=_› (by decide)]
 · exact gne (by decide) h12
end
structure Hand2 (sc:List Int) (σ:Sg) (rows:List (List It)) (keeps:Bool) (p:It) (rest:List It) (y0:List Nat) (yy:List (List Nat)) (g0:List Nat) (pages:List (List Nat)) (j gaps:List Nat) (o:Nat):Prop where
 hl:σ.length=36
 h1:σ.getD 1 .unb=.dat (.bool (qAA sc))
 h4:σ.getD 4 .unb=.dat (itsD (p::rest))
 h9:σ.getD 9 .unb=.dat (.list (rows.map itsD))
 h10:σ.getD 10 .unb=.dat (qAT (y0::yy))
 h12:σ.getD 12 .unb=.dat (qAT (g0::pages))
 h13:σ.getD 13 .unb=.dat (.str j)
 h14:σ.getD 14 .unb=.dat (.list (qBx gaps))
 h15:σ.getD 15 .unb=.dat (.bool keeps)
 h16:σ.getD 16 .unb=.dat (.int j.length)
 h17:σ.getD 17 .unb=.dat (.str [o])
theorem Hand2.set {sc σ rows keeps p rest y0 yy g0 pages j gaps o} (H:Hand2 sc σ rows keeps p rest y0 yy g0 pages j gaps o) (k:Nat) (v:Slot) (h:k ∉ [1,4,9,10,12,13,14,15,16,17]) (hk:k<36):Hand2 sc (σ.set k v) rows keeps p rest y0 yy g0 pages j gaps o :=
 ⟨by rw [List.length_set]; exact H.hl,gne (nek h (by decide)) H.h1,gne (nek h (by decide)) H.h4,gne (nek h (by decide)) H.h9,gne (nek h (by decide)) H.h10,gne (nek h (by decide)) H.h12,gne (nek h (by decide)) H.h13,gne (nek h (by decide)) H.h14,gne (nek h (by decide)) H.h15,gne (nek h (by decide)) H.h16,gne (nek h (by decide)) H.h17⟩
structure Facts2 (sc:List Int) (rows:List (List It)) (keeps:Bool) (p:It) (rest:List It) (y0:List Nat) (yy:List (List Nat)) (g0:List Nat) (pages:List (List Nat)) (j gaps:List Nat) (o:Nat) (late:List (List Nat)) (r0 s1 s2:List Nat):Prop where
 P:Facts sc rows (qBA j o) late (qJg j gaps o) keeps p rest y0 yy r0
 hj:j.length≤100000
 hg:gaps.length≤100000
 hgj:∀ g∈gaps,g≤j.length
 hs0:g0.length≤15000000
 hs1:s1.length≤16000000
 hs2:s2.length≤16000000
 ht0:qAQ ([34,92,67,67,34,67,67]++g0)=([67,67],s1)
 ht1:qAQ s1=([67,67],s2)
 hr:(qAQ s2).1=r0
 hp:∀ g∈pages,g.length≤16000000
 hq:pages.length≤100000
 hlate:late=pages.map fun g=>(qAQ g).1
section
variable {sc:List Int} {w₀ w:W} {σ:Sg} {rows:List (List It)} {keeps:Bool} {p:It} {rest:List It} {y0:List Nat} {yy:List (List Nat)} {g0:List Nat} {pages:List (List Nat)} {j gaps:List Nat} {o:Nat} {late:List (List Nat)} {r0 s1 s2:List Nat}
theorem qIg (H:Hand2 sc σ rows keeps p rest y0 yy g0 pages j gaps o) (P:Facts2 sc rows keeps p rest y0 yy g0 pages j gaps o late r0 s1 s2) (hE:Ext w₀ w) (hf:w₀[0]?=some .fac)
 (h18:σ.getD 18 .unb=.dat (qAT (qBA j o))) (h19:σ.getD 19 .unb=.dat (bsD ((qBP j o).map (qCJ j gaps)))):SL FF LFx qGo σ w (FnRes (.bool true) w₀):=by
 have hl:=H.hl
 have hj:=P.hj
 have hil:(qBP j o).length=j.length+1:=by simp [qBP]
 have e0:[D.bool false].length*((j.length:Int)).toNat≤16777216:=by rw [Int.toNat_natCast]; exact Nat.le_trans (Nat.mul_le_mul_left _ hj) (by decide)
 have ei:qBE ((qBA j o).map D.str) (-2)=some (.str j.reverse):=by
  delta qBE qBA
  rw [if_neg (by decide),if_pos (by simp; lia)]
  have e2:((((qBP j o++qEQ j++qEM j o++[j,j.reverse,j++j]).map D.str).length:Int) + -2).toNat=(qBP j o++qEQ j++qEM j o).length+1:=by simp; lia
  rw [e2,List.map_append,List.getElem?_append_right (by simp)]
  simp
 have eg:qBx gaps=(gaps.map fun (n:Nat)=>(n:Int)).map D.int:=by unfold qBx; rw [List.map_map]; rfl
 have hgn:decide (gaps.map (fun (n:Nat)=>(n:Int))=[])=decide (gaps=[]):=by cases gaps <;> rfl
 delta qGo
 have el:(List.replicate ((j.length:Int)).toNat [D.bool false]).flatten=(List.replicate j.length false).map .bool:=by rw [Int.toNat_natCast,qEV]
 refine asg_ (qCn (qCn (qCn (ewV h19) (qOL (qD7 (ewS ewC ewN) (by decide)) (ewV H.h16) (Int.le_trans (by decide) (Int.natCast_nonneg _)) (as31 hj (by decide)) e0) (by rw [el]; simp [hil]; lia))
  (qNm (g:=fun x=>match x with | .str s=>.bool (decide (s=[o])) | d=>d) (ewV H.h13) (fun K k=>⟨Nat.le_trans hj (by decide),k⟩) fun x hx k q=>by
    obtain ⟨c,_,rfl⟩:=List.mem_map.mp hx
    show E FF LFx qCg (σ.set 34 (.dat (.str [c]))) w k
    delta qCg
    exact ewR (qIX (ewV (d:=.str [c]) (by rw [gset (hl ▸ by decide),if_pos rfl])) (ewV (d:=.str [o]) (by rw [gset (hl ▸ by decide),if_neg (by decide)]; exact H.h17)) (fun K k=>k)) q) (by rw [el]; simp [hil,singles]; lia))
  (qD7 (ewS ewC (ewS (qIX (qDK h18 ewC fun K k=>⟨by decide,by decide,_,ei,k⟩) (ewV H.h13) (fun K k=>k)) (ewS (ewOr (qIX (ewV H.h14) (qD7 ewN (Nat.zero_le _)) fun K k=>⟨_,eg ▸ FlatEq.is _ [],k⟩) fun _=>qIX (ewV H.h13) ewC fun K k=>k) ewN))) (Nat.le_add_left _ _)) (by rw [el]; simp [hil,singles]; lia)) ?_
 refine qIB (asked:=qBA j o) (due:=qJg j gaps o) ⟨by simp [hl],?_,?_,?_,?_,?_,?_,?_⟩ P.P hE hf P.hs0 P.hs1 P.hs2 P.ht0 P.ht1 P.hr (g0:=g0) (pages:=pages) ?_ P.hp P.hq P.hlate
 · exact gne (by decide) H.h1
 · exact gne (by decide) H.h4
 · exact gne (by decide) H.h9
 · exact gne (by decide) H.h10
 · exact gne (by decide) H.h15
 · exact gne (by decide) h18
 · have es:(singles j).map (fun x=>match x with | .str s=>.bool (decide (s=[o])) | d=>d)=(j.map fun c=>decide ([c]=[o])).map D.bool:=by rw [singles,List.map_map,List.map_map]; rfl
   rw [gse ‹List.length _=_› (by decide),el,es]; unfold qJg bsD; simp [hgn,Cst.d]
 · exact gne (by decide) H.h12
theorem qIO (H:Hand2 sc σ rows keeps p rest y0 yy g0 pages j gaps o) (P:Facts2 sc rows keeps p rest y0 yy g0 pages j gaps o late r0 s1 s2) (hE:Ext w₀ w) (hf:w₀[0]?=some .fac)
 (h18:σ.getD 18 .unb=.dat (qAT (qBP j o++qEQ j++qEM j o))) (h19:σ.getD 19 .unb=.dat (bsD ((qBP j o).map (qCJ j gaps)))):SL FF LFx qHI σ w (FnRes (.bool true) w₀):=by
 have hl:=H.hl
 have hj:=P.hj
 have hil:((qBP j o++qEQ j++qEM j o).map D.str).length=j.length+1+j.length+j.length:=by simp [qBP,qEQ,qEM]; (exact (Nat.add_assoc _ _ _).symm)
 have e:(j.reverse.map (fun c=>[c])).flatten=j.reverse:=by
  induction j.reverse with
  | nil=>rfl
  | cons a l ih=>rw [List.map_cons,List.flatten_cons,ih]; rfl
 have es:(singles j).reverse=(j.reverse.map (fun c=>[c])).map D.str:=by unfold singles; rw [← List.map_reverse,List.map_map]; rfl
 have l1:(singles j).length≤16777216:=by rw [singles,List.length_map]; exact Nat.le_trans hj (by decide)
 delta qHI
 refine asg_ (qCn (ewV h18) (qD7 (ewS (ewV H.h13) (ewS (qNa ewC (ewS (qO1 (ewBi (ewS (ewV H.h13) ewN) fun K L k=>⟨Nat.le_trans hj (by decide),k⟩) l1) ewN) fun K L k=>⟨_,es,?_,?_,k⟩) (ewS (qDf (ewV H.h13) (ewV H.h13) (Nat.le_trans (Nat.add_le_add hj hj) (by decide))) ewN))) (Nat.le_add_left _ _)) ?_) ?_
 · rw [e,List.length_reverse]; exact Nat.le_trans hj (by decide)
 · rw [List.length_reverse]; exact l1
 · rw [hil]; exact as7 (k:=3) hj (by decide)
 · refine qIg (H.set 18 _ (by decide) (by decide)) P hE hf ?_ (gne (by decide) h19)
   rw [gse hl (by decide),e]; unfold qAT qBA; simp
end
section
variable {sc:List Int} {w₀ w:W} {σ:Sg} {rows:List (List It)} {keeps:Bool} {p:It} {rest:List It} {y0:List Nat} {yy:List (List Nat)} {g0:List Nat} {pages:List (List Nat)} {j gaps:List Nat} {o:Nat} {late:List (List Nat)} {r0 s1 s2:List Nat}
theorem qDw (n:Nat):qAZ 0 (n:Int)=(List.range n).map fun (i:Nat)=>D.int (i:Int):=by
 rw [qBX,List.range_eq_range']
theorem qKP {n:Nat} (h:n≤100001) {K:List D->Prop} (k:K ((List.range n).map fun (i:Nat)=>D.int (i:Int))):qAm (.rng 0 n) K :=
 ⟨by decide,by decide,Int.le_trans (by decide) (Int.natCast_nonneg _),as32 h (by decide),Nat.le_trans (show ((n:Int)-0).toNat≤n by rw [Int.sub_zero]; exact Nat.le_refl _) (Nat.le_trans h (by decide)),(qDw n).symm ▸ k⟩
theorem qK7 {s:List Nat} {i:Nat} (h:i≤s.length) (hs:s.length≤16777216) {K:D->Prop} {L:List D->Prop} (k:K (.str (s.take i))):slA (.str s) .none (.int i) K L:=⟨Int.natCast_nonneg _,Int.ofNat_le.mpr h,hs,k⟩
theorem qLm {s:List Nat} {i:Nat} (h:i≤s.length) (hs:s.length≤16777216) {K:D->Prop} {L:List D->Prop} (k:K (.str (s.drop i))):slA (.str s) (.int i) .none K L:=⟨Int.natCast_nonneg _,Int.ofNat_le.mpr h,hs,k⟩
theorem qHs (H:Hand2 sc σ rows keeps p rest y0 yy g0 pages j gaps o) (P:Facts2 sc rows keeps p rest y0 yy g0 pages j gaps o late r0 s1 s2) (hE:Ext w₀ w) (hf:w₀[0]?=some .fac)
 (h18:σ.getD 18 .unb=.dat (qAT (qBP j o))) (h19:σ.getD 19 .unb=.dat (bsD ((qBP j o).map (qCJ j gaps)))):SL FF LFx qGm σ w (FnRes (.bool true) w₀):=by
 have hl:=H.hl
 have hj:=P.hj
 have hj2:j.length≤16777216:=Nat.le_trans hj (by decide)
 have hil:((qBP j o).map D.str).length=j.length+1:=by simp [qBP]
 have v13:∀ {x:D},(σ.set 30 (.dat x)).getD 13 .unb=.dat (.str j):=gne (by decide) H.h13
 have v30:∀ {x:D},(σ.set 30 (.dat x)).getD 30 .unb=.dat x:=gse hl (by decide)
 delta qGm
 refine asg_ (qCn (qCn (ewV h18) (qAs (fun (i:Nat)=>D.int (i:Int)) (fun i=>D.str (j.take i++j.drop (i+1))) (qMZ (ewS (ewV H.h16) ewN) fun K L k=>k) (fun K k=>qKP (Nat.le_succ_of_le hj) k) fun i hi=>?_) ?_)
  (qAs (fun (i:Nat)=>D.int (i:Int)) (fun i=>D.str (j.take i++[o]++j.drop (i+1))) (qMZ (ewS (ewV H.h16) ewN) fun K L k=>k) (fun K k=>qKP (Nat.le_succ_of_le hj) k) fun i hi=>?_) ?_) ?_
 · have hi':=List.mem_range.mp hi
   exact qDf (qFW (ewV v13) ewC (ewV v30) fun K L k=>qK7 (Nat.le_of_lt hi') hj2 k) (qFW (ewV v13) (qHl (ewV v30) ewC) ewC fun K L k=>qLm (i:=i+1) hi' hj2 k) (by rw [List.length_take,List.length_drop]; exact as8 hj (by decide))
 · rw [hil,List.length_map,List.length_range]; exact au1 hj (by decide)
 · have hi':=List.mem_range.mp hi
   exact qDf (qDf (qFW (ewV v13) ewC (ewV v30) fun K L k=>qK7 (Nat.le_of_lt hi') hj2 k) (ewV (gne (by decide) H.h17)) (by rw [List.length_take]; exact Nat.succ_le_succ (ar45 hj))) (qFW (ewV v13) (qHl (ewV v30) ewC) ewC fun K L k=>qLm (i:=i+1) hi' hj2 k) (by rw [List.length_append,List.length_take,List.length_drop]; exact ar10 hj)
 · rw [List.length_append,hil,List.length_map,List.length_map,List.length_range]; exact as6 hj (by decide)
 · refine qIO (H.set 18 _ (by decide) (by decide)) P hE hf ?_ (gne (by decide) h19)
   rw [gse hl (by decide)]
   delta qAT qEQ qEM
   simp only [List.map_append,List.map_map]
   rfl
theorem qH0 (H:Hand2 sc σ rows keeps p rest y0 yy g0 pages j gaps o) (P:Facts2 sc rows keeps p rest y0 yy g0 pages j gaps o late r0 s1 s2) (hE:Ext w₀ w) (hf:w₀[0]?=some .fac)
 (h18:σ.getD 18 .unb=.dat (qAT (qBP j o))):SL FF LFx qGR σ w (FnRes (.bool true) w₀):=by
 have hl:=H.hl
 have hj:=P.hj
 delta qGR
 refine asg_ (qAs D.str (fun t=>D.bool (qCJ j gaps t)) (ewV h18) (fun K k=>⟨by rw [List.length_map,show (qBP j o).length=j.length+1 by simp [qBP]]; exact Nat.le_trans (Nat.succ_le_succ hj) (by decide),k⟩) fun t ht=>?_) ?_
 · have htl:t.length=j.length+1:=by
    unfold qBP at ht
    refine x12 (List.mem_map.mp ht) fun i hi eq2=>?_
    subst eq2
    have:=List.mem_range.mp hi
    simp; (exact ar26 ‹_›)
   have ht2:t.length≤16777216:=au47 htl hj (by decide)
   have e:gaps.map (fun g=>D.str (t.take g++t.drop (g+1)))=(gaps.map fun g=>t.take g++t.drop (g+1)).map D.str:=by rw [List.map_map]; rfl
   have hl2:(σ.set 11 (.dat (.str t))).length=36:=by rw [List.length_set]; exact hl
   refine qIX (ewV (gne (by decide) H.h13)) (qAs (fun (n:Nat)=>D.int (n:Int)) (fun g=>D.str (t.take g++t.drop (g+1))) (ewV (gne (by decide) H.h14)) (fun K k=>⟨by rw [qBx,List.length_map]; exact Nat.le_trans P.hg (by decide),k⟩) fun g hg=>?_) fun K k=>⟨_,e ▸ .ss j _,k⟩
   have hg:=P.hgj g hg
   have v11:∀ {x:D},((σ.set 11 (.dat (.str t))).set 33 (.dat x)).getD 11 .unb=.dat (.str t):=gne (by decide) (gse hl (by decide))
   have v33:∀ {x:D},((σ.set 11 (.dat (.str t))).set 33 (.dat x)).getD 33 .unb=.dat x:=gse hl2 (by decide)
   exact qDf (qFW (ewV v11) ewC (ewV v33) fun K L k=>qK7 (htl ▸ Nat.le_succ_of_le hg) ht2 k) (qFW (ewV v11) (qHl (ewV v33) ewC) ewC fun K L k=>qLm (i:=g+1) (htl ▸ Nat.succ_le_succ hg) ht2 k) (by rw [List.length_take,List.length_drop]; exact Nat.le_trans (Nat.add_le_add (Nat.min_le_right _ _) (Nat.sub_le _ _)) (as5 (au47 htl hj (Nat.le_refl _)) (by decide)))
 · refine qHs (H.set 19 _ (by decide) (by decide)) P hE hf (gne (by decide) h18) ?_
   rw [gse hl (by decide)]; unfold bsD; rewrite [List.map_map] at ⊢; rfl
theorem qIU (H:Hand2 sc σ rows keeps p rest y0 yy g0 pages j gaps o) (P:Facts2 sc rows keeps p rest y0 yy g0 pages j gaps o late r0 s1 s2) (hE:Ext w₀ w) (hf:w₀[0]?=some .fac):SL FF LFx qHF σ w (FnRes (.bool true) w₀):=by
 have hl:=H.hl
 have hj:=P.hj
 have hj2:j.length≤16777216:=Nat.le_trans hj (by decide)
 have v13:∀ {x:D},(σ.set 30 (.dat x)).getD 13 .unb=.dat (.str j):=gne (by decide) H.h13
 have v30:∀ {x:D},(σ.set 30 (.dat x)).getD 30 .unb=.dat x:=gse hl (by decide)
 delta qHF
 refine asg_ (qAs (fun (i:Nat)=>D.int (i:Int)) (fun i=>D.str (j.take i++[o]++j.drop i)) (qMZ (ewS (qHl (ewV H.h16) ewC) ewN) fun K L k=>k) (fun K k=>qKP (n:=j.length+1) (Nat.succ_le_succ hj) k) fun i hi=>?_) ?_
 · have hi':=Nat.le_of_lt_succ (List.mem_range.mp hi)
   exact qDf (qDf (qFW (ewV v13) ewC (ewV v30) fun K L k=>qK7 hi' hj2 k) (ewV (gne (by decide) H.h17)) (by rw [List.length_take]; exact Nat.succ_le_succ (ar45 hj))) (qFW (ewV v13) (ewV v30) ewC fun K L k=>qLm hi' hj2 k) (by rw [List.length_append,List.length_take,List.length_drop]; exact ar11 hj)
 · refine qH0 (H.set 18 _ (by decide) (by decide)) P hE hf ?_
   rw [gse hl (by decide)]
   delta qAT qBP
   rw [List.map_map]
   rfl
end
noncomputable def qCK (sc:List Int):List (List It):=[qAK sc,row1 sc,row2 sc]
noncomputable def Fx (w:W) (s:Slot) (xs:List D):Prop:=s=.dat (.list xs)\/∃ k,s=.loc k/\w[k]?=some (.fro xs)
theorem qKz {w:W} {k:Nat} {x:OO} (h:w[k]?=some x):w.set k x=w:=by
 obtain ⟨hk,e⟩:=List.getElem?_eq_some_iff.mp h
 rw [← e]; exact List.set_getElem_self hk
theorem Fx.var {w:W} {s:Slot} {xs:List D} (h:Fx w s xs) (Q:D->W->Prop) (q:Q (.list xs) w):varK s w Q:=by
 rcases h with rfl | ⟨k,rfl,hw⟩
 · exact q
 · simp only [varK,hw]; exact q
theorem ewF {F:Str->List D->D->Prop} {LF:LexF} {σ:Sg} {w:W} {k:Nat} {xs:List D} (h:Fx w (σ.getD k .unb) xs):Ew F LF σ w (.var k) (.list xs):=fun Q q=>by rw [xE2]; exact h.var _ q
structure RowW (sc:List Int) (r:List It):Prop where
 len:r.length≤100000
 sign:∀ p∈r,p.1.length≤8
 sign1:∀ p∈r,∃ c,p.1=[c]
 chars:∀ c∈qAS (qAA sc) r,c<1114112
 ok:qAy sc=false->∀ c∈qAS (qAA sc) r,isB1 c=false->okB3 c
 wlen:(qAS (qAA sc) r).length≤15000000
 plen:qAy sc=false->(qBC isB1 b3Of (qAS (qAA sc) r)).flatten.length≤15000000
 slen:(qAL r).length≤15000000
structure All (sc:List Int):Prop where
 n:sc.length≤16000000
 ilen:(qAK sc).length≤1000
 ifold:∀ p∈qAK sc,p.2.length≤8
 mlen:(qBD sc).length=(qAK sc).length
 some:∃ p rest,qAz sc=p::rest
 slen:(qAz sc).length≤100
 rows:∀ r∈qCK sc,RowW sc r
 left:(qBi (qAK sc) (qBD sc) (qAA sc)).length≤1000000
 left1:∀ p∈qBi (qAK sc) (qBD sc) (qAA sc),p.1.length≤1
 F2:∀ p rest,qAz sc=p::rest->∃ late r0 s1 s2,Facts2 sc (qCK sc) (qB9 sc).keeps p rest (qAL (qAK sc)) [qAL (row1 sc),qAL (row2 sc)] (qBh sc (qAK sc)) [qBh sc (row1 sc),qBh sc (row2 sc)]
  (qB9 sc).joined (qB9 sc).gaps (qDl sc) late r0 s1 s2
structure Hand0 (sc:List Int) (w₀ w:W) (σ:Sg):Prop where
 hl:σ.length=36
 h0:σ.getD 0 .unb=.dat (.list (sc.map .int))
 h1:σ.getD 1 .unb=.dat (.bool (qAA sc))
 h2:σ.getD 2 .unb=.dat (.bool (qAy sc))
 h3:Fx w (σ.getD 3 .unb) ((qAK sc).map itD)
 h4:σ.getD 4 .unb=.dat (itsD (qAz sc))
 hE:Ext w₀ w
 hf:w₀[0]?=some .fac
theorem Hand0.set {sc:List Int} {w₀ w:W} {σ:Sg} (H:Hand0 sc w₀ w σ) (k:Nat) (v:Slot) (h:5≤k) (hk:k<36):Hand0 sc w₀ w (σ.set k v) :=
 ⟨by rw [List.length_set]; exact H.hl,gne (lek h (by decide)) H.h0,gne (lek h (by decide)) H.h1,gne (lek h (by decide)) H.h2,by rw [gne (lek h (by decide)) rfl]; exact H.h3,gne (lek h (by decide)) H.h4,H.hE,H.hf⟩
section
variable {sc:List Int} {w₀ w:W} {σ:Sg}
theorem qHu (H:Hand0 sc w₀ w σ) (A:All sc) (h9:σ.getD 9 .unb=.dat (.list ((qCK sc).map itsD))) (h10:σ.getD 10 .unb=.dat (qAT ((qCK sc).map qAL))) (h12:σ.getD 12 .unb=.dat (qAT ((qCK sc).map (qBh sc))))
 (h13:σ.getD 13 .unb=.dat (.str (qB9 sc).joined)) (h14:σ.getD 14 .unb=.dat (.list (qBx (qB9 sc).gaps))) (h15:σ.getD 15 .unb=.dat (.bool (qB9 sc).keeps)):SL FF LFx qGn σ w (FnRes (.bool true) w₀):=by
 have hl:=H.hl
 refine x21 A.some fun p rest hs=>?_
 refine x41 (A.F2 p rest hs) fun late r0 s1 s2 P=>?_
 have hj:=P.hj
 have hn:=A.n
 unfold qGn
 try dsimp only [SL,SS,T,E,EL,vd,ldd,Cst.d,biK,biA]
 try simp only [SL,SS,T,E,EL,varK,qBY,h13,H.h0,Cst.d,biK,biA,or_false,List.length_map]
 refine ⟨by exact Nat.le_trans ‹_› (by decide),by exact Nat.le_trans ‹_› (by decide),sc,rfl,?_⟩
 have m1:=Int.fmod_nonneg_of_pos (33+sc.sum) (b:=128) (by decide)
 have m2:=Int.fmod_lt_of_pos (33+sc.sum) (b:=128) (by decide)
 refine ⟨by decide,m1,by exact au29,by simp,?_⟩
 try dsimp only [tupK]
 have hl2:(σ.set 16 (.dat (.int ((qB9 sc).joined.length:Int)))).length=36:=by rw [List.length_set]; exact hl
 exact qIU (j:=(qB9 sc).joined) (gaps:=(qB9 sc).gaps) (o:=qDl sc) ⟨by rw [List.length_set]; exact hl2,gne (by decide) (gne (by decide) H.h1),gne (by decide) (gne (by decide) (hs ▸ H.h4)),gne (by decide) (gne (by decide) h9),gne (by decide) (gne (by decide) h10),gne (by decide) (gne (by decide) h12),
  gne (by decide) (gne (by decide) h13),gne (by decide) (gne (by decide) h14),gne (by decide) (gne (by decide) h15),gne (by decide) (gse hl (by decide)),gse hl2 (by decide)⟩ P H.hE H.hf
theorem qIf (H:Hand0 sc w₀ w σ) (A:All sc) (h7:σ.getD 7 .unb=.dat (bsD (qBD sc))) (h9:σ.getD 9 .unb=.dat (.list ((qCK sc).map itsD))) (h10:σ.getD 10 .unb=.dat (qAT ((qCK sc).map qAL))) (h12:σ.getD 12 .unb=.dat (qAT ((qCK sc).map (qBh sc)))) :
 SL FF LFx qGT σ w (FnRes (.bool true) w₀):=by
 have hl:=H.hl
 delta qGT
 have n3:∀ {i:Nat} {a b c x:Slot},i ∉ [13,14,15]->σ.getD i .unb=x->(((σ.set 13 a).set 14 b).set 15 c).getD i .unb=x:=fun h e=>gne (Ne.symm (nek h (by decide))) (gne (Ne.symm (nek h (by decide))) (gne (Ne.symm (nek h (by decide))) e))
 have l1:∀ {a:Slot},(σ.set 13 a).length=36:=by intro a; rw [List.length_set]; exact hl
 refine unp_ (qDL (ewS (qDL (ewS (ewF H.h3) (ewS (ewV h7) (ewS (ewV H.h1) ewN))) (.left (qAK sc) (qBD sc) (qAA sc) A.mlen (Nat.le_trans A.ilen (by decide)) A.ifold)) ewN) (.shape _ A.left1 A.left)) ⟨rfl,Nat.le_add_left _ _,?_⟩
 exact qHu (((H.set 13 _ (by decide) (by decide)).set 14 _ (by decide) (by decide)).set 15 _ (by decide) (by decide)) A (n3 (by decide) h9) (n3 (by decide) h10) (n3 (by decide) h12) (gne (by decide) (gne (by decide) (gse hl (by decide)))) (gne (by decide) (gse l1 (by decide))) (gse (n:=36) (by rw [List.length_set]; exact l1) (by decide))
theorem qJ9 (H:Hand0 sc w₀ w σ) (A:All sc) (h7:σ.getD 7 .unb=.dat (bsD (qBD sc))) (h9:σ.getD 9 .unb=.dat (.list ((qCK sc).map itsD))) (h10:σ.getD 10 .unb=.dat (qAT ((qCK sc).map qAL))) :
 SL FF LFx qJU σ w (FnRes (.bool true) w₀):=by
 have hl:=H.hl
 have h3r:∀ {f:List It->D},((qCK sc).map f).length≤16777216:=by intro f; rw [List.length_map]; exact Nat.le_add_left _ _
 delta qJU
 refine asg_ (qAs (fun r=>D.str (qAS (qAA sc) r)) (fun r=>D.str (qBh sc r)) (xs:=qCK sc) (qAs itsD (fun r=>D.str (qAS (qAA sc) r)) (ewV h9) (fun K k=>⟨h3r,k⟩) fun r hr=>qDL (ewS (ewV (gse hl (by decide))) (ewS (ewV (gne (by decide) H.h1)) ewN)) (.written r (qAA sc) (Nat.le_trans (A.rows r hr).len (by decide)) (A.rows r hr).sign)) (fun K k=>⟨h3r,k⟩) fun r hr=>?_) ?_
 · have R:=A.rows r hr
   have v11:∀ {x:D},(σ.set 11 (.dat x)).getD 11 .unb=.dat x:=gse hl (by decide)
   have v2:∀ {x:Slot},(σ.set 11 x).getD 2 .unb=.dat (.bool (qAy sc)):=gne (by decide) H.h2
   delta qBh qDj
   cases hr:qAy sc with
   | true=>exact ewIf (ewTv (ewV (hr ▸ v2))) (ewV v11)
   | false=>exact ewIf (ewTv (ewV (hr ▸ v2))) (qDL (ewS (ewV v11) ewN) (.prepared _ (Nat.le_trans R.wlen (by decide)) R.chars (R.ok hr) (Nat.le_trans (R.plen hr) (by decide))))
 · refine qIf (H.set 12 _ (by decide) (by decide)) A (gne (by decide) h7) (gne (by decide) h9) (gne (by decide) h10) ?_
   rw [gse hl (by decide)]; unfold qAT; rw [List.map_map]; rfl
theorem qJX (H:Hand0 sc w₀ w σ) (A:All sc) (h7:σ.getD 7 .unb=.dat (bsD (qBD sc))) (h9:σ.getD 9 .unb=.dat (.list ((qCK sc).map itsD))) :
 SL FF LFx qIx σ w (FnRes (.bool true) w₀):=by
 have hl:=H.hl
 delta qIx
 refine asg_ (qAs itsD (fun r=>D.str (qAL r)) (ewV h9) (fun K k=>⟨by rw [List.length_map]; exact Nat.le_add_left _ _,k⟩) fun r hr=>?_) ?_
 · have R:=A.rows r hr
   have l2:(σ.set 28 (.dat (itsD r))).length=36:=by rw [List.length_set]; exact hl
   delta qDW
   exact qNa ewC (ewS (qAs itD (fun p=>D.str p.1) (ewV (gse hl (by decide))) (fun K k=>⟨by rw [List.length_map]; exact Nat.le_trans R.len (by decide),k⟩) fun p hp=>qDK (gse l2 (by decide)) ewC fun K k=>⟨by decide,by decide,.str p.1,rfl,k⟩) ewN) fun K L k =>
    ⟨r.map (Prod.fst (α:=List Nat) (β:=List Nat)),by rw [List.map_map]; rfl,Nat.le_trans R.slen (by decide),by rw [List.length_map]; exact Nat.le_trans R.len (by decide),k⟩
 · refine qJ9 (H.set 10 _ (by decide) (by decide)) A (gne (by decide) h7) (gne (by decide) h9) ?_
   rw [gse hl (by decide)]; unfold qAT; rw [List.map_map]; rfl
end
section
variable {sc:List Int} {w₀ w:W} {σ:Sg}
theorem qJy (H:Hand0 sc w₀ w σ) (A:All sc) (h7:σ.getD 7 .unb=.dat (bsD (qBD sc))) (h8:σ.getD 8 .unb=.dat (itsD [frIt])) :
 SL FF LFx qJz σ w (FnRes (.bool true) w₀):=by
 have hl:=H.hl
 have hs:=A.slen
 delta qJz
 refine asg_ (qCn (qD7 (ewS (ewF H.h3) ewN) (Nat.le_add_left _ _)) (qAs itsD (fun fl=>itsD (qBz (qAK sc) (qBD sc) fl)) (xs:=[[frIt],[frIt]++qAz sc++[frIt]]) (qD7 (ewS (ewV h8) (ewS (qCn (qCn (ewV h8) (ewV H.h4) ?_) (ewV h8) ?_) ewN)) (Nat.le_add_left _ _)) (fun K k=>⟨Nat.le_add_left _ _,?_⟩) fun fl hfl=>?_) (Nat.le_add_left _ _)) ?_
 · rw [List.length_map,List.length_map]; exact Nat.le_trans (Nat.add_le_add_left hs _) (by decide)
 · rw [List.length_append,List.length_map,List.length_map]; exact Nat.le_trans (Nat.add_le_add_right (Nat.add_le_add_left hs _) _) (by decide)
 · rw [← List.map_append,← List.map_append]; exact k
 · have hfl':fl.length≤102:=by
    simp only [List.mem_cons,List.not_mem_nil,or_false] at hfl
    rcases hfl with rfl | rfl
    · simp
    · simp; assumption
   refine qDL (ewS (ewF (by rw [gne (by decide) rfl]; exact H.h3)) (ewS (ewV (gne (by decide) h7)) (ewS (ewV (gse hl (by decide))) ewN))) (.filled (qAK sc) fl (qBD sc) A.mlen ?_)
   have:=Nat.mul_le_mul A.ilen (Nat.succ_le_succ hfl')
   (exact Nat.le_trans (Nat.add_le_add ‹_› ‹_›) (by decide))
 · refine qJX (H.set 9 _ (by decide) (by decide)) A (gne (by decide) h7) ?_
   rw [gse hl (by decide)]; rfl
theorem qFJ (H:Hand0 sc w₀ w σ) (A:All sc):SL FF LFx qKb σ w (FnRes (.bool true) w₀):=by
 have hl:=H.hl
 have hi:=A.ilen
 unfold qKb
 refine H.h3.var _ ?_
 refine ⟨_,.marks (qAK sc) (by exact Nat.le_trans ‹_› (by decide)),?_⟩
 try dsimp only [Cst.d,tupK,List.length_cons,List.length_nil]
 refine ⟨by decide,by decide,by decide,?_⟩
 refine qJy ((H.set 7 _ (by decide) (by decide)).set 8 _ (by decide) (by decide)) A ?_ ?_ <;> rw [gset (by simp; (refine Mine.rwx (‹List.length _=_›) ?_; decide))]
 · rw [if_neg (by decide),gset (by (refine Mine.rwx (‹List.length _=_›) ?_; decide)),if_pos rfl]; rfl
 · rw [if_pos rfl]; rfl
theorem qLV (d:D) (w:W) (Q:D->W->Prop):varK (.dat d) w Q=Q d w:=rfl
structure HandP (sc:List Int) (w₀ w:W) (σ:Sg):Prop where
 hl:σ.length=36
 h0:σ.getD 0 .unb=.dat (.list (sc.map .int))
 h1:σ.getD 1 .unb=.dat (.bool (qAA sc))
 h2:σ.getD 2 .unb=.dat (.bool (qAy sc))
 h3:Fx w (σ.getD 3 .unb) ((items0 sc).map itD)
 h4:σ.getD 4 .unb=.dat (itsD (some0 sc))
 hE:Ext w₀ w
 hf:w₀[0]?=some .fac
structure All0 (sc:List Int):Prop where
 A:All sc
 few:sc.length≤63
 il:(items0 sc).length≤1000
 sl:(some0 sc).length≤100
 b1:∀ p∈items0 sc,∃ c,p.1=[c]/\c<1114112/\isB1 c=decide (p.2=[])
theorem qKC (H:HandP sc w₀ w σ) (A:All0 sc):SL FF LFx qKe σ w (FnRes (.bool true) w₀):=by
 have hl:=H.hl
 delta qKe
 cases hr:qAy sc with
 | false =>
  have e3:qAK sc=items0 sc:=by unfold qAK; rw [hr]; rfl
  have e4:qAz sc=some0 sc:=by unfold qAz; rw [hr]; rfl
  exact ifeF (ewTv (ewV (hr ▸ H.h2))) (qFJ ⟨H.hl,H.h0,H.h1,hr ▸ H.h2,e3 ▸ H.h3,e4 ▸ H.h4,H.hE,H.hf⟩ A.A)
 | true =>
  have e3:qAK sc=(items0 sc).map qCL:=by unfold qAK; rw [hr]; rfl
  have e4:qAz sc=(some0 sc).map qCL:=by unfold qAz; rw [hr]; rfl
  refine ifeT (ewTv (ewV (hr ▸ H.h2))) ?_
  delta qMN
  refine unp_ (qAs itsD (fun l=>itsD (l.map qCL)) (xs:=[items0 sc,some0 sc]) (qD7 (ewS (ewF H.h3) (ewS (ewV H.h4) ewN)) (Nat.le_add_left _ _)) (fun K k=>⟨Nat.le_add_left _ _,k⟩) fun l hm=>?_) ⟨rfl,Nat.le_add_left _ _,?_⟩
  · have hll:l.length≤1000:=by
     simp only [List.mem_cons,List.not_mem_nil,or_false] at hm
     rcases hm with rfl | rfl
     · exact A.il
     · exact Nat.le_trans A.sl (by decide)
    have v27:∀ {x:D},((σ.set 28 (.dat (itsD l))).set 27 (.dat x)).getD 27 .unb=.dat x:=gse (n:=36) (by rw [List.length_set]; exact hl) (by decide)
    rw [show itsD (l.map qCL)=.list (l.map fun p=>itD (qCL p)) by rw [itsD,List.map_map]; rfl]
    exact qAs itD (fun p=>itD (qCL p)) (ewV (gse hl (by decide))) (fun K k=>⟨by rw [List.length_map]; exact Nat.le_trans hll (by decide),k⟩) fun p hp=>qD7 (ewS (qDK v27 ewC fun K k=>⟨by decide,by decide,.str p.1,rfl,k⟩) (ewS (qDK v27 ewC fun K k=>⟨by decide,by decide,.str p.1,rfl,k⟩) ewN)) (Nat.le_add_left _ _)
  · exact qFJ ⟨by show List.length (List.set (List.set σ 3 _) 4 _)=36; rw [List.length_set,List.length_set]; exact hl,gne (by decide) (gne (by decide) H.h0),gne (by decide) (gne (by decide) H.h1),gne (by decide) (gne (by decide) (hr ▸ H.h2)),.inl (e3 ▸ gne (by decide) (gse hl (by decide))),e4 ▸ gse (n:=36) (by rw [List.length_set]; exact hl) (by decide),H.hE,H.hf⟩ A.A
theorem HandP.set {sc:List Int} {w₀ w:W} {σ:Sg} (H:HandP sc w₀ w σ) (k:Nat) (v:Slot) (h:5≤k) (hk:k<36):HandP sc w₀ w (σ.set k v) :=
 ⟨by rw [List.length_set]; exact H.hl,gne (lek h (by decide)) H.h0,gne (lek h (by decide)) H.h1,gne (lek h (by decide)) H.h2,by rw [gne (lek h (by decide)) rfl]; exact H.h3,gne (lek h (by decide)) H.h4,H.hE,H.hf⟩
theorem qJJ (H:HandP sc w₀ w σ) (A:All0 sc) (h6:σ.getD 6 .unb=.dat (bsD ((items0 sc).map fun p=>decide (p.2=[])))):SL FF LFx qHZ σ w (FnRes (.bool true) w₀):=by
 have hl:=H.hl
 have hi:=A.il
 unfold qHZ
 try simp only [SL,SS,T,E,EL,h6,qLV,Cst.d]
 refine H.h3.var _ ?_
 try simp only [qAm,List.length_map]
 refine ⟨by exact Nat.le_trans ‹_› (by decide),?_⟩
 refine qB5 _ itD (fun p=>D.bool (decide (p.2=[]))) w _ _ ?_ ?_
 · intro p hp k q
   try dsimp only [qAJ,qDP,E,EL,ldd,Cst.d,itD,idxK]
   try simp only [qAJ,qDP,E,EL,qBY,gset (σ:=σ) (k:=27) (by (refine Mine.rwx (‹List.length _=_›) ?_; decide)),if_true,Cst.d,itD,idxK]
   refine ⟨trivial,by decide,by decide,_,rfl,?_⟩
   exact q
 · have e:(items0 sc).map (fun p=>D.bool (decide (p.2=[])))=((items0 sc).map fun p=>decide (p.2=[])).map D.bool:=by rw [List.map_map]; rfl
   rw [e]
   try simp only [bsD,cmpK]
   refine ⟨_,.bs _ _,?_⟩
   try simp only [decide_true,Bool.not_true,Bool.false_eq_true,if_false,qAm,List.length_map]
   refine ⟨by exact Nat.le_trans ‹_› (by decide),qD0 _ (fun _=>none) w _ _ ?_ ?_⟩
   · intro x hx k q
     refine x12 (List.mem_map.mp hx) fun b _ eq2=>?_
     subst eq2
     try dsimp only [qAJ,qDT,T,E,vd,truK]
     try simp only [qAJ,qDT,T,E,varK,gset (σ:=σ) (k:=29) (by (refine Mine.rwx (‹List.length _=_›) ?_; decide)),if_true,truK,Bool.not_true,Bool.false_eq_true,if_false]
     exact q
   · rw [show ∀ l:List D,l.filterMap (fun _=>(none:Option D))=([]:List Bool).map D.bool from fun l=>by simp]
     refine ⟨by decide,_,.bs [] [],?_⟩
     simp only [decide_true,Bool.not_true,Bool.false_eq_true,if_false]
     exact qKC H A
theorem qKi (hl:σ.length=36) (h0:σ.getD 0 .unb=.dat (.list (sc.map .int))) (h1:σ.getD 1 .unb=.dat (.bool (qAA sc))) (h2:σ.getD 2 .unb=.dat (.bool (qAy sc)))
 (h3:σ.getD 3 .unb=.dat (itsD (items0 sc))\/∃ k,w₀.length≤k/\σ.getD 3 .unb=.loc k/\w[k]?=some (.lst ((items0 sc).map itD))) (h4:σ.getD 4 .unb=.dat (itsD (some0 sc))) (hE:Ext w₀ w) (hf:w₀[0]?=some .fac) (A:All0 sc) :
 SL FF LFx qHn σ w (FnRes (.bool true) w₀):=by
 have hi:=A.il
 unfold qHn
 try simp only [SL,SS,E]
 have main:∀ w',Ext w₀ w'->Fx w' (σ.getD 3 .unb) ((items0 sc).map itD)->qAm (.list ((items0 sc).map itD)) fun xs=>qBL (fun x w k=>qAJ [27] x σ fun σ=>E FF LFx qCt σ w fun d w=>k (some d) w) xs w' fun ds w'=>SL FF LFx qHZ (σ.set 6 (.dat (.list ds))) w' (FnRes (.bool true) w₀):=by
  intro w' hE' hx
  try simp only [qAm,List.length_map]
  refine ⟨by exact Nat.le_trans ‹_› (by decide),?_⟩
  refine qB5 _ itD (fun p=>D.bool (decide (p.2=[]))) w' _ _ ?_ ?_
  · intro p hp k q
    refine x13 (A.b1 p hp) fun c hc hcl hb=>?_
    try dsimp only [qAJ,qCt,E,EL,ldd,Cst.d,itD,idxK]
    try simp only [qAJ,qCt,E,EL,qBY,gset (σ:=σ) (k:=27) (by (refine Mine.rwx (‹List.length _=_›) ?_; decide)),if_true,Cst.d,itD,idxK]
    refine ⟨trivial,by decide,by decide,_,rfl,?_⟩
    rw [hc]
    refine ⟨_,.tabB1 c hcl,?_⟩
    rw [hb]; exact q
  · have e:(items0 sc).map (fun p=>D.bool (decide (p.2=[])))=((items0 sc).map fun p=>decide (p.2=[])).map D.bool:=by rw [List.map_map]; rfl
    rw [e]
    refine qJJ ((⟨hl,h0,h1,h2,hx,h4,hE',hf⟩:HandP sc w₀ w' σ).set 6 _ (by decide) (by decide)) A ?_
    rw [gse ‹List.length _=_› (by decide)]; rfl
 rcases h3 with h3 | ⟨k,hk,h3,hw⟩
 · rw [h3]
   simp only [varK]
   exact main w hE (Or.inl h3)
 · rw [h3]
   simp only [varK,hw]
   exact main _ (hE.set hk _) (Or.inr ⟨k,h3,qBB hw⟩)
end
section
variable {sc:List Int} {w₀ w:W} {σ:Sg}
theorem qJd (hl:σ.length=36) (h0:σ.getD 0 .unb=.dat (.list (sc.map .int))) (h1:σ.getD 1 .unb=.dat (.bool (qAA sc))) (h2:σ.getD 2 .unb=.dat (.bool (qAy sc)))
 {k:Nat} (hk:w₀.length≤k) (h3:σ.getD 3 .unb=.loc k) (hw:w[k]?=some (.lst [])) (h4:σ.getD 4 .unb=.dat (itsD (some0 sc))) (hE:Ext w₀ w) (hf:w₀[0]?=some .fac) (A:All0 sc) :
 SL FF LFx qJV σ w (FnRes (.bool true) w₀):=by
 have hn:=A.few
 revert h0 h1 h2 h3 h4
 refine lenE hl fun s0 r h=>lenE h fun s1 r h=>lenE h fun s2 r h=>lenE h fun s3 r h=>lenE h fun s4 r h=>lenE h fun s5 rest hl h0 h1 h2 h3 h4=>?_
 · have hl:(s0::s1::s2::s3::s4::s5::rest).length=36:=congrArg (· + 6) hl
   simp only [List.getD_cons_zero,List.getD_cons_succ] at h0 h1 h2 h3 h4
   subst h0 h1 h2 h3 h4
   have hns:(qCj sc).length≤7:=by
    unfold qCj
    split
    · simp; (exact ar41)
    · simp
   have main:qAm (.list ((qCj sc).map .int)) fun xs=>qA2 (fun x σ w k=>qAJ [5] x σ fun σ=>SL FF LFx qBl σ w k) xs (.dat (.list (sc.map .int))::.dat (.bool (qAA sc))::.dat (.bool (qAy sc))::.loc k::.dat (itsD (some0 sc))::s5::rest) w
    fun f σ w=>match f with
     | .nxt=>SL FF LFx qHn σ w (FnRes (.bool true) w₀)
     | f=>FnRes (.bool true) w₀ f σ w:=by
    try simp only [qAm,List.length_map]
    refine ⟨by exact Nat.le_trans ‹_› (by decide),?_⟩
    refine qIe FF LFx FF.drawn w₀ _ _ _ _ rest _ (qCj sc) [] w (.loc k) s5 hE (Or.inr ⟨k,hk,rfl,hw⟩) (by simp; (exact Nat.le_trans (Nat.mul_le_mul_left _ ‹_›) (by decide))) (fun n=>(qDd n).2) ?_
    intro w' s3' s5' hE' h
    refine qKi (sc:=sc) (by exact hl) rfl rfl rfl ?_ rfl hE' hf A
    rcases h with h | ⟨k,hk,h,hw⟩
    · exact Or.inl h
    · exact Or.inr ⟨k,hk,h,hw⟩
   delta qJV
   have hm:(sc.map D.int).length=sc.length:=List.length_map ..
   refine ⟨hm ▸ Nat.le_trans hn (by decide),?_⟩
   unfold qCj at main
   refine iteD (p:=((sc.map D.int).length:Int)>1) (fun h=>?_) fun h=>?_
   · have h1:sc.length>1:=hm ▸ Int.ofNat_lt.mp h
     rw [if_pos h1] at main
     have e:cut (sc.map D.int) (if (1:Int)<0 then (((sc.map D.int).length:Int)+1).toNat else min (1:Int).toNat (sc.map D.int).length) (if (7:Int)<0 then (((sc.map D.int).length:Int)+7).toNat else min (7:Int).toNat (sc.map D.int).length)=((sc.take 7).drop 1).map D.int:=by
      rw [if_neg (by decide),if_neg (by decide),hm]
      unfold cut
      rw [show min (1:Int).toNat sc.length=1 by simp; (exact as60 ‹_›),List.map_drop,List.map_take]
      congr 1
      show List.take (min 7 sc.length) _=_
      by_cases h7:7≤sc.length
      · rw [Nat.min_eq_left h7]
      · rw [Nat.min_eq_right (by lia),List.take_of_length_le (by simp),List.take_of_length_le (by simp; lia)]
     dsimp only [SL,SS,E,Cst.d,gd0,vd]
     refine ⟨hm ▸ Nat.le_trans hn (by decide),⟨by decide,by decide⟩,⟨by decide,by decide⟩,_,_,rfl,rfl,?_⟩
     rw [e]
     exact main
   · rw [if_neg fun h1=>h (hm.symm ▸ Int.ofNat_lt.mpr h1)] at main
     exact ⟨Nat.le_add_left _ _,main⟩
theorem qJR (hl:σ.length=36) (h0:σ.getD 0 .unb=.dat (.list (sc.map .int))) (h1:σ.getD 1 .unb=.dat (.bool (qAA sc))) (h2:σ.getD 2 .unb=.dat (.bool (qAy sc))) (hE:Ext w₀ w) (hf:w₀[0]?=some .fac) (A:All0 sc) :
 SL FF LFx qJA σ w (FnRes (.bool true) w₀):=by
 have hn:=A.few
 unfold qJA
 try dsimp only [SL,SS,T,E,EL,vd,biK,biA]
 try simp only [SL,SS,T,E,EL,h0,varK,biK,biA,or_false,List.length_map]
 refine ⟨by decide,by exact Nat.le_trans ‹_› (by decide),sc,rfl,_,.drawn sc.sum,?_⟩
 try dsimp only [tupK,List.length_cons,List.length_nil]
 refine ⟨by decide,?_⟩
 exact qJd (k:=w.length) (sc:=sc) (by rw [List.length_set,List.length_set]; exact hl) (gne (by decide) (gne (by decide) h0)) (gne (by decide) (gne (by decide) h1)) (gne (by decide) (gne (by decide) h2)) hE.len (gne (by decide) (gse hl (by decide))) (qAX _ _) (gse (n:=36) (by rw [List.length_set]; exact hl) (by decide)) (hE.snoc _) hf A
theorem qLX (hl:σ.length=36) (h0:σ.getD 0 .unb=.dat (.list (sc.map .int))) (hf:w[0]?=some .fac) (A:All0 sc):SL FF LFx qM7 σ w (FnRes (.bool true) w):=by
 have hn:=A.few
 rw [qOg]
 try dsimp only [SL,SS,E,EL,Cst.d,qAm,List.length_cons,List.length_nil]
 refine ⟨by decide,by decide,?_⟩
 have e:[D.int 1,D.int 2]=[(1:Int),2].map D.int:=rfl
 rw [e]
 refine qB5 _ D.int (fun q=>D.bool (decide ((((sc++[0]).headD 0).fdiv q).fmod 2=1))) w _ _ ?_ ?_
 · intro q hq k qq
   have hq1:q≠0/\q.natAbs<1073741824:=by
    simp only [List.mem_cons,List.not_mem_nil,or_false] at hq
    rcases hq with rfl | rfl <;> decide
   try dsimp only [qAJ,qDU,E,EL,vd,Cst.d,binA,binL,List.length_cons,List.length_nil]
   try simp only [qAJ,qDU,E,EL,varK,gset (σ:=σ) (k:=26) (by (refine Mine.rwx (‹List.length _=_›) ?_; decide)),Nat.reduceEqDiff,if_true,if_false,h0,Cst.d,binA,binL,false_or,or_false,List.length_cons,List.length_nil,List.length_map]
   refine ⟨by decide,by exact Nat.le_trans (Nat.add_le_add_right ‹_› _) (by decide),?_⟩
   have ei:qBE (sc.map D.int++[D.int 0]) 0=some (.int ((sc++[0]).headD 0)):=by
    cases sc <;> rfl
   simp only [idxK]
   refine ⟨by decide,by decide,_,ei,?_⟩
   dsimp only [binK,or_false]
   refine ⟨hq1.1,hq1.2,by decide,?_⟩
   exact qq
 · try dsimp only [List.map_cons,List.map_nil,qAJ,qA3,List.length_cons,List.length_nil]
   try simp only [List.map_cons,List.map_nil,qAJ,qA3,List.length_cons,List.length_nil]
   refine ⟨trivial,by decide,?_⟩
   exact qJR (sc:=sc) (by rw [List.length_set,List.length_set]; exact hl) (gne (by decide) (gne (by decide) h0)) (gne (by decide) (gse hl (by decide))) (gse (n:=36) (by rw [List.length_set]; exact hl) (by decide)) (Ext.refl w) hf A
end
noncomputable def Pat:List Nat->List Nat->Prop
 | 46::46::46::r,t=>∃ x y,t=x++y/\Pat r y
 | c::r,t=>∃ y,t=c::y/\Pat r y
 | [],t=>t=[]
noncomputable def PM:List (List Nat)->List Nat->Prop
 | [],_=>False
 | [p],t=>t=p
 | p::q::r,t=>∃ x y,t=p++x++y/\PM (q::r) y
theorem qLU (acc s:List Nat):qAB acc s≠[]:=by
 have:=(qDe acc s).1
 intro h; rw [h] at this; simp at this
theorem qE7 {p:List Nat} {ws:List (List Nat)} {t:List Nat} (h:ws≠[]):PM (p::ws) t ↔ ∃ x y,t=p++x++y/\PM ws y:=by
 match ws,h with
 | q::r,_=>simp only [PM]
theorem qLl (acc W t:List Nat):PM (qAB acc W) t ↔ ∃ y,t=acc.reverse++y/\Pat W y:=by
 induction acc,W using qAB.induct generalizing t with
 | case1 acc r ih =>
  rw [qAB,qE7 (qLU _ _)]
  constructor
  · refine fun h9=>x22 h9 fun x y eq2 h=>?_
    clear h9
    subst eq2
    refine x12 ((ih y).mp h) fun y' e h'=>?_
    have e:y=y':=by simpa using e
    subst e
    exact ⟨x++y,by simp,by rw [Pat]; exact ⟨x,y,rfl,h'⟩⟩
  · rintro ⟨y,rfl,h⟩
    rw [Pat] at h
    obtain ⟨x,y',rfl,h'⟩:=h
    exact ⟨x,y',by simp,(ih y').mpr ⟨y',rfl,h'⟩⟩
 | case2 acc c r h ih =>
  rw [qAB]
  · rw [ih]
    constructor
    · rintro ⟨y,rfl,hy⟩
      refine ⟨c::y,by simp,?_⟩
      rw [Pat]
      · exact ⟨y,rfl,hy⟩
      · exact h
    · rintro ⟨y,rfl,hy⟩
      rw [Pat] at hy
      · obtain ⟨y',rfl,h'⟩:=hy
        exact ⟨y',by simp,h'⟩
      · exact h
  · exact h
 | case3 acc =>
  rw [qAB]
  simp only [PM,Pat]
  constructor
  · rintro rfl; exact ⟨[],by simp,rfl⟩
  · rintro ⟨y,rfl,rfl⟩; simp
theorem qIL (acc W:List Nat) (h:∀ i,(W.drop i).take 3≠[46,46,46]):qAB acc W=[acc.reverse++W]:=by
 induction acc,W using qAB.induct with
 | case1 acc r ih=>exact absurd rfl (h 0)
 | case2 acc c r hc ih =>
  rw [qAB]
  · rw [ih fun i=>h (i+1)]; simp
  · exact hc
 | case3 acc=>rw [qAB]; simp
noncomputable def Fits (t:List Nat) (hi:Nat):List (List Nat)->Nat->Prop
 | [],_=>True
 | w::r,lo=>∃ i,lo≤i/\i+w.length≤hi/\At t w i/\Fits t hi r (i+w.length)
theorem Fits.mono {t:List Nat} {hi:Nat}:∀ {ws:List (List Nat)} {lo lo':Nat},Fits t hi ws lo->lo'≤lo->Fits t hi ws lo'
 | [],_,_,_,_=>trivial
 | w::r,_,_,⟨i,h1,h2⟩,h=>⟨i,Nat.le_trans h h1,h2⟩
theorem qLc {s w:List Nat} {lo hi:Nat}:(∃ i,fnd s w lo hi=some i/\lo≤i/\i+w.length≤hi/\At s w i/\∀ j,lo≤j->j<i->¬ At s w j)\/(fnd s w lo hi=none/\∀ j,lo≤j->j+w.length≤hi->¬ At s w j):=by
 cases e:fnd s w lo hi with
 | none =>
  right
  refine ⟨rfl,fun j h1 h2 hA=>?_⟩
  unfold fnd at e
  rw [List.find?_eq_none] at e
  have:=e j (by rw [List.mem_range'_1]; (exact ar34 ‹_› ‹_›))
  simp [At] at this hA
  exact this hA
 | some i =>
  left
  unfold fnd at e
  rw [List.find?_range'_eq_some] at e
  refine x03 e fun h1 h2 h3=>?_
  rw [List.mem_range'_1] at h2
  refine ⟨i,rfl,h2.1,by exact ar35 ‹_›,(of_decide_eq_true h1:(s.drop i).take w.length=w),fun j hj hji hA=>?_⟩
  have:=h3 j hj hji
  simp [At] at this hA
  exact this hA
theorem qEi (t:List Nat) (hi:Nat):∀ (ws:List (List Nat)) (lo:Nat),qCZ t hi ws lo=true ↔ Fits t hi ws lo:=by
 intro L9
 induction L9 with
 | nil =>
  intro lo
  simp [qCZ,Fits]
 | cons w r ih9 =>
  intro lo
  rcases qLc (s:=t) (w:=w) (lo:=lo) (hi:=hi) with ⟨i,e,h1,h2,h3,h4⟩ | ⟨e,h⟩
  · rw [qCZ,e]
    show qCZ t hi r (i+w.length)=true ↔ _
    rw [ih9]
    constructor
    · intro h; exact ⟨i,h1,h2,h3,h⟩
    · refine fun h9=>x14 h9 fun k k1 k2 k3 k4=>?_
      have:i≤k:=by
       rcases Nat.lt_or_ge k i with c | c
       · exact absurd k3 (h4 k k1 c)
       · exact c
      exact k4.mono (by exact Nat.add_le_add_right ‹_› _)
  · rw [qCZ,e]
    simp only [Bool.false_eq_true,false_iff]
    refine fun h9=>x14 h9 fun k k1 k2 k3 _=>?_
    exact h k k1 k2 k3
noncomputable def Gm (t:List Nat) (ws:List (List Nat)) (lo:Nat):Prop:=∃ x y,t.drop lo=x++y/\PM ws y
theorem qJG {t w:List Nat} {ws:List (List Nat)} {lo:Nat} (h:ws≠[]) (hlo:lo≤t.length):Gm t (w::ws) lo ↔ ∃ i,lo≤i/\i+w.length≤t.length/\At t w i/\Gm t ws (i+w.length):=by
 constructor
 · refine fun h9=>x22 h9 fun x y e hp=>?_
   rw [qE7 h] at hp
   refine cps fun X9 k9=>?_
   obtain ⟨x',y',rfl,hp⟩:=hp
   have hd:t.drop (lo+x.length)=w++x'++y':=by rw [← List.drop_drop,e]; simp
   have hlen:=congrArg List.length hd
   have hlen0:=congrArg List.length e
   refine k9 ?_
   clear k9
   simp only [List.length_drop,List.length_append] at hlen hlen0
   refine ⟨lo+x.length,by exact Nat.le_add_right _ _,by exact au3 ‹_› ‹_›,?_,x',y',?_,hp⟩
   · unfold At; rw [hd]; simp
   · rw [← List.drop_drop,hd]; simp
 · rintro ⟨i,h1,h2,h3,x',y',e,hp⟩
   refine ⟨(t.drop lo).take (i-lo),w++x'++y',?_,?_⟩
   · have e1:t.drop i=w++(x'++y'):=by
      have:t.drop i=(t.drop i).take w.length++(t.drop i).drop w.length:=(List.take_append_drop _ _).symm
      rw [this,List.drop_drop,e]
      unfold At at h3; rw [h3]
     have e2:t.drop lo=(t.drop lo).take (i-lo)++(t.drop lo).drop (i-lo):=(List.take_append_drop _ _).symm
     rw [List.drop_drop,show lo+(i-lo)=i by exact ar28 ‹_›,e1] at e2
     rw [List.append_assoc]; exact e2
   · rw [qE7 h]; exact ⟨x',y',rfl,hp⟩
theorem qON {t z:List Nat} {lo:Nat} (hlo:lo≤t.length):Gm t [z] lo ↔ z.length≤t.length/\t.drop (t.length-z.length)=z/\lo≤t.length-z.length:=by
 constructor
 · refine fun h9=>x22 h9 fun x y e hp=>?_
   have hp:y=z:=hp
   clear h9
   subst hp
   have hlen:=congrArg List.length e
   simp only [List.length_drop,List.length_append] at hlen
   refine ⟨by exact ar22 ‹_› ‹_›,?_,by exact ar21 ‹_› ‹_›⟩
   have:t.length-y.length=lo+x.length:=by exact ar20 ‹_› ‹_›
   rw [this,← List.drop_drop,e]; simp
 · rintro ⟨h1,h2,h3⟩
   refine ⟨(t.drop lo).take (t.length-z.length-lo),z,?_,rfl⟩
   have e2:t.drop lo=(t.drop lo).take (t.length-z.length-lo)++(t.drop lo).drop (t.length-z.length-lo):=(List.take_append_drop _ _).symm
   rw [List.drop_drop,show lo+(t.length-z.length-lo)=t.length-z.length by exact ar5 ‹_›,h2] at e2
   exact e2
theorem qNL {t z:List Nat}:∀ (mid:List (List Nat)) (lo:Nat),lo≤t.length->(Gm t (mid++[z]) lo ↔ z.length≤t.length/\t.drop (t.length-z.length)=z/\lo≤t.length-z.length/\Fits t (t.length-z.length) mid lo):=by
 intro L9
 induction L9 with
 | nil =>
  intro lo hlo
  rw [List.nil_append,qON hlo]; simp [Fits]
 | cons w r ih9 =>
  intro lo hlo
  rw [List.cons_append,qJG (by simp) hlo]
  constructor
  · refine fun h9=>x14 h9 fun i h1 h2 h3 h4=>?_
    refine x04 ((ih9 (i+w.length) h2).mp h4) fun k1 k2 k3 k4=>?_
    exact ⟨k1,k2,by lia,i,h1,k3,h3,k4⟩
  · refine fun h9=>x04 h9 fun k1 k2 k3 r9=>x14 r9 fun i h1 h2 h3 k4=>?_
    exact ⟨i,h1,by exact ar50 ‹_›,h3,(ih9 (i+w.length) (by exact ar50 ‹_›)).mpr ⟨k1,k2,by assumption,k4⟩⟩
theorem qEt {t:List Nat} {hi:Nat} (hh:hi≤t.length):∀ (ws:List (List Nat)) (lo:Nat),lo≤hi->(Fits t hi (ws++[[]]) lo ↔ Fits t hi ws lo):=by
 intro L9
 induction L9 with
 | nil =>
  intro lo h
  simp only [List.nil_append,Fits,iff_true]; exact ⟨lo,Nat.le_refl _,by exact h,by simp [At],trivial⟩
 | cons w r ih9 =>
  intro lo h
  dsimp only [List.cons_append,Fits]
  constructor
  · rintro ⟨i,h1,h2,h3,h4⟩; exact ⟨i,h1,h2,h3,(ih9 _ h2).mp h4⟩
  · rintro ⟨i,h1,h2,h3,h4⟩; exact ⟨i,h1,h2,h3,(ih9 _ h2).mpr h4⟩
set_option tactic.hygienic true in
theorem qII {t z:List Nat} {init:List (List Nat)} {lo:Nat} (hlo:lo≤t.length):qEY t lo init z=true ↔ Gm t (init++[z]) lo:=by
 rw [qNL init lo hlo]
 unfold qEY
 by_cases hz:z=[]
 · subst hz
   simp only [if_true,Bool.and_eq_true,decide_eq_true_eq,qEi,List.length_nil,Nat.sub_zero,Nat.zero_le,List.drop_length,true_and]
   rw [qEt (Nat.le_refl _) init lo hlo]
 · rw [if_neg hz]
   split
   · rename_i hc
     simp only [Bool.and_eq_true,decide_eq_true_eq,qEi]
     constructor
     · rintro ⟨a,b⟩; exact ⟨hc.1,hc.2,a,b⟩
     · rintro ⟨_,_,a,b⟩; exact ⟨a,b⟩
   · rename_i hc
     simp only [Bool.false_eq_true,false_iff]
     rintro ⟨a,b,_⟩; exact hc ⟨a,b⟩
theorem qDu {t:List Nat} {ws:List (List Nat)} {lo:Nat} (hne:ws≠[]) (hlo:lo≤t.length):qB6 t lo ws=true ↔ Gm t ws lo:=by
 unfold qB6
 rw [List.getLast?_eq_some_getLast hne]
 show qEY t lo ws.dropLast (ws.getLast hne)=true ↔ _
 rw [qII hlo,List.dropLast_concat_getLast]
theorem qBQ (W t:List Nat):qAt W t=true ↔ Pat W t:=by
 have hP:PM (qAB [] W) t ↔ Pat W t:=by rw [qLl]; simp
 rw [← hP]
 unfold qAt
 by_cases hI:Infix [46,46,46] W=true
 · rw [if_pos hI]
   refine x12 (of_decide_eq_true hI) fun i _ hi=>?_
   have h2:=qFR [] W i hi
   generalize qAB [] W=ws at h2
   match ws,h2 with
   | a::r,h2 =>
    have hr:r≠[]:=by intro h; subst h; simp at h2
    show (if a=[] then qB6 t 0 (a::r) else if t.take a.length=a then qB6 t a.length r else false)=true ↔ _
    rw [qE7 hr]
    by_cases ha:a=[]
    · subst ha
      rw [if_pos rfl,qDu (by simp) (Nat.zero_le _),qJG hr (Nat.zero_le _)]
      constructor
      · refine fun h9=>x14 h9 fun i _ h2 _ r9=>x22 r9 fun x y e hp=>?_
        refine ⟨t.take i++x,y,?_,hp⟩
        have:=List.take_append_drop i t
        simp only [List.length_nil,Nat.add_zero] at e
        rw [e] at this
        simpa using this.symm
      · refine fun h9=>x22 h9 fun x y eq2 hp=>?_
        clear h9 hP
        subst eq2
        exact ⟨0,Nat.le_refl _,by simp,by simp [At],x,y,by rfl,hp⟩
    · rw [if_neg ha]
      by_cases hc:t.take a.length=a
      · have hl:a.length≤t.length:=by
         have:=congrArg List.length hc
         rw [List.length_take] at this; (exact ar52 ‹_›)
        rw [if_pos hc,qDu hr hl]
        constructor
        · refine fun h9=>x22 h9 fun x y e hp=>?_
          refine ⟨x,y,?_,hp⟩
          have:=List.take_append_drop a.length t
          rw [hc,e] at this
          simpa using this.symm
        · clear hl hc ha hr h2 hi hI hP
          rintro ⟨x,y,rfl,hp⟩
          exact ⟨x,y,by simp,hp⟩
      · rw [if_neg hc]
        simp only [Bool.false_eq_true,false_iff]
        clear ha hr h2 hi hI hP
        rintro ⟨x,y,rfl,hp⟩
        exact hc (by simp)
 · rw [if_neg hI]
   have hn:∀ i,(W.drop i).take 3≠[46,46,46]:=by
    intro i hi
    apply hI
    unfold Infix
    refine decide_eq_true ⟨i,?_,hi⟩
    rcases Nat.lt_or_ge W.length i with c | c
    · rw [List.drop_eq_nil_of_le (Nat.le_of_lt c)] at hi; simp at hi
    · exact c
   rw [qIL [] W hn]
   simp only [PM,List.reverse_nil,List.nil_append,decide_eq_true_eq]
   exact eq_comm
noncomputable def qAG:List Nat->List Nat
 | 46::46::46::r=>qAG r
 | c::r=>c::qAG r
 | []=>[]
noncomputable def qAn:List Nat->List Nat
 | 46::46::46::r=>0::qAn r
 | c::r=>(qAn r).map (· + 1)
 | []=>[]
theorem qAU {c:Nat} {r:List Nat} (h:∀ r',c=46->r=46::46::r'->False):qAG (c::r)=c::qAG r:=by
 rw [qAG]; exact h
theorem qAj {c:Nat} {r:List Nat} (h:∀ r',c=46->r=46::46::r'->False):qAn (c::r)=(qAn r).map (· + 1):=by
 rw [qAn]; exact h
theorem qAr {c:Nat} {r t:List Nat} (h:∀ r',c=46->r=46::46::r'->False):Pat (c::r) t ↔ ∃ y,t=c::y/\Pat r y:=by
 rw [Pat]; exact h
theorem qBW {r t:List Nat}:Pat (46::46::46::r) t ↔ ∃ x y,t=x++y/\Pat r y:=by rw [Pat]
theorem qA1 {r:List Nat}:qAG (46::46::46::r)=qAG r:=by rw [qAG]
theorem qBj {r:List Nat}:qAn (46::46::46::r)=0::qAn r:=by rw [qAn]
theorem qGY (W:List Nat):∀ t,Pat W t->(qAG W).length≤t.length:=by
 induction W using qAG.induct with
 | case1 r ih=>intro t h; have h0:=qBW.mp h; clear h; obtain ⟨x,y,rfl,h⟩:=h0; rw [qA1]; have:=ih y h; simp; (exact Nat.le_trans ‹_› (Nat.le_add_left _ _))
 | case2 c r hc ih=>intro t h; have h0:=(qAr hc).mp h; clear h; obtain ⟨y,rfl,h⟩:=h0; rw [qAU hc]; have:=ih y h; simp; assumption
 | case3=>intro t h; simp [qAG]
theorem qJw (W:List Nat):∀ t,Pat W t->t.length=(qAG W).length->t=qAG W:=by
 induction W using qAG.induct with
 | case1 r ih =>
  intro t h hl
  have h0:=qBW.mp h; clear h; obtain ⟨x,y,rfl,h⟩:=h0
  rw [qA1] at hl ⊢
  have:=qGY r y h
  simp only [List.length_append] at hl
  have hx:x=[]:=List.eq_nil_of_length_eq_zero (by lia)
  subst hx
  exact ih y h (by simpa using hl)
 | case2 c r hc ih =>
  intro t h hl
  have h0:=(qAr hc).mp h; clear h; obtain ⟨y,rfl,h⟩:=h0
  rw [qAU hc] at hl ⊢
  rw [ih y h (by simpa using hl)]
 | case3=>intro t h _; rw [Pat] at h; rw [h,qAG]
theorem qCm (W:List Nat):Pat W (qAG W):=by
 induction W using qAG.induct with
 | case1 r ih=>rw [qA1]; exact qBW.mpr ⟨[],_,rfl,ih⟩
 | case2 c r hc ih=>rw [qAU hc]; exact (qAr hc).mpr ⟨_,rfl,ih⟩
 | case3=>rw [qAG,Pat]
theorem qHY (W:List Nat):∀ g∈qAn W,g≤(qAG W).length:=by
 induction W using qAG.induct with
 | case1 r ih=>intro g hg; rw [qBj] at hg; rw [qA1]; rcases List.mem_cons.mp hg with rfl | hg; (exact Nat.zero_le _); exact ih g hg
 | case2 c r hc ih=>intro g hg; rw [qAj hc] at hg; rw [qAU hc]; obtain ⟨g',h,rfl⟩:=List.mem_map.mp hg; have:=ih g' h; simp; assumption
 | case3=>intro g hg; rw [qAn] at hg; cases hg
theorem qNd (W:List Nat):∀ t,Pat W t->t.length=(qAG W).length+1->∃ g∈qAn W,t.take g++t.drop (g+1)=qAG W:=by
 induction W using qAG.induct with
 | case1 r ih =>
  intro t h hl
  have h0:=qBW.mp h; clear h; obtain ⟨x,y,rfl,h⟩:=h0
  rw [qA1] at hl ⊢
  rw [qBj]
  have hy:=qGY r y h
  simp only [List.length_append] at hl
  cases x with
  | nil =>
   refine x12 (ih y h (by simpa using hl)) fun g hg e=>?_
   exact ⟨g,List.mem_cons_of_mem _ hg,e⟩
  | cons a x =>
   simp only [List.length_cons] at hl
   have hx:x=[]:=List.eq_nil_of_length_eq_zero (by exact au38 ‹_› ‹_›)
   subst hx
   refine ⟨0,List.mem_cons_self,?_⟩
   have:=qJw r y h (by simp at hl; lia)
   exact this
 | case2 c r hc ih =>
  intro t h hl
  have h0:=(qAr hc).mp h; clear h; obtain ⟨y,rfl,h⟩:=h0
  rw [qAU hc] at hl ⊢
  rw [qAj hc]
  refine x12 (ih y h (by simpa using hl)) fun g hg e=>?_
  exact ⟨g+1,List.mem_map.mpr ⟨g,hg,rfl⟩,by simpa using e⟩
 | case3=>intro t h hl; rw [Pat] at h; subst h; simp at hl
theorem qJj (W:List Nat):∀ g∈qAn W,∀ x,Pat W ((qAG W).take g++x++(qAG W).drop g):=by
 induction W using qAG.induct with
 | case1 r ih =>
  intro g hg x
  rw [qBj] at hg
  rw [qA1]
  rcases List.mem_cons.mp hg with rfl | hg
  · exact qBW.mpr ⟨x,qAG r,by rfl,qCm r⟩
  · exact qBW.mpr ⟨[],_,rfl,ih g hg x⟩
 | case2 c r hc ih =>
  intro g hg x
  rw [qAj hc] at hg
  rw [qAU hc]
  refine x12 (List.mem_map.mp hg) fun g' h eq2=>?_
  clear hg
  subst eq2
  exact (qAr hc).mpr ⟨_,by rfl,ih g' h x⟩
 | case3=>intro g hg; rw [qAn] at hg; cases hg
theorem qLu (W:List Nat):qAn W=[]->∀ t,Pat W t->t=qAG W:=by
 induction W using qAG.induct with
 | case1 r ih=>intro h; rw [qBj] at h; cases h
 | case2 c r hc ih =>
  intro hg t h
  rw [qAj hc] at hg
  have h0:=(qAr hc).mp h; clear h; obtain ⟨y,rfl,h⟩:=h0
  rw [qAU hc,ih (List.map_eq_nil_iff.mp hg) y h]
 | case3=>intro _ t h; rw [Pat] at h; rw [h,qAG]
theorem qGf (W t:List Nat) (hl:t.length=(qAG W).length+1):Pat W t ↔ ∃ g∈qAn W,t.take g++t.drop (g+1)=qAG W:=by
 constructor
 · intro h; exact qNd W t h hl
 · rintro ⟨g,hg,e⟩
   have hle:=qHY W g hg
   have:=qJj W g hg ((t.drop g).take 1)
   have e1:(qAG W).take g=t.take g:=by
    rw [← e,List.take_append_of_le_length (by simp; (exact au33 ‹_› ‹_›)),List.take_take,Nat.min_self]
   have e2:(qAG W).drop g=t.drop (g+1):=by
    rw [← e,List.drop_append_of_le_length (by simp; (exact au33 ‹_› ‹_›))]
    rw [List.drop_eq_nil_of_le (by simp; (exact Nat.min_le_left _ _))]; rfl
   rw [e1,e2] at this
   have e3:t.take g++(t.drop g).take 1++t.drop (g+1)=t:=by
    rw [List.append_assoc,← List.drop_drop,List.take_append_drop,List.take_append_drop]
   rwa [e3] at this
theorem qGa (W:List Nat):Pat W (qAG W++qAG W) ↔ qAn W≠[]\/qAG W=[]:=by
 constructor
 · intro h
   by_cases hg:qAn W=[]
   · right
     have:=congrArg List.length (qLu W hg _ h)
     simp only [List.length_append] at this
     exact List.eq_nil_of_length_eq_zero (by lia)
   · exact Or.inl hg
 · rintro (hg | hj)
   · refine x21 (List.exists_cons_of_ne_nil hg) fun g r e=>?_
     have:=qJj W g (by rw [e]; exact List.mem_cons_self) ((qAG W).drop g++(qAG W).take g)
     have e3:(qAG W).take g++((qAG W).drop g++(qAG W).take g)++(qAG W).drop g=qAG W++qAG W:=by
      rw [← List.append_assoc,List.take_append_drop,List.append_assoc,List.take_append_drop]
     rwa [e3] at this
   · rw [hj]
     have:=qCm W
     rwa [hj] at this
noncomputable abbrev dts (n:Nat):List Nat:=List.replicate n 46
noncomputable def Run (n:Nat) (A:List Nat):Prop:=(n<3/\A=dts n)\/(3≤n/\∃ x,A=x++dts (n % 3))
theorem dots3 (n:Nat) (r:List Nat):dts (n+3)++r=46::46::46::(dts n++r):=by
 simp [dts,List.replicate_succ]
theorem qMC {n:Nat} {x A:List Nat} (h:Run n A):Run (n+3) (x++A):=by
 refine Or.inr ⟨by exact Nat.le_add_left _ _,?_⟩
 rw [Nat.add_mod_right]
 rcases h with ⟨h1,rfl⟩ | ⟨h1,x',rfl⟩
 · exact ⟨x,by rw [Nat.mod_eq_of_lt h1]⟩
 · exact ⟨x++x',by simp⟩
theorem qHc {n:Nat} {A:List Nat} (h:Run (n+3) A):∃ x A',A=x++A'/\Run n A':=by
 rcases h with ⟨h1,_⟩ | ⟨_,x,rfl⟩
 · lia
 · rw [Nat.add_mod_right]
   refine ⟨x,_,rfl,?_⟩
   by_cases h3:n<3
   · exact Or.inl ⟨h3,by rw [Nat.mod_eq_of_lt h3]⟩
   · exact Or.inr ⟨by exact Nat.not_lt.mp ‹_›,[],rfl⟩
theorem not3 {c:Nat} {r:List Nat} (hc:c≠46):∀ r',c=46->r=46::46::r'->False:=fun _ h _=>hc h
theorem qJf {c:Nat} (hc:c≠46) (W:List Nat):∀ (n:Nat) (t:List Nat),Pat (dts n++c::W) t ↔ ∃ A y,t=A++c::y/\Run n A/\Pat W y:=by
 intro n
 induction n using Nat.strongRecOn with
 | _ n ih =>
  intro t
  match n,ih with
  | 0,_ =>
   show Pat (c::W) t ↔ _
   rw [qAr (not3 hc)]
   constructor
   · rintro ⟨y,rfl,h⟩; exact ⟨[],y,rfl,Or.inl ⟨by decide,rfl⟩,h⟩
   · rintro ⟨A,y,rfl,h | h,hp⟩
     · obtain ⟨_,rfl⟩:=h; exact ⟨y,rfl,hp⟩
     · lia
  | 1,_ =>
   show Pat (46::c::W) t ↔ _
   rw [qAr (fun r' _ h=>by injection h with h1; exact hc h1)]
   constructor
   · rintro ⟨y,rfl,h⟩
     have h0:=(qAr (not3 hc)).mp h; clear h; obtain ⟨y,rfl,h⟩:=h0
     exact ⟨[46],y,rfl,Or.inl ⟨by decide,rfl⟩,h⟩
   · rintro ⟨A,y,rfl,h | h,hp⟩
     · obtain ⟨_,rfl⟩:=h; exact ⟨c::y,rfl,(qAr (not3 hc)).mpr ⟨y,rfl,hp⟩⟩
     · lia
  | 2,_ =>
   show Pat (46::46::c::W) t ↔ _
   have h1:∀ r',(46:Nat)=46->46::c::W=46::46::r'->False:=fun r' _ h=>by injection h with _ h; injection h with h _; exact hc h
   have h2:∀ r',(46:Nat)=46->c::W=46::46::r'->False:=fun r' _ h=>by injection h with h1; exact hc h1
   rw [qAr h1]
   constructor
   · rintro ⟨y,rfl,h⟩
     have h0:=(qAr h2).mp h; clear h; obtain ⟨y,rfl,h⟩:=h0
     have h0:=(qAr (not3 hc)).mp h; clear h; obtain ⟨y,rfl,h⟩:=h0
     exact ⟨[46,46],y,rfl,Or.inl ⟨by exact Nat.lt_succ_self _,rfl⟩,h⟩
   · rintro ⟨A,y,rfl,h | h,hp⟩
     · obtain ⟨_,rfl⟩:=h; exact ⟨46::c::y,rfl,(qAr h2).mpr ⟨c::y,rfl,(qAr (not3 hc)).mpr ⟨y,rfl,hp⟩⟩⟩
     · lia
  | n+3,ih =>
   rw [dots3,qBW]
   constructor
   · rintro ⟨x,y0,rfl,h⟩
     obtain ⟨A,y,rfl,h1,h2⟩:=(ih n (by lia) y0).mp h
     exact ⟨x++A,y,by simp,qMC h1,h2⟩
   · rintro ⟨A,y,rfl,h1,h2⟩
     obtain ⟨x,A',rfl,h3⟩:=qHc h1
     exact ⟨x,A'++c::y,by simp,(ih n (by lia) _).mpr ⟨A',y,rfl,h3,h2⟩⟩
theorem qI0:∀ (n:Nat) (t:List Nat),Pat (dts n) t ↔ Run n t:=by
 intro n
 induction n using Nat.strongRecOn with
 | _ n ih =>
  intro t
  match n,ih with
  | 0,_ =>
   show Pat [] t ↔ _
   rw [Pat]
   exact ⟨fun h=>Or.inl ⟨by decide,h⟩,fun h=>by rcases h with ⟨_,h⟩ | ⟨h,_⟩; exact h; lia⟩
  | 1,_ =>
   show Pat [46] t ↔ _
   rw [qAr (by simp)]
   constructor
   · rintro ⟨y,rfl,h⟩; rw [Pat] at h; subst h; exact Or.inl ⟨by decide,rfl⟩
   · rintro (⟨_,rfl⟩ | ⟨h,_⟩)
     · exact ⟨[],rfl,by rw [Pat]⟩
     · lia
  | 2,_ =>
   show Pat [46,46] t ↔ _
   rw [qAr (by simp)]
   constructor
   · rintro ⟨y,rfl,h⟩
     have h0:=(qAr (by simp)).mp h; clear h; obtain ⟨y,rfl,h⟩:=h0
     rw [Pat] at h; subst h; exact Or.inl ⟨by exact Nat.lt_succ_self _,rfl⟩
   · rintro (⟨_,rfl⟩ | ⟨h,_⟩)
     · exact ⟨[46],rfl,(qAr (by simp)).mpr ⟨[],rfl,by rw [Pat]⟩⟩
     · lia
  | n+3,ih =>
   have:=dots3 n []
   simp only [List.append_nil] at this
   rw [this,qBW]
   constructor
   · rintro ⟨x,y0,rfl,h⟩
     exact qMC ((ih n (by lia) y0).mp h)
   · intro h
     refine x22 (qHc h) fun x A' eq2 h3=>?_
     clear h
     subst eq2
     exact ⟨x,A',rfl,(ih n (by lia) _).mpr h3⟩
noncomputable abbrev Tk:=Option Nat
noncomputable def okr (n m:Nat):Bool:=decide (n<3) || decide (n % 3≤m)
noncomputable def qA8:List Tk->Nat->Nat->Bool
 | [],n,m=>okr n m
 | none::r,n,m=>qA8 r (n+3) 0
 | some c::r,n,m=>if c=46 then qA8 r (n+1) (m+1) else okr n m && qA8 r 0 0
noncomputable def rd (X:List Nat):List Tk->List Nat
 | []=>[]
 | none::r=>X++rd X r
 | some c::r=>c::rd X r
noncomputable def wnt (l:List Tk):List Nat:=rd [46,46,46] l
noncomputable def lts:List Tk->List Lt
 | []=>[]
 | none::r=>[([46],true),([46],true),([46],true)]++lts r
 | some c::r=>([c],false)::lts r
theorem qCE (n:Nat) (r:List Nat):dts n++46::r=dts (n+1)++r:=by
 rw [dts,dts,List.replicate_succ',List.append_assoc]; rfl
theorem qCC (n:Nat) (r:List Tk):dts n++wnt (none::r)=dts (n+3)++wnt r:=by
 show dts n++(46::46::46::wnt r)=_
 rw [qCE,qCE,qCE]
theorem qEZ {n m:Nat} {Z:List Nat} (h:okr n m=true) (h1:∀ d,d≤2->d≤m->∃ x,Z=x++dts d) (h2:n<3->Z=dts n):Run n Z:=by
 unfold okr at h
 simp only [Bool.or_eq_true,decide_eq_true_eq] at h
 by_cases h3:n<3
 · exact Or.inl ⟨h3,h2 h3⟩
 · rcases h with h | h
   · exact absurd h h3
   · exact Or.inr ⟨by exact Nat.not_lt.mp ‹_›,h1 _ (by exact as23) h⟩
theorem qBO (X:List Nat):∀ (tk:List Tk) (n m:Nat) (Z:List Nat),qA8 tk n m=true->(∀ d,d≤2->d≤m->∃ x,Z=x++dts d)->(n<3->Z=dts n)->Pat (dts n++wnt tk) (Z++rd X tk)
 | [],n,m,Z,h,h1,h2=>by
  show Pat (dts n++[]) (Z++[])
  rw [List.append_nil,List.append_nil,qI0]
  exact qEZ h h1 h2
 | none::r,n,m,Z,h,h1,h2=>by
  rw [qCC]
  show Pat _ (Z++(X++rd X r))
  rw [← List.append_assoc]
  refine qBO X r (n+3) 0 (Z++X) h (fun d _ hd=>?_) (fun h3=>by lia)
  obtain rfl:d=0:=by lia
  exact ⟨Z++X,by simp⟩
 | some c::r,n,m,Z,h,h1,h2=>by
  unfold qA8 at h
  show Pat (dts n++c::wnt r) (Z++c::rd X r)
  by_cases hc:c=46
  · subst hc
    rw [if_pos rfl] at h
    rw [qCE,show Z++46::rd X r=(Z++[46])++rd X r by simp]
    refine qBO X r (n+1) (m+1) (Z++[46]) h (fun d hd2 hd=>?_) (fun h3=>?_)
    · cases d with
      | zero=>exact ⟨Z++[46],by simp⟩
      | succ d =>
       obtain ⟨x,e⟩:=h1 d (by exact Nat.le_of_succ_le ‹_›) (by exact Nat.le_of_succ_le_succ ‹_›)
       exact ⟨x,by rw [e,List.append_assoc]; simp [dts,List.replicate_succ']⟩
    · rw [h2 (by exact Nat.lt_of_succ_lt ‹_›)]; simp [dts,List.replicate_succ']
  · rw [if_neg hc] at h
    simp only [Bool.and_eq_true] at h
    rw [qJf hc]
    refine ⟨Z,rd X r,rfl,qEZ h.1 h1 h2,?_⟩
    have:=qBO X r 0 0 [] h.2 (fun d _ hd=>⟨[],(by obtain rfl:d=0:=Nat.le_zero.mp hd; rfl)⟩) (fun _=>rfl)
    exact this
noncomputable def solid (c:Nat):Bool:=decide (c≠46/\c≠33)
theorem qKN (W:List Nat):∀ t,Pat W t->W.countP solid≤t.countP solid:=by
 induction W using qAG.induct with
 | case1 r ih =>
  intro t h
  have h0:=qBW.mp h; clear h; obtain ⟨x,y,rfl,h⟩:=h0
  have:=ih y h
  simp only [List.countP_append,List.countP_cons,show solid 46=false from rfl,Bool.false_eq_true,if_false,Nat.add_zero]
  (exact Nat.le_trans ‹_› (Nat.le_add_left _ _))
 | case2 c r hc ih =>
  intro t h
  have h0:=(qAr hc).mp h; clear h; obtain ⟨y,rfl,h⟩:=h0
  have:=ih y h
  simp only [List.countP_cons]
  (exact Nat.add_le_add_right ‹_› _)
 | case3=>intro t h; simp
theorem qED {c:Nat} (hc:solid c=true) {B y:List Nat}:∀ (A A':List Nat),(∀ a∈A,solid a=false)->(∀ a∈A',solid a=false)->A++c::B=A'++c::y->A=A'/\B=y
 | [],[],_,_,e=>by simpa using e
 | [],a::A',_,h,e=>by
  simp only [List.nil_append,List.cons_append,List.cons.injEq] at e
  have:=h a List.mem_cons_self
  rw [← e.1,hc] at this; cases this
 | a::A,[],h,_,e=>by
  simp only [List.nil_append,List.cons_append,List.cons.injEq] at e
  have:=h a List.mem_cons_self
  rw [e.1,hc] at this; cases this
 | a::A,b::A',h,h',e=>by
  simp only [List.cons_append,List.cons.injEq] at e
  obtain ⟨rfl,e⟩:=e
  obtain ⟨rfl,rfl⟩:=qED hc A A' (fun x hx=>h x (List.mem_cons_of_mem _ hx)) (fun x hx=>h' x (List.mem_cons_of_mem _ hx)) e
  exact ⟨rfl,rfl⟩
theorem qEp {X Y:List Nat} (hX:∀ a∈X,solid a=false) (hY:∀ a∈Y,solid a=false):∀ tk:List Tk,(rd X tk).countP solid=(rd Y tk).countP solid
 | []=>rfl
 | none::r=>by
  simp only [rd,List.countP_append,qEp hX hY r]
  have e1:X.countP solid=0:=List.countP_eq_zero.mpr fun a ha=>by rw [hX a ha]; exact Bool.false_ne_true
  have e2:Y.countP solid=0:=List.countP_eq_zero.mpr fun a ha=>by rw [hY a ha]; exact Bool.false_ne_true
  rw [e1,e2]
 | some c::r=>by simp only [rd,List.countP_cons,qEp hX hY r]
theorem qE2 {x:List Nat} {d:Nat} (h:[]=x++dts d):d=0:=by
 have:=congrArg List.length h
 simp [dts] at this; lia
theorem qNE {Z x:List Nat} {d:Nat} (h:Z++[33]=x++dts d):d=0:=by
 cases d with
 | zero=>rfl
 | succ d =>
  have:dts (d+1)=dts d++[46]:=by simp [dts,List.replicate_succ']
  rw [this,← List.append_assoc] at h
  have:=(List.append_inj' h rfl).2
  cases this
theorem qNb {Z x:List Nat} {d:Nat} (h:Z++[46]=x++dts (d+1)):Z=x++dts d:=by
 have e:dts (d+1)=dts d++[46]:=by simp [dts,List.replicate_succ']
 rw [e,← List.append_assoc] at h
 exact (List.append_inj' h rfl).1
theorem qEm {n m:Nat} {Z:List Nat} (h:Run n Z) (h1:∀ d,d≤2->(∃ x,Z=x++dts d)->d≤m):okr n m=true:=by
 unfold okr
 rcases h with ⟨h,_⟩ | ⟨h,hx⟩
 · simp [h]
 · have:=h1 (n % 3) (by exact as23) hx
   simp [this]
theorem qBR {X X':List Nat} (hX:∀ a∈X,solid a=false) (hX':X=X'++[33]):∀ (tk:List Tk) (n m:Nat) (Z:List Nat),(∀ c,some c∈tk->c≠33)->(∀ a∈Z,solid a=false)->(∀ d,d≤2->(∃ x,Z=x++dts d)->d≤m) ->
 Pat (dts n++wnt tk) (Z++rd X tk)->qA8 tk n m=true
 | [],n,m,Z,h33,hZ,h1,h=>by
  have h:Pat (dts n++[]) (Z++[]):=h
  rw [List.append_nil,List.append_nil,qI0] at h
  exact qEm h h1
 | none::r,n,m,Z,h33,hZ,h1,h=>by
  rw [qCC] at h
  have h:Pat _ (Z++(X++rd X r)):=h
  rw [← List.append_assoc] at h
  refine qBR hX hX' r (n+3) 0 (Z++X) (fun c hc=>h33 c (List.mem_cons_of_mem _ hc)) (fun a ha=>?_) (fun d _ hd=>?_) h
  · rcases List.mem_append.mp ha with ha | ha
    · exact hZ a ha
    · exact hX a ha
  · obtain ⟨x,e⟩:=hd
    rw [hX',← List.append_assoc] at e
    rw [qNE e]; exact Nat.le_refl _
 | some c::r,n,m,Z,h33,hZ,h1,h=>by
  have h:Pat (dts n++c::wnt r) (Z++c::rd X r):=h
  unfold qA8
  by_cases hc:c=46
  · subst hc
    rw [if_pos rfl]
    rw [qCE,show Z++46::rd X r=(Z++[46])++rd X r by simp] at h
    refine qBR hX hX' r (n+1) (m+1) (Z++[46]) (fun c hc=>h33 c (List.mem_cons_of_mem _ hc)) (fun a ha=>?_) (fun d hd2 hd=>?_) h
    · rcases List.mem_append.mp ha with ha | ha
      · exact hZ a ha
      · rw [List.mem_singleton.mp ha]; rfl
    · obtain ⟨x,e⟩:=hd
      cases d with
      | zero=>(exact Nat.zero_le _)
      | succ d =>
       have:=h1 d (by exact Nat.le_of_succ_le ‹_›) ⟨x,qNb e⟩
       (exact Nat.succ_le_succ ‹_›)
  · rw [if_neg hc]
    rw [qJf hc] at h
    refine x23 h fun A y e hR hP=>?_
    have hcs:solid c=true:=by
     unfold solid
     exact decide_eq_true ⟨hc,h33 c List.mem_cons_self⟩
    have hs:=qKN _ _ hP
    have hrd:(wnt r).countP solid=(rd X r).countP solid:=qEp (by decide) hX r
    have hcount:=congrArg (List.countP solid) e
    rw [List.countP_append,List.countP_append,List.countP_cons,List.countP_cons,List.countP_eq_zero.mpr (fun a ha=>by rw [hZ a ha]; exact Bool.false_ne_true)] at hcount
    have hA:A.countP solid=0:=by lia
    clear hcount hrd hs h
    obtain ⟨rfl,rfl⟩:=qED hcs Z A hZ (fun a ha=>by have:=List.countP_eq_zero.mp hA a ha; simpa using this) e
    simp only [Bool.and_eq_true]
    refine ⟨qEm hR h1,qBR hX hX' r 0 0 [] (fun c hc=>h33 c (List.mem_cons_of_mem _ hc)) (fun a ha=>by cases ha) (fun d _ hd=>?_) hP⟩
    obtain ⟨x,e⟩:=hd
    rw [qE2 e]; exact Nat.le_refl _
theorem one46 {c:Nat} {r:List Nat} (hc:c≠46):∀ r',(46:Nat)=46->c::r=46::46::r'->False:=fun r' _ h=>by injection h with h1; exact hc h1
theorem two46 {c:Nat} {r:List Nat} (hc:c≠46):∀ r',(46:Nat)=46->46::c::r=46::46::r'->False:=fun r' _ h=>by injection h with _ h; injection h with h _; exact hc h
theorem nil46:∀ r',(46:Nat)=46->([]:List Nat)=46::46::r'->False:=by simp
theorem sing46:∀ r',(46:Nat)=46->[46]=46::46::r'->False:=by simp
theorem qKW {c:Nat} (hc:c≠46) (r:List Nat):∀ n,qAG (dts n++c::r)=dts (n % 3)++c::qAG r:=by
 intro n
 induction n using Nat.strongRecOn with
 | _ n ih =>
  match n,ih with
  | 0,_=>exact qAU (not3 hc)
  | 1,_=>show qAG (46::c::r)=46::c::qAG r; rw [qAU (one46 hc),qAU (not3 hc)]
  | 2,_=>show qAG (46::46::c::r)=46::46::c::qAG r; rw [qAU (two46 hc),qAU (one46 hc),qAU (not3 hc)]
  | n+3,ih=>rw [dots3,qA1,ih n (by lia),Nat.add_mod_right]
theorem qJW:∀ n,qAG (dts n)=dts (n % 3):=by
 intro n
 induction n using Nat.strongRecOn with
 | _ n ih =>
  match n,ih with
  | 0,_=>rfl
  | 1,_=>show qAG [46]=[46]; rw [qAU nil46]; rfl
  | 2,_=>show qAG [46,46]=[46,46]; rw [qAU sing46,qAU nil46]; rfl
  | n+3,ih =>
   have:=dots3 n []
   simp only [List.append_nil] at this
   rw [this,qA1,ih n (by lia),Nat.add_mod_right]
theorem qKa {c:Nat} (hc:c≠46) (r:List Nat) (g:Nat):∀ n,g∈qAn (dts n++c::r) ↔ (3≤n/\g=0)\/∃ g'∈qAn r,g=n % 3+1+g':=by
 intro n
 induction n using Nat.strongRecOn with
 | _ n ih =>
  match n,ih with
  | 0,_ =>
   show g∈qAn (c::r) ↔ _
   rw [qAj (not3 hc)]
   simp only [List.mem_map]
   constructor
   · clear ih hc
     rintro ⟨g',h,rfl⟩; exact Or.inr ⟨g',h,by exact Nat.add_comm _ _⟩
   · clear ih hc
     rintro (⟨h,_⟩ | ⟨g',h,rfl⟩)
     · lia
     · exact ⟨g',h,by exact Nat.add_comm _ _⟩
  | 1,_ =>
   show g∈qAn (46::c::r) ↔ _
   rw [qAj (one46 hc),qAj (not3 hc)]
   simp only [List.mem_map]
   constructor
   · clear ih hc
     rintro ⟨_,⟨g',h,rfl⟩,rfl⟩; exact Or.inr ⟨g',h,by lia⟩
   · rintro (⟨h,_⟩ | ⟨g',h,rfl⟩)
     · lia
     · exact ⟨g' + 1,⟨g',h,rfl⟩,by lia⟩
  | 2,_ =>
   show g∈qAn (46::46::c::r) ↔ _
   rw [qAj (two46 hc),qAj (one46 hc),qAj (not3 hc)]
   simp only [List.mem_map]
   constructor
   · clear ih hc
     rintro ⟨_,⟨_,⟨g',h,rfl⟩,rfl⟩,rfl⟩; exact Or.inr ⟨g',h,by lia⟩
   · rintro (⟨h,_⟩ | ⟨g',h,rfl⟩)
     · lia
     · exact ⟨g' + 1+1,⟨g' + 1,⟨g',h,rfl⟩,rfl⟩,by lia⟩
  | n+3,ih =>
   rw [dots3,qBj,List.mem_cons,ih n (by lia),Nat.add_mod_right]
   constructor
   · clear ih hc
     rintro (rfl | ⟨_,rfl⟩ | h)
     · exact Or.inl ⟨by exact Nat.le_add_left _ _,rfl⟩
     · exact Or.inl ⟨by exact Nat.le_add_left _ _,rfl⟩
     · exact Or.inr h
   · clear ih hc
     rintro (⟨_,rfl⟩ | h)
     · exact Or.inl rfl
     · exact Or.inr (Or.inr h)
theorem qFm (g:Nat):∀ n,g∈qAn (dts n) ↔ 3≤n/\g=0:=by
 intro n
 induction n using Nat.strongRecOn with
 | _ n ih =>
  match n,ih with
  | 0,_=>show g∈qAn [] ↔ _; rw [qAn]; simp
  | 1,_=>show g∈qAn [46] ↔ _; rw [qAj nil46,qAn]; simp
  | 2,_=>show g∈qAn [46,46] ↔ _; rw [qAj sing46,qAj nil46,qAn]; simp
  | n+3,ih =>
   have:=dots3 n []
   simp only [List.append_nil] at this
   rw [this,qBj,List.mem_cons,ih n (by lia)]
   constructor
   · clear this ih
     rintro (rfl | ⟨_,rfl⟩) <;> exact ⟨by exact Nat.le_add_left _ _,rfl⟩
   · clear this ih
     rintro ⟨_,rfl⟩; exact Or.inl rfl
noncomputable def Jr (run:List Bool) (m:Nat):Prop:=∀ d,d≤2->d≤run.length->(true∈run.drop (run.length-d) ↔ ¬ d≤m)
theorem Jr.up {run:List Bool} {m:Nat} (h:Jr run m):Jr (run++[false]) (m+1):=by
 intro d h2 hl
 cases d with
 | zero=>simp
 | succ d =>
  simp only [List.length_append,List.length_cons,List.length_nil] at hl ⊢
  have:=h d (by exact Nat.le_of_succ_le ‹_›) (by exact Nat.le_of_succ_le_succ ‹_›)
  rw [show run.length+(0+1)-(d+1)=run.length-d by lia,List.drop_append_of_le_length (by exact Nat.sub_le _ _)]
  simp only [List.mem_append,List.mem_cons,List.not_mem_nil,or_false,Bool.true_eq_false]
  rw [this]; lia
theorem Jr.gap (run:List Bool):Jr (run++[true,true,true]) 0:=by
 intro d h2 hl
 rw [show (run++[true,true,true]).length-d=run.length+(3-d) by simp; (exact ar16 ‹_›),← List.drop_drop,List.drop_left]
 match d,h2 with
 | 0,_=>simp
 | 1,_=>simp
 | 2,_=>simp
theorem Jr.okr {run:List Bool} {m:Nat} (h:Jr run m):(if run.length>2 then !decide (true∈run.drop (run.length-run.length % 3)) else true)=okr run.length m:=by
 unfold Mine.okr
 by_cases h3:run.length>2
 · rw [if_pos h3]
   have:=h (run.length % 3) (by exact as23) (by exact as24)
   have h3':¬ run.length<3:=by exact as22 ‹_›
   by_cases hm:run.length % 3≤m
   · simp [this,hm]
   · simp [this,hm,h3']
 · rw [if_neg h3]
   have:run.length<3:=by exact as21 ‹_›
   simp [this]
theorem qBK (s:Shape) (b:Bool):qAE s ([46],b)={ s with run:=s.run++[b] }:=by unfold qAE; rw [if_pos rfl]
theorem qB3 (s:Shape) (p:List Nat) (b:Bool) (h:p≠[46]) {m:Nat} (hJ:Jr s.run m):qAE s (p,b)=⟨s.joined++dts (s.run.length % 3)++p,(if s.run.length>2 then s.gaps++[s.joined.length] else s.gaps),(s.keeps && okr s.run.length m),[]⟩:=by
 unfold qAE
 rw [if_neg h,← hJ.okr]
 congr 1
 split <;> simp
theorem Jr.nil:Jr [] 0:=by
 intro d h2 hl
 have:d=0:=by simpa using hl
 clear hl h2
 subst this; simp
set_option tactic.hygienic true in
theorem qDS:∀ (tk:List Tk) (s:Shape) (m:Nat),Jr s.run m ->
 ((lts tk++[([],false)]).foldl qAE s).keeps=(s.keeps && qA8 tk s.run.length m) /\
 ((lts tk++[([],false)]).foldl qAE s).joined=s.joined++qAG (dts s.run.length++wnt tk) /\
 (∀ g,g∈((lts tk++[([],false)]).foldl qAE s).gaps ↔ g∈s.gaps\/∃ g'∈qAn (dts s.run.length++wnt tk),g=s.joined.length+g')
 | [],s,m,hJ=>by
  have e:(lts []++[([],false)]).foldl qAE s=⟨s.joined++dts (s.run.length % 3)++[],(if s.run.length>2 then s.gaps++[s.joined.length] else s.gaps),(s.keeps && okr s.run.length m),[]⟩:=qB3 s [] false (by simp) hJ
  have e0:dts s.run.length++wnt []=dts s.run.length:=by simp [wnt,rd]
  rw [e,e0,qJW]
  refine ⟨rfl,by simp,fun g=>?_⟩
  dsimp only
  split
  · rename_i h
    simp only [List.mem_append,List.mem_singleton,qFm]
    constructor
    · rintro (h1 | rfl)
      · exact Or.inl h1
      · exact Or.inr ⟨0,⟨by lia,rfl⟩,rfl⟩
    · rintro (h1 | ⟨g',⟨_,rfl⟩,rfl⟩)
      · exact Or.inl h1
      · exact Or.inr rfl
  · rename_i h
    simp only [qFm]
    constructor
    · intro h1; exact Or.inl h1
    · rintro (h1 | ⟨g',⟨h2,_⟩,_⟩)
      · exact h1
      · lia
 | none::r,s,m,hJ=>by
  have e:(lts (none::r)++[([],false)]).foldl qAE s=(lts r++[([],false)]).foldl qAE { s with run:=s.run++[true,true,true] }:=by
   show (lts r++[([],false)]).foldl qAE (qAE (qAE (qAE s ([46],true)) ([46],true)) ([46],true))=_
   rw [qBK,qBK,qBK]
   simp
  rw [e]
  refine x03 (qDS r { s with run:=s.run++[true,true,true] } 0 (Jr.gap _)) fun h1 h2 h3=>?_
  have hl:(s.run++[true,true,true]).length=s.run.length+3:=by simp
  dsimp only at h1 h2 h3
  rw [hl] at h1 h2 h3
  rw [qCC]
  exact ⟨h1,h2,h3⟩
 | some c::r,s,m,hJ=>by
  have e:(lts (some c::r)++[([],false)]).foldl qAE s=(lts r++[([],false)]).foldl qAE (qAE s ([c],false)):=rfl
  have e0:dts s.run.length++wnt (some c::r)=dts s.run.length++c::wnt r:=rfl
  rw [e,e0]
  by_cases hc:c=46
  · clear e0 e
    subst hc
    rw [qBK]
    refine x03 (qDS r { s with run:=s.run++[false] } (m+1) hJ.up) fun h1 h2 h3=>?_
    have hl:(s.run++[false]).length=s.run.length+1:=by simp
    dsimp only at h1 h2 h3
    rw [hl] at h1 h2 h3
    rw [qCE]
    unfold qA8
    rw [if_pos rfl]
    exact ⟨h1,h2,h3⟩
  · rw [qB3 s [c] false (by simpa using hc) hJ]
    refine x03 (qDS r ⟨s.joined++dts (s.run.length % 3)++[c],(if s.run.length>2 then s.gaps++[s.joined.length] else s.gaps),(s.keeps && okr s.run.length m),[]⟩ 0 Jr.nil) fun h1 h2 h3=>?_
    dsimp only at h1 h2 h3
    unfold qA8
    rw [if_neg hc]
    refine ⟨by rw [h1,Bool.and_assoc]; rfl,?_,fun g=>?_⟩
    · rw [h2,qKW hc]; simp
    · rw [h3]
      simp only [qKa hc]
      have hz:(dts ([]:List Bool).length++wnt r)=wnt r:=rfl
      rw [hz]
      have hlen:(s.joined++dts (s.run.length % 3)++[c]).length=s.joined.length+s.run.length % 3+1:=by simp [dts]; (exact (Nat.add_assoc _ _ _).symm)
      rw [hlen]
      constructor
      · rintro (h | ⟨g',hg',rfl⟩)
        · split at h
          · rename_i hn
            rcases List.mem_append.mp h with h | h
            · exact Or.inl h
            · rw [List.mem_singleton.mp h]; exact Or.inr ⟨0,Or.inl ⟨by lia,rfl⟩,rfl⟩
          · exact Or.inl h
        · exact Or.inr ⟨_,Or.inr ⟨g',hg',rfl⟩,by lia⟩
      · clear hlen hz h3 h2 h1 hc e0 e hJ
        rintro (h | ⟨g',(⟨hn,rfl⟩ | ⟨g2,hg2,rfl⟩),rfl⟩)
        · left; split
          · exact List.mem_append_left _ h
          · exact h
        · left; rw [if_pos (by lia)]; simp
        · right; exact ⟨g2,hg2,by lia⟩
theorem qLg (tk:List Tk):(qAo (lts tk)).keeps=qA8 tk 0 0/\(qAo (lts tk)).joined=qAG (wnt tk)/\∀ g,g∈(qAo (lts tk)).gaps ↔ g∈qAn (wnt tk):=by
 refine x03 (qDS tk ⟨[],[],true,[]⟩ 0 Jr.nil) fun h1 h2 h3=>?_
 refine ⟨by unfold qAo; rw [h1]; rfl,by unfold qAo; rw [h2]; rfl,fun g=>?_⟩
 unfold qAo
 rw [h3]
 have hz:(dts ([]:List Bool).length++wnt tk)=wnt tk:=rfl
 dsimp only
 rw [hz]
 constructor
 · rintro (h | ⟨g',h,rfl⟩)
   · cases h
   · simpa using h
 · intro h; exact Or.inr ⟨g,h,by simp⟩
theorem qEK (l:List Lt) (s:Shape):(l.foldl qAE s).gaps.length≤s.gaps.length+l.length:=by
 induction l generalizing s with
 | nil=>simp
 | cons p l ih =>
  have:=ih (qAE s p)
  have h2:=(qCe s p).2.1
  simp only [List.foldl_cons,List.length_cons]; (exact au31 ‹_› ‹_›)
noncomputable def qBb (p:It):Bool:=decide (p.1=[46])
noncomputable def lead:List It->Nat
 | []=>0
 | p::r=>if qBb p=true then lead r+1 else 0
inductive Grp:List It->List (Option It)->Prop
 | nil:Grp [] []
 | tri {p q s r g}:qBb p=true->qBb q=true->qBb s=true->Grp r g->Grp (p::q::s::r) (none::g)
 | one {p r g}:lead (p::r)<3->Grp r g->Grp (p::r) (some p::g)
theorem Grp.ex:∀ (n:Nat) (l:List It),l.length≤n->∃ g,Grp l g
 | _,[],_=>⟨[],.nil⟩
 | 0,_::_,h=>by simp at h
 | n+1,p::r,h=>by
  by_cases hl:lead (p::r)<3
  · obtain ⟨g,hg⟩:=Grp.ex n r (by simpa using h)
    exact ⟨_,.one hl hg⟩
  · match r,h,hl with
    | [],h,hl=>exfalso; apply hl; unfold lead lead; split <;> decide
    | [q],h,hl=>exfalso; apply hl; unfold lead lead lead; split; split <;> lia; decide
    | q::s::r,h,hl =>
     have h1:qBb p=true:=by
      cases e:qBb p with
      | true=>rfl
      | false=>exfalso; apply hl; unfold lead; simp [e]
     have h2:qBb q=true:=by
      cases e:qBb q with
      | true=>rfl
      | false=>exfalso; apply hl; unfold lead lead; simp [e,h1]
     have h3:qBb s=true:=by
      cases e:qBb s with
      | true=>rfl
      | false=>exfalso; apply hl; unfold lead lead lead; simp [e,h1,h2]
     obtain ⟨g,hg⟩:=Grp.ex n r (by simp at h ⊢; lia)
     exact ⟨_,.tri h1 h2 h3 hg⟩
noncomputable def mks:List (Option It)->List Bool
 | []=>[]
 | none::g=>[true,true,true]++mks g
 | some _::g=>false::mks g
noncomputable def fil (fl:List It):List (Option It)->List It
 | []=>[]
 | none::g=>fl++fil fl g
 | some p::g=>p::fil fl g
theorem qBU {s:List Bool×Nat} {p:It} (h:qBb p=true):qAc s p=if (s.2+1) % 3=0 then ((s.1++[false]).take (s.1.length-2)++[true,true,true],s.2+1) else (s.1++[false],s.2+1):=by
 unfold qAc; rw [if_pos (of_decide_eq_true h)]
theorem qFs {s:List Bool×Nat} {p:It} (h:qBb p=false):qAc s p=(s.1++[false],0):=by
 unfold qAc; rw [if_neg (of_decide_eq_false h)]
theorem qJQ {l:List It} {g:List (Option It)} (G:Grp l g):∀ (ms:List Bool) (run:Nat),(run % 3=0\/run % 3+lead l<3)->(l.foldl qAc (ms,run)).1=ms++mks g:=by
 induction G with
 | nil=>intro ms run h; simp [mks]
 | @tri p q s r g hp hq hs G ih =>
  intro ms run h
  have h0:run % 3=0:=by
   rcases h with h | h
   · exact h
   · unfold lead lead lead at h; simp [hp,hq,hs] at h; lia
  simp only [List.foldl_cons]
  rw [qBU hp,if_neg (by dsimp only; (exact as26 ‹_›)),qBU hq,if_neg (by dsimp only; (exact as27 ‹_›)),qBU hs,if_pos (by dsimp only; (exact as28 ‹_›))]
  have e:(ms++[false]++[false]++[false]).take ((ms++[false]++[false]).length-2)=ms:=by simp
  dsimp only
  rw [e,ih _ _ (Or.inl (by exact as28 ‹_›))]
  simp [mks]
 | @one p r g hl G ih =>
  intro ms run h
  simp only [List.foldl_cons]
  cases hp:qBb p with
  | true =>
   have hl':lead (p::r)=lead r+1:=by rw [lead,if_pos hp]
   rw [hl'] at hl h
   rw [qBU hp,if_neg (at2 h),ih _ _ (at3 hl h)]
   simp [mks]
  | false =>
   rw [qFs hp,ih _ _ (Or.inl rfl)]
   simp [mks]
theorem qG0 {l:List It} {g:List (Option It)} (G:Grp l g):qDt l=mks g:=by
 have:=qJQ G [] 0 (Or.inl rfl)
 simpa [qDt] using this
theorem qIy {l:List It} {g:List (Option It)} (G:Grp l g):(mks g).length=l.length:=by
 induction G with
 | nil=>rfl
 | tri _ _ _ _ ih=>simp [mks,ih]
 | one _ _ ih=>simp [mks,ih]
theorem qLA {l:List It} {g:List (Option It)} (G:Grp l g) (fl:List It):∀ (made:List It) (met:Nat),met % 3=0->(((mks g).zip l).foldl (qAM fl) (made,met)).1=made++fil fl g:=by
 induction G with
 | nil=>intro made met h; simp [mks,fil]
 | @tri p q s r g hp hq hs G ih =>
  intro made met h
  show (((mks g).zip r).foldl (qAM fl) (qAM fl (qAM fl (qAM fl (made,met) (true,p)) (true,q)) (true,s))).1=_
  have e1:qAM fl (made,met) (true,p)=(made,met+1):=by unfold qAM; rw [if_pos rfl,if_neg (by dsimp only; (exact as26 ‹_›))]; simp
  have e2:qAM fl (made,met+1) (true,q)=(made,met+2):=by unfold qAM; rw [if_pos rfl,if_neg (by dsimp only; (exact as27 ‹_›))]; simp
  have e3:qAM fl (made,met+2) (true,s)=(made++fl,met+3):=by unfold qAM; rw [if_pos rfl,if_pos (by dsimp only; (exact as28 ‹_›))]
  rw [e1,e2,e3,ih _ _ (by exact as28 ‹_›)]
  simp [fil]
 | @one p r g hl G ih =>
  intro made met h
  show (((mks g).zip r).foldl (qAM fl) (qAM fl (made,met) (false,p))).1=_
  have e1:qAM fl (made,met) (false,p)=(made++[p],met):=by unfold qAM; simp
  rw [e1,ih _ _ h]
  simp [fil]
theorem qDI {l:List It} {g:List (Option It)} (G:Grp l g) (fl:List It):qBz l (mks g) fl=fil fl g:=by
 have:=qLA G fl [] 0 rfl
 simpa [qBz] using this
theorem qF7 (g:Bool) (ls:List Lt) (lost kept:Nat) (x:It×Bool):qAd g (ls,lost,kept) x=(match qAd g ([],lost,kept) x with
 | .inl s=>.inl (ls++s.1,s.2)
 | .inr o=>.inr (ls++o)):=by
 unfold qAd
 dsimp only
 split
 · simp
 · split
   · simp
   · split
     · simp
     · simp
theorem qHy (g:Bool):∀ (l:List (It×Bool)) (ls:List Lt) (lost kept:Nat),qAu g l (ls,lost,kept)=ls++qAu g l ([],lost,kept):=by
 intro L9
 induction L9 with
 | nil =>
  intro ls lost kept
  simp [qAu]
 | cons x r ih9 =>
  intro ls lost kept
  rw [qAu,qAu,qF7]
  cases h:qAd g ([],lost,kept) x with
  | inl s =>
   clear h
   obtain ⟨s1,s2,s3⟩:=s
   dsimp only
   rw [ih9 (ls++s1),ih9 s1,List.append_assoc]
  | inr o=>rfl
noncomputable def sg (l:List Lt):List Nat:=(l.map (·.1)).flatten
theorem qAV (a b:List Lt):sg (a++b)=sg a++sg b:=by simp [sg]
theorem qDV (n:Nat):sg (bk n)=List.replicate n 92:=by
 induction n with
 | zero=>rfl
 | succ n ih=>rw [bk,List.replicate_succ]; show [92]++sg (bk n)=_; rw [ih]; rfl
theorem qCW (f:List Nat) (m:Bool):sg (f.map fun c=>([c],m))=f:=by
 induction f with
 | nil=>rfl
 | cons c f ih=>show [c]++sg (f.map fun c=>([c],m))=_; rw [ih]; rfl
noncomputable def qAg (f:List Nat):Bool:=Infix (f.take 1) [10,9,13,32]
noncomputable def lgo (g:Bool) (l:List (It×Bool)) (lost kept:Nat):List Lt:=qAu g l ([],lost,kept)
theorem qCx (g:Bool) (lost kept:Nat):lgo g [] lost kept=bk (kept+lost / 2):=by simp [lgo,qAu]
theorem qBI {g:Bool} {p:It} {m:Bool} (h:p.2=[]) (r:List (It×Bool)) (lost kept:Nat):lgo g ((p,m)::r) lost kept=lgo g r (lost+(if g=true then 1 else 0)) kept:=by
 unfold lgo; rw [qAu]; unfold qAd; simp only [h,if_true]
theorem qBJ {g:Bool} {p:It} {m:Bool} (h:p.2≠[]) (h1:p.1=[92]) (r:List (It×Bool)) (lost kept:Nat):lgo g ((p,m)::r) lost kept=lgo g r lost (kept+1):=by
 unfold lgo; rw [qAu]; unfold qAd; simp only [h,h1,if_true,if_false]
theorem qCR {g:Bool} {p:It} {m:Bool} (h:p.2≠[]) (h1:p.1≠[92]) {lost:Nat} (hc:qAg p.2=true/\lost % 2=1) (r:List (It×Bool)) (kept:Nat):lgo g ((p,m)::r) lost kept=bk (kept+(lost+1) / 2):=by
 unfold lgo; rw [qAu]; unfold qAd
 unfold qAg at hc
 simp only [h,h1,if_false]
 rw [if_pos hc]; simp
theorem qBT {g:Bool} {p:It} {m:Bool} (h:p.2≠[]) (h1:p.1≠[92]) {lost:Nat} (hc:¬ (qAg p.2=true/\lost % 2=1)) (r:List (It×Bool)) (kept:Nat) :
 lgo g ((p,m)::r) lost kept=bk (kept+(lost+1) / 2)++(p.2.map (fun c=>([c],m))++lgo g r 0 0):=by
 unfold lgo; rw [qAu]; unfold qAd
 unfold qAg at hc
 simp only [h,h1,if_false]
 rw [if_neg hc]
 dsimp only
 rw [qHy]; simp
noncomputable def zf (l:List It):List (It×Bool):=l.map fun p=>(p,false)
theorem qOJ (l:List It):l.zip (List.replicate l.length false)=zf l:=by
 induction l with
 | nil=>rfl
 | cons p l ih=>rw [List.length_cons,List.replicate_succ,List.zip_cons_cons,ih]; rfl
noncomputable def Tight (g:Bool) (fl:List It) (X:List Nat):Prop:=∀ rest lost kept,sg (lgo g (zf (fl++rest)) lost kept)=List.replicate (kept+(lost+1) / 2) 92++X++sg (lgo g (zf rest) 0 0)
theorem qHX (n:Nat) (tk:List Tk):lts (List.replicate n (some 92)++tk)=bk n++lts tk:=by
 induction n with
 | zero=>rfl
 | succ n ih=>rw [List.replicate_succ,List.cons_append,lts,ih,bk,bk,List.replicate_succ]; rfl
theorem qLG (X:List Nat) (n:Nat) (tk:List Tk):rd X (List.replicate n (some 92)++tk)=List.replicate n 92++rd X tk:=by
 induction n with
 | zero=>rfl
 | succ n ih=>rw [List.replicate_succ,List.cons_append,rd,ih,List.replicate_succ]; rfl
theorem qMj (f:List Nat) (tk:List Tk):lts (f.map some++tk)=f.map (fun c=>([c],false))++lts tk:=by
 induction f with
 | nil=>rfl
 | cons c f ih=>rw [List.map_cons,List.cons_append,lts,ih]; rfl
theorem qN0 (X:List Nat) (f:List Nat) (tk:List Tk):rd X (f.map some++tk)=f++rd X tk:=by
 induction f with
 | nil=>rfl
 | cons c f ih=>rw [List.map_cons,List.cons_append,rd,ih]; rfl
structure WI (p:It):Prop where
 dot:p.1=[46]->p.2=[46]
 bs:p.1=[92]->p.2=[92]
 no33:∀ d∈p.2,d≠33
theorem tokens {g:Bool} {l:List It} {gr:List (Option It)} (G:Grp l gr):(∀ p∈l,WI p)->∀ lost kept,∃ tk:List Tk,lgo g (l.zip (mks gr)) lost kept=lts tk/\(∀ fl X,Tight g fl X->sg (lgo g (zf (fil fl gr)) lost kept)=rd X tk)/\∀ c,some c∈tk->c≠33:=by
 induction G with
 | nil =>
  intro _ lost kept
  refine ⟨List.replicate (kept+lost / 2) (some 92)++[],?_,fun fl X _=>?_,fun c hc=>?_⟩
  · rw [qHX]; show lgo g [] lost kept=_; rw [qCx]; simp [lts]
  · rw [qLG]; show sg (lgo g [] lost kept)=_; rw [qCx,qDV]; simp [rd]
  · rw [List.append_nil] at hc
    cases List.eq_of_mem_replicate hc; decide
 | @tri p q s r gr hp hq hs G ih =>
  intro hW lost kept
  have wp:=hW p (by simp)
  have wq:=hW q (by simp)
  have ws:=hW s (by simp)
  have p2:=wp.dot (of_decide_eq_true hp)
  have q2:=wq.dot (of_decide_eq_true hq)
  have s2:=ws.dot (of_decide_eq_true hs)
  have n92:∀ x:It,qBb x=true->x.1≠[92]:=fun x hx e=>by have:=of_decide_eq_true hx; rw [e] at this; cases this
  have nb:qAg [46]=false:=by decide +kernel
  refine x13 (ih (fun x hx=>hW x (by simp [hx])) 0 0) fun tk h1 h2 h3=>?_
  refine ⟨List.replicate (kept+(lost+1) / 2) (some 92)++none::tk,?_,fun fl X T=>?_,fun c hc=>?_⟩
  · rw [qHX]
    show lgo g ((p,true)::(q,true)::(s,true)::r.zip (mks gr)) lost kept=_
    rw [qBT (by rw [p2]; simp) (n92 p hp) (by rw [p2,nb]; simp),qBT (by rw [q2]; simp) (n92 q hq) (by rw [q2,nb]; simp),qBT (by rw [s2]; simp) (n92 s hs) (by rw [s2,nb]; simp),h1,p2,q2,s2]
    rfl
  · rw [qLG]
    show sg (lgo g (zf (fl++fil fl gr)) lost kept)=_
    rw [T,h2 fl X T,rd,List.append_assoc]
  · rcases List.mem_append.mp hc with hc | hc
    · cases List.eq_of_mem_replicate hc; decide
    · rcases List.mem_cons.mp hc with hc | hc
      · cases hc
      · exact h3 c hc
 | @one p r gr hl G ih =>
  intro hW lost kept
  have wp:=hW p (by simp)
  have hW':∀ x∈r,WI x:=fun x hx=>hW x (by simp [hx])
  have eL:(p::r).zip (mks (some p::gr))=(p,false)::r.zip (mks gr):=rfl
  have eF:∀ fl,zf (fil fl (some p::gr))=(p,false)::zf (fil fl gr):=fun _=>rfl
  by_cases h0:p.2=[]
  · refine x13 (ih hW' (lost+(if g=true then 1 else 0)) kept) fun tk h1 h2 h3=>?_
    exact ⟨tk,by rw [eL,qBI h0,h1],fun fl X T=>by rw [eF,qBI h0,h2 fl X T],h3⟩
  · by_cases h9:p.1=[92]
    · refine x13 (ih hW' lost (kept+1)) fun tk h1 h2 h3=>?_
      exact ⟨tk,by rw [eL,qBJ h0 h9,h1],fun fl X T=>by rw [eF,qBJ h0 h9,h2 fl X T],h3⟩
    · by_cases hc:qAg p.2=true/\lost % 2=1
      · refine ⟨List.replicate (kept+(lost+1) / 2) (some 92)++[],?_,fun fl X _=>?_,fun c hc=>?_⟩
        · rw [qHX,eL,qCR h0 h9 hc]; simp [lts]
        · rw [qLG,eF,qCR h0 h9 hc,qDV]; simp [rd]
        · rw [List.append_nil] at hc
          cases List.eq_of_mem_replicate hc; decide
      · refine x13 (ih hW' 0 0) fun tk h1 h2 h3=>?_
        refine ⟨List.replicate (kept+(lost+1) / 2) (some 92)++(p.2.map some++tk),?_,fun fl X T=>?_,fun c hc=>?_⟩
        · rw [qHX,qMj,eL,qBT h0 h9 hc,h1]
        · rw [qLG,qN0,eF,qBT h0 h9 hc,qAV,qAV,qDV,qCW,h2 fl X T]
        · rcases List.mem_append.mp hc with hc | hc
          · cases List.eq_of_mem_replicate hc; decide
          · rcases List.mem_append.mp hc with hc | hc
            · refine x12 (List.mem_map.mp hc) fun d hd e=>?_
              cases e; exact wp.no33 _ hd
            · exact h3 c hc
theorem qGl (t:List Nat) (c:Nat) (r:List Nat):inQ t (c::r)=if c=34 then (t,r) else if c=92 then (match r with | []=>(t,[]) | d::r'=>inQ (t++[d]) r') else inQ (t++[c]) r:=by rw [inQ.eq_def] <;> rfl
theorem qEI (t:List Nat) (c:Nat) (r:List Nat):inB t (c::r)=if wsp c=true then (t,r) else if c=92 then (match r with | []=>(t,[]) | d::r'=>inB (t++[d]) r') else inB (t++[c]) r:=by rw [inB.eq_def] <;> rfl
theorem qCS (c:Nat) (r:List Nat):qAQ (c::r)=if wsp c=true then qAQ r else if c=34 then inQ [] r else if c=92 then (match r with | []=>([],[]) | d::r'=>inB [d] r') else inB [c] r:=by rw [qAQ.eq_def] <;> rfl
theorem qNx (a b:List It):zf (a++b)=zf a++zf b:=by simp [zf]
theorem qEx (g:Bool):Tight g [frIt] [33]:=by
 intro rest lost kept
 show sg (lgo g ((frIt,false)::zf rest) lost kept)=_
 rw [qBT (by simp [frIt]) (by simp [frIt]) (by rw [show qAg frIt.2=false from by decide +kernel]; simp),qAV,qDV,qAV,qCW]
 simp [frIt]
theorem between (g:Bool):∀ (l:List It) (lost kept:Nat),((∀ p∈l,p.2=[])\/(lost=0/\∀ p∈l,p.2≠[])) ->
 ∃ Y,(∀ rest,sg (lgo g (zf (l++frIt::rest)) lost kept)=Y++[33]++sg (lgo g (zf rest) 0 0))/\(lost=0->kept=0->(∀ p∈l,p.1=[46]/\p.2=[46])->∀ a∈Y,solid a=false):=by
 intro L9
 induction L9 with
 | nil =>
  intro lost kept _
  refine ⟨List.replicate (kept+(lost+1) / 2) 92,fun rest=>?_,fun h1 h2 _ a ha=>?_⟩
  · have:=qEx g rest lost kept
    exact this
  · subst h1 h2; cases ha
 | cons p l ih9 =>
  intro lost kept h
  show ∃ Y,(∀ rest,sg (lgo g ((p,false)::zf (l++frIt::rest)) lost kept)=_)/\_
  by_cases h0:p.2=[]
  · have h':∀ x∈l,x.2=[]:=by
     rcases h with h | h
     · exact fun x hx=>h x (List.mem_cons_of_mem _ hx)
     · exact absurd h0 (h.2 p List.mem_cons_self)
    obtain ⟨Y,hY,_⟩:=ih9 (lost+(if g=true then 1 else 0)) kept (Or.inl h')
    refine ⟨Y,fun rest=>by rw [qBI h0,hY],fun _ _ hd=>?_⟩
    have:=(hd p List.mem_cons_self).2
    rw [h0] at this; cases this
  · have h':lost=0/\∀ x∈l,x.2≠[]:=by
     rcases h with h | h
     · exact absurd (h p List.mem_cons_self) h0
     · exact ⟨h.1,fun x hx=>h.2 x (List.mem_cons_of_mem _ hx)⟩
    clear h
    obtain ⟨rfl,h'⟩:=h'
    by_cases h9:p.1=[92]
    · obtain ⟨Y,hY,_⟩:=ih9 0 (kept+1) (Or.inr ⟨rfl,h'⟩)
      refine ⟨Y,fun rest=>by rw [qBJ h0 h9,hY],fun _ _ hd=>?_⟩
      have:=(hd p List.mem_cons_self).1
      rw [h9] at this; cases this
    · obtain ⟨Y,hY,hs⟩:=ih9 0 0 (Or.inr ⟨rfl,h'⟩)
      refine ⟨List.replicate (kept+(0+1) / 2) 92++p.2++Y,fun rest=>?_,fun _ hk hd a ha=>?_⟩
      · rw [qBT h0 h9 (by simp),qAV,qDV,qAV,qCW,hY]; simp
      · subst hk
        rw [(hd p List.mem_cons_self).2] at ha
        simp only [List.mem_append] at ha
        rcases ha with (ha | ha) | ha
        · cases ha
        · rw [List.mem_singleton.mp ha]; rfl
        · exact hs rfl rfl (fun x hx=>hd x (List.mem_cons_of_mem _ hx)) a ha
theorem qH4 (g:Bool) (l:List It) (h:(∀ p∈l,p.2=[])\/∀ p∈l,p.2≠[]) :
 ∃ X,Tight g ([frIt]++l++[frIt]) X/\(∃ X',X=X'++[33])/\((∀ p∈l,p.1=[46]/\p.2=[46])->∀ a∈X,solid a=false):=by
 refine x12 (between g l 0 0 (by rcases h with h | h; exact Or.inl h; exact Or.inr ⟨rfl,h⟩)) fun Y hY hs=>?_
 refine ⟨[33]++Y++[33],fun rest lost kept=>?_,⟨[33]++Y,rfl⟩,fun hd a ha=>?_⟩
 · have e:[frIt]++l++[frIt]++rest=[frIt]++(l++frIt::rest):=by simp
   rw [e,qEx g,hY]; simp
 · simp only [List.mem_append,List.mem_singleton] at ha
   rcases ha with (rfl | ha) | rfl
   · rfl
   · exact hs rfl rfl hd a ha
   · rfl
theorem qLy (g:Bool):∀ (l:List (It×Bool)) (lost kept:Nat),sg (lgo g l lost kept)=sg (lgo g (zf (l.map (·.1))) lost kept):=by
 intro L9
 induction L9 with
 | nil =>
  intro lost kept
  exact rfl
 | cons p9 r ih9 =>
  obtain ⟨p,m⟩:=p9
  intro lost kept
  show _=sg (lgo g ((p,false)::zf (r.map (·.1))) lost kept)
  by_cases h0:p.2=[]
  · rw [qBI h0,qBI h0,ih9]
  · by_cases h9:p.1=[92]
    · rw [qBJ h0 h9,qBJ h0 h9,ih9]
    · by_cases hc:qAg p.2=true/\lost % 2=1
      · rw [qCR h0 h9 hc,qCR h0 h9 hc]
      · rw [qBT h0 h9 hc,qBT h0 h9 hc]
        simp only [qAV,qCW]
        rw [ih9]
theorem qBe (l:List It) (ms:List Bool) (g:Bool):qBi l ms g=lgo g (l.zip ms) 0 0:=rfl
theorem qCD (sc:List Int) (r:List It):qAe sc r=sg (lgo (qAA sc) (zf r) 0 0):=by
 unfold qAe; rw [qBe,qOJ]; rfl
noncomputable def qCT (r:List It):List Nat:=(r.map fun p=>(if p.1=[34]\/p.1=[92] then [92] else [])++p.2).flatten
noncomputable def qBs (r:List It):List Nat:=(r.map fun p=>92::p.2).flatten
noncomputable def folds (r:List It):List Nat:=(r.map (·.2)).flatten
structure WR (p:It):Prop where
 quo:p.1=[34]->p.2=[34]
 bs:p.1=[92]->p.2=[92]
 no:p.1≠[34]->p.1≠[92]->∀ d∈p.2,d≠34/\d≠92
 tail:∀ d∈p.2.tail,wsp d=false
theorem qJm (f:List Nat) (hf:∀ d∈f,d≠34/\d≠92) (t rest:List Nat):inQ t (f++rest)=inQ (t++f) rest:=by
 induction f generalizing t with
 | nil=>simp
 | cons d f ih =>
  have h:=hf d List.mem_cons_self
  rw [List.cons_append,qGl,if_neg h.1,if_neg h.2,ih fun x hx=>hf x (List.mem_cons_of_mem _ hx)]
  simp
theorem qK8:∀ (r:List It),(∀ p∈r,WR p)->∀ t,inQ t (qCT r++[34])=(t++folds r,[]):=by
 intro L9
 induction L9 with
 | nil =>
  intro _ t
  simp [qCT,folds,inQ]
 | cons p r ih9 =>
  intro h t
  have ih:=ih9 fun x hx=>h x (List.mem_cons_of_mem _ hx)
  have w:=h p List.mem_cons_self
  have e:qCT (p::r)++[34]=((if p.1=[34]\/p.1=[92] then [92] else [])++p.2)++(qCT r++[34]):=by simp [qCT]
  have ef:folds (p::r)=p.2++folds r:=by simp [folds]
  rw [e,ef]
  by_cases h3:p.1=[34]
  · rw [if_pos (Or.inl h3),w.quo h3]
    show inQ t (92::34::(qCT r++[34]))=_
    rw [qGl,if_neg (by decide),if_pos rfl]
    show inQ (t++[34]) _=_
    rw [ih]; simp
  · by_cases h9:p.1=[92]
    · rw [if_pos (Or.inr h9),w.bs h9]
      show inQ t (92::92::(qCT r++[34]))=_
      rw [qGl,if_neg (by decide),if_pos rfl]
      show inQ (t++[92]) _=_
      rw [ih]; simp
    · rw [if_neg (by simp [h3,h9]),List.nil_append,qJm _ (w.no h3 h9),ih]; simp
theorem qJ7:∀ (r:List It),(∀ p∈r,WR p)->∀ kept,sg (lgo false (zf r) 0 kept)=List.replicate kept 92++folds r:=by
 intro L9
 induction L9 with
 | nil =>
  intro _ kept
  show sg (lgo false [] 0 kept)=_; rw [qCx,qDV]; simp [folds]
 | cons p r ih9 =>
  intro h kept
  have ih:=ih9 fun x hx=>h x (List.mem_cons_of_mem _ hx)
  have w:=h p List.mem_cons_self
  have ef:folds (p::r)=p.2++folds r:=by simp [folds]
  show sg (lgo false ((p,false)::zf r) 0 kept)=_
  rw [ef]
  by_cases h0:p.2=[]
  · rw [qBI h0,h0]; exact ih kept
  · by_cases h9:p.1=[92]
    · rw [qBJ h0 h9,ih,w.bs h9,List.replicate_succ',List.append_assoc]
    · rw [qBT h0 h9 (by simp),qAV,qDV,qAV,qCW,ih]; simp
theorem qFz:∀ (n:Nat) (t rest:List Nat),inB t (List.replicate (2*n) 92++rest)=inB (t++List.replicate n 92) rest
 | 0,t,rest=>by simp
 | n+1,t,rest=>by
  have e:List.replicate (2*(n+1)) 92++rest=92::92::(List.replicate (2*n) 92++rest):=by
   rw [show 2*(n+1)=2*n+1+1 by lia,List.replicate_succ,List.replicate_succ]; rfl
  rw [e,qEI,if_neg (by decide),if_pos rfl]
  show inB (t++[92]) _=_
  rw [qFz n,List.append_assoc,← List.singleton_append,List.replicate_succ]; rfl
theorem qMh (n:Nat) (t:List Nat) (d:Nat) (rest:List Nat):inB t (List.replicate (2*n+1) 92++d::rest)=inB (t++List.replicate n 92++[d]) rest:=by
 have e:List.replicate (2*n+1) 92++d::rest=List.replicate (2*n) 92++(92::d::rest):=by
  rw [List.replicate_succ',List.append_assoc]; rfl
 rw [e,qFz,qEI,if_neg (by decide),if_pos rfl]
theorem qMl (n:Nat) (t:List Nat):inB t (List.replicate n 92)=(t++List.replicate (n / 2) 92,[]):=by
 rcases Nat.mod_two_eq_zero_or_one n with h | h
 · have e:List.replicate n 92=List.replicate (2*(n / 2)) 92++[]:=by rw [show 2*(n / 2)=n by lia]; simp
   rw [e,qFz]; simp [inB]
 · have e:List.replicate n 92=List.replicate (2*(n / 2)) 92++[92]:=by rw [← List.replicate_succ',show 2*(n / 2)+1=n by exact as25 ‹_›]
   rw [e,qFz,qEI,if_neg (by decide),if_pos rfl]
theorem qKf (f:List Nat) (h9:∀ d∈f,d≠92) (hw:∀ d∈f,wsp d=false) (t rest:List Nat):inB t (f++rest)=inB (t++f) rest:=by
 induction f generalizing t with
 | nil=>simp
 | cons d f ih =>
  rw [List.cons_append,qEI,if_neg (by rw [hw d List.mem_cons_self]; exact Bool.false_ne_true),if_neg (h9 d List.mem_cons_self),ih (fun x hx=>h9 x (List.mem_cons_of_mem _ hx)) fun x hx=>hw x (List.mem_cons_of_mem _ hx)]
  simp
theorem qDA (c:Nat) (f:List Nat):qAg (c::f)=wsp c:=by
 have key:Infix [c] [10,9,13,32]=true ↔ wsp c=true:=by
  delta Infix wsp
  simp only [decide_eq_true_eq,List.length_cons,List.length_nil,Bool.or_eq_true,beq_iff_eq]
  constructor
  · refine fun h9=>x12 h9 fun i hi e=>?_
    match i,hi with
    | 0,_=>simp at e; lia
    | 1,_=>simp at e; lia
    | 2,_=>simp at e; lia
    | 3,_=>simp at e; lia
    | 4,_=>simp at e
  · rintro (((rfl | rfl) | rfl) | rfl)
    · exact ⟨0,by exact Nat.zero_le _,rfl⟩
    · exact ⟨1,by exact Nat.le_add_left _ _,rfl⟩
    · exact ⟨2,by exact Nat.le_add_left _ _,rfl⟩
    · exact ⟨3,by exact Nat.le_succ _,rfl⟩
 show Infix [c] [10,9,13,32]=_
 cases h:wsp c with
 | true=>exact key.mpr h
 | false =>
  cases h2:Infix [c] [10,9,13,32] with
  | true=>rw [key.mp h2] at h; cases h
  | false=>rfl
theorem qLM:∀ (r:List It),(∀ p∈r,WR p)->∀ (lost kept:Nat) (t:List Nat),(inB t (List.replicate (lost+2*kept) 92++qBs r)).1=t++sg (lgo true (zf r) lost kept):=by
 intro L9
 induction L9 with
 | nil =>
  intro _ lost kept t
  show (inB t (List.replicate (lost+2*kept) 92++[])).1=t++sg (lgo true [] lost kept)
  rw [List.append_nil,qMl,qCx,qDV,show (lost+2*kept) / 2=kept+lost / 2 by exact au7]
 | cons p r ih9 =>
  intro h lost kept t
  have hr:∀ x∈r,WR x:=fun x hx=>h x (List.mem_cons_of_mem _ hx)
  have ih:=ih9 hr
  have w:=h p List.mem_cons_self
  have e:List.replicate (lost+2*kept) 92++qBs (p::r)=List.replicate (lost+1+2*kept) 92++(p.2++qBs r):=by
   rw [show lost+1+2*kept=lost+2*kept+1 by lia,List.replicate_succ',List.append_assoc]
   simp [qBs]
  show _=t++sg (lgo true ((p,false)::zf r) lost kept)
  rw [e]
  by_cases h0:p.2=[]
  · rw [qBI h0,h0,List.nil_append,if_pos rfl]; exact ih (lost+1) kept t
  · by_cases h9:p.1=[92]
    · rw [qBJ h0 h9,w.bs h9]
      have e2:List.replicate (lost+1+2*kept) 92++([92]++qBs r)=List.replicate (lost+2*(kept+1)) 92++qBs r:=by
       rw [show lost+2*(kept+1)=lost+1+2*kept+1 by lia,List.replicate_succ' (n:=lost+1+2*kept),List.append_assoc]
      rw [e2]; exact ih lost (kept+1) t
    · obtain ⟨f0,f',hf⟩:∃ f0 f',p.2=f0::f':=List.exists_cons_of_ne_nil h0
      have hn92:∀ d∈p.2,d≠92:=fun d hd=>by
       by_cases h3:p.1=[34]
       · rw [w.quo h3] at hd; rw [List.mem_singleton.mp hd]; decide
       · exact (w.no h3 h9 d hd).2
      have hnw:∀ d∈f',wsp d=false:=fun d hd=>w.tail d (by rw [hf]; exact hd)
      have hf0:f0≠92:=hn92 f0 (by rw [hf]; exact List.mem_cons_self)
      have hf':∀ d∈f',d≠92:=fun d hd=>hn92 d (by rw [hf]; exact List.mem_cons_of_mem _ hd)
      have rest:∀ t',(inB t' (f'++qBs r)).1=t'++(f'++sg (lgo true (zf r) 0 0)):=fun t'=>by
       rw [qKf f' hf' hnw]
       have:=ih 0 0 (t'++f')
       simpa using this
      rw [hf,List.cons_append]
      rcases Nat.mod_two_eq_zero_or_one lost with hl | hl
      · rw [qBT h0 h9 (by lia),qAV,qDV,qAV,qCW,hf]
        rw [show lost+1+2*kept=2*(kept+(lost+1) / 2)+1 by exact au8 ‹_›,qMh,rest]
        simp
      · rw [show lost+1+2*kept=2*(kept+(lost+1) / 2) by exact au9 ‹_›,qFz]
        by_cases hb:wsp f0=true
        · rw [qCR h0 h9 ⟨by rw [hf,qDA,hb],hl⟩,qDV,qEI,if_pos hb]
        · rw [qBT h0 h9 (by rw [hf,qDA]; exact fun hh=>hb hh.1),qAV,qDV,qAV,qCW,hf,qEI,if_neg hb,if_neg hf0,rest]
          simp
theorem qKB (r:List It) (h:∀ p∈r,WR p):(qAQ (qBs r)).1=sg (lgo true (zf r) 0 0):=by
 have:=qLM r h 0 0 []
 simp only [Nat.mul_zero,Nat.add_zero,List.replicate_zero,List.nil_append] at this
 rw [← this]
 clear this h
 cases r with
 | nil=>rfl
 | cons p r =>
  have e:qBs (p::r)=92::(p.2++qBs r):=by simp [qBs]
  rw [e,qCS,qEI,if_neg (by decide),if_neg (by decide),if_pos rfl,if_neg (by decide),if_pos rfl]
  cases p.2++qBs r <;> rfl
theorem qKZ (r:List It) (h:∀ p∈r,WR p):(qAQ ([34]++qCT r++[34])).1=sg (lgo false (zf r) 0 0):=by
 show (qAQ (34::(qCT r++[34]))).1=_
 rw [qCS,if_neg (by decide),if_pos rfl,qK8 r h,qJ7 r h]; simp
theorem qA7 (c:Nat) (x:List Nat) (h:wsp c=true):qAQ (c::x)=qAQ x:=by rw [qCS,if_pos h]
theorem qLt (x:List Nat):qAQ ([34,92,67,67,34,67,67]++x)=([67,67],[67,67]++x):=by
 show qAQ (34::92::67::67::34::67::67::x)=_
 rw [qCS,if_neg (by decide),if_pos rfl,qGl,if_neg (by decide),if_pos rfl]
 show inQ ([]++[67]) (67::34::67::67::x)=_
 rw [qGl,if_neg (by decide),if_neg (by decide),qGl,if_pos rfl]; rfl
theorem qLH (x:List Nat):qAQ ([67,67]++10::x)=([67,67],x):=by
 show qAQ (67::67::10::x)=_
 rw [qCS,if_neg (by decide),if_neg (by decide),if_neg (by decide),qEI,if_neg (by decide),if_neg (by decide),qEI,if_pos (by decide)]; rfl
noncomputable def qIv (p:It):Bool:=match p.1 with
 | [c]=>decide (c<1114112) && (isB1 c == decide (p.2=[])) && (p.2.isEmpty || b3Of c == p.2) && (c != 46 || p.2 == [46]) && (c != 34 || p.2 == [34]) && (c != 92 || p.2 == [92]) &&
  (c == 34 || c == 92 || p.2.all fun d=>d != 34 && d != 92) && p.2.tail.all (fun d=>!wsp d) && decide (p.2.length≤8) && (decide (c<128) || qAb.any fun q=>q.1 == [c] && (isB1 c || !q.2.isEmpty))
 | _=>false
noncomputable def chkI (p:It):Bool:=qIv p && p.1 != [33] && p.2.all (· != 33)
set_option maxRecDepth 100000 in
theorem qOh:qAb.all chkI=true:=by decide +kernel
theorem qPG:qIv frIt=true:=by decide +kernel
structure ItOk (p:It) (c:Nat):Prop where
 one:p.1=[c]
 lt:c<1114112
 b1:isB1 c=decide (p.2=[])
 b3:p.2≠[]->b3Of c=p.2
 dot:c=46->p.2=[46]
 quo:c=34->p.2=[34]
 bs:c=92->p.2=[92]
 no:c≠34->c≠92->∀ d∈p.2,d≠34/\d≠92
 tail:∀ d∈p.2.tail,wsp d=false
 len:p.2.length≤8
 ok:isB1 c=false->okB3 c
set_option tactic.hygienic true in
theorem qDz {p:It} (h:qIv p=true):∃ c,ItOk p c:=by
 unfold qIv at h
 split at h
 · rename_i c hc
   simp only [Bool.and_eq_true,Bool.or_eq_true,decide_eq_true_eq,beq_iff_eq,bne_iff_ne,ne_eq,List.all_eq_true,Bool.not_eq_true',List.isEmpty_iff,List.any_eq_true] at h
   obtain ⟨⟨⟨⟨⟨⟨⟨⟨⟨h1,h2⟩,h3⟩,h4⟩,h5⟩,h6⟩,h7⟩,h8⟩,h9⟩,h10⟩:=h
   refine ⟨c,hc,h1,h2,fun hn=>h3.resolve_left hn,fun e=>h4.resolve_left (by simp [e]),fun e=>h5.resolve_left (by simp [e]),fun e=>h6.resolve_left (by simp [e]),fun n1 n2=>h7.resolve_left (by simp [n1,n2]),h8,h9,fun hb=>?_⟩
   rcases h10 with h | ⟨q,hq,h,h'⟩
   · exact Or.inl h
   · refine Or.inr ⟨q,hq,h,fun e=>?_⟩
     rcases h' with h' | h'
     · rw [hb] at h'; cases h'
     · rw [e] at h'; cases h'
 · cases h
noncomputable def Good (raw:Bool) (p:It):Prop:=∃ q,qIv q=true/\p=if raw=true then qCL q else q
theorem Good.one {raw:Bool} {p:It} (h:Good raw p):∃ c,p.1=[c]/\c<1114112:=by
 obtain ⟨q,hq,rfl⟩:=h
 obtain ⟨c,k⟩:=qDz hq
 cases raw
 · exact ⟨c,k.one,k.lt⟩
 · exact ⟨c,k.one,k.lt⟩
theorem Good.len {raw:Bool} {p:It} (h:Good raw p):p.2.length≤8:=by
 obtain ⟨q,hq,rfl⟩:=h
 obtain ⟨c,k⟩:=qDz hq
 cases raw
 · exact k.len
 · show q.1.length≤8; rw [k.one]; simp
theorem Good.wr {raw:Bool} {p:It} (h:Good raw p):WR p:=by
 obtain ⟨q,hq,rfl⟩:=h
 obtain ⟨c,k⟩:=qDz hq
 cases raw with
 | false =>
  have h1:=k.one
  refine ⟨fun e=>?_,fun e=>?_,fun e1 e2=>?_,k.tail⟩
  · exact k.quo (by rw [if_neg (by simp),h1] at e; simpa using e)
  · exact k.bs (by rw [if_neg (by simp),h1] at e; simpa using e)
  · rw [if_neg (by simp),h1] at e1 e2; exact k.no (by simpa using e1) (by simpa using e2)
 | true =>
  show WR (q.1,q.1)
  refine ⟨fun e=>e,fun e=>e,fun e1 e2 d hd=>?_,fun d hd=>?_⟩
  · rw [k.one] at e1 e2 hd
    rw [List.mem_singleton.mp hd]; exact ⟨by simpa using e1,by simpa using e2⟩
  · rw [k.one] at hd; cases hd
theorem qGu (raw:Bool):Good raw frIt:=⟨frIt,qPG,by cases raw <;> rfl⟩
theorem qGs {p:It} (h:p∈qAb):chkI p=true:=List.all_eq_true.mp qOh p h
theorem qEa {sc:List Int} {p:It} (h:p∈items0 sc):p∈qAb:=by
 unfold items0 qBn at h
 refine x12 (List.mem_flatten.mp h) fun l hl hp=>?_
 refine x12 (List.mem_map.mp hl) fun n _ eq2=>?_
 clear hl
 subst eq2
 exact qFQ n p hp
theorem qG2 {p:It} (h:chkI p=true):qIv p=true:=by
 unfold chkI at h; simp only [Bool.and_eq_true] at h; exact h.1.1
theorem qGA {l:List It} (h:∀ p∈l,p∈qAb) (raw:Bool):∀ p∈(if raw=true then l.map qCL else l),∃ q∈qAb,p=if raw=true then qCL q else q:=by
 intro p hp
 cases raw with
 | false=>exact ⟨p,h p hp,rfl⟩
 | true=>obtain ⟨q,hq,rfl⟩:=List.mem_map.mp hp; exact ⟨q,h q hq,rfl⟩
theorem qJc (sc:List Int):∀ p∈qAK sc,∃ q∈qAb,p=if qAy sc=true then qCL q else q:=qGA (fun p hp=>qEa hp) (qAy sc)
theorem qMS (sc:List Int):∀ p∈qAz sc,∃ q∈qAb,p=if qAy sc=true then qCL q else q:=qGA (fun p hp=>qFQ _ p hp) (qAy sc)
theorem qGL {raw:Bool} {p:It} (h:∃ q∈qAb,p=if raw=true then qCL q else q):Good raw p:=by
 obtain ⟨q,hq,e⟩:=h; exact ⟨q,qG2 (qGs hq),e⟩
theorem qJO {raw:Bool} {p:It} (h:∃ q∈qAb,p=if raw=true then qCL q else q):WI p:=by
 obtain ⟨q,hq,rfl⟩:=h
 have hc:=qGs hq
 obtain ⟨c,k⟩:=qDz (qG2 hc)
 unfold chkI at hc
 simp only [Bool.and_eq_true,bne_iff_ne,ne_eq,List.all_eq_true] at hc
 have h1:=k.one
 cases raw with
 | false =>
  refine ⟨fun e=>?_,fun e=>?_,fun d hd=>hc.2 d hd⟩
  · exact k.dot (by rw [if_neg (by simp),h1] at e; simpa using e)
  · exact k.bs (by rw [if_neg (by simp),h1] at e; simpa using e)
 | true =>
  show WI (q.1,q.1)
  refine ⟨fun e=>e,fun e=>e,fun d hd=>?_⟩
  rw [h1] at hd
  rw [List.mem_singleton.mp hd]
  intro e; subst e; exact hc.1.2 h1
noncomputable def qCU (t:List Nat):List Nat:=(qBC isB1 b3Of t).flatten
theorem qAi (a b:List Nat):qCU (a++b)=qCU a++qCU b:=by simp [qCU,qBC]
theorem qJp (c:Nat):qCU [c]=if isB1 c=true then [] else b3Of c:=by
 delta qCU qBC
 cases h:isB1 c <;> simp [h]
theorem qHN:qCU [92]=[92]:=by decide +kernel
theorem qLf:qCU [34]=[34]:=by decide +kernel
theorem qGi:qCU [10,9,13,32]=[10,9,13,32]:=by decide +kernel
theorem qHk {p:It} {c:Nat} (k:ItOk p c):qCU p.1=p.2:=by
 rw [k.one,qJp,k.b1]
 by_cases h:p.2=[]
 · rw [if_pos (decide_eq_true h),h]
 · rw [if_neg (by simp [h]),k.b3 h]
noncomputable def qDM (g:Bool) (r:List It):List Nat:=if g=true then qBs r else [34]++qCT r++[34]
theorem qE6 (sc:List Int) (r:List It) (h:∀ p∈r,Good (qAy sc) p):qBh sc r=[10,9,13,32]++qDM (qAA sc) r:=by
 delta qBh qAS qDM
 generalize qAA sc=g
 generalize qAy sc=raw at h
 cases raw with
 | true =>
  rw [if_pos rfl]
  congr 1
  have e:∀ l:List It,(∀ p∈l,Good true p)->(g=true->qAf g l=qBs l)/\(g=false->qAf g l=qCT l):=by
   intro l hl
   constructor
   · rintro rfl
     delta qAf qBs
     congr 1
     refine List.map_congr_left fun p hp=>?_
     obtain ⟨q,_,rfl⟩:=hl p hp
     rfl
   · rintro rfl
     delta qAf qCT
     congr 1
     refine List.map_congr_left fun p hp=>?_
     refine x12 (hl p hp) fun q _ eq2=>?_
     clear hp
     subst eq2
     simp [esc,qCL]
  cases g with
  | true=>rw [if_pos rfl,if_pos rfl,(e r h).1 rfl]
  | false=>rw [if_neg (by simp),if_neg (by simp),(e r h).2 rfl]
 | false =>
  rw [if_neg (by simp)]
  show qCU _=_
  rw [qAi,qGi]
  congr 1
  have e:∀ l:List It,(∀ p∈l,Good false p)->(g=true->qCU (qAf g l)=qBs l)/\(g=false->qCU (qAf g l)=qCT l):=by
   intro l hl
   induction l with
   | nil=>exact ⟨fun _=>rfl,fun _=>rfl⟩
   | cons p l ih =>
    obtain ⟨ih1,ih2⟩:=ih fun x hx=>hl x (List.mem_cons_of_mem _ hx)
    refine x12 (hl p List.mem_cons_self) fun q hq e=>?_
    rw [if_neg (by simp)] at e; subst e
    obtain ⟨c,k⟩:=qDz hq
    have et:qAf g (p::l)=esc g p++qAf g l:=by simp [qAf]
    constructor
    · intro hg
      rw [et,qAi,ih1 hg]
      clear et ih2 ih1 ih
      subst hg
      show qCU ([92]++p.1)++qBs l=_
      rw [qAi,qHN,qHk k]; simp [qBs]
    · intro hg
      rw [et,qAi,ih2 hg]
      clear et ih2 ih1 ih
      subst hg
      have:qCU (esc false p)=(if p.1=[34]\/p.1=[92] then [92] else [])++p.2:=by
       unfold esc
       rw [qAi,qHk k]
       simp only [Bool.false_eq_true,false_or]
       split
       · rw [qHN]
       · rfl
      rw [this]; simp [qCT]
  cases g with
  | true=>rw [if_pos rfl,if_pos rfl,(e r h).1 rfl]
  | false=>rw [if_neg (by simp),if_neg (by simp),qAi,qAi,qLf,(e r h).2 rfl]
theorem qHb (sc:List Int) (r:List It) (h:∀ p∈r,Good (qAy sc) p):(qAQ (qDM (qAA sc) r)).1=qAe sc r:=by
 rw [qCD]
 unfold qDM
 have hw:∀ p∈r,WR p:=fun p hp=>(h p hp).wr
 cases qAA sc with
 | true=>rw [if_pos rfl]; exact qKB r hw
 | false=>rw [if_neg (by simp)]; exact qKZ r hw
theorem qHR (sc:List Int) (r:List It) (h:∀ p∈r,Good (qAy sc) p):(qAQ (qBh sc r)).1=qAe sc r:=by
 rw [qE6 sc r h,← qHb sc r h]
 show (qAQ (10::9::13::32::_)).1=_
 rw [qA7 _ _ (by decide),qA7 _ _ (by decide),qA7 _ _ (by decide),qA7 _ _ (by decide)]
theorem qCp {α β:Type} (f:α->List β) (k:Nat):∀ (l:List α),(∀ a∈l,(f a).length≤k)->(l.map f).flatten.length≤k*l.length:=by
 intro L9
 induction L9 with
 | nil =>
  intro _
  simp
 | cons a l ih9 =>
  intro h
  have:=ih9 fun x hx=>h x (List.mem_cons_of_mem _ hx)
  have h2:=h a List.mem_cons_self
  rw [List.map_cons,List.flatten_cons,List.length_append,List.length_cons,Nat.mul_succ]; (exact ar55 ‹_› ‹_›)
theorem qFE (g:Bool):∀ (l:List (It×Bool)) (lost kept:Nat),(∀ x∈l,x.1.2.length≤8)->(lgo g l lost kept).length≤lost+kept+9*l.length
 | [],lost,kept,_=>by rw [qCx]; simp [bk]; (exact as44)
 | (p,m)::r,lost,kept,h=>by
  have h8:p.2.length≤8:=h (p,m) List.mem_cons_self
  have hr:∀ x∈r,x.1.2.length≤8:=fun x hx=>h x (List.mem_cons_of_mem _ hx)
  rw [List.length_cons]
  by_cases h0:p.2=[]
  · rw [qBI h0]
    have:=qFE g r (lost+(if g=true then 1 else 0)) kept hr
    split at this <;> simp_all <;> lia
  · by_cases h9:p.1=[92]
    · rw [qBJ h0 h9]
      have:=qFE g r lost (kept+1) hr
      (exact as47 ‹_›)
    · by_cases hc:qAg p.2=true/\lost % 2=1
      · rw [qCR h0 h9 hc]; simp [bk]; (exact au13)
      · rw [qBT h0 h9 hc]
        have:=qFE g r 0 0 hr
        simp [bk]; (exact au14 ‹_› ‹_›)
theorem qKR (g:Bool):∀ (l:List (It×Bool)) (lost kept:Nat),∀ x∈lgo g l lost kept,x.1.length≤1:=by
 intro L9
 induction L9 with
 | nil =>
  intro lost kept
  rw [qCx]; intro x hx; rw [List.eq_of_mem_replicate hx]; simp
 | cons p9 r ih9 =>
  obtain ⟨p,m⟩:=p9
  intro lost kept
  by_cases h0:p.2=[]
  · rw [qBI h0]; exact ih9 _ _
  · by_cases h9:p.1=[92]
    · rw [qBJ h0 h9]; exact ih9 _ _
    · by_cases hc:qAg p.2=true/\lost % 2=1
      · rw [qCR h0 h9 hc]; intro x hx; rw [List.eq_of_mem_replicate hx]; simp
      · rw [qBT h0 h9 hc]
        intro x hx
        rcases List.mem_append.mp hx with hx | hx
        · rw [List.eq_of_mem_replicate hx]; simp
        · rcases List.mem_append.mp hx with hx | hx
          · obtain ⟨c,_,rfl⟩:=List.mem_map.mp hx; simp
          · exact ih9 0 0 x hx
theorem qOK {l:List Lt} (h:∀ x∈l,x.1.length≤1):(sg l).length≤l.length:=by
 have:=qCp (fun x:Lt=>x.1) 1 l h
 simpa [sg] using this
theorem qJD (W:List Nat):(qAG W).length≤W.length:=by
 induction W using qAG.induct with
 | case1 r ih=>rw [qA1]; simp; lia
 | case2 c r hc ih=>rw [qAU hc]; simp; assumption
 | case3=>simp [qAG]
theorem qKK {l:List It} {g:List (Option It)} (G:Grp l g) (fl:List It):(fil fl g).length≤(fl.length+1)*l.length:=by
 induction G with
 | nil=>simp [fil]
 | tri _ _ _ _ ih=>simp only [fil,List.length_append,List.length_cons,Nat.mul_succ]; (exact au17 ‹_›)
 | one _ _ ih=>simp only [fil,List.length_cons,Nat.mul_succ]; (exact au16 ‹_›)
theorem qJt {l:List It} {g:List (Option It)} (G:Grp l g) (fl:List It):∀ p∈fil fl g,p∈l\/p∈fl:=by
 induction G with
 | nil=>intro p hp; cases hp
 | tri _ _ _ _ ih =>
  intro p hp
  rcases List.mem_append.mp hp with hp | hp
  · exact Or.inr hp
  · rcases ih p hp with h | h
    · exact Or.inl (by simp [h])
    · exact Or.inr h
 | one _ _ ih =>
  intro p hp
  clear a_1 a
  rcases List.mem_cons.mp hp with rfl | hp
  · exact Or.inl List.mem_cons_self
  · rcases ih p hp with h | h
    · exact Or.inl (List.mem_cons_of_mem _ h)
    · exact Or.inr h
theorem qNl (tk:List Tk):sg (lts tk)=wnt tk:=by
 induction tk with
 | nil=>rfl
 | cons t r ih =>
  cases t with
  | none =>
   show sg ([([46],true),([46],true),([46],true)]++lts r)=[46,46,46]++wnt r
   rw [qAV,ih]; rfl
  | some c=>show [c]++sg (lts r)=c::wnt r; rw [ih]; rfl
theorem qCa {a b:Bool} (h:a=true ↔ b=true):a=b:=by
 cases a <;> cases b <;> simp_all
theorem qKr (W gaps:List Nat) (o:Nat) (hg:∀ g,g∈gaps ↔ g∈qAn W):(qBA (qAG W) o).map (qAt W)=qJg (qAG W) gaps o:=by
 have hne:gaps=[] ↔ qAn W=[]:=by
  rw [List.eq_nil_iff_forall_not_mem,List.eq_nil_iff_forall_not_mem]
  exact forall_congr' fun g=>not_congr (hg g)
 delta qBA qJg
 rw [List.map_append,List.map_append,List.map_append]
 congr 1
 · congr 1
   · congr 1
     · refine List.map_congr_left fun t ht=>qCa ?_
       have htl:t.length=(qAG W).length+1:=by
        unfold qBP at ht
        refine x12 (List.mem_map.mp ht) fun i hi eq2=>?_
        clear ht hne hg
        subst eq2
        have:=List.mem_range.mp hi
        simp; (exact ar26 ‹_›)
       rw [qBQ,qGf W t htl]
       unfold qCJ
       simp only [decide_eq_true_eq,List.mem_map]
       constructor
       · rintro ⟨g,h1,h2⟩; exact ⟨g,(hg g).mpr h1,h2⟩
       · rintro ⟨g,h1,h2⟩; exact ⟨g,(hg g).mp h1,h2⟩
     · unfold qEQ
       rw [List.map_map]
       refine List.eq_replicate_iff.mpr ⟨by simp,fun b hb=>?_⟩
       refine x12 (List.mem_map.mp hb) fun i hi eq2=>?_
       clear hb hne hg
       subst eq2
       have hi:=List.mem_range.mp hi
       show qAt W _=false
       cases h:qAt W ((qAG W).take i++(qAG W).drop (i+1)) with
       | false=>rfl
       | true =>
        have:=qGY W _ ((qBQ _ _).mp h)
        simp at this; lia
   · unfold qEM
     rw [List.map_map]
     refine List.ext_getElem (by simp) fun i h1 h2=>?_
     have hi:i<(qAG W).length:=by simpa using h2
     simp only [List.getElem_map,List.getElem_range,Function.comp]
     refine qCa ?_
     rw [qBQ]
     simp only [decide_eq_true_eq,List.cons.injEq,and_true]
     have hsplit:qAG W=(qAG W).take i++[(qAG W)[i]]++(qAG W).drop (i+1):=by
      rw [List.append_assoc,List.singleton_append,← List.drop_eq_getElem_cons hi,List.take_append_drop]
     constructor
     · intro h
       have h:=qJw W _ h (by simp; (exact ar25 ‹_›))
       have h:=h.trans hsplit
       rw [List.append_assoc,List.append_assoc] at h
       have:=List.append_cancel_left h
       exact (List.cons.inj (this:o::_=(qAG W)[i]::_)).1.symm
     · intro h
       rw [← h,← hsplit]
       exact qCm W
 · simp only [List.map_cons,List.map_nil,List.cons.injEq,and_true]
   refine ⟨(qBQ _ _).mpr (qCm W),qCa ?_,qCa ?_⟩
   · rw [qBQ,decide_eq_true_eq]
     constructor
     · intro h; exact qJw W _ h (by simp)
     · intro h; rw [h]; exact qCm W
   · rw [qBQ,qGa]
     simp only [Bool.or_eq_true,decide_eq_true_eq,ne_eq,hne]
theorem qD1 {l:List It} {g:List (Option It)} (G:Grp l g) (fl:List It):(∀ p∈l,∃ c,p.1=[c])->Pat (qAL l) (qAL (fil fl g)):=by
 induction G with
 | nil=>intro _; show Pat [] []; rw [Pat]
 | @tri p q s r g hp hq hs G ih =>
  intro h
  have e:qAL (p::q::s::r)=46::46::46::qAL r:=by
   have h1:p.1=[46]:=of_decide_eq_true hp
   have h2:q.1=[46]:=of_decide_eq_true hq
   have h3:s.1=[46]:=of_decide_eq_true hs
   simp [qAL,h1,h2,h3]
  rw [e]
  exact qBW.mpr ⟨qAL fl,qAL (fil fl g),by simp [qAL,fil],ih fun x hx=>h x (by simp [hx])⟩
 | @one p r g hl G ih =>
  intro h
  obtain ⟨c,hc⟩:=h p List.mem_cons_self
  have hr:∀ x∈r,∃ c,x.1=[c]:=fun x hx=>h x (List.mem_cons_of_mem _ hx)
  have e:qAL (p::r)=c::qAL r:=by simp [qAL,hc]
  have e2:qAL (fil fl (some p::g))=c::qAL (fil fl g):=by simp [qAL,fil,hc]
  rw [e,e2]
  refine (qAr ?_).mpr ⟨_,rfl,ih hr⟩
  intro r' h46 hr46
  have hp:qBb p=true:=by unfold qBb; rw [hc,h46]; rfl
  match r,hr,hl,hr46 with
  | [],_,_,hr46=>simp [qAL] at hr46
  | [q],hr,_,hr46 =>
   obtain ⟨d,hd⟩:=hr q (by simp)
   simp [qAL,hd] at hr46
  | q::s::r,hr,hl,hr46 =>
   obtain ⟨d,hd⟩:=hr q (by simp)
   obtain ⟨d',hd'⟩:=hr s (by simp)
   have:qAL (q::s::r)=d::d'::qAL r:=by simp [qAL,hd,hd']
   rw [this] at hr46
   simp only [List.cons.injEq] at hr46
   have hq:qBb q=true:=by unfold qBb; rw [hd,hr46.1]; rfl
   have hs:qBb s=true:=by unfold qBb; rw [hd',hr46.2.1]; rfl
   unfold lead lead lead at hl
   simp [hp,hq,hs] at hl
   lia
set_option tactic.hygienic true in
theorem qDa (n:Int):∀ p∈qAa n,∀ q∈qAa n,p=q:=by
 intro p hp q hq
 unfold qAa at hp hq
 split at hp
 · rename_i h; rw [if_pos h] at hq; rw [List.eq_of_mem_replicate hp,List.eq_of_mem_replicate hq]
 · rename_i h
   rw [if_neg h] at hq
   split at hp
   · rename_i h; rw [if_pos h] at hq; rw [List.eq_of_mem_replicate hp,List.eq_of_mem_replicate hq]
   · rename_i h
     rw [if_neg h] at hq
     split at hp
     · rename_i h; rw [if_pos h] at hq; rw [List.mem_singleton.mp hp,List.mem_singleton.mp hq]
     · rename_i h
       rw [if_neg h] at hq
       split at hp
       · rename_i h; rw [if_pos h] at hq; rw [List.mem_singleton.mp hp,List.mem_singleton.mp hq]
       · rename_i h; rw [if_neg h] at hq; rw [List.mem_singleton.mp hp,List.mem_singleton.mp hq]
set_option tactic.hygienic true in
theorem qC4 (sc:List Int):∀ p∈qAz sc,∀ q∈qAz sc,p=q:=by
 intro p hp q hq
 unfold qAz at hp hq
 split at hp
 · rename_i h
   rw [if_pos h] at hq
   refine x12 (List.mem_map.mp hp) fun p' hp' eq2=>?_
   clear hp
   subst eq2
   refine x12 (List.mem_map.mp hq) fun q' hq' eq2=>?_
   clear hq
   subst eq2
   rw [qDa _ p' hp' q' hq']
 · rename_i h
   rw [if_neg h] at hq
   exact qDa _ p hp q hq
theorem qIV (sc:List Int) (hn:sc.length≤63):(items0 sc).length≤21:=by
 delta items0 qBn
 have h1:=qCp qAa 3 (qCj sc) fun n _=>(qDd n).2
 have h2:(qCj sc).length≤7:=by
  unfold qCj
  split
  · simp; (exact ar41)
  · simp
 (exact Nat.le_trans ‹_› (Nat.le_trans (Nat.mul_le_mul_left _ ‹_›) (by decide)))
theorem qFD (g:Bool) (r:List It) (h:∀ p∈r,p.2.length≤8):(qDM g r).length≤2+9*r.length:=by
 unfold qDM
 have h1:(qBs r).length≤9*r.length:=qCp _ 9 r fun p hp=>by have:=h p hp; simp; assumption
 have h2:(qCT r).length≤9*r.length:=qCp _ 9 r fun p hp=>by have:=h p hp; split <;> simp <;> lia
 split
 · (exact Nat.le_trans ‹_› (Nat.le_add_left _ _))
 · simp; (exact as48 ‹_›)
theorem rowW (sc:List Int) (r:List It) (hr:r.length≤1000) (h:∀ p∈r,Good (qAy sc) p):RowW sc r:=by
 have h1:∀ p∈r,p.1.length≤8:=fun p hp=>by obtain ⟨c,e,_⟩:=(h p hp).one; rw [e]; simp
 have hmem:∀ c∈qAS (qAA sc) r,c<128\/∃ p∈r,p.1=[c]:=by
  intro c hc
  have ht:∀ c∈qAf (qAA sc) r,c<128\/∃ p∈r,p.1=[c]:=by
   intro c hc
   unfold qAf at hc
   refine x12 (List.mem_flatten.mp hc) fun l hl hc=>?_
   refine x12 (List.mem_map.mp hl) fun p hp eq2=>?_
   subst eq2
   refine x12 ((h p hp).one) fun d e _=>?_
   unfold esc at hc
   rcases List.mem_append.mp hc with hc | hc
   · split at hc
     · rw [List.mem_singleton.mp hc]; exact Or.inl (by decide)
     · cases hc
   · rw [e] at hc; rw [List.mem_singleton.mp hc]; exact Or.inr ⟨p,hp,e⟩
  unfold qAS at hc
  rcases List.mem_append.mp hc with hc | hc
  · left
    simp only [List.mem_cons,List.not_mem_nil,or_false] at hc
    lia
  · split at hc
    · exact ht c hc
    · rcases List.mem_append.mp hc with hc | hc
      · rcases List.mem_append.mp hc with hc | hc
        · rw [List.mem_singleton.mp hc]; exact Or.inl (by decide)
        · exact ht c hc
      · rw [List.mem_singleton.mp hc]; exact Or.inl (by decide)
 have hw:(qAS (qAA sc) r).length≤15000000:=by
  unfold qAS
  have:=qER (qAA sc) r h1
  split <;> simp <;> (exact Nat.le_trans ‹_› (Nat.le_trans (Nat.mul_le_mul_left _ ‹_›) (by decide)))
 refine ⟨by exact Nat.le_trans ‹_› (by decide),h1,fun p hp=>let ⟨c,e,_⟩:=(h p hp).one; ⟨c,e⟩,fun c hc=>?_,fun hraw c hc hb=>?_,hw,fun hraw=>?_,?_⟩
 · rcases hmem c hc with h' | ⟨p,hp,e⟩
   · (exact Nat.lt_of_lt_of_le ‹_› (by decide))
   · refine x12 ((h p hp).one) fun d e' hd=>?_
     rw [e] at e'; cases e'; exact hd
 · rcases hmem c hc with h' | ⟨p,hp,e⟩
   · exact Or.inl h'
   · refine x12 (h p hp) fun q hq eq2=>?_
     subst eq2
     rw [hraw,if_neg (by simp)] at e
     obtain ⟨d,k⟩:=qDz hq
     have:=k.one
     rw [e] at this; cases this
     exact k.ok hb
 · have e:=qE6 sc r h
   unfold qBh at e
   rw [hraw,if_neg (by simp)] at e
   rw [e]
   have:=qFD (qAA sc) r fun p hp=>(h p hp).len
   simp; (exact as10 ‹_› ‹_› (by decide))
 · have:=qCp (fun p:It=>p.1) 8 r h1
   show (r.map (·.1)).flatten.length≤_
   (exact Nat.le_trans ‹_› (Nat.le_trans (Nat.mul_le_mul_left _ ‹_›) (by decide)))
theorem qFH (sc:List Int) (r:List It) (hr:r.length≤1000) (h:∀ p∈r,Good (qAy sc) p):(qBh sc r).length≤10000:=by
 rw [qE6 sc r h]
 have:=qFD (qAA sc) r fun p hp=>(h p hp).len
 simp; (exact as10 ‹_› ‹_› (by decide))
theorem qK1 {l:List It} (h:∀ p∈l,p.2.length≤8) (ms:List Bool):∀ x∈l.zip ms,x.1.2.length≤8:=fun x hx=>h x.1 (List.of_mem_zip (a:=x.1) (b:=x.2) hx).1
theorem qEs (l:List It) (ms:List Bool) (g:Bool) (h:∀ p∈l,p.2.length≤8):(qBi l ms g).length≤9*l.length:=by
 rw [qBe]
 have:=qFE g (l.zip ms) 0 0 (qK1 h ms)
 have h2:(l.zip ms).length≤l.length:=by rw [List.length_zip]; (exact Nat.min_le_left _ _)
 (exact au25 ‹_› ‹_›)
theorem qDR (sc:List Int) (r:List It) (h:∀ p∈r,p.2.length≤8):(qAe sc r).length≤9*r.length:=by
 have h1:=qEs r (List.replicate r.length false) (qAA sc) h
 have h2:(qAe sc r).length≤(qBi r (List.replicate r.length false) (qAA sc)).length:=qOK fun x hx=>by
  rw [qBe] at hx; exact qKR _ _ _ _ x hx
 (exact Nat.le_trans ‹_› ‹_›)
set_option backward.match.sparseCases true in
theorem qOm (sc:List Int) (r:List It) (hr:r.length≤1000) (h:∀ p∈r,Good (qAy sc) p):RowOk sc r:=by
 have h8:∀ p∈r,p.2.length≤8:=fun p hp=>(h p hp).len
 have h1:=qEs r (List.replicate r.length false) (qAA sc) h8
 have h2:=qDR sc r h8
 exact ⟨by exact Nat.le_trans ‹_› (by decide),h8,by exact Nat.le_trans ‹_› (Nat.le_trans (Nat.mul_le_mul_left _ ‹_›) (by decide)),by exact Nat.le_trans ‹_› (Nat.le_trans (Nat.mul_le_mul_left _ ‹_›) (by decide))⟩
set_option backward.match.sparseCases true in
theorem plain (sc:List Int) (hn:sc.length≤63):All0 sc:=by
 have i0:=qIV sc hn
 have il:(qAK sc).length≤21:=by unfold qAK; split <;> (try simp only [List.length_map]) <;> exact i0
 have s0:=qDd sc.sum
 have sl:1≤(qAz sc).length/\(qAz sc).length≤3:=by unfold qAz some0; split <;> (try simp only [List.length_map]) <;> exact s0
 have hit:∀ p∈qAK sc,Good (qAy sc) p:=fun p hp=>qGL (qJc sc p hp)
 have hst:∀ p∈qAz sc,Good (qAy sc) p:=fun p hp=>qGL (qMS sc p hp)
 have hwi:∀ p∈qAK sc,WI p:=fun p hp=>qJO (qJc sc p hp)
 obtain ⟨gr,G⟩:=Grp.ex _ (qAK sc) (Nat.le_refl _)
 have hm:qBD sc=mks gr:=qG0 G
 have e1:row1 sc=fil [frIt] gr:=by unfold row1; rw [hm,qDI G]
 have e2:row2 sc=fil ([frIt]++qAz sc++[frIt]) gr:=by unfold row2; rw [hm,qDI G]
 have g1:∀ p∈row1 sc,Good (qAy sc) p:=fun p hp=>by
  rw [e1] at hp
  rcases qJt G _ p hp with h | h
  · exact hit p h
  · rw [List.mem_singleton.mp h]; exact qGu _
 have g2:∀ p∈row2 sc,Good (qAy sc) p:=fun p hp=>by
  rw [e2] at hp
  rcases qJt G _ p hp with h | h
  · exact hit p h
  · rcases List.mem_append.mp h with h | h
    · rcases List.mem_append.mp h with h | h
      · rw [List.mem_singleton.mp h]; exact qGu _
      · exact hst p h
    · rw [List.mem_singleton.mp h]; exact qGu _
 have l1:(row1 sc).length≤1000:=by
  rw [e1]
  have:=qKK G [frIt]
  have:=Nat.mul_le_mul (show [frIt].length+1≤2 by decide) il
  (exact Nat.le_trans ‹_› (Nat.le_trans (Nat.mul_le_mul_left _ ‹_›) (by decide)))
 have l2:(row2 sc).length≤1000:=by
  rw [e2]
  have h1:=qKK G ([frIt]++qAz sc++[frIt])
  have h2:=Nat.mul_le_mul (show ([frIt]++qAz sc++[frIt]).length+1≤6 by simp; (exact And.right ‹_›)) il
  (exact Nat.le_trans ‹_› (Nat.le_trans ‹_› (by decide)))
 have rows:∀ r∈qCK sc,r.length≤1000/\∀ p∈r,Good (qAy sc) p:=by
  intro r hr
  unfold qCK at hr
  simp only [List.mem_cons,List.not_mem_nil,or_false] at hr
  rcases hr with rfl | rfl | rfl
  · exact ⟨by exact Nat.le_trans ‹_› (by decide),hit⟩
  · exact ⟨l1,g1⟩
  · exact ⟨l2,g2⟩
 have h8:∀ p∈qAK sc,p.2.length≤8:=fun p hp=>(hit p hp).len
 have hL:=qEs (qAK sc) (qBD sc) (qAA sc) h8
 refine x13 (tokens (g:=qAA sc) G hwi 0 0) fun tk t1 t2 t3=>?_
 have hLtk:qBi (qAK sc) (qBD sc) (qAA sc)=lts tk:=by rw [qBe,hm,t1]
 refine x03 (qLg tk) fun k1 k2 k3=>?_
 have hsh:qB9 sc=qAo (lts tk):=by unfold qB9; rw [hLtk]
 have hr0:qAe sc (qAK sc)=wnt tk:=by
  have hz:((qAK sc).zip (mks gr)).map (·.1)=qAK sc:=by
   rw [List.map_fst_zip]; rw [qIy G]; exact Nat.le_refl _
  have:=qLy (qAA sc) ((qAK sc).zip (mks gr)) 0 0
  rw [hz,t1,qNl] at this
  rw [qCD]; exact this.symm
 have hwl:(wnt tk).length≤189:=by
  rw [← hr0]
  have:=qDR sc (qAK sc) h8
  (exact Nat.le_trans ‹_› (Nat.le_trans (Nat.mul_le_mul_left _ ‹_›) (by decide)))
 have hjl:(qAG (wnt tk)).length≤189:=Nat.le_trans (qJD _) hwl
 have hx1:qAe sc (row1 sc)=rd [33] tk:=by rw [qCD,e1]; exact t2 _ _ (qEx _)
 have hk1:qAt (wnt tk) (qAe sc (row1 sc))=qA8 tk 0 0:=by
  rw [hx1]
  refine qCa ?_
  rw [qBQ]
  constructor
  · intro h
    refine qBR (X:=[33]) (X':=[]) (fun a ha=>by rw [List.mem_singleton.mp ha]; rfl) rfl tk 0 0 [] t3 (fun a ha=>by cases ha) (fun d _ hd=>?_) h
    obtain ⟨x,e⟩:=hd
    rw [qE2 e]; exact Nat.le_refl _
  · intro h
    exact qBO [33] tk 0 0 [] h (fun d _ hd=>⟨[],by obtain rfl:d=0:=Nat.le_zero.mp hd; rfl⟩) (fun _=>rfl)
 have hsome:∃ p rest,qAz sc=p::rest:=by
  cases h:qAz sc with
  | nil=>rw [h] at sl; simp at sl
  | cons p rest=>exact ⟨p,rest,rfl⟩
 have halike:(∀ p∈qAz sc,p.2=[])\/∀ p∈qAz sc,p.2≠[]:=by
  refine x21 hsome fun p rest hs=>?_
  have hp:p∈qAz sc:=by rw [hs]; exact List.mem_cons_self
  by_cases h:p.2=[]
  · exact Or.inl fun q hq=>by rw [← qC4 sc p hp q hq]; exact h
  · exact Or.inr fun q hq=>by rw [← qC4 sc p hp q hq]; exact h
 obtain ⟨X,x1,⟨X',x2⟩,x3⟩:=qH4 (qAA sc) (qAz sc) halike
 have hx2:qAe sc (row2 sc)=rd X tk:=by rw [qCD,e2]; exact t2 _ _ x1
 have hk2:qA8 tk 0 0=true->qAt (wnt tk) (qAe sc (row2 sc))=true:=by
  intro h
  rw [hx2,qBQ]
  exact qBO X tk 0 0 [] h (fun d _ hd=>⟨[],by obtain rfl:d=0:=Nat.le_zero.mp hd; rfl⟩) (fun _=>rfl)
 have hk3:∀ p rest,qAz sc=p::rest->p.1=[46]->qAt (wnt tk) (qAe sc (row2 sc))=true->qA8 tk 0 0=true:=by
  intro p rest hs hp h
  have hpm:p∈qAz sc:=by rw [hs]; exact List.mem_cons_self
  rw [hx2,qBQ] at h
  have hd:∀ q∈qAz sc,q.1=[46]/\q.2=[46]:=fun q hq=>by
   rw [← qC4 sc p hpm q hq]
   exact ⟨hp,(qJO (qMS sc p hpm)).dot hp⟩
  refine qBR (x3 hd) x2 tk 0 0 [] t3 (fun a ha=>by cases ha) (fun d _ hd=>?_) h
  obtain ⟨x,e⟩:=hd
  rw [qE2 e]; exact Nat.le_refl _
 have ty1:qAt (qAL (qAK sc)) (qAL (row1 sc))=true:=by
  rw [qBQ,e1]; exact qD1 G _ fun p hp=>let ⟨c,e,_⟩:=(hit p hp).one; ⟨c,e⟩
 have ty2:qAt (qAL (qAK sc)) (qAL (row2 sc))=true:=by
  rw [qBQ,e2]; exact qD1 G _ fun p hp=>let ⟨c,e,_⟩:=(hit p hp).one; ⟨c,e⟩
 have rr1:=qDR sc (row1 sc) fun p hp=>(g1 p hp).len
 have rr2:=qDR sc (row2 sc) fun p hp=>(g2 p hp).len
 have A:All sc:=by
  refine ⟨by exact Nat.le_trans ‹_› (by decide),by exact Nat.le_trans ‹_› (by decide),h8,by rw [hm]; exact qIy G,hsome,by lia,fun r hr=>rowW sc r (rows r hr).1 (rows r hr).2,by exact Nat.le_trans ‹_› (Nat.le_trans (Nat.mul_le_mul_left _ ‹_›) (by decide)),fun x hx=>by rw [qBe] at hx; exact qKR _ _ _ _ x hx,?_⟩
  intro p rest hs
  refine ⟨[qAe sc (row1 sc),qAe sc (row2 sc)],qAe sc (qAK sc),[67,67]++qBh sc (qAK sc),[9,13,32]++qDM (qAA sc) (qAK sc),?_⟩
  have hpg:=qFH sc (qAK sc) (by exact Nat.le_trans ‹_› (by decide)) hit
  have hpe:=qE6 sc (qAK sc) hit
  have hbl:=qFD (qAA sc) (qAK sc) h8
  rw [hsh,k2,k1]
  refine ⟨?_,by exact Nat.le_trans ‹_› (by decide),?_,fun g hg=>?_,by exact Nat.le_trans ‹_› (by decide),by simp; (exact Nat.le_trans ‹_› (by decide)),by simp; (exact as10 ‹_› ‹_› (by decide)),qLt _,?_,?_,fun g hg=>?_,by simp,?_⟩
  · refine ⟨fun r hr=>qOm sc r (rows r hr).1 (rows r hr).2,by simp [qCK],rfl,?_,?_,?_,?_,?_,?_⟩
    · refine ⟨(qBA (qAG (wnt tk)) (qDl sc)).map (qAt (wnt tk)),qA8 tk 0 0,qAt (wnt tk) (qAe sc (row2 sc)),true,true,?_,?_⟩
      · rw [hr0]
        simp only [List.map_append,List.map_cons,List.map_nil,hk1,ty1,ty2,List.append_assoc]
        rfl
      · rw [hr0]
        have:=qKr (wnt tk) (qAo (lts tk)).gaps (qDl sc) k3
        simp only [List.map_append,List.map_cons,List.map_nil,hk1,ty1,ty2,List.append_assoc,this]
        congr 1
        have hz:qAt (wnt tk) (qAe sc (row2 sc))=(qA8 tk 0 0 || (decide (p.1≠[46]) && qAt (wnt tk) (qAe sc (row2 sc)))):=by
         cases hk:qA8 tk 0 0 with
         | true=>rw [hk2 hk]; rfl
         | false =>
          by_cases hp:p.1=[46]
          · have:qAt (wnt tk) (qAe sc (row2 sc))=false:=by
             cases h:qAt (wnt tk) (qAe sc (row2 sc)) with
             | false=>rfl
             | true=>rw [hk3 p rest hs hp h] at hk; cases hk
            rw [this]; simp [hp]
          · simp [hp]
        rw [← hz]; rfl
    · have:(qBA (qAG (wnt tk)) (qDl sc)).length≤1000:=by simp [qBA,qBP,qEQ,qEM]; lia
      simp only [List.length_cons,List.length_nil]; lia
    · intro t ht
      rcases List.mem_append.mp ht with ht | ht
      · unfold qBA qBP qEQ qEM at ht
        simp only [List.mem_append,List.mem_map,List.mem_cons,List.not_mem_nil,or_false] at ht
        rcases ht with ((⟨i,_,rfl⟩ | ⟨i,_,rfl⟩) | ⟨i,_,rfl⟩) | rfl | rfl | rfl <;> (try simp) <;> first | with_reducible exact ar12 ‹_› | with_reducible exact ar13 ‹_› | with_reducible exact ar14 ‹_› | with_reducible exact as5 ‹_› (by decide) | lia
      · simp only [List.mem_cons,List.not_mem_nil,or_false] at ht
        rcases ht with rfl | rfl <;> first | with_reducible exact as5 ‹_› (by decide) | lia
    · rw [hr0]; lia
    · intro t ht
      simp only [List.mem_cons,List.not_mem_nil,or_false] at ht
      rcases ht with rfl | rfl
      · exact (rowW sc _ l1 g1).slen
      · exact (rowW sc _ l2 g2).slen
    · exact (rowW sc _ (by lia) hit).slen
  · have:=qEK (lts tk++[([],false)]) ⟨[],[],true,[]⟩
    have h2:(lts tk).length≤189:=by rw [← hLtk]; lia
    unfold qAo
    simp at this; simp; lia
  · exact qHY _ g ((k3 g).mp hg)
  · rw [hpe]; exact qLH _
  · show (qAQ (9::13::32::qDM (qAA sc) (qAK sc))).1=_
    rw [qA7 _ _ (by decide),qA7 _ _ (by decide),qA7 _ _ (by decide),qHb sc _ hit]
  · simp only [List.mem_cons,List.not_mem_nil,or_false] at hg
    rcases hg with rfl | rfl
    · have:=qFH sc _ l1 g1; lia
    · have:=qFH sc _ l2 g2; lia
  · simp only [List.map_cons,List.map_nil,qHR sc _ g1,qHR sc _ g2]
 refine ⟨A,hn,by lia,by unfold some0; lia,fun p hp=>?_⟩
 obtain ⟨c,k⟩:=qDz (qG2 (qGs (qEa hp)))
 exact ⟨c,k.one,k.lt,k.b1⟩
noncomputable def nB:Fz:=fun _=>none
noncomputable def qA4 (sg:List Nat):List D:=sg.map fun c=>.str [c]
structure IAt (h:Heap) (x dx C:Addr) (mA:Str->Option Value):Prop where
 obj:∃ o,h.get? x=some o/\o.cls=.ref C/\o.dict=some dx/\∀ c,o.data≠.cls c
 ns:h.Ns1 dx mA
 ne:dx≠x
theorem IAt.inst {h:Heap} {x dx C:Addr} {mA:Str->Option Value} (I:IAt h x dx C mA):h.Inst x C mA:=by
 refine x14 I.obj fun o h1 h2 h3 h4=>?_
 exact ⟨o,h1,h2,h4,.inr ⟨dx,h3,I.ne,I.ns⟩⟩
theorem IAt.at {h h':Heap} {x dx C:Addr} {mA:Str->Option Value} (I:IAt h x dx C mA) (k1:∀ o,h.get? x=some o->h'.get? x=some o) (k2:∀ o,h.get? dx=some o->h'.get? dx=some o):IAt h' x dx C mA:=by
 refine x12 I.obj fun o h1 r=>?_
 exact ⟨⟨o,k1 o h1,r⟩,I.ns.at k2,I.ne⟩
theorem IAt.keeps {h h':Heap} {x dx C:Addr} {mA:Str->Option Value} (I:IAt h x dx C mA) (k:∀ b o,h.get? b=some o->h'.get? b=some o):IAt h' x dx C mA:=I.at (k _) (k _)
section
variable {prog:Program} {w:World} {A:Around} {E:Value->Shared->Prop} {s:Shared} {C N:Addr} {mN mA:Str->Option Value} {x dx:Addr}
theorem IAt.store (X:ClsAt s.heap C N mN) (I:IAt s.heap x dx C mA) (hxC:x≠C) {name:Str} {v:Value} {Q:Unit->Shared->Prop} {ns:List Str} (hns:mN "__setattr__" = none) (hna:mN name=none) (hB:typeLookup (.type "object") name=pure none)
 (hw:Within mA ns) (hsz:ns.length≤sizeLine)
 (h:∀ h' tk,IAt h' x dx C (fun y=>if y=name then some v else mA y)->(∀ b o,b≠x->b≠dx->s.heap.get? b=some o->h'.get? b=some o)->Q () { s with heap:=h',toks:=tk }) :
 wpAny (model prog w) A (setAttr (.ref x) name v) Q E s:=by
 refine cps fun X9 k9=>?_
 obtain ⟨hh,g,d,t,os⟩:=s
 obtain ⟨nm,q,bs,sn,sub,col,dd,k0,k1,k2,k3,k5,hC₀⟩:=X.obj
 refine x14 I.obj fun ox hx hcx hdx hncx=>?_
 refine k9 ?_
 clear k9
 refine store_attr PySem.F.store_object hC₀ X.ns hns hna hB hxC I.inst (fun h' tk' I' hk hsame=>?_) hw hsz
 refine h h' tk' ?_ fun b o h1 h2 e=>hk b o h1 (fun o₀ d' e₀ ed=>by
  obtain rfl:=Option.some.inj (hx.symm.trans e₀); obtain rfl:=Option.some.inj (hdx.symm.trans ed); exact h2) e
 refine cps fun X9 k9=>?_
 obtain ⟨o₁,e₁,c₁,dt₁,_,dk₁⟩:=hsame ox hx
 obtain ⟨o',e',_,_,hd'⟩:=I'
 refine k9 ?_
 clear k9
 clear left_2 left_1 left hsame hk hx hC₀ h X hsz hw hB hna hns hxC
 obtain rfl:=Option.some.inj (e₁.symm.trans e')
 rcases hd' with ⟨hn0,_⟩ | ⟨d',hd',_,hns'⟩
 · rw [dk₁ dx hdx] at hn0; cases hn0
 · clear left e'
   obtain rfl:=Option.some.inj ((dk₁ dx hdx).symm.trans hd')
   exact ⟨⟨o₁,e₁,c₁.trans hcx,dk₁ _ hdx,fun c=>dt₁ ▸ hncx c⟩,hns',I.ne⟩
theorem IAt.load (X:ClsAt s.heap C N mN) (I:IAt s.heap x dx C mA) {name:Str} {v:Value} {expr:Bool} {Q:Value->Shared->Prop} (hng:mN "__getattribute__" = none) (hna:mN name=none) (hB:typeLookup (.type "object") name=pure none)
 (hv:mA name=some v) (hh:handedOut v=pure v) (h:Q v { s with toks:=s.toks+1 }):wpAny (model prog w) A (getAttr (.ref x) name expr) Q E s:=by
 refine cps fun X9 k9=>?_
 obtain ⟨hh',g,d,t,os⟩:=s
 obtain ⟨nm,q,bs,sn,sub,col,dd,k0,k1,k2,k3,k5,hC⟩:=X.obj
 refine k9 ?_
 clear k9
 exact load_attr hC X.ns hng hna hB I.inst hv hh h
end
theorem qLn {prog:Program} {w:World} {A:Around} {E:Value->Shared->Prop} {s:Shared} {l:Addr} {items:Array Value} {y:Value} {Q:Value->Shared->Prop} (hl:s.heap.PlainList l items) (hy:items[items.size-1]?=some y) (hz:items.size≤sizeLine)
 (h:∀ h',h'.PlainList l (items.eraseIdxIfInBounds (items.size-1))->Heap.SameBut l s.heap h'->Q y { s with heap:=h' }):wpAny (model prog w) A (call (.builtin "list.pop") [.ref l]) Q E s:=by
 refine x11 hl fun n ho=>?_
 exact call_meets PySem.F.slot_list_pop ⟨_,ho,rfl⟩ PySem.F.entry_list_pop (PySem.F.args_list_pop_1 _) (PySem.MeetsSeq.list_pop_last l _ n y hy hz) ⟨ho,h _ ⟨_,IsL.update (n:=n) ho _⟩ (Heap.SameBut.update ..)⟩
theorem qKH {prog:Program} {w:World} {A:Around} {E:Value->Shared->Prop} {s:Shared} {l:Addr} {items:Array Value} {y:Value} {u:Tok} {Q:Value->Shared->Prop} (hl:s.heap.PlainList l items) (hy:items[0]?=some y) (hz:items.size≤sizeLine)
 (h:∀ h',h'.PlainList l (items.eraseIdxIfInBounds 0)->Heap.SameBut l s.heap h'->Q y { s with heap:=h' }):wpAny (model prog w) A (call (.builtin "list.pop") [.ref l,.int 0 u]) Q E s:=by
 refine x11 hl fun n ho=>?_
 have hpos:0<items.size:=(Array.getElem?_eq_some_iff.mp hy).1
 exact call_meets PySem.F.slot_list_pop ⟨_,ho,rfl⟩ PySem.F.entry_list_pop (PySem.F.args_list_pop_2 _ _) (PySem.MeetsSeq.list_pop_at l _ n 0 u 0 y (by decide) (by rw [StrLaws.seqIndex_nonneg (by decide) (by exact as37 ‹_›)]; rfl) hy hz) ⟨ho,h _ ⟨_,IsL.update (n:=n) ho _⟩ (Heap.SameBut.update ..)⟩
set_option genInjectivity false in
structure LA where
 (i1 d1 i2 d2 fn ce sgA pbA:Addr)
noncomputable def LA.fp (x:LA):List Addr:=[x.i1,x.d1,x.i2,x.d2,x.fn,x.ce,x.sgA,x.pbA]
set_option genInjectivity false in
structure LK where
 C:Addr
 qual:Str
 params:Arguments
 body:Expr
 scope:Scope
noncomputable def wn1:List Str:=["lineno", "instream", "whitespace", "pushback"]
structure LexOn (K:LK) (h:Heap) (x:LA) (c':Addr) (pb:List (List Nat)) (sg:List Nat):Prop where
 i1:∃ m1,IAt h x.i1 x.d1 K.C m1/\Within m1 wn1/\(∃ n t,m1 "lineno" = some (.int n t))/\m1 "instream" = some (.ref x.i2)/\(∃ t,m1 "whitespace" = some (.str (toS [10,9,13,32]) t))/\m1 "pushback" = some (.ref x.pbA)
 i2:∃ m2,IAt h x.i2 x.d2 K.C m2/\m2 "read" = some (.ref x.fn)
 fn:∃ pm ct,h.get? x.fn=some (kla_obj "<lambda>" K.qual K.params K.body K.scope [("signs",x.ce)] pm c' ct)
 code:h.CodeRec (.ref c') K.qual
 ce:h.IsCell x.ce (some (.ref x.sgA))
 sg:∃ vs,h.PlainList x.sgA vs/\RepL nB vs.toList (qA4 sg.reverse)
 pb:∃ vs,h.PlainList x.pbA vs/\RepL nB vs.toList (pb.map .str)
 nodup:x.fp.Nodup
 cnot:c' ∉ x.fp
theorem LexOn.at {K:LK} {h h':Heap} {x:LA} {c':Addr} {pb:List (List Nat)} {sg:List Nat} (L:LexOn K h x c' pb sg) (k:∀ a∈x.fp,∀ o,h.get? a=some o->h'.get? a=some o) (hc:∀ o,h.get? c'=some o->h'.get? c'=some o):LexOn K h' x c' pb sg:=by
 obtain ⟨⟨m1,I1,r1⟩,⟨m2,I2,r2⟩,⟨pm,ct,e3⟩,e4,⟨oc,e5,d5⟩,⟨vs,l6,r6⟩,⟨us,l7,r7⟩,nd,cn⟩:=L
 refine ⟨⟨m1,I1.at (k _ (by simp [LA.fp])) (k _ (by simp [LA.fp])),r1⟩,⟨m2,I2.at (k _ (by simp [LA.fp])) (k _ (by simp [LA.fp])),r2⟩,⟨pm,ct,k _ (by simp [LA.fp]) _ e3⟩,?_,⟨oc,k _ (by simp [LA.fp]) _ e5,d5⟩,⟨vs,l6.at (k _ (by simp [LA.fp])),r6⟩,⟨us,l7.at (k _ (by simp [LA.fp])),r7⟩,nd,cn⟩
 refine x43 e4 fun c o ws t e g r=>?_
 cases e
 exact ⟨_,o,ws,t,rfl,hc _ g,r⟩
theorem LexOn.keeps {K:LK} {h h':Heap} {x:LA} {c':Addr} {pb:List (List Nat)} {sg:List Nat} (L:LexOn K h x c' pb sg) (k:∀ b o,h.get? b=some o->h'.get? b=some o):LexOn K h' x c' pb sg:=L.at (fun a _=>k a) (k _)
theorem LexOn.alive {K:LK} {h:Heap} {x:LA} {c':Addr} {pb:List (List Nat)} {sg:List Nat} (L:LexOn K h x c' pb sg):∀ a∈x.fp,∃ o,h.get? a=some o:=by
 refine cps fun X9 k9=>?_
 obtain ⟨⟨m1,I1,r1⟩,⟨m2,I2,r2⟩,⟨pm,ct,e3⟩,e4,⟨oc,e5,d5⟩,⟨vs,⟨n6,l6⟩,r6⟩,⟨us,⟨n7,l7⟩,r7⟩,nd,cn⟩:=L
 refine x12 I1.obj fun o1 g1 _=>?_
 refine x12 I2.obj fun o2 g2 _=>?_
 refine x32 I1.ns fun p1 _ _ q1 _=>?_
 refine x32 I2.ns fun p2 _ _ q2 _=>?_
 refine k9 ?_
 clear k9
 intro a ha
 simp only [LA.fp,List.mem_cons,List.not_mem_nil,or_false] at ha
 rcases ha with rfl | rfl | rfl | rfl | rfl | rfl | rfl | rfl
 · exact ⟨_,g1⟩
 · exact ⟨_,q1⟩
 · exact ⟨_,g2⟩
 · exact ⟨_,q2⟩
 · exact ⟨_,e3⟩
 · exact ⟨_,e5⟩
 · exact ⟨_,l6⟩
 · exact ⟨_,l7⟩
theorem LexOn.turnSg {K:LK} {h h':Heap} {x:LA} {c':Addr} {pb:List (List Nat)} {sg sg':List Nat} (L:LexOn K h x c' pb sg) {vs:Array Value} (hl:h'.PlainList x.sgA vs) (hr:RepL nB vs.toList (qA4 sg'.reverse)) (hs:Heap.SameBut x.sgA h h'):LexOn K h' x c' pb sg':=by
 have hc:c'≠x.sgA:=fun e=>L.cnot (by rw [e]; simp [LA.fp])
 have nd:=L.nodup
 simp only [LA.fp,List.nodup_cons,List.mem_cons,List.not_mem_nil,or_false,not_or,List.nodup_nil,and_true] at nd
 obtain ⟨n1,n2,n3,n4,n5,n6,n7⟩:=nd
 have k:∀ b o,b≠x.sgA->h.get? b=some o->h'.get? b=some o:=fun b o hb e=>hs.extBut b o hb e
 obtain ⟨⟨m1,I1,r1⟩,⟨m2,I2,r2⟩,⟨pm,ct,e3⟩,e4,⟨oc,e5,d5⟩,⟨vs',l6,r6⟩,⟨us,l7,r7⟩,nd,cn⟩:=L
 refine ⟨⟨m1,I1.at (fun o=>k _ o n1.2.2.2.2.2.1) (fun o=>k _ o n2.2.2.2.2.1),r1⟩,⟨m2,I2.at (fun o=>k _ o n3.2.2.2.1) (fun o=>k _ o n4.2.2.1),r2⟩,⟨pm,ct,k _ _ n5.2.1 e3⟩,?_,⟨oc,k _ _ n6.1 e5,d5⟩,⟨vs,hl,hr⟩,⟨us,l7.at (fun o=>k _ o (Ne.symm n7.1)),r7⟩,nd,cn⟩
 obtain ⟨c,o,ws,t,e,g,r⟩:=e4
 cases e
 exact ⟨_,o,ws,t,rfl,k _ _ hc g,r⟩
theorem LexOn.turnPb {K:LK} {h h':Heap} {x:LA} {c':Addr} {pb pb':List (List Nat)} {sg:List Nat} (L:LexOn K h x c' pb sg) {vs:Array Value} (hl:h'.PlainList x.pbA vs) (hr:RepL nB vs.toList (pb'.map .str)) (hs:Heap.SameBut x.pbA h h'):LexOn K h' x c' pb' sg:=by
 have hc:c'≠x.pbA:=fun e=>L.cnot (by rw [e]; simp [LA.fp])
 have nd:=L.nodup
 simp only [LA.fp,List.nodup_cons,List.mem_cons,List.not_mem_nil,or_false,not_or,List.nodup_nil,and_true] at nd
 obtain ⟨n1,n2,n3,n4,n5,n6,n7⟩:=nd
 have k:∀ b o,b≠x.pbA->h.get? b=some o->h'.get? b=some o:=fun b o hb e=>hs.extBut b o hb e
 obtain ⟨⟨m1,I1,r1⟩,⟨m2,I2,r2⟩,⟨pm,ct,e3⟩,e4,⟨oc,e5,d5⟩,⟨vs',l6,r6⟩,⟨us,l7,r7⟩,nd,cn⟩:=L
 refine ⟨⟨m1,I1.at (fun o=>k _ o n1.2.2.2.2.2.2) (fun o=>k _ o n2.2.2.2.2.2),r1⟩,⟨m2,I2.at (fun o=>k _ o n3.2.2.2.2) (fun o=>k _ o n4.2.2.2),r2⟩,⟨pm,ct,k _ _ n5.2.2 e3⟩,?_,⟨oc,k _ _ n6.2 e5,d5⟩,⟨vs',l6.at (fun o=>k _ o n7.1),r6⟩,⟨vs,hl,hr⟩,nd,cn⟩
 obtain ⟨c,o,ws,t,e,g,r⟩:=e4
 cases e
 exact ⟨_,o,ws,t,rfl,k _ _ hc g,r⟩
theorem LexOn.turnLine {K:LK} {h h':Heap} {x:LA} {c':Addr} {pb:List (List Nat)} {sg:List Nat} (L:LexOn K h x c' pb sg) {m1:Str->Option Value} (I:IAt h' x.i1 x.d1 K.C m1) (hw:Within m1 wn1) (hn:∃ n t,m1 "lineno" = some (.int n t))
 (hi:m1 "instream" = some (.ref x.i2)) (hs:∃ t,m1 "whitespace" = some (.str (toS [10,9,13,32]) t)) (hp:m1 "pushback" = some (.ref x.pbA)) (k:∀ b o,b≠x.i1->b≠x.d1->h.get? b=some o->h'.get? b=some o):LexOn K h' x c' pb sg:=by
 have hc1:c'≠x.i1:=fun e=>L.cnot (by rw [e]; simp [LA.fp])
 have hc2:c'≠x.d1:=fun e=>L.cnot (by rw [e]; simp [LA.fp])
 have nd:=L.nodup
 simp only [LA.fp,List.nodup_cons,List.mem_cons,List.not_mem_nil,or_false,not_or,List.nodup_nil,and_true] at nd
 refine x07 nd fun n1 n2 n3 n4 n5 n6 n7=>?_
 obtain ⟨_,⟨m2,I2,r2⟩,⟨pm,ct,e3⟩,e4,⟨oc,e5,d5⟩,⟨vs',l6,r6⟩,⟨us,l7,r7⟩,nd,cn⟩:=L
 refine ⟨⟨m1,I,hw,hn,hi,hs,hp⟩,⟨m2,I2.at (fun o=>k _ o (Ne.symm n1.2.1) (Ne.symm n2.1)) (fun o=>k _ o (Ne.symm n1.2.2.1) (Ne.symm n2.2.1)),r2⟩,⟨pm,ct,k _ _ (Ne.symm n1.2.2.2.1) (Ne.symm n2.2.2.1) e3⟩,?_,⟨oc,k _ _ (Ne.symm n1.2.2.2.2.1) (Ne.symm n2.2.2.2.1) e5,d5⟩,
  ⟨vs',l6.at (fun o=>k _ o (Ne.symm n1.2.2.2.2.2.1) (Ne.symm n2.2.2.2.2.1)),r6⟩,⟨us,l7.at (fun o=>k _ o (Ne.symm n1.2.2.2.2.2.2) (Ne.symm n2.2.2.2.2.2)),r7⟩,nd,cn⟩
 refine x43 e4 fun c o ws t e g r=>?_
 cases e
 exact ⟨_,o,ws,t,rfl,k _ _ hc1 hc2 g,r⟩
noncomputable def qKJ:Expr:=(.IfExp (.BoolOp .And [(.Compare (.Name "count" ⟨106,47,106,52⟩) [.Eq] [(.Constant (.int 1) 0 ⟨106,56,106,57⟩)] ⟨106,47,106,57⟩),(.Compare (.Name "signs" ⟨106,62,106,67⟩) [.NotEq] [(.List [] ⟨106,71,106,73⟩)] ⟨106,62,106,73⟩)] ⟨106,47,106,73⟩) (.Call (.Attribute (.Name "signs" ⟨106,32,106,37⟩) "pop" ⟨106,32,106,41⟩) [] [] ⟨106,32,106,43⟩) (.Constant (.str "") 0 ⟨106,79,106,81⟩) ⟨106,32,106,81⟩)
theorem qGZ {c:Const} {k:Nat} {p:Pos}:NoStar [Expr.Constant c k p]:=fun _=>rfl
theorem qG8 {x:Str} {p:Pos}:NoStar [Expr.Name x p]:=fun _=>rfl
structure LamOk (K:LK):Prop where
 shape:K.body=qKJ
 kind:K.scope.kind=.function
 cnt:K.scope.names.lookup ("count" : Str)=some .local
 sgn:K.scope.names.lookup ("signs" : Str)=some .free
 cell:∀ x∈K.scope.names,x.2≠.cell
 co:K.scope.isCoroutine=false
 gen:K.scope.isGenerator=false
 bind:∀ cl pm c' ct v,bindArgs (kla_fn "<lambda>" K.qual K.params K.body K.scope cl pm (.ref c') ct) ⟨[v],[]⟩=pure [(("count" : Str),v)]
noncomputable def Kp (X:List Addr) (h h':Heap):Prop:=∀ b o,h.get? b=some o->b ∉ X->h'.get? b=some o
theorem Kp.trans {X:List Addr} {h h' h'':Heap} (a:Kp X h h') (b:Kp X h' h''):Kp X h h'':=fun c o e n=>b c o (a c o e n) n
theorem Kp.of {X:List Addr} {h h':Heap} (k:∀ b o,h.get? b=some o->h'.get? b=some o):Kp X h h':=fun b o e _=>k b o e
theorem qK9 {vs:Array Value} {c:Nat} {r:List Nat} (h:RepL nB vs.toList (qA4 (c::r).reverse)) :
 ∃ t,vs[vs.size-1]?=some (.str (toS [c]) t)/\RepL nB (vs.eraseIdxIfInBounds (vs.size-1)).toList (qA4 r.reverse)/\vs.size≠0:=by
 have hl:=h.length
 have e:qA4 (c::r).reverse=qA4 r.reverse++[.str [c]]:=by simp [qA4]
 have hsz:vs.size=r.length+1:=by simpa [qA4] using hl
 have h0:vs.size≠0:=by lia
 rw [e] at h
 refine cps fun X9 k9=>?_
 have hg:(qA4 r.reverse++[D.str [c]])[r.length]?=some (.str [c]):=by
  rw [List.getElem?_append_right (by simp [qA4])]; simp [qA4]
 refine x12 (h.get hg) fun v hv rv=>?_
 obtain ⟨t,rfl⟩:=rv.str'
 refine k9 ?_
 clear k9
 refine ⟨t,?_,?_,h0⟩
 · rw [hsz]; simpa using hv
 · rw [qEj h0]
   have:=h.dropLast
   simpa using this
theorem qKx {prog:Program} {w:World} {A:Around} {s:Shared} {K:LK} (KO:LamOk K) {x:LA} {c':Addr} {pb:List (List Nat)} {sg:List Nat} {b:Nat} (hA:AOk b A) (hb:b≤610) (hlim:s.heap.NoLimit) (L:LexOn K s.heap x c' pb sg) (hs:sg.length≤16777216) (t:Tok) {Er:Value->Shared->Prop} :
 wpAny (model prog w) A (call (.ref x.fn) [.int 1 t]) (fun v s'=>∃ h tk u,s'={ s with heap:=h,toks:=tk }/\v=.str (toS (sg.take 1)) u/\LexOn K h x c' pb (sg.drop 1)/\Kp x.fp s.heap h) Er s:=by
 refine x21 L.fn fun pm ct hfn=>?_
 have hd:A.depth<recursionLimit:=by have:=hA.depth; show A.depth<1000; (exact Nat.lt_of_le_of_lt ‹_› (Nat.lt_of_le_of_lt ‹_› (by decide)))
 refine wpAny_call (kla_callFunE hd hfn rfl KO.co KO.gen rfl L.code ?_)
 rw [KO.bind]
 refine wpAny_pure (wpAny_newFunctionEnv KO.cell (fun y hy=>by rw [List.mem_singleton.mp hy]; exact KO.cnt) (fun h₁ hns hsb=>⟨hlim.fresh _ hsb,kla_codeExpr ?_⟩) KO.kind)
 have hk₁:∀ b o,s.heap.get? b=some o->h₁.get? b=some o:=fun b o e=>hsb.extBut b o (Nat.ne_of_lt (Heap.lt_size e)) (Heap.get?_push_of_some _ e)
 refine (fun env (henv:env=newEnv K.scope s.heap.objs.size mainGlobals [(("signs" : Str),x.ce)] (K.qual ++ ".<locals>.") (some x.fn) (.ref c') none builtinsNs)=>?_) _ rfl
 show wpAny _ (A.deeper (newEnv K.scope s.heap.objs.size mainGlobals [(("signs" : Str),x.ce)] (K.qual ++ ".<locals>.") (some x.fn) (.ref c') none builtinsNs)) (eval K.body (newEnv K.scope s.heap.objs.size mainGlobals [(("signs" : Str),x.ce)] (K.qual ++ ".<locals>.") (some x.fn) (.ref c') none builtinsNs)) _ _ _
 rw [← henv]
 have hkind:env.scope.kind=.function:=by rw [henv]; exact KO.kind
 have hko:∀ y,env.kindOf y=K.scope.names.lookup y:=fun y=>by rw [henv]; rfl
 have hloc:env.locals=s.heap.objs.size:=by rw [henv]; rfl
 have hcl:env.cells.lookup ("signs" : Str)=some x.ce:=by rw [henv]; rfl
 have hU:(A.deeper env).units<cLine:=by have:=hA.units; show A.units+3<9900; (exact as20 ‹_› ‹_›)
 refine wpAny_mono (E:=ff) ?_ (fun _ _ h=>h) (fun _ _ h=>h.elim)
 rw [KO.shape]
 have L1:=L.keeps hk₁
 refine x12 L1.sg fun vs hl1 hr1=>?_
 have hsz:vs.size=sg.length:=by have:=hr1.length; simpa [qA4] using this
 have ldSigns:∀ (h₂:Heap) (tk:Tok) (p:Pos) (Q:Value->Shared->Prop),(∀ b o,h₁.get? b=some o->h₂.get? b=some o)->Q (.ref x.sgA) { s with heap:=h₂,toks:=tk } ->
  wpAny (model prog w) (A.deeper env) (eval (.Name "signs" p) env) Q ff { s with heap:=h₂,toks:=tk }:=by
  intro h₂ tk p Q hk q
  exact wpAny_Name (wpAny_loadName_free hkind (by rw [hko]; exact KO.sgn) hcl ((L1.keeps hk).ce) q) (by decide)
 refine wpAny_IfExp (isTrue_and ?_)
 refine wpAny_isTrue_Compare1 ?_ rfl
 refine wpAny_Name (wpAny_loadName_local hkind (by rw [hko]; exact KO.cnt) (by rw [hloc]; exact hns) (by rfl) ?_) (by decide)
 refine wpAny_Constant_int ?_
 refine eq_int (wpAny_truthy_bool ?_)
 show wpAny _ _ (isTrue (.BoolOp .And [.Compare (.Name "signs" _) [.NotEq] [.List [] _] _] _) env _) _ _ _
 refine isTrue_and ?_
 refine wpAny_isTrue_Compare1 ?_ rfl
 refine ldSigns h₁ _ _ _ (fun _ _ e=>e) ?_
 refine List_ (Calls.spliced_nil (wpAny_newObj_type ?_ (by show ([]:List Value).toArray.size≤sizeLine; rw [sizeLine_eq]; exact Nat.zero_le _)))
 refine (fun h₂ (hh₂:h₂=h₁.push { cls:=.type "list",data:=.seq ([]:List Value).toArray })=>?_) _ rfl
 have hk₂:∀ b o,h₁.get? b=some o->h₂.get? b=some o:=fun b o e=>by rw [hh₂]; exact Heap.get?_push_of_some _ e
 have hl2:h₂.IsList h₁.objs.size ([]:List Value).toArray:=⟨_,by rw [hh₂]; exact Heap.get?_push_size _ rfl,rfl,0,rfl⟩
 have hls:h₂.IsList x.sgA vs:=(hl1.at fun o=>hk₂ _ o).isList
 show wpAny _ _ (compareOp .NotEq (.ref x.sgA) (.ref h₁.objs.size)) _ _ { s with heap:=h₁.push { cls:=.type "list",data:=.seq ([]:List Value).toArray },toks:=_ }
 rw [← hh₂]
 clear hh₂ hcl hloc hko hkind henv hsb hns hd hfn L hlim hA KO
 cases sg with
 | nil =>
  have hv:vs.size=0:=by exact hsz
  refine PySem.SeqAt.RcNeAt.lists (e:=fun _=>true) hls hl2 (by exact hv) hU (fun j h1 h2=>by lia) _ _ _ _ ?_
  have e:(!(List.range vs.size).all fun _=>true)=false:=by simp
  rw [e]
  refine wpAny_truthy_bool ?_
  refine wpAny_Constant_str ?_
  exact ⟨h₂,_,_,rfl,rfl,L1.keeps hk₂,Kp.of fun b o e=>hk₂ _ _ (hk₁ _ _ e)⟩
 | cons c r =>
  refine PySem.SeqAt.RcNeAt.lists_lengths hls hl2 (by simp [hsz]) hU _ _ _ _ ?_
  refine wpAny_truthy_bool ?_
  refine isTrue_and_nil ?_
  show wpAny _ _ (eval (.Call (.Attribute (.Name "signs" _) "pop" _) [] [] _) env) _ _ _
  refine qAx rfl qCz (by simp) rfl (ldSigns h₂ _ _ _ hk₂ fun pl=>?_)
  refine x11 (hl1.at (h':=h₂) fun o=>hk₂ _ o) fun n hpl=>?_
  refine getMethod_builtin ⟨_,hpl,rfl⟩ PySem.F.plainAttrs_list PySem.F.slot_list_pop PySem.F.type_list_pop (fun a e=>by cases e; exact ⟨_,hpl,rfl⟩) ?_
  refine Calls.callWith_builtin rfl (PySem.evalArgs_none ?_)
  refine x13 (qK9 hr1) fun t' hy hr2 h0=>?_
  show wpAny _ _ (call (.builtin "list.pop") [.ref x.sgA]) _ _ _
  refine qLn ⟨n,hpl⟩ hy (by rw [hsz,sizeLine_eq]; exact hs) fun h₃ hl3 hs3=>?_
  refine ⟨h₃,_,t',rfl,rfl,(L1.keeps hk₂).turnSg hl3 hr2 hs3,fun b o e hn=>?_⟩
  exact hs3.extBut b o (fun hb=>hn (by rw [hb]; simp [LA.fp])) (hk₂ _ _ (hk₁ _ _ e))
set_option genInjectivity false in
structure Meth where
 name:Str
 qual:Str
 params:Arguments
 body:List Stmt
 scope:Scope
noncomputable def MethAt (h:Heap) (f:Addr) (M:Meth):Prop:=∃ o pm cd doc,h.get? f=some o/\o.cls=.type "function" /\ o.data=.func (methDef M.name M.qual M.params M.body M.scope pm cd doc)/\h.CodeRec cd M.qual
theorem MethAt.keeps {h h':Heap} {f:Addr} {M:Meth} (H:MethAt h f M) (k:∀ b o,h.get? b=some o->h'.get? b=some o):MethAt h' f M:=by
 refine x44 H fun o pm cd doc h1 h2 h3 h4=>?_
 exact ⟨o,pm,cd,doc,k _ _ h1,h2,h3,h4.keeps k⟩
structure MethOk (M:Meth) (names:List Str):Prop where
 kind:M.scope.kind=.function
 cell:∀ x∈M.scope.names,x.2≠.cell
 co:M.scope.isCoroutine=false
 gen:M.scope.isGenerator=false
 par:∀ y∈names,M.scope.names.lookup y=some .local
 bind:∀ pm cd doc vs,vs.length=names.length->bindArgs (methDef M.name M.qual M.params M.body M.scope pm cd doc) ⟨vs,[]⟩=pure (names.zip vs)
structure EnvOk (env:Env) (sc:Scope) (L:Addr):Prop where
 scope:env.scope=sc
 kind:env.scope.kind=.function
 loc:env.locals=L
 glob:env.globals=mainGlobals
 blt:env.builtins=builtinsNs
 ko:∀ y,env.kindOf y=sc.names.lookup y
noncomputable def CRes (Q:Value->Shared->Prop) (r:Result) (s':Shared):Prop:=match r with
 | .ok (.ret v)=>Q v s'
 | _=>False
theorem qAv {M:Model} {A:Around} {s:Shared} {f:Value} {pos:List Value} {Q:Value->Shared->Prop} {Er:Value->Shared->Prop} (h:codeAny M A (.call f ⟨pos,[]⟩) (CRes Q) s):wpAny M A (call f pos) Q Er s :=
 wpAny_call (codeAny_mono h fun r s' hr=>by
  cases r with
  | error e=>exact hr.elim
  | ok f=>cases f <;> first | exact hr | exact hr.elim)
set_option backward.match.sparseCases true in
theorem qCh {prog:Program} {w:World} {A:Around} {s:Shared} {M:Meth} {names:List Str} (MO:MethOk M names) {f:Addr} (H:MethAt s.heap f M) (hd:A.depth<900) (hlim:s.heap.NoLimit) {vs:List Value} (hn:vs.length=names.length)
 {Q:Value->Shared->Prop}
 (h:∀ env h₁ tk,EnvOk env M.scope s.heap.objs.size->h₁.Ns s.heap.objs.size (fun y=>(names.zip vs).reverse.lookup y)->(∀ b o,s.heap.get? b=some o->h₁.get? b=some o) ->
   wpAny (model prog w) (A.deeper env) (execs M.body env) (fun fl s'=>Q (match fl with | .ret v=>v | _=>.none) s') ff { s with heap:=h₁,toks:=tk }) :
 codeAny (model prog w) A (.call (.ref f) ⟨vs,[]⟩) (CRes Q) s:=by
 refine x44 H fun o pm cd doc ho hc hdat hcd=>?_
 refine codeAny_call_def (fd:=methDef M.name M.qual M.params M.body M.scope pm cd doc) (body:=M.body) (binds:=names.zip vs) (by show A.depth<1000; (exact Nat.lt_of_lt_of_le ‹_› (by decide))) ho hdat hlim hcd rfl (.of_eq (MO.bind _ _ _ _ hn)) MO.cell
  (fun y hy=>MO.par _ (List.of_mem_zip (a:=y.1) (b:=y.2) hy).1) (fun h₁ hns hk₁=>?_) MO.co MO.gen MO.kind
 refine wpAny_mono (E:=ff) (h _ h₁ _ ⟨rfl,MO.kind,rfl,rfl,rfl,fun y=>rfl⟩ hns hk₁) (fun fl s' hl=>hl) fun _ _ y=>y.elim
theorem qKn {prog:Program} {w:World} {A:Around} {E:Value->Shared->Prop} {s:Shared} {C N x dx:Addr} {mN mA:Str->Option Value} {name:Str} {y:Option Value} {Q:Option Value->Shared->Prop} (X:ClsAt s.heap C N mN) (I:IAt s.heap x dx C mA)
 (hB:typeLookup (.type "object") name=pure y) (h:Q (match mN name with | some v=>some v | none=>y) s):wpAny (model prog w) A (specialOf (.ref x) name) Q E s:=by
 refine cps fun X9 k9=>?_
 obtain ⟨hh',g,d,t,os⟩:=s
 obtain ⟨nm,q,bs,sn,sub,col,dd,k0,k1,k2,k3,k5,hC⟩:=X.obj
 refine x14 I.obj fun o hx hc hd hnc=>?_
 have hn:=X.ns
 refine k9 ?_
 clear k9
 unfold specialOf
 repeat (first | (with_reducible refine wpAny_loadPart_at hx ?_; rw [hc]) | (with_reducible refine wpAny_typeLookup_exc hC hn F.mro_object hB ?_) | wp_step)
 exact h
theorem qGW {prog:Program} {w:World} {A:Around} {E:Value->Shared->Prop} {s:Shared} {C N x dx:Addr} {mN mA:Str->Option Value} {name:Str} {v:Value} {pl:Sem Bool} {Q:Value×List Value->Shared->Prop} (X:ClsAt s.heap C N mN) (I:IAt s.heap x dx C mA)
 (hng:mN "__getattribute__" = none) (hnh:mN "__getattr__" = none) (hna:mN name=none) (hB:typeLookup (.type "object") name=pure none) (hv:mA name=some v) (hh:handedOut v=pure v) (h:Q (v,[]) { s with toks:=s.toks+1 }) :
 wpAny (model prog w) A (getMethod (.ref x) name pl) Q E s:=by
 unfold getMethod
 refine wpAny_bind (qKn X I F.lk_object_ga ?_)
 rw [hng]
 show wpAny _ _ (if (Manifest.canonical "object.__getattribute__" != "object.__getattribute__")=true then _ else _) _ _ _
 rw [F.canon_object_ga,if_neg Bool.false_ne_true]
 refine wpAny_bind (qKn X I F.lk_object_getattr ?_)
 rw [hnh]
 refine wpAny_bind (qKn X I hB ?_)
 rw [hna]
 show wpAny _ _ (getAttr (.ref x) name >>= fun a=>pure (a,[])) _ _ _
 exact wpAny_bind (I.load X hng hna hB hv hh (wpAny_pure h))
set_option genInjectivity false in
structure CK where
 K:LK
 N:Addr
 mN:Str->Option Value
 (frc fin fgt fpu:Addr)
 (Mrc Min Mgt Mpu:Meth)
noncomputable def qAI:List Str:=["__getattribute__", "__getattr__", "__setattr__", "lineno", "instream", "whitespace", "pushback", "read"]
structure CFacts (c:CK) (h:Heap):Prop where
 cls:ClsAt h c.K.C c.N c.mN
 lim:h.NoLimit
 rc:MethAt h c.frc c.Mrc
 ini:MethAt h c.fin c.Min
 gt:MethAt h c.fgt c.Mgt
 pu:MethAt h c.fpu c.Mpu
theorem CFacts.keeps {c:CK} {h h':Heap} (F:CFacts c h) (k:∀ b o,h.get? b=some o->h'.get? b=some o):CFacts c h':=⟨F.cls.keeps k,F.lim.keeps k,F.rc.keeps k,F.ini.keeps k,F.gt.keeps k,F.pu.keeps k⟩
noncomputable def qJn:List Stmt:=[(.Assign [(.Name "ch" ⟨41,8,41,10⟩)] (.Call (.Attribute (.Attribute (.Name "self" ⟨41,13,41,17⟩) "instream" ⟨41,13,41,26⟩) "read" ⟨41,13,41,31⟩) [(.Constant (.int 1) 0 ⟨41,32,41,33⟩)] [] ⟨41,13,41,34⟩) ⟨41,8,41,34⟩),
 (.If (.Compare (.Name "ch" ⟨42,11,42,13⟩) [.Eq] [(.Constant (.str "\n") 0 ⟨42,17,42,21⟩)] ⟨42,11,42,21⟩) [(.AugAssign (.Attribute (.Name "self" ⟨43,12,43,16⟩) "lineno" ⟨43,12,43,23⟩) .Add (.Constant (.int 1) 0 ⟨43,27,43,28⟩) ⟨43,12,43,28⟩)] [] ⟨42,8,43,28⟩),
 (.Return (some (.Name "ch" ⟨44,15,44,17⟩)) ⟨44,8,44,17⟩)]
structure COk (c:CK):Prop where
 lam:LamOk c.K
 no:∀ n∈qAI,c.mN n=none
 rcv:c.mN "_read_char" = some (.ref c.frc)
 iniv:c.mN "__init__" = some (.ref c.fin)
 gtv:c.mN "get_token" = some (.ref c.fgt)
 puv:c.mN "push_token" = some (.ref c.fpu)
 rcOk:MethOk c.Mrc ["self"]
 rcS:c.Mrc.body=qJn
 rcCh:c.Mrc.scope.names.lookup ("ch" : Str)=some .local
theorem qDZ:typeLookup (.type "object") "lineno" = pure none:=by rw [typeLookup_type,builtinLookup_eq_fast]; kernel_rfl
theorem qDi:typeLookup (.type "object") "instream" = pure none:=by rw [typeLookup_type,builtinLookup_eq_fast]; kernel_rfl
theorem qCd:typeLookup (.type "object") "whitespace" = pure none:=by rw [typeLookup_type,builtinLookup_eq_fast]; kernel_rfl
theorem qBp:typeLookup (.type "object") "pushback" = pure none:=by rw [typeLookup_type,builtinLookup_eq_fast]; kernel_rfl
theorem qJ8:typeLookup (.type "object") "read" = pure none:=by rw [typeLookup_type,builtinLookup_eq_fast]; kernel_rfl
theorem qDH:typeLookup (.type "object") "_read_char" = pure none:=by rw [typeLookup_type,builtinLookup_eq_fast]; kernel_rfl
theorem qGF:typeLookup (.type "object") "get_token" = pure none:=by rw [typeLookup_type,builtinLookup_eq_fast]; kernel_rfl
theorem qE9:typeLookup (.type "object") "push_token" = pure none:=by rw [typeLookup_type,builtinLookup_eq_fast]; kernel_rfl
theorem qEd {h:Heap} {C N x dx:Addr} {mN mA:Str->Option Value} (X:ClsAt h C N mN) (I:IAt h x dx C mA):x≠C:=by
 rintro rfl
 obtain ⟨nm,q,bs,sn,sub,col,dd,k0,k1,k2,k3,k5,hC⟩:=X.obj
 refine x13 I.obj fun o hx hc _=>?_
 rw [hC] at hx; cases hx; cases hc
section
variable {prog:Program} {w:World} {A:Around} {s:Shared} {env:Env} {sc:Scope} {L:Addr}
theorem EnvOk.ld {Er:Value->Shared->Prop} (EO:EnvOk env sc L) {m:Str->Option Value} (hn:s.heap.Ns L m) {y:Str} {v:Value} (hl:sc.names.lookup y=some .local) (hv:m y=some v) (hd:(y == ("__debug__" : Str))=false) (p:Pos) {Q:Value->Shared->Prop} (q:Q v s) :
 wpAny (model prog w) A (eval (.Name y p) env) Q Er s :=
 wpAny_Name (wpAny_loadName_local EO.kind (by rw [EO.ko]; exact hl) (by rw [EO.loc]; exact hn) hv q) hd
theorem EnvOk.st {Er:Value->Shared->Prop} (EO:EnvOk env sc L) {m:Str->Option Value} (hn:s.heap.Ns L m) {y:Str} {v:Value} (hl:sc.names.lookup y=some .local) {Q:Unit->Shared->Prop}
 (q:∀ h',h'.Ns L (fun z=>if z=y then some v else m z)->(∀ b o,b≠L->s.heap.get? b=some o->h'.get? b=some o)->Q () { s with heap:=h',toks:=s.toks+1 }):wpAny (model prog w) A (storeName env y v) Q Er s:=by
 refine wpAny_storeName_local (m:=m) (by rw [EO.ko]; exact hl) (by rw [EO.loc]; exact hn) (fun h' hn' hs=>?_) (by rw [EO.kind]; rfl)
 rw [EO.loc] at hn' hs
 exact q h' hn' fun b o hb e=>hs.extBut b o hb e
theorem EnvOk.attr {Er:Value->Shared->Prop} {c:CK} (CO:COk c) (F:CFacts c s.heap) (EO:EnvOk env sc L) {m mA:Str->Option Value} (hn:s.heap.Ns L m) {x dx:Addr} (hl:sc.names.lookup ("self" : Str)=some .local) (hv:m "self" = some (.ref x)) (I:IAt s.heap x dx c.K.C mA) {name:Str} {v:Value} (hna:c.mN name=none)
 (hB:typeLookup (.type "object") name=pure none) (ha:mA name=some v) (hh:handedOut v=pure v) (p1 p2:Pos) {Q:Value->Shared->Prop} (q:Q v { s with toks:=s.toks+1 }):wpAny (model prog w) A (eval (.Attribute (.Name "self" p1) name p2) env) Q Er s :=
 Attribute_name (EO.ld hn hl hv (by decide) p1 (I.load F.cls (CO.no _ (by simp [qAI])) hna hB ha hh q))
end
theorem qOk (sg:List Nat):(toS (sg.take 1) == ("\n" : Str))=decide (sg.take 1=[10]):=by
 have e:("\n" : Str)=toS [10]:=by decide +kernel
 rw [e,Bool.eq_iff_iff]
 simp only [beq_iff_eq,decide_eq_true_eq]
 exact ⟨qC7,fun h=>by rw [h]⟩
structure Bd (hb:Heap) (x:LA) (h:Heap):Prop where
 up:∀ a o,hb.get? a=some o->h.get? a=some o
 ap:∀ a∈x.fp,hb.get? a=none
theorem Bd.kp {hb h h':Heap} {x:LA} (B:Bd hb x h) (k:Kp x.fp h h'):Bd hb x h':=⟨fun a o e=>k a o (B.up a o e) fun hm=>(by rw [B.ap a hm] at e; cases e),B.ap⟩
theorem Bd.keeps {hb h h':Heap} {x:LA} (B:Bd hb x h) (k:∀ b o,h.get? b=some o->h'.get? b=some o):Bd hb x h':=⟨fun a o e=>k _ _ (B.up a o e),B.ap⟩
theorem Bd.but {hb h h':Heap} {x:LA} {L:Addr} (B:Bd hb x h) (hL:hb.get? L=none) (k:∀ b o,b≠L->h.get? b=some o->h'.get? b=some o):Bd hb x h':=⟨fun a o e=>k _ _ (fun q=>by rw [q,hL] at e; cases e) (B.up a o e),B.ap⟩
theorem Bd.none {hb h:Heap} {x:LA} {L:Addr} (B:Bd hb x h) (hL:h.get? L=none):hb.get? L=none:=by
 cases e:hb.get? L with
 | none=>rfl
 | some o=>rw [B.up L o e] at hL; cases hL
theorem LexOn.cne {K:LK} {h h₀:Heap} {x:LA} {c':Addr} {pb:List (List Nat)} {sg:List Nat} (Lx:LexOn K h x c' pb sg) {L:Addr} (hL:h.get? L=none):c'≠L:=by
 rintro rfl
 refine x44 Lx.code fun cc oc _ _ ec gc dc _=>?_
 cases ec
 rw [hL] at gc; cases gc
theorem LexOn.nin {K:LK} {h h₀:Heap} {x:LA} {c':Addr} {pb:List (List Nat)} {sg:List Nat} (Lx:LexOn K h x c' pb sg) {L:Addr} (hL:h.get? L=none):L ∉ x.fp:=fun hm=>by
 obtain ⟨o,ho⟩:=Lx.alive _ hm
 rw [hL] at ho; cases ho
theorem LexOn.but {K:LK} {h h':Heap} {x:LA} {c':Addr} {pb:List (List Nat)} {sg:List Nat} (Lx:LexOn K h x c' pb sg) {L:Addr} (hL:L ∉ x.fp) (hc:c'≠L) (k:∀ b o,b≠L->h.get? b=some o->h'.get? b=some o):LexOn K h' x c' pb sg :=
 Lx.at (fun a ha o e=>k a o (fun q=>hL (q ▸ ha)) e) fun o e=>k c' o hc e
noncomputable def qMW (c:CK) (x:LA) (c':Addr) (pb:List (List Nat)) (sg:List Nat) (s:Shared) (v:Value) (s':Shared):Prop :=
 ∃ h tk u,s'={ s with heap:=h,toks:=tk }/\v=.str (toS (sg.take 1)) u/\LexOn c.K h x c' pb (sg.drop 1)/\Kp x.fp s.heap h
set_option backward.match.sparseCases true in
theorem qJe {prog:Program} {w:World} {A:Around} {s:Shared} {c:CK} (CO:COk c) {hb:Heap} (F:CFacts c hb) {x:LA} (B:Bd hb x s.heap) {c':Addr} {pb:List (List Nat)} {sg:List Nat} {b:Nat} (hA:AOk b A) (hbb:b≤609) (Lx:LexOn c.K s.heap x c' pb sg) (hs:sg.length≤16777216) :
 codeAny (model prog w) A (.call (.ref c.frc) ⟨[.ref x.i1],[]⟩) (CRes (qMW c x c' pb sg s)) s:=by
 have F0:=F.keeps B.up
 refine qCh CO.rcOk F0.rc (by have:=hA.depth; (exact Nat.lt_of_le_of_lt ‹_› (Nat.lt_of_le_of_lt ‹_› (by decide)))) F0.lim (vs:=[.ref x.i1]) rfl fun env h₁ tk₁ EO hns hk₁=>?_
 have hself:c.Mrc.scope.names.lookup ("self" : Str)=some .local:=CO.rcOk.par _ (by decide)
 have hL0:s.heap.get? s.heap.objs.size=none:=qAD _
 refine (fun L (hL:L=s.heap.objs.size)=>?_) _ rfl
 rw [← hL] at EO hns hL0
 have hLf:=Lx.nin (h₀:=hb) hL0
 have hLc:=Lx.cne (h₀:=hb) hL0
 have hLb:=B.none hL0
 have B1:=B.keeps hk₁
 have F1:=F.keeps B1.up
 have L1:=Lx.keeps hk₁
 have hno:∀ n∈qAI,c.mN n=none:=CO.no
 have hA1:AOk (b+1) (A.deeper env):=⟨hA.handled,by have:=hA.depth; show A.depth+1≤b+1; (exact Nat.succ_le_succ ‹_›),by have:=hA.units; show A.units+3≤10*(b+1); (exact as19 ‹_›)⟩
 rw [CO.rcS]
 refine cps fun X9 k9=>?_
 refine x16 L1.i1 fun m1 I1 w1 ln1 is1 ws1 pb1=>?_
 refine x12 L1.i2 fun m2 I2 rd2=>?_
 refine x21 L1.fn fun pm ct hfn=>?_
 refine k9 ?_
 clear k9
 refine wpAny_execs_cons (wpAny_Assign_Name ?_ rfl)
 refine qAx rfl (fun env=>rfl) (by decide) rfl ?_
 refine EO.attr CO F1 hns hself rfl I1 (hno _ (by simp [qAI])) qDi is1 rfl _ _ fun pl=>?_
 refine qGW F1.cls I2 (hno _ (by simp [qAI])) (hno _ (by simp [qAI])) (hno _ (by simp [qAI])) qJ8 rd2 rfl ?_
 rw [qGZ.back]
 refine Calls.callWith_function (o:=_) (fd:=_) (evalArgs_plain (Calls.spliced_cons (wpAny_Constant_int (Calls.spliced_nil ⟨⟨hfn,rfl⟩,?_⟩))))
 refine wpAny_mono (qKx CO.lam hA1 (by exact Nat.succ_le_succ ‹_›) F1.lim L1 hs _) (fun v s' h=>?_) fun _ _ h=>h
 refine x34 h fun h₂ tk₂ u eq3 eq4 L2 kp2=>?_
 subst eq3
 subst eq4
 have hnsL:=hns.at fun o e=>kp2 L o e hLf
 refine EO.st hnsL CO.rcCh fun h₃ hn3 hk3=>?_
 have L3:=L2.but hLf hLc hk3
 have B3:=(B1.kp kp2).but hLb hk3
 have F3:=F.keeps B3.up
 have kp3:Kp x.fp s.heap h₃:=fun b o e hn=>hk3 b o (fun q=>by rw [q,hL0] at e; cases e) (kp2 b o (hk₁ b o e) hn)
 refine wpAny_execs_cons (wpAny_If (wpAny_isTrue_Compare1 ?_ rfl))
 refine EO.ld hn3 CO.rcCh (if_pos rfl) (by decide) _ ?_
 refine wpAny_Constant_str ?_
 refine PyProof.Rows.eq_str (wpAny_truthy_bool ?_)
 have fin:∀ h₄ tk₄,LexOn c.K h₄ x c' pb (sg.drop 1)->Kp x.fp s.heap h₄->h₄.Ns L (fun z=>if z=("ch" : Str) then some (.str (toS (sg.take 1)) u) else (([("self" : Str)].zip [Value.ref x.i1]).reverse.lookup z)) ->
  wpAny (model prog w) (A.deeper env) (execs (qJn.drop 2) env) (fun (fl:Flow) s'=>∃ (h:Heap) (tk:Nat) (u:Tok),s'={ s with heap:=h,toks:=tk }/\(match fl with | .ret v=>v | _=>Value.none)=.str (toS (sg.take 1)) u/\LexOn c.K h x c' pb (sg.drop 1)/\Kp x.fp s.heap h) ff { s with heap:=h₄,toks:=tk₄ }:=by
  intro h₄ tk₄ L4 kp4 hn4
  refine wpAny_execs_cons (wpAny_Return_some (EO.ld hn4 CO.rcCh (if_pos rfl) (by decide) _ ?_))
  exact ⟨h₄,tk₄,u,rfl,rfl,L4,kp4⟩
 split
 · refine wpAny_execs_cons (wpAny_AugAssign_AttributeAny ?_)
   refine cps fun X9 k9=>?_
   obtain ⟨m1,I1,w1,⟨ln,lt,ln1⟩,is1,ws1,pb1⟩:=L3.i1
   refine k9 ?_
   clear k9
   refine EO.ld hn3 hself (by rfl) (by decide) _ ?_
   refine I1.load F3.cls (hno _ (by simp [qAI])) (hno _ (by simp [qAI])) qDZ ln1 rfl ?_
   refine wpAny_Constant_int ?_
   refine P.iadd_int ?_
   refine I1.store F3.cls (qEd F3.cls I1) (hno _ (by simp [qAI])) (hno _ (by simp [qAI])) qDZ w1 (by decide) fun h₄ tk₄ I4 hk4=>?_
   refine wpAny_execs_nil ?_
   have L4:LexOn c.K h₄ x c' pb (sg.drop 1):=by
    refine L3.turnLine I4 (fun y hy=>?_) ⟨_,_,if_pos rfl⟩ ?_ ?_ ?_ hk4
    · by_cases e:y=("lineno" : Str)
      · rw [e]; simp [wn1]
      · exact w1 y (by simpa [e] using hy)
    · exact (if_neg (by decide)).trans is1
    · obtain ⟨t,e⟩:=ws1; exact ⟨t,(if_neg (by decide)).trans e⟩
    · exact (if_neg (by decide)).trans pb1
   have in1:x.i1∈x.fp:=by simp [LA.fp]
   have ind:x.d1∈x.fp:=by simp [LA.fp]
   refine fin h₄ _ L4 (kp3.trans fun b o e hn=>hk4 b o (fun q=>hn (q ▸ in1)) (fun q=>hn (q ▸ ind)) e) (hn3.at fun o e=>hk4 L o (fun q=>hLf (q ▸ in1)) (fun q=>hLf (q ▸ ind)) e)
 · refine wpAny_execs_nil ?_
   exact fin h₃ _ L3 kp3 hn3
theorem qO5 {prog:Program} {w:World} {A:Around} {s:Shared} {c:CK} (CO:COk c) {hb:Heap} (F:CFacts c hb) {x:LA} (B:Bd hb x s.heap) {c':Addr} {pb:List (List Nat)} {sg:List Nat} {b:Nat} (hA:AOk b A) (hbb:b≤609) (Lx:LexOn c.K s.heap x c' pb sg) (hs:sg.length≤16777216) {Er:Value->Shared->Prop} :
 wpAny (model prog w) A (call (.ref c.frc) [.ref x.i1]) (qMW c x c' pb sg s) Er s:=qAv (qJe CO F B hA hbb Lx hs)
theorem qAh:PySem.Slot "callable_iterator" "__next__" "callable_iterator.__next__" := .of (owner := "callable_iterator") (n := "__next__") (by rw [typeLookup_type,builtinLookup_eq_fast]; kernel_rfl) (by decide +kernel) (by decide +kernel) (by decide +kernel)
 (by first | exact .inl (by decide +kernel) | exact .inr (by decide +kernel)) (by rw [isSubtype_type]; kernel_rfl)
theorem qBy:entryFor table "callable_iterator.__next__" = some Builtin.«callable_iterator.__next__»:=entryFor_of_tree (by kernel_rfl)
theorem qCB (a:Value):argsOk "callable_iterator.__next__" ⟨[a],[]⟩:=by unfold argsOk; kernel_rfl
theorem qDD:PySem.Slot "callable_iterator" "__iter__" "callable_iterator.__iter__" := .of (owner := "callable_iterator") (n := "__iter__") (by rw [typeLookup_type,builtinLookup_eq_fast]; kernel_rfl) (by decide +kernel) (by decide +kernel) (by decide +kernel)
 (by first | exact .inl (by decide +kernel) | exact .inr (by decide +kernel)) (by rw [isSubtype_type]; kernel_rfl)
theorem qFA:entryFor table "callable_iterator.__iter__" = some Builtin.«dict_keyiterator.__iter__» :=
 entryFor_alias (id' := "dict_keyiterator.__iter__") (by kernel_rfl) (by first | rfl | decide +kernel | (unfold String.splitOn; simp +decide [String.splitOnAux])) (by decide +kernel) (by kernel_rfl)
theorem qFM (a:Value):argsOk "callable_iterator.__iter__" ⟨[a],[]⟩:=by unfold argsOk; kernel_rfl
theorem qEJ:typeLookup (.type "method") "__call__" = pure (some (.builtin "method.__call__")):=by rw [typeLookup_type,builtinLookup_eq_fast]; kernel_rfl
theorem qH5:entryFor table "iter" = some Builtin.«iter»:=entryFor_of_tree (by kernel_rfl)
theorem qKt:builtinKind "iter" = none:=by decide +kernel
theorem qIc:plainId "iter" = true:=by decide +kernel
theorem qJh (a b:Value):argsOk "iter" ⟨[a,b],[]⟩:=by unfold argsOk; kernel_rfl
theorem qJN:typeLookup (.type "function") "__set__" = pure none:=by rw [typeLookup_type,builtinLookup_eq_fast]; kernel_rfl
theorem qFe:typeLookup (.type "function") "__delete__" = pure none:=by rw [typeLookup_type,builtinLookup_eq_fast]; kernel_rfl
theorem qCo {M:Model} {A:Around} {E:Value->Shared->Prop} {s:Shared} {f:Value} {pos:List Value} {Q:Value->Shared->Prop}
 (hc:codeAny M A (.call f ⟨pos,[]⟩) (fun r s'=>match r with | .ok (.ret v)=>Q v s' | .ok _=>False | .error e=>E e s') s):wpAny M A (callBorrowed f pos) Q E s:=fun Γ p hΓ=>by
 unfold callBorrowed
 dsimp only [Sem.wp]
 refine wpCode_mono ?_ (hc _ p rfl (hΓ.enter (.call f ⟨pos,[]⟩) none p (by intro x; cases x)))
 intro r s' h
 cases r with
 | error e=>exact h
 | ok f=>cases f <;> first | exact h | exact h.elim
noncomputable def qDb (mo:Addr) (t:Tok):Obj:={ cls:=.type "callable_iterator",data:=.fields #[.ref mo,.str (toS []) t,.bool false] }
noncomputable def qLZ:Obj:={ cls:=.type "callable_iterator",data:=.fields #[.none,.none,.bool true] }
noncomputable abbrev qDO (f x:Addr):Obj:={ cls:=.type "method",data:=.fields #[.ref f,.ref x] }
section
variable {prog:Program} {w:World} {A:Around} {E:Value->Shared->Prop} {s:Shared}
theorem qIl {mo:Addr} {f x:Addr} {t:Tok} (hm:s.heap.get? mo=some (qDO f x)) {Q:Value->Shared->Prop} (h:Q (.ref s.heap.objs.size) { s with heap:=s.heap.push (qDb mo t) }) :
 wpAny (model prog w) A (call (.builtin "iter") [.ref mo,.str (toS []) t]) Q E s:=by
 refine call_function_meets (S:=fun _ R s=>s.heap.get? mo=some (qDO f x)/\R (.ok (.ret (.ref s.heap.objs.size))) { s with heap:=s.heap.push (qDb mo t) }) qKt qIc qH5 (qJh _ _) (.of_wp fun prog w A R s h=>?_) ⟨hm,h⟩
 obtain ⟨hp,g,d,tk,os⟩:=s
 refine x02 h fun hm h=>?_
 have hT:(⟨hp,g,d,tk,os⟩:Shared).TypeIs (.ref mo) "method" := ⟨_,hm,rfl⟩
 have hl:=qEJ
 unfold Builtin.«iter»
 repeat wp_step
 exact ⟨_,rfl,h⟩
theorem qGO {it:Addr} {o:Obj} (ho:s.heap.get? it=some o) (hc:o.cls=.type "callable_iterator") {Q:Value->Shared->Prop} (h:Q (.ref it) s):wpAny (model prog w) A (pyIter (.ref it)) Q E s:=by
 have hT:s.TypeIs (.ref it) "callable_iterator" := ⟨_,ho,hc⟩
 refine wpAny_pyIter_slot hT qDD (wpAny_call_entry qDD hT qFA ?_ (qFM _))
 show wpAny _ _ (ret (.ref it)) _ _ s
 exact wpAny_pure ⟨_,rfl, "callable_iterator",_,hT,qAh.lookup,h⟩
theorem qET {mo f x:Addr} (hm:s.heap.get? mo=some (qDO f x)) {o:Obj} {fd:FuncData} (hf:s.heap.get? f=some o) (hd:o.data=.func fd) {Q:Bool->Shared->Prop} (h:Q true s):wpAny (model prog w) A (borrowsExactly (.ref mo)) Q E s:=by
 unfold borrowsExactly
 refine wpAny_bind (wpAny_load hm ?_)
 show wpAny _ _ (load f >>= _) _ _ _
 refine wpAny_bind (wpAny_load hf ?_)
 rw [hd]
 exact wpAny_pure h
theorem qFu {mo f x:Addr} (hm:s.heap.get? mo=some (qDO f x)) {o:Obj} {fd:FuncData} (hf:s.heap.get? f=some o) (hd:o.data=.func fd) {Q:Value->Shared->Prop} (h:codeAny (model prog w) A (.call (.ref f) ⟨[.ref x],[]⟩) (CRes Q) s) :
 wpAny (model prog w) A (callOutOfASlot (.ref mo)) Q E s:=by
 unfold callOutOfASlot
 refine wpAny_bind (qET hm hf hd ?_)
 rw [if_pos rfl]
 refine qCo (method_call hm (codeAny_mono h fun r s' hr=>?_))
 cases r with
 | error e=>exact hr.elim
 | ok f=>cases f <;> first | exact hr | exact hr.elim
set_option tactic.hygienic true in
theorem qMY {it mo f x:Addr} {t:Tok} (hit:s.heap.get? it=some (qDb mo t)) (hm:s.heap.get? mo=some (qDO f x)) {o:Obj} {fd:FuncData} (hf:s.heap.get? f=some o) (hd:o.data=.func fd) {Q:Option Value->Shared->Prop}
 (h:codeAny (model prog w) A.in1 (.call (.ref f) ⟨[.ref x],[]⟩) (CRes fun v s'=>∃ c u,v=.str (toS [c]) u/\s'.heap.get? it=some (qDb mo t)/\Q (some v) s') s):wpAny (model prog w) A (pyNext (.ref it)) Q E s:=by
 have hT:s.TypeIs (.ref it) "callable_iterator" := ⟨_,hit,rfl⟩
 unfold pyNext
 refine wpAny_bind (wpAny_attempt (wpAny_callSpecial?_slot (name:=Str.ofString "__next__") hT qAh (wpAny_call_entry qAh hT qBy ?_ (qCB _))))
 show wpAny _ _ (field (.ref it) 2 >>= _) _ _ s
 refine wpAny_bind (wpAny_field hit rfl (x:=.bool false) rfl ?_)
 show wpAny _ _ (if (Value.bool false == Value.bool true)=true then _ else _) _ _ s
 rw [if_neg (show ¬ ((Value.bool false == Value.bool true)=true) from Bool.false_ne_true)]
 show wpAny _ _ (field (.ref it) 0 >>= _) _ _ s
 refine wpAny_bind (wpAny_field hit rfl (x:=.ref mo) rfl ?_)
 show wpAny _ _ ((callOutOfASlot (.ref mo)).attempt >>= _) _ _ s
 refine wpAny_bind (wpAny_attempt (qFu hm hf hd (codeAny_mono h fun r s' hr=>?_)))
 unfold CRes at hr ⊢
 split
 · rename_i v
   refine x23 hr fun cc u eq2 hit' q=>?_
   clear hr
   subst eq2
   show wpAny _ _ (field (.ref it) 2 >>= _) _ _ s'
   refine wpAny_bind (wpAny_field hit' rfl (x:=.bool false) rfl ?_)
   show wpAny _ _ (if (Value.bool false == Value.bool true)=true then _ else _) _ _ s'
   rw [if_neg (show ¬ ((Value.bool false == Value.bool true)=true) from Bool.false_ne_true)]
   show wpAny _ _ (field (.ref it) 1 >>= _) _ _ s'
   refine wpAny_bind (wpAny_field hit' rfl (x:=.str (toS []) t) rfl ?_)
   refine wpAny_bind (wpAny_holding (PySem.SeqAt.EqAt.str_str _ _ _ _ _ _ _ _ ?_))
   have e:(toS [] == toS [cc])=false:=by
    cases h:(toS [] == toS [cc]) with
    | false=>rfl
    | true=>have:=qC7 (beq_iff_eq.mp h); cases this
   rw [e]
   exact wpAny_pure ⟨_,rfl,wpAny_pure q⟩
 · rename_i h1
   split at hr
   · rename_i v; exact absurd rfl (h1 v)
   · exact hr
end
section
variable {prog:Program} {w:World} {A:Around} {E:Value->Shared->Prop} {s:Shared}
theorem qHe {α:Type} {Q:α->Shared->Prop} {E':Value->Shared->Prop} (hh:A.handled=none) (h:∀ e h',(∀ b o,s.heap.get? b=some o->h'.get? b=some o)->(∃ o,h'.get? e=some o/\o.cls=.type "StopIteration")->E' (.ref e) { s with heap:=h' }) :
 wpAny (model prog w) A (Builtin.SmallTypes.stopIteration (α:=α)) Q E' s:=by
 show wpAny _ _ (newExc (.type "StopIteration") [] >>= _) _ _ _
 refine wpAny_bind ?_
 simp only [newExc,newTuple]
 refine wpAny_bind (wpAny_newObj_type ?_ (by size_fits))
 refine wpAny_bind (m:=firstArgMember _ _) (wpAny_of_eq (a:=Value.none) (by first | rfl | (simp only [firstArgMember]; rfl)) ?_)
 refine wpAny_newObj_type ?_ (by size_fits)
 dsimp only [raiseNew]
 refine wpAny_bind (wpAny_handled ?_)
 rw [hh]
 refine wpAny_bind (wpAny_pure (wpAny_throw ?_))
 exact h _ _ (fun b o e=>Heap.get?_push_of_some _ (Heap.get?_push_of_some _ e)) ⟨_,Heap.get?_push_size _ rfl,rfl⟩
theorem qK4 {it:Addr} (hh:A.handled=none) (hit:s.heap.get? it=some qLZ) {Q:Option Value->Shared->Prop} (h:∀ h',(∀ b o,s.heap.get? b=some o->h'.get? b=some o)->Q none { s with heap:=h' }):wpAny (model prog w) A (pyNext (.ref it)) Q E s:=by
 have hT:s.TypeIs (.ref it) "callable_iterator" := ⟨_,hit,rfl⟩
 unfold pyNext
 refine wpAny_bind (wpAny_attempt (wpAny_callSpecial?_slot (name:=Str.ofString "__next__") hT qAh (wpAny_call_entry qAh hT qBy ?_ (qCB _))))
 show wpAny _ _ (field (.ref it) 2 >>= _) _ _ s
 refine wpAny_bind (wpAny_field hit rfl (x:=.bool true) rfl ?_)
 show wpAny _ _ (if (Value.bool true == Value.bool true)=true then _ else _) _ _ s
 rw [if_pos (show (Value.bool true == Value.bool true)=true from rfl)]
 refine wpAny_bind (wpAny_rule ?_)
 refine wpAny_bind (qHe (A:=A.in1) hh fun e h' hk hs=>?_)
 obtain ⟨o,ho,hc⟩:=hs
 refine wpAny_bind (wpAny_isInstance (T := "StopIteration") (b:=true) ⟨o,ho,hc⟩ isSubtype_stop ?_)
 exact wpAny_pure (h _ hk)
set_option tactic.hygienic true in
theorem qOj {it mo f x:Addr} {t:Tok} (hh:A.handled=none) (hit:s.heap.get? it=some (qDb mo t)) (hm:s.heap.get? mo=some (qDO f x)) {o:Obj} {fd:FuncData} (hf:s.heap.get? f=some o) (hd:o.data=.func fd) {Q:Option Value->Shared->Prop}
 (h:codeAny (model prog w) A.in1 (.call (.ref f) ⟨[.ref x],[]⟩) (CRes fun v s'=>∃ u,v=.str (toS []) u/\s'.heap.get? it=some (qDb mo t)/\s'.heap.get? mo=some (qDO f x)/\s'.heap.get? f=some o /\
   ∀ h',(∀ b o,b≠it->s'.heap.get? b=some o->h'.get? b=some o)->h'.get? it=some qLZ->Q none { s' with heap:=h' }) s):wpAny (model prog w) A (pyNext (.ref it)) Q E s:=by
 have hT:s.TypeIs (.ref it) "callable_iterator" := ⟨_,hit,rfl⟩
 unfold pyNext
 refine wpAny_bind (wpAny_attempt (wpAny_callSpecial?_slot (name:=Str.ofString "__next__") hT qAh (wpAny_call_entry qAh hT qBy ?_ (qCB _))))
 show wpAny _ _ (field (.ref it) 2 >>= _) _ _ s
 refine wpAny_bind (wpAny_field hit rfl (x:=.bool false) rfl ?_)
 show wpAny _ _ (if (Value.bool false == Value.bool true)=true then _ else _) _ _ s
 rw [if_neg (show ¬ ((Value.bool false == Value.bool true)=true) from Bool.false_ne_true)]
 show wpAny _ _ (field (.ref it) 0 >>= _) _ _ s
 refine wpAny_bind (wpAny_field hit rfl (x:=.ref mo) rfl ?_)
 show wpAny _ _ ((callOutOfASlot (.ref mo)).attempt >>= _) _ _ s
 refine wpAny_bind (wpAny_attempt (qFu hm hf hd (codeAny_mono h fun r s' hr=>?_)))
 unfold CRes at hr ⊢
 split
 · rename_i v
   refine x15 hr fun u eq1 hit' hm' hf' q=>?_
   clear hr
   subst eq1
   show wpAny _ _ (field (.ref it) 2 >>= _) _ _ s'
   refine wpAny_bind (wpAny_field hit' rfl (x:=.bool false) rfl ?_)
   show wpAny _ _ (if (Value.bool false == Value.bool true)=true then _ else _) _ _ s'
   rw [if_neg (show ¬ ((Value.bool false == Value.bool true)=true) from Bool.false_ne_true)]
   show wpAny _ _ (field (.ref it) 1 >>= _) _ _ s'
   refine wpAny_bind (wpAny_field hit' rfl (x:=.str (toS []) t) rfl ?_)
   refine wpAny_bind (wpAny_holding (PySem.SeqAt.EqAt.str_str _ _ _ _ _ _ _ _ ?_))
   rw [beq_self_eq_true]
   refine wpAny_bind (wpAny_rule ?_)
   refine wpAny_bind ?_
   show wpAny _ _ (field (.ref it) 0 >>= _) _ _ s'
   refine wpAny_bind (wpAny_field hit' rfl (x:=.ref mo) rfl ?_)
   refine wpAny_bind (m:=slotLetsGo "callable_iterator.__next__" (.ref mo) _) ?_
   unfold slotLetsGo
   show wpAny _ _ (borrowsExactly (.ref mo) >>= _) _ _ _
   refine wpAny_bind (qET hm' hf' hd ?_)
   rw [if_pos rfl]
   refine wpAny_pure ?_
   refine wpAny_bind (wpAny_setField_rec hit' (by simp) fun h1 e1 s1=>?_)
   refine wpAny_bind (wpAny_setField_rec e1 (by simp) fun h2 e2 s2=>?_)
   refine wpAny_setField_rec e2 (by simp) fun h3 e3 s3=>?_
   refine qHe (A:=A.in1) hh fun e h' hk hs=>?_
   refine x12 hs fun o ho hc=>?_
   refine wpAny_bind (wpAny_isInstance (T := "StopIteration") (b:=true) ⟨o,ho,hc⟩ isSubtype_stop ?_)
   refine wpAny_pure (q _ (fun b o hb e=>hk _ _ (s3.extBut b o hb (s2.extBut b o hb (s1.extBut b o hb e)))) (hk _ _ ?_))
   simpa [qLZ] using e3
 · rename_i h1
   split at hr
   · rename_i v; exact absurd rfl (h1 v)
   · exact hr
end
section
open Builtin Builtin.ObjectAttr
set_option tactic.hygienic true in
theorem qIo {prog:Program} {w:World} {A:Around} {E:Value->Shared->Prop} {s:Shared} {C N x dx f:Addr} {of:Obj} {mN mA:Str->Option Value} {name:Str} {expr:Bool} {Q:Value->Shared->Prop} (X:ClsAt s.heap C N mN) (I:IAt s.heap x dx C mA)
 (hng:mN "__getattribute__" = none) (hnh:mN "__getattr__" = none) (hf:mN name=some (.ref f)) (hfo:s.heap.get? f=some of) (hfc:of.cls=.type "function") (hB:typeLookup (.type "object") name=pure none) (hv:mA name=none)
 (hcp:(["__module__", "__name__", "__qualname__", "__doc__", "__annotations__"]:List Str).contains name=false)
 (h:∀ tk,Q (.ref s.heap.objs.size) { s with heap:=s.heap.push (qDO f x),toks:=tk }) :
 wpAny (model prog w) A (getAttr (.ref x) name expr) Q E s:=by
 refine cps fun X9 k9=>?_
 obtain ⟨hh,g,d,t,os⟩:=s
 obtain ⟨nm,q,bs,sn,sub,col,dd,k0,k1,k2,k3,k5,hC⟩:=X.obj
 refine x14 I.obj fun o hx hc hd hnc=>?_
 have hn:=X.ns
 have hTf:∀ tk,(⟨hh,g,d,tk,os⟩:Shared).TypeIs (.ref f) "function" := fun tk=>⟨_,hfo,hfc⟩
 have l1:=F.ks_slot_function_get.lookup
 have l2:=qJN
 have l3:=qFe
 refine k9 ?_
 clear k9
 delta getAttr getAttrBy
 repeat (first | (with_reducible refine wpAny_loadPart_at hx ?_; rw [hc]) | (with_reducible refine wpAny_typeLookup_exc hC hn F.mro_object F.lk_object_ga ?_; rw [hng]) | wp_step)
 show wpAny _ _ ((runValue (.builtin "proto.getattr_hooked" ⟨[.ref x,.str name t],[]⟩)).onRaise (noteIf true (.ref x) (.str name t))) _ _ _
 refine wpAny_onRaise (wpAny_runValue (codeAny_builtin F.plainObj_entry_getattr_hooked ?_))
 unfold Builtin.«proto.getattr_hooked»
 repeat (first | (with_reducible refine wpAny_loadPart_at hx ?_; rw [hc]) | (with_reducible refine wpAny_typeLookup_exc hC hn F.mro_object hB ?_; rw [hf]) | (with_reducible refine wpAny_specialOf (hTf _) l1 ?_) | (with_reducible refine wpAny_specialOf (hTf _) l2 ?_) | (with_reducible refine wpAny_specialOf (hTf _) l3 ?_) | wp_step)
 split
 · rename_i c hcd
   exact absurd hcd (hnc c)
 unfold instanceDict
 repeat (first | (with_reducible refine wpAny_loadPart_at hx ?_; rw [hc]) | with_reducible refine wpAny_loadPart_at hC ?_ | wp_step)
 rw [hd]
 have hcp2:=hcp
 repeat (first | (with_reducible refine wpAny_nsGet I.ns.ns ?_; rw [hv]) | (with_reducible refine wpAny_typeLookup_exc hC hn F.mro_object F.lk_object_getattr ?_; rw [hnh]) | (simp only [hcp,Bool.false_eq_true,if_false]) | wp_step)
 refine codeAny_call_builtin F.ks_slot_function_get.plain F.ks_entry_function_get (F.ks_slot_function_get.check _ _ _ _ _ _ _ _ (hTf _) (F.ks_getArgs_function _ _ _) ?_)
 repeat wp_step
 exact h _
end
structure Geo (hb:Heap) (x:LA) (c' L it mo:Addr):Prop where
 Lf:L ∉ x.fp
 itf:it ∉ x.fp
 mof:mo ∉ x.fp
 Lit:L≠it
 Lmo:L≠mo
 itmo:it≠mo
 Lb:hb.get? L=none
 itb:hb.get? it=none
 mob:hb.get? mo=none
 cL:c'≠L
 cit:c'≠it
 cmo:c'≠mo
structure GI (c:CK) (hb:Heap) (x:LA) (c' L it mo:Addr) (t:Tok) (s0:Shared) (pb:List (List Nat)) (s:Shared) (m:Str->Option Value) (sg:List Nat) (act:Bool):Prop where
 sh:∃ h tk,s={ s0 with heap:=h,toks:=tk }
 lex:LexOn c.K s.heap x c' pb sg
 kp:Kp x.fp s0.heap s.heap
 bd:Bd hb x s.heap
 ns:s.heap.Ns L m
 gmo:s.heap.get? mo=some (qDO c.frc x.i1)
 git:s.heap.get? it=some (if act=true then qDb mo t else qLZ)
 s0L:s0.heap.get? L=none
 s0it:s0.heap.get? it=none
structure MOk (x:LA) (it:Addr) (m:Str->Option Value) (tok:List Nat):Prop where
 self:m "self" = some (.ref x.i1)
 fiter:m "fiter" = some (.ref it)
 tok:∃ t,m "token" = some (.str (toS tok) t)
noncomputable def put (m:Str->Option Value) (y:Str) (v:Value):Str->Option Value:=fun z=>if z=y then some v else m z
theorem MOk.ch {x:LA} {it:Addr} {m:Str->Option Value} {tok:List Nat} (M:MOk x it m tok) (v:Value):MOk x it (put m "ch" v) tok:=by
 obtain ⟨h1,h2,t,h3⟩:=M
 exact ⟨(if_neg (by decide)).trans h1,(if_neg (by decide)).trans h2,t,(if_neg (by decide)).trans h3⟩
theorem MOk.token {x:LA} {it:Addr} {m:Str->Option Value} {tok:List Nat} (M:MOk x it m tok) (tok':List Nat) (t:Tok):MOk x it (put m "token" (.str (toS tok') t)) tok':=by
 obtain ⟨h1,h2,_,h3⟩:=M
 exact ⟨(if_neg (by decide)).trans h1,(if_neg (by decide)).trans h2,t,if_pos rfl⟩
section
variable {prog:Program} {w:World} {A:Around} {c:CK} {hb:Heap} {x:LA} {c' L it mo:Addr} {t:Tok} {s0 s:Shared} {pb:List (List Nat)} {m:Str->Option Value} {sg:List Nat} {act:Bool} {env:Env} {sc:Scope}
theorem GI.quiet (G:GI c hb x c' L it mo t s0 pb s m sg act) {h':Heap} {tk:Nat} (k:∀ b o,s.heap.get? b=some o->h'.get? b=some o):GI c hb x c' L it mo t s0 pb { s with heap:=h',toks:=tk } m sg act:=by
 obtain ⟨⟨h,tk0,e⟩,lex,kp,bd,ns,gmo,git,q1,q2⟩:=G
 exact ⟨⟨h',tk,by rw [e]⟩,lex.keeps k,kp.trans (Kp.of k),bd.keeps k,ns.keeps k,k _ _ gmo,k _ _ git,q1,q2⟩
theorem GI.tok (G:GI c hb x c' L it mo t s0 pb s m sg act) {tk:Nat}:GI c hb x c' L it mo t s0 pb { s with toks:=tk } m sg act:=G.quiet (h':=s.heap) fun _ _ e=>e
theorem GI.st {Er:Value->Shared->Prop} (G:GI c hb x c' L it mo t s0 pb s m sg act) (Ge:Geo hb x c' L it mo) (EO:EnvOk env sc L) {y:Str} {v:Value} (hl:sc.names.lookup y=some .local) {Q:Unit->Shared->Prop}
 (q:∀ s',GI c hb x c' L it mo t s0 pb s' (put m y v) sg act->Q () s'):wpAny (model prog w) A (storeName env y v) Q Er s:=by
 refine EO.st G.ns hl fun h' hn hk=>q _ ?_
 refine cps fun X9 k9=>?_
 obtain ⟨⟨h,tk0,e⟩,lex,kp,bd,ns,gmo,git,q1,q2⟩:=G
 refine k9 ?_
 clear k9
 refine ⟨⟨h',_,by rw [e]⟩,lex.but Ge.Lf Ge.cL hk,fun b o eb hn'=>hk b o (fun q=>by rw [q,q1] at eb; cases eb) (kp b o eb hn'),bd.but Ge.Lb hk,hn,hk _ _ (Ne.symm Ge.Lmo) gmo,hk _ _ (Ne.symm Ge.Lit) git,q1,q2⟩
set_option tactic.hygienic true in
theorem GI.read {b:Nat} (G:GI c hb x c' L it mo t s0 pb s m sg act) (Ge:Geo hb x c' L it mo) (CO:COk c) (F:CFacts c hb) (hA:AOk b A) (hbb:b≤609) (hs:sg.length≤16777216) :
 codeAny (model prog w) A (.call (.ref c.frc) ⟨[.ref x.i1],[]⟩) (CRes fun v s'=>(∃ u,v=.str (toS (sg.take 1)) u)/\GI c hb x c' L it mo t s0 pb s' m (sg.drop 1) act) s:=by
 refine codeAny_mono (qJe CO F G.bd hA hbb G.lex hs) fun r s' hr=>?_
 unfold CRes at hr ⊢
 split
 · rename_i v
   refine x34 hr fun h tk u eq3 eq4 lex kp=>?_
   clear hr
   subst eq3
   subst eq4
   refine ⟨⟨u,rfl⟩,?_⟩
   refine cps fun X9 k9=>?_
   obtain ⟨⟨h0,tk0,e⟩,lex0,kp0,bd,ns,gmo,git,q1,q2⟩:=G
   refine k9 ?_
   clear k9
   exact ⟨⟨h,tk,by rw [e]⟩,lex,kp0.trans kp,bd.kp kp,ns.at fun o eo=>kp L o eo Ge.Lf,kp _ _ gmo Ge.mof,kp _ _ git Ge.itf,q1,q2⟩
 · rename_i h1
   split at hr
   · rename_i v; exact absurd rfl (h1 v)
   · exact hr
set_option tactic.hygienic true in
theorem GI.next {b:Nat} {Er:Value->Shared->Prop} (G:GI c hb x c' L it mo t s0 pb s m sg true) (Ge:Geo hb x c' L it mo) (CO:COk c) (F:CFacts c hb) (hA:AOk b A) (hbb:b≤608) (hs:sg.length≤16777216) {Q:Option Value->Shared->Prop}
 (qn:sg=[]->∀ s',GI c hb x c' L it mo t s0 pb s' m [] false->Q none s') (qs:∀ d r,sg=d::r->∀ u s',GI c hb x c' L it mo t s0 pb s' m r true->Q (some (.str (toS [d]) u)) s') :
 wpAny (model prog w) A (pyNext (.ref it)) Q Er s:=by
 refine x44 F.rc fun o pm cd doc ho hc hdat hcd=>?_
 have hf:=G.bd.up _ _ ho
 have hit:s.heap.get? it=some (qDb mo t):=G.git
 have hA1:AOk (b+1) A.in1:=⟨hA.handled,Nat.le_succ_of_le hA.depth,by have:=hA.units; show A.units+1≤_; lia⟩
 cases sg with
 | nil =>
  refine qOj hA.handled hit G.gmo hf hdat (codeAny_mono (G.read Ge CO F hA1 (by exact Nat.succ_le_succ ‹_›) hs) fun r s' hr=>?_)
  unfold CRes at hr ⊢
  split
  · rename_i v
    obtain ⟨⟨u,rfl⟩,G'⟩:=hr
    refine ⟨u,rfl,G'.git,G'.gmo,G'.bd.up _ _ ho,fun h' hk hit'=>qn rfl _ ?_⟩
    refine cps fun X9 k9=>?_
    obtain ⟨⟨h0,tk0,e⟩,lex0,kp0,bd,ns,gmo,git,q1,q2⟩:=G'
    refine k9 ?_
    clear k9
    exact ⟨⟨h',tk0,by rw [e]⟩,lex0.but Ge.itf Ge.cit hk,fun b o eb hn'=>hk b o (fun q=>by rw [q,q2] at eb; cases eb) (kp0 b o eb hn'),bd.but Ge.itb hk,ns.at fun o eo=>hk L o Ge.Lit eo,hk _ _ (Ne.symm Ge.itmo) gmo,hit',q1,q2⟩
  · rename_i h1
    split at hr
    · rename_i v; exact absurd rfl (h1 v)
    · exact hr
 | cons d r =>
  refine qMY hit G.gmo hf hdat (codeAny_mono (G.read Ge CO F hA1 (by exact Nat.succ_le_succ ‹_›) hs) fun r' s' hr=>?_)
  unfold CRes at hr ⊢
  split
  · rename_i v
    obtain ⟨⟨u,rfl⟩,G'⟩:=hr
    exact ⟨d,u,rfl,G'.git,qs d r rfl u s' G'⟩
  · rename_i h1
    split at hr
    · rename_i v; exact absurd rfl (h1 v)
    · exact hr
theorem GI.over {b:Nat} {Er:Value->Shared->Prop} (G:GI c hb x c' L it mo t s0 pb s m sg false) (hA:AOk b A) {Q:Option Value->Shared->Prop} (q:∀ s',GI c hb x c' L it mo t s0 pb s' m sg false->Q none s'):wpAny (model prog w) A (pyNext (.ref it)) Q Er s :=
 qK4 hA.handled G.git fun h' hk=>q _ (G.quiet (tk:=s.toks) hk)
end
structure GSc (sc:Scope):Prop where
 self:sc.names.lookup ("self" : Str)=some .local
 token:sc.names.lookup ("token" : Str)=some .local
 fiter:sc.names.lookup ("fiter" : Str)=some .local
 ch:sc.names.lookup ("ch" : Str)=some .local
theorem eqCh {d:Nat} {lit:Str} {k:Nat} (h:lit=toS [k]):(toS [d] == lit)=decide (d=k):=by
 subst h
 rw [Bool.eq_iff_iff]
 simp only [beq_iff_eq,decide_eq_true_eq]
 exact ⟨fun h=>by have:=qC7 h; simpa using this,fun h=>by rw [h]⟩
theorem qNr:("\\" : Str)=toS [92]:=by decide +kernel
theorem qJS:("\"" : Str)=toS [34]:=by decide +kernel
theorem qJM:("" : Str)=toS []:=by decide +kernel
theorem qOq (d:Nat):(!(Builtin.Str.occurrences (toS [10,9,13,32]) (toS [d]) 0 (toS [10,9,13,32]).length 1).isEmpty)=wsp d:=by
 rw [qCV]; exact qDA d []
section
variable {prog:Program} {w:World} {A:Around} {c:CK} {hb:Heap} {x:LA} {c' L it mo:Addr} {t:Tok} {s0 s:Shared} {pb:List (List Nat)} {m:Str->Option Value} {sg tok:List Nat} {act:Bool} {env:Env} {sc:Scope} {b:Nat}
theorem chIs {Er:Value->Shared->Prop} (G:GI c hb x c' L it mo t s0 pb s m sg act) (EO:EnvOk env sc L) (S:GSc sc) {d:Nat} {u:Tok} (hch:m "ch" = some (.str (toS [d]) u)) {lit:Str} {k:Nat} (hl:lit=toS [k]) {p1 p2 p3:Pos} {k1:Nat} {Q:Bool->Shared->Prop}
 (q:∀ s',GI c hb x c' L it mo t s0 pb s' m sg act->Q (decide (d=k)) s') :
 wpAny (model prog w) A (isTrue (.Compare (.Name "ch" p1) [.Eq] [.Constant (.str lit) k1 p2] p3) env (eval (.Compare (.Name "ch" p1) [.Eq] [.Constant (.str lit) k1 p2] p3) env)) Q Er s:=by
 refine wpAny_isTrue_Compare1 ?_ rfl
 refine EO.ld G.ns S.ch hch (by decide) p1 ?_
 refine wpAny_Constant_str ?_
 refine PyProof.Rows.eq_str (wpAny_truthy_bool ?_)
 rw [eqCh hl]
 exact q _ G.tok
theorem chWs {Er:Value->Shared->Prop} (G:GI c hb x c' L it mo t s0 pb s m sg act) (CO:COk c) (F:CFacts c hb) (EO:EnvOk env sc L) (S:GSc sc) (M:MOk x it m tok) {d:Nat} {u:Tok} (hch:m "ch" = some (.str (toS [d]) u)) {p1 p2 p3 p4:Pos} {Q:Bool->Shared->Prop}
 (q:∀ s',GI c hb x c' L it mo t s0 pb s' m sg act->Q (wsp d) s') :
 wpAny (model prog w) A (isTrue (.Compare (.Name "ch" p1) [.In] [.Attribute (.Name "self" p2) "whitespace" p3] p4) env (eval (.Compare (.Name "ch" p1) [.In] [.Attribute (.Name "self" p2) "whitespace" p3] p4) env)) Q Er s:=by
 refine wpAny_isTrue_Compare1 ?_ rfl
 refine EO.ld G.ns S.ch hch (by decide) p1 ?_
 refine cps fun X9 k9=>?_
 obtain ⟨m1,I1,w1,ln1,is1,⟨wt,ws1⟩,pb1⟩:=G.lex.i1
 refine k9 ?_
 clear k9
 refine EO.attr CO (F.keeps G.bd.up) G.ns S.self M.self I1 (CO.no _ (by simp [qAI])) qCd ws1 rfl p2 p3 ?_
 refine PyProof.Rows.in_str (wpAny_truthy_bool ?_)
 rw [qOq]
 exact q _ G.tok
theorem qOP {Er:Value->Shared->Prop} (G:GI c hb x c' L it mo t s0 pb s m sg act) (Ge:Geo hb x c' L it mo) (CO:COk c) (F:CFacts c hb) (EO:EnvOk env sc L) (S:GSc sc) (M:MOk x it m tok) (hA:AOk b A) (hbb:b≤608) (hs:sg.length≤16777216) {p1 p2 p3 p4 p5:Pos} (hline:qA6 p3 p4=true) {Q:Flow->Shared->Prop}
 (q:∀ u s',GI c hb x c' L it mo t s0 pb s' (put m "ch" (.str (toS (sg.take 1)) u)) (sg.drop 1) act->Q .next s') :
 wpAny (model prog w) A (exec (.Assign [.Name "ch" p1] (.Call (.Attribute (.Name "self" p2) "_read_char" p3) [] [] p4) p5) env) Q Er s:=by
 refine wpAny_Assign_Name ?_ rfl
 have F1:=F.keeps G.bd.up
 refine x16 G.lex.i1 fun m1 I1 w1 ln1 is1 ws1 pb1=>?_
 refine x44 F1.rc fun o pm cd doc ho hc hdat hcd=>?_
 refine qAx rfl qCz (by decide) hline ?_
 refine EO.ld G.ns S.self M.self (by decide) p2 fun pl=>?_
 refine cps fun X9 k9=>?_
 obtain ⟨nm,q',bs,sn,sub,col,dd,k0,k1,k2,k3,k5,hC⟩:=F1.cls.obj
 have hsh:m1 "_read_char" = none:=by
  cases e:m1 "_read_char" with
  | none=>rfl
  | some v=>exact absurd (w1 "_read_char" (by rw [e]; simp)) (by decide)
 refine k9 ?_
 clear k9
 refine method_of hC F1.cls.ns (CO.no _ (by simp [qAI])) (CO.no _ (by simp [qAI])) CO.rcv ho hc qDH I1.inst hsh ?_
 refine Calls.callWith_function (o:=o) (fd:=_) (PySem.evalArgs_none ⟨⟨ho,hdat⟩,?_⟩)
 refine wpAny_mono (E:=ff) (qAv (G.read Ge CO F hA (by exact Nat.le_succ_of_le ‹_›) hs)) (fun v s' h=>?_) fun _ _ h=>h.elim
 obtain ⟨⟨u,rfl⟩,G'⟩:=h
 exact G'.st Ge EO S.ch fun s' G''=>q u s' G''
noncomputable def piece (d:Nat) (sg:List Nat):List Nat×List Nat:=if d=92 then (sg.take 1,sg.drop 1) else ([d],sg)
theorem qOe {Er:Value->Shared->Prop} (G:GI c hb x c' L it mo t s0 pb s m sg act) (Ge:Geo hb x c' L it mo) (CO:COk c) (F:CFacts c hb) (EO:EnvOk env sc L) (S:GSc sc) (M:MOk x it m tok) {d:Nat} {u:Tok} (hch:m "ch" = some (.str (toS [d]) u)) (hA:AOk b A) (hbb:b≤608) (hs:sg.length≤16777216)
 {p1 p2 p3 p4 p5 q1 q2 q3 q4:Pos} {k1:Nat} (hline:qA6 p3 p4=true) {Q:Flow->Shared->Prop}
 (q:∀ m' u' s',MOk x it m' tok->m' "ch" = some (.str (toS (piece d sg).1) u')->GI c hb x c' L it mo t s0 pb s' m' (piece d sg).2 act->Q .next s') :
 wpAny (model prog w) A (exec (.If (.Compare (.Name "ch" q1) [.Eq] [.Constant (.str "\\") k1 q2] q3) [.Assign [.Name "ch" p1] (.Call (.Attribute (.Name "self" p2) "_read_char" p3) [] [] p4) p5] [] q4) env) Q Er s:=by
 refine wpAny_If (chIs G EO S hch qNr fun s' G'=>?_)
 by_cases h:d=92
 · rw [decide_eq_true h,if_pos rfl]
   have hp:piece d sg=(sg.take 1,sg.drop 1):=if_pos h
   rw [hp] at q
   refine wpAny_execs_cons (qOP G' Ge CO F EO S M hA hbb hs hline fun u' s'' G''=>wpAny_execs_nil ?_)
   exact q _ u' _ (M.ch _) (if_pos rfl) G''
 · rw [decide_eq_false h,if_neg (by decide)]
   have hp:piece d sg=([d],sg):=if_neg h
   rw [hp] at q
   exact wpAny_execs_nil (q m u _ M hch G')
theorem qMM {Er:Value->Shared->Prop} (G:GI c hb x c' L it mo t s0 pb s m sg act) (Ge:Geo hb x c' L it mo) (EO:EnvOk env sc L) (S:GSc sc) (M:MOk x it m tok) {pc:List Nat} {u:Tok} (hch:m "ch" = some (.str (toS pc) u)) (hz:tok.length+pc.length≤16777216)
 {p1 p2 p3:Pos} {Q:Flow->Shared->Prop} (q:∀ m' s',MOk x it m' (tok++pc)->GI c hb x c' L it mo t s0 pb s' m' sg act->Q .next s') :
 wpAny (model prog w) A (exec (.AugAssign (.Name "token" p1) .Add (.Name "ch" p2) p3) env) Q Er s:=by
 refine x11 M.tok fun tt ht=>?_
 refine wpAny_AugAssign_Name (wpAny_loadName_local EO.kind (by rw [EO.ko]; exact S.token) (by rw [EO.loc]; exact G.ns) ht ?_)
 refine EO.ld G.ns S.ch hch (by decide) p2 ?_
 refine PyProof.Rows.iadd_str (fun t' tk=>?_) (by rw [qAF,qAF,sizeLine_eq]; exact hz)
 rw [qCI]
 exact (G.tok (tk:=tk)).st Ge EO S.token fun s' G'=>q _ s' (M.token _ _) G'
end
noncomputable def inS (stop:Nat->Bool):List Nat->List Nat->List Nat×List Nat
 | t,[]=>(t,[])
 | t,c::r=>if stop c=true then (t,r) else if c=92 then (match r with | []=>(t,[]) | d::r'=>inS stop (t++[d]) r') else inS stop (t++[c]) r
theorem qKv (stop:Nat->Bool) (t:List Nat) (c:Nat) (r:List Nat):inS stop t (c::r)=if stop c=true then (t,r) else if c=92 then (match r with | []=>(t,[]) | d::r'=>inS stop (t++[d]) r') else inS stop (t++[c]) r:=by rw [inS.eq_def]
theorem qDs (stop:Nat->Bool) (t:List Nat):inS stop t []=(t,[]):=by rw [inS]
theorem qJL (stop:Nat->Bool) (t:List Nat) (c:Nat) (r:List Nat) (h:stop c=false):inS stop t (c::r)=inS stop (t++(piece c r).1) (piece c r).2:=by
 rw [qKv,if_neg (by rw [h]; simp)]
 unfold piece
 by_cases h9:c=92
 · rw [if_pos h9,if_pos h9]
   cases r with
   | nil=>simp [qDs]
   | cons d r=>simp
 · rw [if_neg h9,if_neg h9]
theorem qFn (c:Nat) (r:List Nat):(piece c r).1.length≤1/\(piece c r).1.length+(piece c r).2.length≤r.length+1/\(piece c r).2.length≤r.length:=by
 unfold piece
 split
 · cases r <;> simp <;> lia
 · simp; lia
theorem qEu:∀ (n:Nat) (s:List Nat),s.length≤n->∀ t,inB t s=inS wsp t s
 | _,[],_,t=>by rw [qDs,inB]
 | 0,_::_,h,_=>by simp at h
 | n+1,c::r,h,t=>by
  rw [qEI,qKv]
  split
  · rfl
  · split
    · cases r with
      | nil=>rfl
      | cons d r=>exact qEu n r (by simp at h; (exact Nat.le_of_succ_le ‹_›)) _
    · exact qEu n r (by simpa using h) _
theorem qGq:∀ (n:Nat) (s:List Nat),s.length≤n->∀ t,inQ t s=inS (fun c=>decide (c=34)) t s
 | _,[],_,t=>by rw [qDs,inQ]
 | 0,_::_,h,_=>by simp at h
 | n+1,c::r,h,t=>by
  rw [qGl,qKv]
  by_cases h3:c=34
  · rw [if_pos h3,if_pos (decide_eq_true h3)]
  · rw [if_neg h3,if_neg (show ¬ (decide (c=34)=true) from fun q=>h3 (of_decide_eq_true q))]
    split
    · cases r with
      | nil=>rfl
      | cons d r=>exact qGq n r (by simp at h; (exact Nat.le_of_succ_le ‹_›)) _
    · exact qGq n r (by simpa using h) _
theorem qNg (r:List Nat):qAQ (34::r)=inS (fun c=>decide (c=34)) [] r:=by
 rw [qCS,if_neg (by decide),if_pos rfl,qGq _ _ (Nat.le_refl _)]
theorem qMx (c:Nat) (r:List Nat) (h1:wsp c=false) (h2:c≠34):qAQ (c::r)=inS wsp (piece c r).1 (piece c r).2:=by
 rw [qCS,if_neg (by rw [h1]; simp),if_neg h2]
 unfold piece
 by_cases h9:c=92
 · rw [if_pos h9,if_pos h9]
   cases r with
   | nil=>simp [qDs]
   | cons d r=>simpa using qEu _ r (Nat.le_refl _) [d]
 · rw [if_neg h9,if_neg h9,qEu _ _ (Nat.le_refl _)]
section
variable {prog:Program} {w:World} {A:Around} {c:CK} {hb:Heap} {x:LA} {c' L it mo:Addr} {t:Tok} {s0 s:Shared} {pb:List (List Nat)} {m:Str->Option Value} {sg tok:List Nat} {env:Env} {sc:Scope} {b:Nat}
noncomputable def qHp (c:CK) (hb:Heap) (x:LA) (c' L it mo:Addr) (t:Tok) (s0:Shared) (pb:List (List Nat)) (res:List Nat×List Nat) (f:Flow) (s':Shared):Prop :=
 (∃ u m',f=.ret (.str (toS res.1) u)/\GI c hb x c' L it mo t s0 pb s' m' res.2 true)\/(∃ m',f=.next/\GI c hb x c' L it mo t s0 pb s' m' [] false/\MOk x it m' res.1/\res.2=[])
theorem qFd {Er:Value->Shared->Prop} (stop:Nat->Bool) (test:Expr)
 (htest:∀ s m sg tok d u (Q:Bool->Shared->Prop),GI c hb x c' L it mo t s0 pb s m sg true->MOk x it m tok->m "ch" = some (.str (toS [d]) u)->(∀ s',GI c hb x c' L it mo t s0 pb s' m sg true->Q (stop d) s') ->
   ∀ Er,wpAny (model prog w) A (isTrue test env (eval test env)) Q Er s)
 (G:GI c hb x c' L it mo t s0 pb s m sg true) (Ge:Geo hb x c' L it mo) (CO:COk c) (F:CFacts c hb) (EO:EnvOk env sc L) (S:GSc sc) (M:MOk x it m tok) (hA:AOk b A) (hbb:b≤608) (hz:tok.length+sg.length≤16777216)
 {f1 f2 f3 r1 r2 p1 p2 p3 p4 p5 q1 q2 q3 q4 q5 a1 a2 a3:Pos} {k1:Nat} (hline:qA6 p3 p4=true) :
 wpAny (model prog w) A (exec (.For (.Name "ch" f1) (.Name "fiter" f2) [.If test [.Return (some (.Name "token" r1)) r2] [.If (.Compare (.Name "ch" q1) [.Eq] [.Constant (.str "\\") k1 q2] q3) [.Assign [.Name "ch" p1] (.Call (.Attribute (.Name "self" p2) "_read_char" p3) [] [] p4) p5] [] q4] q5,
  .AugAssign (.Name "token" a1) .Add (.Name "ch" a2) a3] [] f3) env) (qHp c hb x c' L it mo t s0 pb (inS stop tok sg)) Er s:=by
 refine wpAny_For (EO.ld G.ns S.fiter M.fiter (by decide) f2 ?_) (fun _=>rfl)
 refine qGO G.git rfl ?_
 refine codeAny_forLoop (fun n s=>∃ m tok' sg',GI c hb x c' L it mo t s0 pb s m sg' true/\MOk x it m tok'/\inS stop tok' sg'=inS stop tok sg/\n=sg'.length+1/\tok'.length+sg'.length≤16777216) ?_ (sg.length+1) ⟨m,tok,sg,G,M,rfl,rfl,hz⟩
 refine fun n s h9=>x35 h9 fun m tok' sg' G M he eq6 hz'=>?_
 subst eq6
 refine G.next Ge CO F hA hbb (by exact Nat.le_trans (Nat.le_add_left _ _) ‹_›) (fun hs s' G'=>?_) (fun d r hs u s' G'=>?_)
 · clear h9 hz' G
   subst hs
   refine wpAny_execs_nil ?_
   rw [qDs] at he
   exact .inr ⟨m,rfl,G',by rw [← he]; exact M,by rw [← he]⟩
 · clear h9 G
   subst hs
   simp only [List.length_cons] at hz'
   refine wpAny_assign_Name (G'.st Ge EO S.ch fun s2 G2=>?_)
   have M2:=M.ch (.str (toS [d]) u)
   refine wpAny_execs_cons (wpAny_If (htest _ _ _ _ d u _ G2 M2 (if_pos rfl) (fun s3 G3=>?_) _))
   cases hst:stop d with
   | true =>
    rw [if_pos rfl]
    rw [qKv,if_pos hst] at he
    obtain ⟨tt,ht⟩:=M2.tok
    refine wpAny_execs_cons (wpAny_Return_some (EO.ld G3.ns S.token ht (by decide) r1 ?_))
    exact .inl ⟨tt,_,by rw [← he],by rw [← he]; exact G3⟩
   | false =>
    rw [if_neg (by simp)]
    have hp:=qFn d r
    rw [qJL stop _ _ _ hst] at he
    refine wpAny_execs_cons (qOe G3 Ge CO F EO S M2 (if_pos rfl) hA hbb (by exact as43 ‹_› (by decide)) hline fun m4 u4 s4 M4 hch4 G4=>wpAny_execs_nil ?_)
    refine wpAny_execs_cons (qMM G4 Ge EO S M4 hch4 (by lia) fun m5 s5 M5 G5=>wpAny_execs_nil ?_)
    exact ⟨(piece d r).2.length+1,by simp only [List.length_cons]; (exact au22 ‹_›),m5,_,_,G5,M5,he,rfl,by rw [List.length_append]; (exact au21 ‹_› ‹_›)⟩
end
noncomputable def qMO:Stmt:=(.For (.Name "ch" ⟨51,12,51,14⟩) (.Name "fiter" ⟨51,18,51,23⟩) [(.If (.Compare (.Name "ch" ⟨52,15,52,17⟩) [.In] [(.Attribute (.Name "self" ⟨52,21,52,25⟩) "whitespace" ⟨52,21,52,36⟩)] ⟨52,15,52,36⟩) [(.Continue ⟨53,16,53,24⟩)] [] ⟨52,12,53,24⟩),(.If (.Compare (.Name "ch" ⟨54,15,54,17⟩) [.Eq] [(.Constant (.str "\"") 0 ⟨54,21,54,24⟩)] ⟨54,15,54,24⟩) [(.For (.Name "ch" ⟨55,20,55,22⟩) (.Name "fiter" ⟨55,26,55,31⟩) [(.If (.Compare (.Name "ch" ⟨56,23,56,25⟩) [.Eq] [(.Constant (.str "\"") 0 ⟨56,29,56,32⟩)] ⟨56,23,56,32⟩) [(.Return (some (.Name "token" ⟨57,31,57,36⟩)) ⟨57,24,57,36⟩)] [(.If (.Compare (.Name "ch" ⟨58,25,58,27⟩) [.Eq] [(.Constant (.str "\\") 0 ⟨58,31,58,35⟩)] ⟨58,25,58,35⟩) [(.Assign [(.Name "ch" ⟨59,24,59,26⟩)] (.Call (.Attribute (.Name "self" ⟨59,29,59,33⟩) "_read_char" ⟨59,29,59,44⟩) [] [] ⟨59,29,59,46⟩) ⟨59,24,59,46⟩)] [] ⟨58,20,59,46⟩)] ⟨56,20,59,46⟩),(.AugAssign (.Name "token" ⟨60,20,60,25⟩) .Add (.Name "ch" ⟨60,29,60,31⟩) ⟨60,20,60,31⟩)] [] ⟨55,16,60,31⟩)] [(.If (.Compare (.Name "ch" ⟨62,19,62,21⟩) [.Eq] [(.Constant (.str "\\") 0 ⟨62,25,62,29⟩)] ⟨62,19,62,29⟩) [(.Assign [(.Name "ch" ⟨63,20,63,22⟩)] (.Call (.Attribute (.Name "self" ⟨63,25,63,29⟩) "_read_char" ⟨63,25,63,40⟩) [] [] ⟨63,25,63,42⟩) ⟨63,20,63,42⟩)] [] ⟨62,16,63,42⟩),(.AugAssign (.Name "token" ⟨64,16,64,21⟩) .Add (.Name "ch" ⟨64,25,64,27⟩) ⟨64,16,64,27⟩),(.For (.Name "ch" ⟨65,20,65,22⟩) (.Name "fiter" ⟨65,26,65,31⟩) [(.If (.Compare (.Name "ch" ⟨66,23,66,25⟩) [.In] [(.Attribute (.Name "self" ⟨66,29,66,33⟩) "whitespace" ⟨66,29,66,44⟩)] ⟨66,23,66,44⟩) [(.Return (some (.Name "token" ⟨67,31,67,36⟩)) ⟨67,24,67,36⟩)] [(.If (.Compare (.Name "ch" ⟨68,25,68,27⟩) [.Eq] [(.Constant (.str "\\") 0 ⟨68,31,68,35⟩)] ⟨68,25,68,35⟩) [(.Assign [(.Name "ch" ⟨69,24,69,26⟩)] (.Call (.Attribute (.Name "self" ⟨69,29,69,33⟩) "_read_char" ⟨69,29,69,44⟩) [] [] ⟨69,29,69,46⟩) ⟨69,24,69,46⟩)] [] ⟨68,20,69,46⟩)] ⟨66,20,69,46⟩),(.AugAssign (.Name "token" ⟨70,20,70,25⟩) .Add (.Name "ch" ⟨70,29,70,31⟩) ⟨70,20,70,31⟩)] [] ⟨65,16,70,31⟩)] ⟨54,12,70,31⟩)] [] ⟨51,8,70,31⟩)
section
variable {prog:Program} {w:World} {A:Around} {c:CK} {hb:Heap} {x:LA} {c' L it mo:Addr} {t:Tok} {s0 s:Shared} {pb:List (List Nat)} {m:Str->Option Value} {sg tok:List Nat} {env:Env} {sc:Scope} {b:Nat}
inductive OI (c:CK) (hb:Heap) (x:LA) (c' L it mo:Addr) (t:Tok) (s0:Shared) (pb:List (List Nat)) (sg:List Nat):Nat->Shared->Prop
 | inn {m:Str->Option Value} {sg':List Nat} {s:Shared} (G:GI c hb x c' L it mo t s0 pb s m sg' true) (M:MOk x it m []) (he:qAQ sg'=qAQ sg) (hz:sg'.length≤16777216):OI c hb x c' L it mo t s0 pb sg (sg'.length+2) s
 | out {m:Str->Option Value} {s:Shared} (G:GI c hb x c' L it mo t s0 pb s m [] false) (M:MOk x it m (qAQ sg).1) (hr:(qAQ sg).2=[]):OI c hb x c' L it mo t s0 pb sg 1 s
theorem qKU {Er:Value->Shared->Prop}
 (G:GI c hb x c' L it mo t s0 pb s m sg true) (Ge:Geo hb x c' L it mo) (CO:COk c) (F:CFacts c hb) (EO:EnvOk env sc L) (S:GSc sc) (M:MOk x it m []) (hA:AOk b A) (hbb:b≤608) (hz:sg.length≤16777216)
 : wpAny (model prog w) A (exec qMO env) (qHp c hb x c' L it mo t s0 pb (qAQ sg)) Er s:=by
 refine wpAny_For (EO.ld G.ns S.fiter M.fiter (by decide) _ ?_) (fun _=>rfl)
 refine qGO G.git rfl ?_
 refine codeAny_forLoop (OI c hb x c' L it mo t s0 pb sg) (fun n s h=>?_) (sg.length+2) (.inn G M rfl hz)
 clear G M hz
 cases h with
 | @inn m sg' _ G M he hz' =>
  refine G.next Ge CO F hA hbb ‹_› (fun hs s' G'=>?_) (fun d r hs u s' G'=>?_)
  · clear hz' G
    subst hs
    refine wpAny_execs_nil ?_
    have e0:qAQ []=([],[]):=by rw [qAQ]
    rw [e0] at he
    exact .inr ⟨m,rfl,G',by rw [← he]; exact M,by rw [← he]⟩
  · subst hs
    simp only [List.length_cons] at hz'
    refine wpAny_assign_Name (G'.st Ge EO S.ch fun s2 G2=>?_)
    have M2:=M.ch (.str (toS [d]) u)
    refine wpAny_execs_cons (wpAny_If (chWs G2 CO F EO S M2 (if_pos rfl) fun s3 G3=>?_))
    cases hw:wsp d with
    | true =>
     rw [if_pos rfl]
     refine wpAny_execs_cons (wpAny_Continue ?_)
     rw [qA7 _ _ hw] at he
     exact ⟨_,Nat.lt_succ_self _,.inn G3 M2 he (Nat.le_of_succ_le hz')⟩
    | false =>
     rw [if_neg (by simp)]
     refine wpAny_execs_nil ?_
     refine wpAny_execs_cons (wpAny_If (chIs G3 EO S (if_pos rfl) qJS fun s4 G4=>?_))
     by_cases h3:d=34
     · subst h3
       rw [decide_eq_true rfl,if_pos rfl]
       rw [qNg] at he
       refine wpAny_execs_cons (wpAny_mono (qFd (fun c=>decide (c=34)) _ (fun s m sg tok d u Q G M hch q Er=>chIs G EO S hch qJS q) G4 Ge CO F EO S M2 hA hbb (by simp; (exact Nat.le_of_succ_le ‹_›)) rfl) (fun f s' h=>?_) fun _ _ h=>h)
       rw [he] at h
       rcases h with ⟨u,m',rfl,G'⟩ | ⟨m',rfl,G',M',h2⟩
       · exact .inl ⟨u,m',rfl,G'⟩
       · refine wpAny_execs_nil (wpAny_execs_nil ?_)
         exact ⟨1,by simp,.out G' M' h2⟩
     · rw [decide_eq_false h3,if_neg (by simp)]
       rw [qMx _ _ hw h3] at he
       have hp:=qFn d r
       refine wpAny_execs_cons (qOe G4 Ge CO F EO S M2 (if_pos rfl) hA hbb (by exact Nat.le_of_succ_le ‹_›) rfl fun m5 u5 s5 M5 hch5 G5=>?_)
       refine wpAny_execs_cons (qMM G5 Ge EO S M5 hch5 (by simp; (exact Nat.le_trans (And.left ‹_›) (by decide))) fun m6 s6 M6 G6=>?_)
       rw [List.nil_append] at M6
       refine wpAny_execs_cons (wpAny_mono (qFd wsp _ (fun s m sg tok d u Q G M hch q Er=>chWs G CO F EO S M hch q) G6 Ge CO F EO S M6 hA hbb (by lia) rfl) (fun f s' h=>?_) fun _ _ h=>h)
       rw [he] at h
       rcases h with ⟨u,m',rfl,G'⟩ | ⟨m',rfl,G',M',h2⟩
       · exact .inl ⟨u,m',rfl,G'⟩
       · refine wpAny_execs_nil (wpAny_execs_nil ?_)
         exact ⟨1,by simp,.out G' M' h2⟩
 | @out m _ G M hr =>
  refine G.over hA fun s' G'=>?_
  refine wpAny_execs_nil ?_
  exact .inr ⟨m,rfl,G',M,hr⟩
end
noncomputable def qMF:List Stmt:=[(.If (.Attribute (.Name "self" ⟨47,11,47,15⟩) "pushback" ⟨47,11,47,24⟩) [(.Return (some (.Call (.Attribute (.Attribute (.Name "self" ⟨48,19,48,23⟩) "pushback" ⟨48,19,48,32⟩) "pop" ⟨48,19,48,36⟩) [(.Constant (.int 0) 0 ⟨48,37,48,38⟩)] [] ⟨48,19,48,39⟩)) ⟨48,12,48,39⟩)] [] ⟨47,8,48,39⟩),
 (.Assign [(.Name "token" ⟨49,8,49,13⟩)] (.Constant (.str "") 0 ⟨49,16,49,18⟩) ⟨49,8,49,18⟩),
 (.Assign [(.Name "fiter" ⟨50,8,50,13⟩)] (.Call (.Name "iter" ⟨50,16,50,20⟩) [(.Attribute (.Name "self" ⟨50,21,50,25⟩) "_read_char" ⟨50,21,50,36⟩),(.Constant (.str "") 0 ⟨50,38,50,40⟩)] [] ⟨50,16,50,41⟩) ⟨50,8,50,41⟩),
 qMO,
 (.Return (some (.Name "token" ⟨71,15,71,20⟩)) ⟨71,8,71,20⟩)]
theorem qLR {e:Expr} {a:Str} {c:Const} {k:Nat} {p q:Pos}:NoStar [Expr.Attribute e a p,Expr.Constant c k q]:=fun _=>rfl
structure GtOk (c:CK):Prop where
 ok:MethOk c.Mgt ["self"]
 sc:GSc c.Mgt.scope
 iter:c.Mgt.scope.names.lookup ("iter" : Str)=some .globalImplicit
 shape:c.Mgt.body=qMF
structure NmOk (hb:Heap):Prop where
 it:∃ mg mb,hb.Ns mainGlobals mg/\hb.Ns builtinsNs mb/\mg "iter" = none/\mb "iter" = some (.builtin "iter")
theorem EnvOk.ldg {prog:Program} {w:World} {A:Around} {s:Shared} {env:Env} {sc:Scope} {L:Addr} {Er:Value->Shared->Prop} (EO:EnvOk env sc L) {mg mb:Str->Option Value} (hg:s.heap.Ns mainGlobals mg) (hbn:s.heap.Ns builtinsNs mb) {y:Str} (hk:sc.names.lookup y=some .globalImplicit)
 (hd:(y == ("__debug__" : Str))=false) {v:Value} (hv:mg y=some v\/(mg y=none/\mb y=some v)) (p:Pos) {Q:Value->Shared->Prop} (q:Q v s):wpAny (model prog w) A (eval (.Name y p) env) Q Er s:=by
 refine wpAny_Name ?_ hd
 have hko:env.kindOf y=some .globalImplicit:=by rw [EO.ko]; exact hk
 have e:loadName env y=loadGlobal env y:=by
  unfold loadName
  simp only [Env.blockKind,EO.kind,hko,ScopeKind.isAnnotationScope,Bool.false_and,Bool.false_eq_true,if_false]
 rw [e]
 unfold loadGlobal
 refine wpAny_bind (wpAny_nsGet (EO.glob ▸ hg) ?_)
 rcases hv with hv | ⟨hn,hv⟩
 · rw [hv]; exact wpAny_pure q
 · rw [hn]
   refine wpAny_bind (wpAny_nsGet (EO.blt ▸ hbn) ?_)
   rw [hv]; exact wpAny_pure q
noncomputable def qOT (c:CK) (x:LA) (c':Addr) (pb:List (List Nat)) (sg:List Nat) (s:Shared) (v:Value) (s':Shared):Prop :=
 ∃ h tk,s'={ s with heap:=h,toks:=tk }/\Kp x.fp s.heap h/\(match pb with
  | t::pb'=>(∃ u,v=.str (toS t) u)/\LexOn c.K h x c' pb' sg
  | []=>(∃ u,v=.str (toS (qAQ sg).1) u)/\LexOn c.K h x c' [] (qAQ sg).2)
theorem qLp {vs:Array Value} {t:List Nat} {r:List (List Nat)} (h:RepL nB vs.toList ((t::r).map .str)):∃ u,vs[0]?=some (.str (toS t) u)/\RepL nB (vs.eraseIdxIfInBounds 0).toList (r.map .str)/\vs.size≠0:=by
 refine cps fun X9 k9=>?_
 have hl:=h.length
 have hsz:vs.size=r.length+1:=by simpa using hl
 have h0:vs.size≠0:=by lia
 refine x12 (h.get (i:=0) (d:=.str t) rfl) fun v hv rv=>?_
 obtain ⟨u,rfl⟩:=rv.str'
 refine k9 ?_
 clear k9
 refine ⟨u,by simpa using hv,?_,h0⟩
 rw [qEk h0]
 exact h.tail
theorem qMk {prog:Program} {w:World} {A:Around} {s:Shared} {c:CK} (CO:COk c) (GO:GtOk c) {hb:Heap} (F:CFacts c hb) (NO:NmOk hb) {x:LA} (B:Bd hb x s.heap) {c':Addr} {pb:List (List Nat)} {sg:List Nat} {b:Nat} (hA:AOk b A) (hbb:b≤606) (Lx:LexOn c.K s.heap x c' pb sg) (hs:pb=[]->sg.length≤16777216) (hpb:pb.length≤16777216) {Er:Value->Shared->Prop} :
 wpAny (model prog w) A (call (.ref c.fgt) [.ref x.i1]) (qOT c x c' pb sg s) Er s:=by
 have F0:=F.keeps B.up
 refine qAv (qCh GO.ok F0.gt (by have:=hA.depth; (exact Nat.lt_of_le_of_lt ‹_› (Nat.lt_of_le_of_lt ‹_› (by decide)))) F0.lim (vs:=[.ref x.i1]) rfl fun env h₁ tk₁ EO hns hk₁=>?_)
 have S:=GO.sc
 have hL0:s.heap.get? s.heap.objs.size=none:=qAD _
 refine (fun L (hL:L=s.heap.objs.size)=>?_) _ rfl
 rw [← hL] at EO hns hL0
 have hLf:=Lx.nin (h₀:=hb) hL0
 have hLc:=Lx.cne (h₀:=hb) hL0
 have hLb:=B.none hL0
 have B1:=B.keeps hk₁
 have F1:=F.keeps B1.up
 have L1:=Lx.keeps hk₁
 have hA1:AOk (b+1) (A.deeper env):=⟨hA.handled,by have:=hA.depth; show A.depth+1≤b+1; (exact Nat.succ_le_succ ‹_›),by have:=hA.units; show A.units+3≤10*(b+1); (exact as19 ‹_›)⟩
 rw [GO.shape]
 refine cps fun X9 k9=>?_
 refine x16 L1.i1 fun m1 I1 wi1 ln1 is1 ws1 pb1=>?_
 refine x12 L1.pb fun vs hpl hpr=>?_
 have hsz:vs.size=pb.length:=by have:=hpr.length; simpa using this
 refine k9 ?_
 clear k9
 refine wpAny_execs_cons (wpAny_If (isTrue_plain ?_ (by rfl)))
 refine EO.attr CO F1 hns S.self rfl I1 (CO.no _ (by simp [qAI])) qBp pb1 rfl _ _ ?_
 refine wpAny_truthy_list hpl.isList (by rw [hsz]; (exact as31 ‹_› (by decide))) ?_
 cases pb with
 | cons tk0 pb' =>
  have hne:(!vs.isEmpty)=true:=by
   have:vs.size≠0:=by rw [hsz]; simp
   simp [Array.isEmpty,this]
  rw [hne,if_pos rfl]
  refine wpAny_execs_cons (wpAny_Return_some ?_)
  refine qAx rfl (fun env=>rfl) (by decide) rfl ?_
  refine EO.attr CO F1 hns S.self rfl I1 (CO.no _ (by simp [qAI])) qBp pb1 rfl _ _ fun pl=>?_
  obtain ⟨n,hpl'⟩:=hpl
  refine getMethod_builtin ⟨_,hpl',rfl⟩ PySem.F.plainAttrs_list PySem.F.slot_list_pop PySem.F.type_list_pop (fun a e=>by cases e; exact ⟨_,hpl',rfl⟩) ?_
  rw [qGZ.back]
  refine Calls.callWith_builtin rfl (evalArgs_plain (Calls.spliced_cons (wpAny_Constant_int (Calls.spliced_nil ?_))))
  refine x13 (qLp hpr) fun u hy hr2 h0=>?_
  refine qKH ⟨n,hpl'⟩ hy (by rw [hsz,sizeLine_eq]; exact hpb) fun h₂ hl2 hs2=>?_
  refine ⟨h₂,_,rfl,fun b o e hn=>hs2.extBut b o (fun q=>hn (by rw [q]; simp [LA.fp])) (hk₁ _ _ e),⟨u,rfl⟩,L1.turnPb hl2 hr2 hs2⟩
 | nil =>
  have hne:(!vs.isEmpty)=false:=by
   have:vs.size=0:=by rw [hsz]; rfl
   simp [Array.isEmpty,this]
  rw [hne,if_neg (by simp)]
  refine wpAny_execs_nil ?_
  refine wpAny_execs_cons (wpAny_Assign_Name (wpAny_Constant_str ?_) rfl)
  refine EO.st hns S.token fun h₂ hn2 hk2=>?_
  refine cps fun X9 k9=>?_
  have L2:=L1.but hLf hLc hk2
  have B2:=B1.but hLb hk2
  have F2:=F.keeps B2.up
  refine x16 L2.i1 fun m1 I1 wi1 ln1 is1 ws1 pb1=>?_
  refine x24 NO.it fun mg mb hg hbn hi1 hi2=>?_
  refine k9 ?_
  clear k9
  refine wpAny_execs_cons (wpAny_Assign_Name ?_ rfl)
  refine wpAny_Call_NameR (EO.ldg (hg.keeps B2.up) (hbn.keeps B2.up) GO.iter (by decide) (.inr ⟨hi1,hi2⟩) _ ?_)
  rw [qLR.back]
  refine x44 F2.rc fun o pm cd doc ho hc hdat hcd=>?_
  have hsh:m1 "_read_char" = none:=by
   cases e:m1 "_read_char" with
   | none=>rfl
   | some v=>exact absurd (wi1 "_read_char" (by rw [e]; simp)) (by decide)
  refine Calls.callWith_builtin rfl (evalArgs_plain (Calls.spliced_cons (Attribute_name ?_)))
  refine EO.ld hn2 S.self ((if_neg (by decide)).trans (by rfl)) (by decide) _ ?_
  refine qIo F2.cls I1 (CO.no _ (by simp [qAI])) (CO.no _ (by simp [qAI])) CO.rcv ho hc qDH hsh (by decide +kernel) fun tk3=>?_
  refine Calls.spliced_cons (wpAny_Constant_str (Calls.spliced_nil ?_))
  rw [qJM]
  refine (fun mo (hmo:mo=h₂.objs.size)=>?_) _ rfl
  refine (fun h₃ (hh₃:h₃=h₂.push (qDO c.frc x.i1))=>?_) _ rfl
  have hk3:∀ b o,h₂.get? b=some o->h₃.get? b=some o:=fun b o e=>by rw [hh₃]; exact Heap.get?_push_of_some _ e
  have hm3:h₃.get? mo=some (qDO c.frc x.i1):=by rw [hh₃,hmo]; exact Heap.get?_push_size _ rfl
  show wpAny _ _ (call (.builtin "iter") [.ref h₂.objs.size,.str (toS []) tk3]) _ _ { s with heap:=h₂.push (qDO c.frc x.i1),toks:=tk3+1 }
  rw [← hh₃,← hmo]
  refine qIl hm3 ?_
  refine (fun it (hit:it=h₃.objs.size)=>?_) _ rfl
  refine (fun h₄ (hh₄:h₄=h₃.push (qDb mo tk3))=>?_) _ rfl
  show wpAny _ _ (storeName env "fiter" (.ref h₃.objs.size)) _ _ { s with heap:=h₃.push (qDb mo tk3),toks:=tk3+1 }
  rw [← hh₄,← hit]
  have hk4:∀ b o,h₃.get? b=some o->h₄.get? b=some o:=fun b o e=>by rw [hh₄]; exact Heap.get?_push_of_some _ e
  have hi4:h₄.get? it=some (qDb mo tk3):=by rw [hh₄,hit]; exact Heap.get?_push_size _ rfl
  have n2mo:h₂.get? mo=none:=by rw [hmo]; exact qAD _
  have n3it:h₃.get? it=none:=by rw [hit]; exact qAD _
  have n2it:h₂.get? it=none:=by
   cases e:h₂.get? it with
   | none=>rfl
   | some o=>rw [hk3 _ _ e] at n3it; cases n3it
  have L3:=L2.keeps hk3
  have B3:=B2.keeps hk3
  refine x32 (id hn2) fun oL _ _ hoL _=>?_
  have k02:∀ b o,s.heap.get? b=some o->h₂.get? b=some o:=fun b o e=>hk2 b o (fun q=>by rw [q,hL0] at e; cases e) (hk₁ b o e)
  have s0it:s.heap.get? it=none:=by
   cases e:s.heap.get? it with
   | none=>rfl
   | some o=>rw [k02 _ _ e] at n2it; cases n2it
  have Ge:Geo hb x c' L it mo:=by
   refine ⟨hLf,L2.nin (h₀:=hb) n2it,L2.nin (h₀:=hb) n2mo,?_,?_,?_,hLb,B2.none n2it,B2.none n2mo,hLc,L2.cne (h₀:=hb) n2it,L2.cne (h₀:=hb) n2mo⟩
   · rintro rfl; rw [hoL] at n2it; cases n2it
   · rintro rfl; rw [hoL] at n2mo; cases n2mo
   · rintro rfl; rw [hm3] at n3it; cases n3it
  have G4:GI c hb x c' L it mo tk3 s [] { s with heap:=h₄,toks:=tk3+1 } _ sg true :=
   ⟨⟨h₄,_,rfl⟩,L3.keeps hk4,Kp.of fun b o e=>hk4 _ _ (hk3 _ _ (k02 _ _ e)),B3.keeps hk4,(hn2.keeps hk3).keeps hk4,hk4 _ _ hm3,hi4,hL0,s0it⟩
  refine G4.st Ge EO S.fiter fun s5 G5=>?_
  have M5:∀ tt,MOk x it (put (fun z=>if z=("token" : Str) then some (.str ("" : Str) tt) else ([("self" : Str)].zip [Value.ref x.i1]).reverse.lookup z) "fiter" (.ref it)) []:=fun tt =>
   ⟨(if_neg (by decide)).trans ((if_neg (by decide)).trans (by rfl)),if_pos rfl,tt,by rw [← qJM]; exact (if_neg (by decide)).trans (if_pos rfl)⟩
  refine wpAny_execs_cons (wpAny_mono (qKU G5 Ge CO F EO S (M5 _) hA1 (by exact Nat.le_trans (Nat.add_le_add_right ‹_› _) (by decide)) (hs rfl)) (fun f s' h=>?_) fun _ _ h=>h)
  rcases h with ⟨u,m',rfl,G'⟩ | ⟨m',rfl,G',M',h2⟩
  · obtain ⟨⟨hh,tk,e⟩,lex,kp,_⟩:=G'
    clear s0it_1 s0L git gmo ns bd G5 G4 s0it k02 hk2 hn2 Lx hL hL0 hk₁ F0 B
    subst e
    exact ⟨hh,tk,rfl,kp,⟨u,rfl⟩,lex⟩
  · obtain ⟨tt,ht⟩:=M'.tok
    refine wpAny_execs_cons (wpAny_Return_some (EO.ld G'.ns S.token ht (by decide) _ ?_))
    refine cps fun X9 k9=>?_
    obtain ⟨⟨hh,tk,e⟩,lex,kp,_⟩:=G'
    refine k9 ?_
    clear k9
    clear s0it_1 s0L git gmo ns bd G5 G4 s0it k02 hk2 hn2 Lx hL hL0 hk₁ F0 B
    subst e
    refine ⟨hh,tk,rfl,kp,⟨tt,rfl⟩,?_⟩
    rw [h2]; exact lex
noncomputable def qL7:List Stmt:=[(.Expr (.Call (.Attribute (.Attribute (.Name "self" ⟨74,8,74,12⟩) "pushback" ⟨74,8,74,21⟩) "append" ⟨74,8,74,28⟩) [(.Name "token" ⟨74,29,74,34⟩)] [] ⟨74,8,74,35⟩) ⟨74,8,74,35⟩)]
structure PuOk (c:CK):Prop where
 ok:MethOk c.Mpu ["self", "token"]
 shape:c.Mpu.body=qL7
noncomputable def qOH (c:CK) (x:LA) (c':Addr) (pb:List (List Nat)) (sg t:List Nat) (s:Shared) (v:Value) (s':Shared):Prop :=
 ∃ h tk,s'={ s with heap:=h,toks:=tk }/\v=.none/\Kp x.fp s.heap h/\LexOn c.K h x c' (pb++[t]) sg
theorem qNZ {prog:Program} {w:World} {A:Around} {s:Shared} {c:CK} (CO:COk c) (PO:PuOk c) {hb:Heap} (F:CFacts c hb) {x:LA} (B:Bd hb x s.heap) {c':Addr} {pb:List (List Nat)} {sg t:List Nat} {u:Tok} {b:Nat} (hA:AOk b A) (hbb:b≤606) (Lx:LexOn c.K s.heap x c' pb sg) (hpb:pb.length<16777216) {Er:Value->Shared->Prop} :
 wpAny (model prog w) A (call (.ref c.fpu) [.ref x.i1,.str (toS t) u]) (qOH c x c' pb sg t s) Er s:=by
 have F0:=F.keeps B.up
 refine qAv (qCh PO.ok F0.pu (by have:=hA.depth; (exact Nat.lt_of_le_of_lt ‹_› (Nat.lt_of_le_of_lt ‹_› (by decide)))) F0.lim (vs:=[.ref x.i1,.str (toS t) u]) rfl fun env h₁ tk₁ EO hns hk₁=>?_)
 have hself:c.Mpu.scope.names.lookup ("self" : Str)=some .local:=PO.ok.par _ (by decide)
 have htok:c.Mpu.scope.names.lookup ("token" : Str)=some .local:=PO.ok.par _ (by decide)
 have B1:=B.keeps hk₁
 have F1:=F.keeps B1.up
 have L1:=Lx.keeps hk₁
 rw [PO.shape]
 refine cps fun X9 k9=>?_
 refine x16 L1.i1 fun m1 I1 wi1 ln1 is1 ws1 pb1=>?_
 refine x12 L1.pb fun vs hpl hpr=>?_
 have hsz:vs.size=pb.length:=by have:=hpr.length; simpa using this
 have hint:interactive env=false:=by unfold interactive; rw [EO.kind]; rfl
 refine k9 ?_
 clear k9
 refine wpAny_execs_cons ?_
 rw [PySem.exec_Expr (hi:=hint) (hs:=rfl)]
 refine wpAny_bind (wpAny_standAt (wpAny_bind (qAx rfl (fun env=>rfl) (by decide) rfl ?_)))
 refine EO.attr CO F1 hns hself (by rfl) I1 (CO.no _ (by simp [qAI])) qBp pb1 rfl _ _ fun pl=>?_
 refine x11 (id hpl) fun n hpl'=>?_
 refine getMethod_list_append hpl' rfl rfl ?_
 rw [qG8.back]
 refine Calls.callWith_builtin rfl (evalArgs_plain (Calls.spliced_cons (EO.ld hns htok (by rfl) (by decide) _ (Calls.spliced_nil ?_))))
 refine wpAny_list_append_plain (hsz:=by rw [hsz,sizeLine_eq]; (exact Nat.le_of_lt ‹_›)) hpl fun h₂ hl2 hs2=>?_
 refine wpAny_dropValue ?_
 refine wpAny_execs_nil ?_
 refine ⟨h₂,_,rfl,rfl,fun b o e hn=>hs2.extBut b o (fun q=>hn (by rw [q]; simp [LA.fp])) (hk₁ _ _ e),L1.turnPb hl2 ?_ hs2⟩
 have:=hpr.append (.cons (.str t u) .nil)
 simpa [toS] using this
noncomputable def qMD:List Stmt:=[(.Assign [(.Attribute (.Name "self" ⟨35,8,35,12⟩) "lineno" ⟨35,8,35,19⟩)] (.Constant (.int 1) 0 ⟨35,22,35,23⟩) ⟨35,8,35,23⟩),
 (.Assign [(.Attribute (.Name "self" ⟨36,8,36,12⟩) "instream" ⟨36,8,36,21⟩)] (.Name "fp" ⟨36,24,36,26⟩) ⟨36,8,36,26⟩),
 (.Assign [(.Attribute (.Name "self" ⟨37,8,37,12⟩) "whitespace" ⟨37,8,37,23⟩)] (.Constant (.str "\n\t\r ") 0 ⟨37,26,37,35⟩) ⟨37,8,37,35⟩),
 (.Assign [(.Attribute (.Name "self" ⟨38,8,38,12⟩) "pushback" ⟨38,8,38,21⟩)] (.List [] ⟨38,24,38,26⟩) ⟨38,8,38,26⟩)]
structure InOk (c:CK):Prop where
 ok:MethOk c.Min ["self", "fp"]
 shape:c.Min.body=qMD
theorem qMo (t:Tok):some (Value.str ("\n\t\r " : Str) t)=some (.str (toS [10,9,13,32]) t):=by
 have e:("\n\t\r " : Str)=toS [10,9,13,32]:=by decide +kernel
 rw [e]
theorem qPX:("\n\t\r " : Str)=toS [10,9,13,32]:=by decide +kernel
structure Made (c:CK) (h₀ h:Heap) (x dx pbA:Addr) (v:Value) (m:Str->Option Value):Prop where
 I:IAt h x dx c.K.C m
 within:Within m wn1
 ln:∃ n t,m "lineno" = some (.int n t)
 ins:m "instream" = some v
 ws:∃ t,m "whitespace" = some (.str (toS [10,9,13,32]) t)
 pb:m "pushback" = some (.ref pbA)
 lst:h.PlainList pbA #[]
 nx:h₀.get? x=none
 nd:h₀.get? dx=none
 np:h₀.get? pbA=none
 xp:x≠pbA
 dp:dx≠pbA
 keeps:∀ b o,h₀.get? b=some o->h.get? b=some o
theorem qKh {prog:Program} {w:World} {A:Around} {s:Shared} {c:CK} (CO:COk c) (IO:InOk c) {hb:Heap} (F:CFacts c hb) (up:∀ a o,hb.get? a=some o->s.heap.get? a=some o) {x dx:Addr} (hbx:hb.get? x=none) (hbd:hb.get? dx=none) (I:IAt s.heap x dx c.K.C fun _=>none) {v:Value} {b:Nat} (hA:AOk b A) (hbb:b≤606) {Er:Value->Shared->Prop} :
 wpAny (model prog w) A (call (.ref c.fin) [.ref x,v]) (fun r s'=>r=.none/\∃ h tk pbA m,s'={ s with heap:=h,toks:=tk }/\IAt h x dx c.K.C m/\Within m wn1/\(∃ n t,m "lineno" = some (.int n t))/\m "instream" = some v/\(∃ t,m "whitespace" = some (.str (toS [10,9,13,32]) t))/\m "pushback" = some (.ref pbA) /\
  h.PlainList pbA #[]/\s.heap.get? pbA=none/\x≠pbA/\dx≠pbA/\∀ b o,b≠x->b≠dx->s.heap.get? b=some o->h.get? b=some o) Er s:=by
 have F0:=F.keeps up
 refine qAv (qCh IO.ok F0.ini (by have:=hA.depth; (exact Nat.lt_of_le_of_lt ‹_› (Nat.lt_of_le_of_lt ‹_› (by decide)))) F0.lim (vs:=[.ref x,v]) rfl fun env h₁ tk₁ EO hns hk₁=>?_)
 have hself:c.Min.scope.names.lookup ("self" : Str)=some .local:=IO.ok.par _ (by decide)
 have hfp:c.Min.scope.names.lookup ("fp" : Str)=some .local:=IO.ok.par _ (by decide)
 have hL0:s.heap.get? s.heap.objs.size=none:=qAD _
 refine (fun L (hL:L=s.heap.objs.size)=>?_) _ rfl
 rw [← hL] at EO hns hL0
 refine x12 I.obj fun ox hox _=>?_
 refine x32 I.ns fun od _ _ hod _=>?_
 have hLx:L≠x:=by rintro rfl; rw [hL0] at hox; cases hox
 have hLd:L≠dx:=by rintro rfl; rw [hL0] at hod; cases hod
 have up1:∀ a o,hb.get? a=some o->h₁.get? a=some o:=fun a o e=>hk₁ _ _ (up a o e)
 have bx:∀ (a:Addr) (o:Obj),hb.get? a=some o->a≠x:=fun a o e q=>by rw [q,hbx] at e; cases e
 have bd:∀ (a:Addr) (o:Obj),hb.get? a=some o->a≠dx:=fun a o e q=>by rw [q,hbd] at e; cases e
 rw [IO.shape]
 have no:∀ n∈qAI,c.mN n=none:=CO.no
 have F1:=F.keeps up1
 have I1:=I.keeps hk₁
 refine wpAny_execs_cons (plainObj_wpAny_Assign_Attribute (wpAny_Constant_int ?_) rfl)
 refine EO.ld hns hself (by rfl) (by decide) _ ?_
 refine I1.store F1.cls (qEd F1.cls I1) (no _ (by simp [qAI])) (no _ (by simp [qAI])) qDZ (ns:=[]) (fun y hy=>absurd rfl hy) (by decide) fun h₂ tk₂ I2 hk2=>?_
 have up2:∀ a o,hb.get? a=some o->h₂.get? a=some o:=fun a o e=>hk2 a o (bx a o e) (bd a o e) (up1 a o e)
 have F2:=F.keeps up2
 have hns2:=hns.at fun o e=>hk2 L o hLx hLd e
 refine wpAny_execs_cons (plainObj_wpAny_Assign_Attribute ?_ rfl)
 refine EO.ld hns2 hfp (by rfl) (by decide) _ ?_
 refine EO.ld hns2 hself (by rfl) (by decide) _ ?_
 have w2:Within (fun y=>if y=("lineno" : Str) then some (Value.int 1 tk₁) else none) ["lineno"]:=fun y hy=>by
  by_cases e:y=("lineno" : Str)
  · simp [e]
  · simp [e] at hy
 refine I2.store F2.cls (qEd F2.cls I2) (no _ (by simp [qAI])) (no _ (by simp [qAI])) qDi (ns:=["lineno"]) (fun y hy=>by
  by_cases e:y=("lineno" : Str)
  · simp [e]
  · exact absurd (if_neg e) hy) (by decide) fun h₃ tk₃ I3 hk3=>?_
 have up3:∀ a o,hb.get? a=some o->h₃.get? a=some o:=fun a o e=>hk3 a o (bx a o e) (bd a o e) (up2 a o e)
 have F3:=F.keeps up3
 have hns3:=hns2.at fun o e=>hk3 L o hLx hLd e
 refine wpAny_execs_cons (plainObj_wpAny_Assign_Attribute (wpAny_Constant_str ?_) rfl)
 refine EO.ld hns3 hself (by rfl) (by decide) _ ?_
 refine I3.store F3.cls (qEd F3.cls I3) (no _ (by simp [qAI])) (no _ (by simp [qAI])) qCd (ns:=["instream", "lineno"]) (fun y hy=>by
  by_cases e:y=("instream" : Str)
  · simp [e]
  · by_cases e':y=("lineno" : Str)
    · simp [e']
    · exact absurd ((if_neg e).trans (if_neg e')) hy) (by decide) fun h₄ tk₄ I4 hk4=>?_
 have up4:∀ a o,hb.get? a=some o->h₄.get? a=some o:=fun a o e=>hk4 a o (bx a o e) (bd a o e) (up3 a o e)
 have hns4:=hns3.at fun o e=>hk4 L o hLx hLd e
 refine wpAny_execs_cons (plainObj_wpAny_Assign_Attribute ?_ rfl)
 refine List_ (Calls.spliced_nil (wpAny_newObj_type ?_ (by show ([]:List Value).toArray.size≤sizeLine; rw [sizeLine_eq]; exact Nat.zero_le _)))
 refine (fun h₅ (hh₅:h₅=h₄.push { cls:=.type "list",data:=.seq ([]:List Value).toArray })=>?_) _ rfl
 refine (fun pbA (hpb:pbA=h₄.objs.size)=>?_) _ rfl
 have hk5:∀ b o,h₄.get? b=some o->h₅.get? b=some o:=fun b o e=>by rw [hh₅]; exact Heap.get?_push_of_some _ e
 have hl5:h₅.PlainList pbA #[]:=⟨0,by rw [hh₅,hpb]; exact Heap.get?_push_size _ rfl⟩
 have n4:h₄.get? pbA=none:=by rw [hpb]; exact qAD _
 show wpAny (model prog w) (A.deeper env) (eval (.Name "self" _) env) (fun ov s₂=>wpAny (model prog w) (A.deeper env) (setAttr ov "pushback" (.ref h₄.objs.size)) (fun _ s₃=>wpAny (model prog w) (A.deeper env) (execs [] env) _ _ s₃) _ s₂) _ { s with heap:=h₄.push { cls:=.type "list",data:=.seq ([]:List Value).toArray },toks:=tk₄ }
 rw [← hh₅,← hpb]
 have up5:∀ a o,hb.get? a=some o->h₅.get? a=some o:=fun a o e=>hk5 _ _ (up4 a o e)
 have F5:=F.keeps up5
 have I5:=I4.keeps hk5
 refine EO.ld (hns4.keeps hk5) hself (by rfl) (by decide) _ ?_
 refine I5.store F5.cls (qEd F5.cls I5) (no _ (by simp [qAI])) (no _ (by simp [qAI])) qBp (ns:=["whitespace", "instream", "lineno"]) (fun y hy=>by
  by_cases e:y=("whitespace" : Str)
  · simp [e]
  · by_cases e':y=("instream" : Str)
    · simp [e']
    · by_cases e'':y=("lineno" : Str)
      · simp [e'']
      · exact absurd ((if_neg e).trans ((if_neg e').trans (if_neg e''))) hy) (by decide) fun h₆ tk₆ I6 hk6=>?_
 have hxp:x≠pbA:=by
  refine x12 I4.obj fun o ho _=>?_
  clear hk6 I6 I5 hk5 hpb hh₅ hns4 up4 hk4 I4 hns3 hk3 I3 hns2 hk2 I2 I1 bx hLx hox hns I hbx
  rintro rfl; rw [n4] at ho; cases ho
 have hdp:dx≠pbA:=by
  refine x32 I4.ns fun o _ _ ho _=>?_
  clear hk6 I6 I5 hk5 hpb hh₅ hns4 up4 hk4 I4 hk3 I3 hk2 I2 I1 bd hLd hod I hbd
  rintro rfl; rw [n4] at ho; cases ho
 have kall:∀ b o,b≠x->b≠dx->s.heap.get? b=some o->h₆.get? b=some o:=fun b o h1 h2 e=>hk6 b o h1 h2 (hk5 _ _ (hk4 b o h1 h2 (hk3 b o h1 h2 (hk2 b o h1 h2 (hk₁ _ _ e)))))
 refine wpAny_execs_nil ⟨rfl,h₆,tk₆,pbA,_,rfl,I6,fun y hy=>?_,⟨_,_,(if_neg (by decide)).trans ((if_neg (by decide)).trans ((if_neg (by decide)).trans (if_pos rfl)))⟩,(if_neg (by decide)).trans ((if_neg (by decide)).trans (if_pos rfl)),⟨_,(if_neg (by decide)).trans ((if_pos rfl).trans (qMo _))⟩,if_pos rfl,hl5.at fun o e=>hk6 pbA o (Ne.symm hxp) (Ne.symm hdp) e,?_,hxp,hdp,kall⟩
 · by_cases e:y=("pushback" : Str)
   · simp [e,wn1]
   · by_cases e1:y=("whitespace" : Str)
     · simp [e1,wn1]
     · by_cases e':y=("instream" : Str)
       · simp [e',wn1]
       · by_cases e'':y=("lineno" : Str)
         · simp [e'',wn1]
         · exact absurd ((if_neg e).trans ((if_neg e1).trans ((if_neg e').trans (if_neg e'')))) hy
 · cases e:s.heap.get? pbA with
   | none=>rfl
   | some o=>rw [hk4 pbA o (Ne.symm hxp) (Ne.symm hdp) (hk3 pbA o (Ne.symm hxp) (Ne.symm hdp) (hk2 pbA o (Ne.symm hxp) (Ne.symm hdp) (hk₁ _ _ e)))] at n4; cases n4
theorem qLb {h h':Heap} {x dx C:Addr} (Mk:Heap.MadeObj h h' x dx C):IAt h' x dx C fun _=>none:=by
 refine x14 Mk.inst fun ox hx hcx hncx hdx=>?_
 have hdd:=Mk.dict ox hx
 clear Mk
 rcases hdx with ⟨hn0,_⟩ | ⟨d',hd',hne',hns'⟩
 · rw [hn0] at hdd; cases hdd
 · obtain rfl:=Option.some.inj (hd'.symm.trans hdd)
   exact ⟨⟨ox,hx,hcx,hdd,hncx⟩,hns',hne'⟩
theorem tc_w (C:Addr) (v:Value):(Code.builtin "type.__call__" ⟨[.ref C,v],[]⟩).weight=1:=rfl
theorem tc_u (C:Addr) (v:Value):(Code.builtin "type.__call__" ⟨[.ref C,v],[]⟩).cUnits=1:=rfl
theorem qNs {b:Nat} {A:Around} (hA:AOk b A) (C:Addr) (v:Value):AOk (b+1) (A.under (.builtin "type.__call__" ⟨[.ref C,v],[]⟩)):=by
 refine ⟨hA.handled,?_,?_⟩
 · have:=hA.depth
   show A.depth+(Code.builtin "type.__call__" ⟨[.ref C,v],[]⟩).weight≤b+1
   rw [tc_w]; (exact Nat.succ_le_succ ‹_›)
 · have:=hA.units
   show A.units+(Code.builtin "type.__call__" ⟨[.ref C,v],[]⟩).cUnits≤10*(b+1)
   rw [tc_u]; lia
theorem qF0 {prog:Program} {w:World} {A:Around} {s:Shared} {c:CK} (CO:COk c) (IO:InOk c) {hb:Heap} (F:CFacts c hb) (up:∀ a o,hb.get? a=some o->s.heap.get? a=some o) {v:Value} {b:Nat} (hA:AOk b A) (hbb:b≤605) {Er:Value->Shared->Prop} :
 wpAny (model prog w) A (call (.ref c.K.C) [v]) (fun r s'=>∃ h tk x dx pbA m,s'={ s with heap:=h,toks:=tk }/\r=.ref x/\Made c s.heap h x dx pbA v m) Er s:=by
 refine cps fun X9 k9=>?_
 obtain ⟨hh,g,d,t,os⟩:=s
 have F0:=F.keeps up
 obtain ⟨nm,q,bs,sn,sub,col,dd,k0,k1,k2,k3,k5,hC⟩:=F0.cls.obj
 refine x44 F0.ini fun oI pm cd doc hoI hcI hdI hrI=>?_
 refine k9 ?_
 clear k9
 refine wpAny_call_obj_init PySem.F.objNew hC F0.cls.ns CO.iniv hoI hcI fun h' x dx Mk=>?_
 have nb:∀ {a:Addr},hh.get? a=none->hb.get? a=none:=fun {a} e=>by
  cases e':hb.get? a with
  | none=>rfl
  | some o=>rw [up a o e'] at e; cases e
 have hA':=qNs hA c.K.C v
 refine wpAny_mono (qKh (s:=⟨h',g,d,t,os⟩) CO IO F (fun a o e=>Mk.keeps _ _ (up a o e)) (nb Mk.newX) (nb Mk.newD) (qLb Mk) hA' (by exact Nat.succ_le_succ ‹_›)) (fun r s' hr=>?_) fun _ _ y=>y
 refine x02 hr fun eq0 r9=>qPN r9 fun h tk pbA m eq5 I wi ln ins ws pb hl np xp dp ks=>?_
 subst eq0
 clear hr r9 hrI hoI hC F0 up
 subst eq5
 have nx:∀ b o,hh.get? b=some o->b≠x:=fun b o e q=>by rw [q,Mk.newX] at e; cases e
 have nd:∀ b o,hh.get? b=some o->b≠dx:=fun b o e q=>by rw [q,Mk.newD] at e; cases e
 refine ⟨rfl,h,tk,x,dx,pbA,m,rfl,rfl,I,wi,ln,ins,ws,pb,hl,Mk.newX,Mk.newD,?_,xp,dp,fun b o e=>ks b o (nx b o e) (nd b o e) (Mk.keeps _ _ e)⟩
 cases e:hh.get? pbA with
 | none=>rfl
 | some o =>
  have e2:h'.get? pbA=none:=np
  rw [Mk.keeps _ _ e] at e2; cases e2
noncomputable def qD5 (K:LK) (pos:Pos):List Stmt:=[(.Assign [(.Name "signs" ⟨104,4,104,9⟩)] (.Subscript (.Call (.Name "list" ⟨104,12,104,16⟩) [(.Name "text" ⟨104,17,104,21⟩)] [] ⟨104,12,104,22⟩) (.Slice none none (some (.UnaryOp .USub (.Constant (.int 1) 0 ⟨104,26,104,27⟩) ⟨104,25,104,27⟩)) ⟨104,23,104,27⟩) ⟨104,12,104,28⟩) ⟨104,4,104,28⟩),
 (.Assign [(.Name "stream" ⟨105,4,105,10⟩)] (.Call (.Name "_netrclex" ⟨105,13,105,22⟩) [(.Constant .none 0 ⟨105,23,105,27⟩)] [] ⟨105,13,105,28⟩) ⟨105,4,105,28⟩),
 (.Assign [(.Attribute (.Name "stream" ⟨106,4,106,10⟩) "read" ⟨106,4,106,15⟩)] (.Lambda K.params K.body K.scope pos) ⟨106,4,106,81⟩),
 (.Return (some (.Call (.Name "_netrclex" ⟨107,11,107,20⟩) [(.Name "stream" ⟨107,21,107,27⟩)] [] ⟨107,11,107,28⟩)) ⟨107,4,107,28⟩)]
structure LlOk (c:CK) (params:Arguments) (body:List Stmt) (sc:Scope) (pos:Pos):Prop where
 shape:body=qD5 c.K pos
 kind:sc.kind=.function
 co:sc.isCoroutine=false
 gen:sc.isGenerator=false
 text:sc.names.lookup ("text" : Str)=some .local
 signs:sc.names.lookup ("signs" : Str)=some .cell
 stream:sc.names.lookup ("stream" : Str)=some .local
 list:sc.names.lookup ("list" : Str)=some .globalImplicit
 cls:sc.names.lookup ("_netrclex" : Str)=some .globalImplicit
 cells:∀ n,cellsFrom n sc.names []=[(("signs" : Str),n)]
 bind:∀ pm cd doc v,bindArgs (Calls.docDef "_law_lexer" params body sc pm cd doc) ⟨[v],[]⟩=pure [(("text" : Str),v)]
 clo:∀ (env:Env) ce,env.cells.lookup ("signs" : Str)=some ce->closureFor c.K.scope env=pure [(("signs" : Str),ce)]
 dflt:∀ env:Env,defaultsOf c.K.params env=([],[])
 qual:c.K.qual=(("_law_lexer" : Str)++(".<locals>." : Str))++("<lambda>" : Str)
structure LlAt (c:CK) (hb:Heap) (P:Addr) (mg mb:Str->Option Value) (fa cc:Addr) (params:Arguments) (body:List Stmt) (sc:Scope):Prop where
 fn:∃ o pm doc,hb.get? fa=some o/\o.data=.func (Calls.docDef "_law_lexer" params body sc pm (.ref cc) doc)
 recd:hb.CodeRec (.ref cc) "_law_lexer"
 hd:CodeHd hb cc P
 freed:hb.get? P=.none
 gP:mainGlobals≠P
 g:hb.Ns mainGlobals mg
 bn:hb.Ns builtinsNs mb
 bm:hb.BuiltinsAt mg P
 cls:mg "_netrclex" = some (.ref c.K.C)
 list:mg "list" = .none/\mb "list" = some (.type "list")
noncomputable def qH3 (K:LK) (pos:Pos) (ps:Array Value) (B:Addr->Option Obj):Prop :=
 ps=#[]\/∃ c' oc vs t,ps=#[rawInt pos.line,rawInt pos.col,.ref c']/\B c'=some oc/\oc.data=.fields vs/\vs[1]?=some (.str K.qual t)
noncomputable def qF5 (c:CK) (P:Addr) (pos:Pos) (ps:Array Value) (s:Shared) (sg:List Nat) (v:Value) (s':Shared):Prop :=
 ∃ h tk x c' oc vs t,s'={ s with heap:=h,toks:=tk }/\v=.ref x.i1/\LexOn c.K h x c' [] sg/\(∀ a∈x.fp,s.heap.get? a=none)/\(∀ b o,b≠P->s.heap.get? b=some o->h.get? b=some o) /\
  h.get? P=some (tabObj #[rawInt pos.line,rawInt pos.col,.ref c'])/\h.get? c'=some oc/\oc.data=.fields vs/\vs[1]?=some (.str c.K.qual t)/\(s.heap.get? c'=none\/ps=#[rawInt pos.line,rawInt pos.col,.ref c'])
theorem BuiltinsAt.keeps {h h':Heap} {mg:Str->Option Value} {P:Addr} (X:h.BuiltinsAt mg P) (k:∀ b o,h.get? b=some o->h'.get? b=some o):h'.BuiltinsAt mg P:=by
 refine x26 X fun bm o h1 h2 h3 h4 h5 r=>?_
 exact ⟨bm,o,h1,h2,h3,h4,k _ _ h5,r⟩
theorem qLx {prog:Program} {w:World} {A:Around} {s:Shared} {c:CK} {hb:Heap} {P:Addr} {mg mb:Str->Option Value} {fa cc:Addr} {params:Arguments} {body:List Stmt} {sc:Scope} {pos:Pos} (LO:LlOk c params body sc pos) (LA:LlAt c hb P mg mb fa cc params body sc)
 (up:∀ a o,hb.get? a=some o->s.heap.get? a=some o) {ps:Array Value} (hP:s.heap.get? P=some (tabObj ps)) (hps:qH3 c.K pos ps s.heap.get?) {env:Env} {ce:Addr} (he:env.cells.lookup ("signs" : Str)=some ce) (hge:env.globals=mainGlobals) (hcd:env.code=.ref cc) (hq:env.qual++("<lambda>" : Str)=c.K.qual) {Er:Value->Shared->Prop} {Q:Value->Shared->Prop}
 (h:∀ (c':Addr) (oc:Obj) (vs:Array Value) (t:Tok) (pm ctv:Value) (h':Heap) (tk:Nat),(∀ b o,b≠P->s.heap.get? b=some o->h'.get? b=some o)->s.heap.objs.size≤h'.objs.size->h'.get? P=some (tabObj #[rawInt pos.line,rawInt pos.col,.ref c'])->h'.get? c'=some oc->oc.data=.fields vs->vs[1]?=some (.str c.K.qual t) ->
   (s.heap.get? c'=none\/ps=#[rawInt pos.line,rawInt pos.col,.ref c'])->Q (.ref h'.objs.size) { s with heap:=h'.push (kla_obj "<lambda>" c.K.qual c.K.params c.K.body c.K.scope [(("signs" : Str),ce)] pm c' ctv),toks:=tk }) :
 wpAny (model prog w) A (eval (.Lambda c.K.params c.K.body c.K.scope pos) env) Q Er s:=by
 refine kla_eval (LO.dflt env) ?_
 rw [hq]
 have hg:=LA.g.keeps up
 have hbm:=BuiltinsAt.keeps LA.bm up
 rcases hps with rfl | ⟨c',oc,vs,t,rfl,hc',hd',hv'⟩
 · refine kla_makeFunction (LO.clo env ce he) hge hg hcd (LA.hd.keeps up) hP trivial rfl LA.gP hbm fun c' ctv h' tk hx hge' hlt hrec htb=>?_
   refine x44 hrec fun c₂ oc vs t e2 hoc hd hv=>?_
   cases e2
   refine h c' oc vs t _ ctv h' tk (fun b o hb e=>hx b o hb e) (Nat.le_of_lt (Nat.lt_of_le_of_lt hge' hlt)) ?_ hoc hd hv (.inl (Heap.get?_none_of_le hge'))
   exact htb
 · refine kla_makeFunctionHit (cv:=.ref c') (LO.clo env ce he) hge hg hcd (LA.hd.keeps up) hP ?_ ?_ hbm fun ctv h' tk hk hsz=>?_
   · exact trivial
   · show (if ((pos.line:Int) == (pos.line:Int) && (pos.col:Int) == (pos.col:Int))=true then some (Value.ref c') else codeAmong pos [])=_
     simp
   · exact h c' oc vs t _ ctv h' tk (fun b o _ e=>hk b o e) hsz (hk _ _ hP) (hk _ _ hc') hd' hv' (.inr rfl)
theorem x63 {α β γ δ ε ζ:Sort _} {P0 P1 P2:α->β->γ->δ->ε->ζ->Prop} {X:Prop} (h:∃ x0 x1 x2 x3 x4 x5,P0 x0 x1 x2 x3 x4 x5/\P1 x0 x1 x2 x3 x4 x5/\P2 x0 x1 x2 x3 x4 x5) (k:∀ x0 x1 x2 x3 x4 x5,P0 x0 x1 x2 x3 x4 x5->P1 x0 x1 x2 x3 x4 x5->P2 x0 x1 x2 x3 x4 x5->X):X:=h.elim fun x0 h=>h.elim fun x1 h=>h.elim fun x2 h=>h.elim fun x3 h=>h.elim fun x4 h=>h.elim fun x5 h=>k x0 x1 x2 x3 x4 x5 h.1 h.2.1 h.2.2
theorem qHx (s:List Nat):(singles s).reverse=qA4 s.reverse:=by simp [singles,qA4]
structure Lv (s:Shared) (P L:Addr) (h:Heap) (fp:List Addr):Prop where
 nd:fp.Nodup
 al:∀ a∈fp,∃ o,h.get? a=some o
 no:∀ a∈fp,s.heap.get? a=none
 ks:∀ b o,b≠P->s.heap.get? b=some o->h.get? b=some o
 aP:∃ o,s.heap.get? P=some o
 hP:∃ o,h.get? P=some o
 nL:L ∉ fp
 sL:s.heap.get? L=none
theorem qAW {h:Heap} {a:Addr} {X:Prop} (e:h.get? a=none) (o:∃ o,h.get? a=some o):X:=o.elim fun _ ho=>nomatch e.symm.trans ho
theorem Lv.out {s:Shared} {P L:Addr} {h:Heap} {fp:List Addr} (V:Lv s P L h fp) {a:Addr} (e:h.get? a=none):a ∉ fp:=fun m=>qAW e (V.al a m)
theorem Lv.neP {s:Shared} {P L:Addr} {h:Heap} {fp:List Addr} (V:Lv s P L h fp) {a:Addr} (m:a∈fp):a≠P:=fun e=>qAW (V.no a m) (e ▸ V.aP)
theorem Lv.new {s:Shared} {P L:Addr} {h:Heap} {fp:List Addr} (V:Lv s P L h fp) {a:Addr} (e:h.get? a=none):s.heap.get? a=none:=by
 cases e':s.heap.get? a with
 | none=>rfl
 | some o=>exact qAW e ⟨o,V.ks a o (fun q=>qAW e (q ▸ V.hP)) e'⟩
theorem Lv.hb {s:Shared} {P L:Addr} {h:Heap} {fp:List Addr} (V:Lv s P L h fp) {hb:Heap} (up:∀ a o,hb.get? a=some o->s.heap.get? a=some o) {a z:Addr} (m:a∈fp) {o:Obj} (hz:hb.get? z=some o):z≠a:=fun e=>qAW (V.no a m) ⟨o,e ▸ up z o hz⟩
theorem Lv.to {s:Shared} {P L:Addr} {h h':Heap} {fp:List Addr} (V:Lv s P L h fp) (k:∀ b o,b≠P->b≠L->h.get? b=some o->h'.get? b=some o) (hP:∃ o,h'.get? P=some o):Lv s P L h' fp :=
 ⟨V.nd,fun a m=>(V.al a m).elim fun o e=>⟨o,k a o (V.neP m) (fun q=>V.nL (q ▸ m)) e⟩,V.no,fun b o hb e=>k b o hb (fun q=>qAW V.sL ⟨o,q ▸ e⟩) (V.ks b o hb e),V.aP,hP,V.nL,V.sL⟩
theorem Lv.add {s:Shared} {P L:Addr} {h h':Heap} {fp:List Addr} (V:Lv s P L h fp) {x:Addr} (e:h.get? x=none) (hx:∃ o,h'.get? x=some o) (hL:L≠x) (k:∀ b o,h.get? b=some o->h'.get? b=some o):Lv s P L h' (x::fp) :=
 ⟨List.nodup_cons.mpr ⟨V.out e,V.nd⟩,fun a m=>(List.mem_cons.mp m).elim (fun q=>q ▸ hx) fun m=>(V.al a m).elim fun o e=>⟨o,k a o e⟩,fun a m=>(List.mem_cons.mp m).elim (fun q=>q ▸ V.new e) (V.no a),fun b o hb e=>k b o (V.ks b o hb e),V.aP,V.hP.elim fun o e=>⟨o,k P o e⟩,fun m=>(List.mem_cons.mp m).elim hL V.nL,V.sL⟩
theorem Lv.ins {s:Shared} {P L:Addr} {h:Heap} {fp:List Addr} (V:Lv s P L h fp) {x:Addr} (e:x ∉ fp) (hx:∃ o,h.get? x=some o) (hn:s.heap.get? x=none) (hL:L≠x):Lv s P L h (x::fp) :=
 ⟨List.nodup_cons.mpr ⟨e,V.nd⟩,List.forall_mem_cons.mpr ⟨hx,V.al⟩,List.forall_mem_cons.mpr ⟨hn,V.no⟩,V.ks,V.aP,V.hP,fun m=>(List.mem_cons.mp m).elim hL V.nL,V.sL⟩
theorem Lv.perm {s:Shared} {P L:Addr} {h:Heap} {l fp:List Addr} (V:Lv s P L h l) (p:l.Perm fp):Lv s P L h fp :=
 ⟨p.nodup_iff.mp V.nd,fun a m=>V.al a (p.mem_iff.mpr m),fun a m=>V.no a (p.mem_iff.mpr m),V.ks,V.aP,V.hP,fun m=>V.nL (p.mem_iff.mpr m),V.sL⟩
theorem nd8 {x d q:Addr} {l:List Addr} (nd:l.Nodup) (hx:x ∉ l) (hd:d ∉ l) (hq:q ∉ l) (e1:x≠d) (e2:x≠q) (e3:d≠q):(x::d::(l++[q])).Nodup:=by
 simp only [List.nodup_cons,List.nodup_append,List.mem_cons,List.mem_append,List.not_mem_nil,or_false,not_or,List.nodup_nil,not_false_eq_true,true_and]
 exact ⟨⟨e1,hx,e2⟩,⟨hd,e3⟩,nd,fun a ha b hb e=>hq (hb ▸ e ▸ ha)⟩
theorem all8 {p:Addr->Prop} {x d q:Addr} {l:List Addr} (hx:p x) (hd:p d) (h:∀ a∈l,p a) (hq:p q):∀ a∈x::d::(l++[q]),p a:=fun a m=>by
 rcases List.mem_cons.mp m with rfl | m
 · exact hx
 rcases List.mem_cons.mp m with rfl | m
 · exact hd
 rcases List.mem_append.mp m with m | m
 · exact h a m
 · exact List.mem_singleton.mp m ▸ hq
section
variable {prog:Program} {w:World} {A:Around} {s:Shared} {c:CK} {hb:Heap} {P L:Addr} {mg mb:Str->Option Value} {fa cc:Addr} {params:Arguments} {body:List Stmt} {sc:Scope} {pos:Pos} {env:Env} {b:Nat} {ps:Array Value} {sg:List Nat} {tk:Nat} {Er:Value->Shared->Prop}
set_option backward.match.sparseCases true in
theorem qNo (CO:COk c) (IO:InOk c) (F:CFacts c hb) (LO:LlOk c params body sc pos) (AT:LlAt c hb P mg mb fa cc params body sc) (EO:EnvOk env sc L) (hA:AOk (b+1) A) (hbb:b≤603) {h:Heap} (up:∀ a o,hb.get? a=some o->h.get? a=some o) {mL m2:Str->Option Value} {x2 d2 fA ce l2A c':Addr}
 (n:h.Ns L mL) (hs:mL "stream" = some (.ref x2)) (I:IAt h x2 d2 c.K.C m2) (hm:m2 "read" = some (.ref fA)) {pm ct:Value} (f:h.get? fA=some (kla_obj "<lambda>" c.K.qual c.K.params c.K.body c.K.scope [(("signs" : Str),ce)] pm c' ct)) (hc:h.IsCell ce (some (.ref l2A))) {ls:Array Value} (hl:h.PlainList l2A ls) (hr:RepL nB ls.toList (qA4 sg.reverse))
 (V:Lv s P L h [x2,d2,fA,ce,l2A]) (hP:h.get? P=some (tabObj #[rawInt pos.line,rawInt pos.col,.ref c'])) {oc:Obj} {vs:Array Value} {t:Tok} (hc':h.get? c'=some oc) (hd:oc.data=.fields vs) (hv:vs[1]?=some (.str c.K.qual t)) (hor:s.heap.get? c'=none\/ps=#[rawInt pos.line,rawInt pos.col,.ref c']) (hn:c' ∉ [x2,d2,fA,ce,l2A]) :
 wpAny (model prog w) A (execs ((qD5 c.K pos).drop 3) env) (fun f s'=>qF5 c P pos ps s sg (match f with | .ret v=>v | _=>.none) s') Er { s with heap:=h,toks:=tk }:=by
 show wpAny _ _ (execs [_] env) _ _ _
 refine wpAny_execs_cons (wpAny_Return_some ?_)
 refine wpAny_Call_NameR (EO.ldg (AT.g.keeps up) (AT.bn.keeps up) LO.cls (by decide) (.inl AT.cls) _ ?_)
 refine callWith_cls (F.keeps up).cls ?_
 rw [qG8.back]
 refine Calls.spliced_cons ?_
 refine EO.ld n LO.stream hs (by decide) _ ?_
 refine Calls.spliced_nil ⟨fun b o e=>e,?_⟩
 refine wpAny_mono (qF0 (s:={ s with heap:=h,toks:=tk }) CO IO F up hA (Nat.le_trans (Nat.add_le_add_right hbb _) (by decide))) (fun r s' hr'=>?_) fun _ _ y=>y
 refine x63 hr' fun h₁ tk₁ x1 d1 q1 m1 e1 e2 M=>?_
 subst e1
 subst e2
 have k:=M.keeps
 exact ⟨h₁,tk₁,⟨x1,d1,x2,d2,fA,ce,l2A,q1⟩,c',oc,vs,t,rfl,rfl,⟨⟨_,M.I,M.within,M.ln,M.ins,M.ws,M.pb⟩,⟨_,I.keeps k,hm⟩,⟨_,_,k _ _ f⟩,⟨c',oc,vs,t,rfl,k _ _ hc',hd,hv⟩,hc.keeps k,⟨_,Heap.PlainList.at hl (k _),hr⟩,⟨#[],M.lst,.nil⟩,nd8 V.nd (V.out M.nx) (V.out M.nd) (V.out M.np) (Ne.symm M.I.ne) M.xp M.dp,
  fun m=>all8 (p:=fun a=>c'≠a) (fun e=>qAW M.nx ⟨_,e ▸ hc'⟩) (fun e=>qAW M.nd ⟨_,e ▸ hc'⟩) (fun a m e=>hn (e ▸ m)) (fun e=>qAW M.np ⟨_,e ▸ hc'⟩) _ m rfl⟩,all8 (p:=fun a=>s.heap.get? a=none) (V.new M.nx) (V.new M.nd) V.no (V.new M.np),fun b o hb e=>k _ _ (V.ks b o hb e),k _ _ hP,k _ _ hc',hd,hv,hor⟩
set_option backward.match.sparseCases true in
theorem qNX (CO:COk c) (IO:InOk c) (F:CFacts c hb) (LO:LlOk c params body sc pos) (AT:LlAt c hb P mg mb fa cc params body sc) (EO:EnvOk env sc L) (hA:AOk (b+1) A) (hbb:b≤603) (up:∀ a o,hb.get? a=some o->s.heap.get? a=some o) (hps:qH3 c.K pos ps s.heap.get?)
 {ce:Addr} (hcell:env.cells.lookup ("signs" : Str)=some ce) (hge:env.globals=mainGlobals) (hcd:env.code=.ref cc) (hq:env.qual++("<lambda>" : Str)=c.K.qual) {h:Heap} {mL m2:Str->Option Value} {x2 d2 l2A:Addr}
 (n:h.Ns L mL) (hs:mL "stream" = some (.ref x2)) (I:IAt h x2 d2 c.K.C m2) (hw:Within m2 wn1) (hc:h.IsCell ce (some (.ref l2A))) {ls:Array Value} (hl:h.PlainList l2A ls) (hr:RepL nB ls.toList (qA4 sg.reverse))
 (V:Lv s P L h [x2,d2,ce,l2A]) (hP:h.get? P=some (tabObj ps)) (ks:∀ b o,s.heap.get? b=some o->h.get? b=some o) :
 wpAny (model prog w) A (execs ((qD5 c.K pos).drop 2) env) (fun f s'=>qF5 c P pos ps s sg (match f with | .ret v=>v | _=>.none) s') Er { s with heap:=h,toks:=tk }:=by
 have bP:∀ {z:Addr} {o:Obj},hb.get? z=some o->z≠P:=fun hz e=>qAW AT.freed ⟨_,e ▸ hz⟩
 have LP:L≠P:=fun e=>qAW V.sL (e ▸ V.aP)
 show wpAny _ _ (execs (_::(qD5 c.K pos).drop 3) env) _ _ _
 refine wpAny_execs_cons (plainObj_wpAny_Assign_Attribute ?_ rfl)
 refine qLx (ps:=ps) LO AT (fun a o e=>ks a o (up a o e)) hP (hps.elim .inl fun ⟨c',oc,vs,t,e,e1,e2⟩=>.inr ⟨c',oc,vs,t,e,ks _ _ e1,e2⟩) hcell hge hcd hq fun c' oc vs t pmn ctv h₈ tk₈ hk8 sz8 hP8 hc8 hd8 hv8 hor=>?_
 refine (fun fA (hfA:fA=h₈.objs.size)=>?_) _ rfl
 have fn:h₈.get? fA=none:=by rw [hfA]; exact qAD _
 refine (fun h₉ (hh₉:h₉=h₈.push (kla_obj "<lambda>" c.K.qual c.K.params c.K.body c.K.scope [(("signs" : Str),ce)] pmn c' ctv))=>?_) _ rfl
 have f9:h₉.get? fA=some (kla_obj "<lambda>" c.K.qual c.K.params c.K.body c.K.scope [(("signs" : Str),ce)] pmn c' ctv):=by rw [hh₉,hfA]; exact Heap.get?_push_size _ rfl
 have k9:∀ b o,h₈.get? b=some o->h₉.get? b=some o:=fun b o e=>by rw [hh₉]; exact Heap.get?_push_of_some _ e
 rw [← hh₉,← hfA]
 clear hh₉ hfA
 have k79:∀ b o,b≠P->h.get? b=some o->h₉.get? b=some o:=fun b o hb e=>k9 _ _ (hk8 b o hb e)
 have hcn:c' ∉ [x2,d2,ce,l2A]:=fun m=>hor.elim (fun e=>qAW e (V.al _ m)) fun e=>hps.elim (fun e2=>nomatch e.symm.trans e2) fun ⟨c₂,_,_,_,e2,e3,_⟩=>by
  cases e.symm.trans e2
  exact qAW (V.no _ m) ⟨_,e3⟩
 have V9:=((V.to (fun b o hb _ e=>hk8 b o hb e) ⟨_,hP8⟩).add fn ⟨_,f9⟩ (fun e=>n.elim fun o r=>qAW fn (e ▸ ⟨o,hk8 L o LP (r.elim fun _ r=>r.elim fun _ r=>r.1)⟩)) k9).perm (List.perm_middle (l₁:=[x2,d2])).symm
 have n9:h₉.Ns L mL:=n.at' fun o e=>k79 L o LP e
 have I9:IAt h₉ x2 d2 c.K.C m2:=I.at (fun o e=>k79 x2 o (V.neP (.head _)) e) fun o e=>k79 d2 o (V.neP (.tail _ (.head _))) e
 have up9:∀ a o,hb.get? a=some o->h₉.get? a=some o:=fun a o e=>k79 _ _ (bP e) (ks _ _ (up a o e))
 have F9:=F.keeps up9
 refine EO.ld n9 LO.stream hs (by decide) _ ?_
 refine I9.store F9.cls (qEd F9.cls I9) (CO.no _ (by simp [qAI])) (CO.no _ (by simp [qAI])) qJ8 hw (by decide) fun h₁ tk₁ I1 hk1=>?_
 have k91:∀ {b o},b ∉ [x2,d2]->h₉.get? b=some o->h₁.get? b=some o:=fun hb e=>hk1 _ _ (fun q=>hb (q ▸ .head _)) (fun q=>hb (q ▸ .tail _ (.head _))) e
 have nx:∀ {a},a∈[fA,ce,l2A]->a ∉ [x2,d2]:=fun {a} m1 m2=>(List.nodup_append.mp (show ([x2,d2]++[fA,ce,l2A]).Nodup from V9.nd)).2.2 a m2 a m1 rfl
 have nL:L ∉ [x2,d2]:=fun m=>V.nL (List.mem_append_left [ce,l2A] m)
 have sn:∀ {b o},s.heap.get? b=some o->b ∉ [x2,d2]:=fun e m=>qAW (V.no _ (List.mem_append_left [ce,l2A] m)) ⟨_,e⟩
 have cn:c' ∉ [x2,d2]:=fun m=>hcn (List.mem_append_left [ce,l2A] m)
 have f1:=k91 (nx (.head _)) f9
 have c1:h₁.IsCell ce (some (.ref l2A)):=hc.elim fun o r=>⟨o,k91 (nx (.tail _ (.head _))) (k79 ce o (V.neP (.tail _ (.tail _ (.head _)))) r.1),r.2⟩
 have l1:h₁.PlainList l2A ls:=Heap.PlainList.at hl fun o e=>k91 (nx (.tail _ (.tail _ (.head _)))) (k79 l2A o (V.neP (.tail _ (.tail _ (.tail _ (.head _))))) e)
 refine qNo CO IO F LO AT EO hA hbb (fun a o e=>k91 (sn (up a o e)) (up9 a o e)) (n9.at' fun o e=>k91 nL e) hs I1 (if_pos rfl) f1 c1 l1 hr ⟨V9.nd,?_,V9.no,fun b o hb e=>k91 (sn e) (V9.ks b o hb e),V9.aP,⟨_,k91 (sn V.aP.choose_spec) (k9 _ _ hP8)⟩,V9.nL,V9.sL⟩ (k91 (sn V.aP.choose_spec) (k9 _ _ hP8)) (k91 cn (k9 _ _ hc8)) hd8 hv8
  (hor.imp_left fun e=>by
    cases e':s.heap.get? c' with
    | none=>rfl
    | some o=>exact qAW e ⟨_,ks _ _ e'⟩) fun m=>(List.mem_append (s:=[x2,d2]) (t:=[fA,ce,l2A])).mp m |>.elim cn fun m=>(List.mem_cons.mp m).elim (fun e=>qAW fn ⟨_,e ▸ hc8⟩) fun m=>hcn (.tail _ (.tail _ m))
 exact List.forall_mem_cons.mpr ⟨I1.obj.elim fun o r=>⟨o,r.1⟩,List.forall_mem_cons.mpr ⟨I1.ns.elim fun o r=>r.elim fun _ r=>r.elim fun _ r=>⟨o,r.1⟩,List.forall_mem_cons.mpr ⟨⟨_,f1⟩,List.forall_mem_cons.mpr ⟨c1.elim fun o r=>⟨o,r.1⟩,List.forall_mem_cons.mpr ⟨l1.elim fun _ r=>⟨_,r⟩,fun _ m=>nomatch m⟩⟩⟩⟩⟩
set_option backward.match.sparseCases true in
theorem qJb (CO:COk c) (IO:InOk c) (F:CFacts c hb) (LO:LlOk c params body sc pos) (AT:LlAt c hb P mg mb fa cc params body sc) (EO:EnvOk env sc L) (hA:AOk (b+1) A) (hbb:b≤603) (up:∀ a o,hb.get? a=some o->s.heap.get? a=some o) (hps:qH3 c.K pos ps s.heap.get?)
 {ce:Addr} (hcell:env.cells.lookup ("signs" : Str)=some ce) (hge:env.globals=mainGlobals) (hcd:env.code=.ref cc) (hq:env.qual++("<lambda>" : Str)=c.K.qual) {h:Heap} {mL:Str->Option Value} {l2A:Addr}
 (n:h.Ns L mL) (hc:h.IsCell ce (some (.ref l2A))) {ls:Array Value} (hl:h.PlainList l2A ls) (hr:RepL nB ls.toList (qA4 sg.reverse)) (V:Lv s P L h [ce,l2A]) (hP:h.get? P=some (tabObj ps)) (ks:∀ b o,s.heap.get? b=some o->h.get? b=some o) :
 wpAny (model prog w) A (execs ((qD5 c.K pos).drop 1) env) (fun f s'=>qF5 c P pos ps s sg (match f with | .ret v=>v | _=>.none) s') Er { s with heap:=h,toks:=tk }:=by
 have up5:∀ a o,hb.get? a=some o->h.get? a=some o:=fun a o e=>ks _ _ (up a o e)
 show wpAny _ _ (execs (_::(qD5 c.K pos).drop 2) env) _ _ _
 refine wpAny_execs_cons (wpAny_Assign_Name ?_ rfl)
 refine wpAny_Call_NameR (EO.ldg (AT.g.keeps up5) (AT.bn.keeps up5) LO.cls (by decide) (.inl AT.cls) _ ?_)
 refine callWith_cls (F.keeps up5).cls ?_
 rw [qGZ.back]
 refine Calls.spliced_cons ?_
 refine wpAny_Constant_none ?_
 refine Calls.spliced_nil ⟨fun b o e=>e,?_⟩
 refine wpAny_mono (qF0 (s:={ s with heap:=h,toks:=tk }) CO IO F up5 hA (Nat.le_trans (Nat.add_le_add_right hbb _) (by decide))) (fun r s' hr'=>?_) fun _ _ y=>y
 refine x63 hr' fun h₆ tk₆ x2 d2 q2 m2 e1 e2 M=>?_
 subst e1
 subst e2
 have aL:∃ o,h.get? L=some o:=n.elim fun o r=>⟨o,r.elim fun _ r=>r.elim fun _ r=>r.1⟩
 have Lx:L≠x2:=fun e=>qAW M.nx (e ▸ aL)
 have Ld:L≠d2:=fun e=>qAW M.nd (e ▸ aL)
 have V6:=((V.to (fun b o _ _ e=>M.keeps b o e) ⟨_,M.keeps _ _ hP⟩).ins (V.out M.nd) (M.I.ns.elim fun o r=>r.elim fun _ r=>r.elim fun _ r=>⟨o,r.1⟩) (V.new M.nd) Ld).ins (fun m=>(List.mem_cons.mp m).elim (Ne.symm M.I.ne) (V.out M.nx)) (M.I.obj.elim fun o r=>⟨o,r.1⟩) (V.new M.nx) Lx
 refine EO.st (n.keeps M.keeps) LO.stream fun h₇ n7 hk7=>?_
 have hP7:=hk7 P _ (fun e=>qAW V.sL (e ▸ V.aP)) (M.keeps _ _ hP)
 exact qNX CO IO F LO AT EO hA hbb up hps hcell hge hcd hq n7 (if_pos rfl) (M.I.at (fun o e=>hk7 x2 o (Ne.symm Lx) e) fun o e=>hk7 d2 o (Ne.symm Ld) e) M.within (hc.elim fun o r=>⟨o,hk7 _ _ (fun e=>V.nL (e ▸ .head _)) (M.keeps _ _ r.1),r.2⟩)
  (Heap.PlainList.at hl fun o e=>hk7 _ _ (fun e=>V.nL (e ▸ .tail _ (.head _))) (M.keeps _ _ e)) hr (V6.to (fun b o _ hL e=>hk7 b o hL e) ⟨_,hP7⟩) hP7 fun b o e=>hk7 b o (fun q=>qAW V.sL ⟨o,q ▸ e⟩) (M.keeps _ _ (ks b o e))
end
set_option backward.match.sparseCases true in
theorem qND {prog:Program} {w:World} {A:Around} {s:Shared} {c:CK} (CO:COk c) (IO:InOk c) {hb:Heap} (F:CFacts c hb) {P:Addr} {mg mb:Str->Option Value} {fa cc:Addr} {params:Arguments} {body:List Stmt} {sc:Scope} {pos:Pos} (LO:LlOk c params body sc pos) (AT:LlAt c hb P mg mb fa cc params body sc)
 (up:∀ a o,hb.get? a=some o->s.heap.get? a=some o) {ps:Array Value} (hP:s.heap.get? P=some (tabObj ps)) (hps:qH3 c.K pos ps s.heap.get?) {sg:List Nat} (hs:sg.length≤16777216) (u:Tok) {b:Nat} (hA:AOk b A) (hbb:b≤603) {Er:Value->Shared->Prop} :
 wpAny (model prog w) A (call (.ref fa) [.str (toS sg) u]) (qF5 c P pos ps s sg) Er s:=by
 refine x32 AT.fn fun o pm doc ho hdata=>?_
 have F0:=F.keeps up
 refine qAv (call_cells_ret (by have:=hA.depth; show A.depth<1000; (exact Nat.lt_of_le_of_lt ‹_› (Nat.lt_of_le_of_lt ‹_› (by decide)))) (up _ _ ho) hdata F0.lim (AT.recd.keeps up) (LO.bind _ _ _ _) (fun x hx=>.inl (by rw [List.mem_singleton.mp hx]; exact LO.text)) (fun h₁ tk Fm X=>?_) LO.co LO.gen LO.kind)
 rw [LO.cells] at X
 refine (fun L (hL:L=s.heap.objs.size)=>?_) _ rfl
 refine (fun env (henv:env=envOfC "_law_lexer" sc L fa (.ref cc))=>?_) _ rfl
 rw [← hL] at Fm X
 rw [← hL,← henv]
 rw [← henv] at Fm X
 show wpAny (model prog w) (A.deeper env) (execs body env) (fun f s'=>qF5 c P pos ps s sg (match f with | .ret v=>v | _=>.none) s') _ _
 have hcell:env.cells.lookup ("signs" : Str)=some (L+1):=by rw [henv]; show (cellsFrom (L+1) sc.names []).lookup _=_; rw [LO.cells]; rfl
 have EO:EnvOk env sc L:=by rw [henv]; exact ⟨rfl,LO.kind,rfl,rfl,rfl,fun y=>rfl⟩
 have hge:env.globals=mainGlobals:=EO.glob
 have hcd:env.code=.ref cc:=by rw [henv]; rfl
 have hq:env.qual++("<lambda>" : Str)=c.K.qual:=by rw [henv,LO.qual]; rfl
 have hint:interactive env=false:=by unfold interactive; rw [EO.kind]; rfl
 clear henv
 have hA1:AOk (b+1) (A.deeper env):=⟨hA.handled,by have:=hA.depth; show A.depth+1≤b+1; (exact Nat.succ_le_succ ‹_›),by have:=hA.units; show A.units+3≤10*(b+1); (exact as19 ‹_›)⟩
 refine (fun ce (hce:ce=L+1)=>?_) _ rfl
 rw [← hce] at hcell X
 have g0:∀ z,L≤z->s.heap.get? z=none:=fun z hz=>Heap.get?_none_of_le (hL ▸ hz)
 have hLn:=g0 L (Nat.le_refl _)
 have hcn:=g0 ce (by lia)
 have hLce:L≠ce:=by lia
 have ks1:∀ b o,s.heap.get? b=some o->h₁.get? b=some o:=Fm.keep
 have nx1:∀ {a:Addr},h₁.get? a=none->s.heap.get? a=none:=fun {a} e=>by
  cases e':s.heap.get? a with
  | none=>rfl
  | some o=>rw [ks1 _ _ e'] at e; cases e
 have c1:h₁.IsCell ce (bindC env.kindOf [(("text" : Str),Value.str (toS sg) u)] (fun _=>none) "signs"):=X.cell "signs" ce rfl
 have n1:=Fm.ns
 have ht1:bindL env.kindOf [(("text" : Str),Value.str (toS sg) u)] (fun _=>none) "text" = some (.str (toS sg) u):=by
  unfold bindL
  rw [if_pos (by rw [EO.ko]; exact LO.text)]
  delta bindL
  exact if_pos rfl
 generalize (bindC env.kindOf [(("text" : Str),Value.str (toS sg) u)] (fun _=>none) "signs")=cv at c1
 generalize bindL env.kindOf [(("text" : Str),Value.str (toS sg) u)] (fun _=>none)=m1 at n1 ht1
 clear X Fm
 rw [LO.shape]
 refine wpAny_execs_cons (wpAny_Assign_Name (Subscript_ ?_) rfl)
 refine wpAny_Call_NameR (EO.ldg (AT.g.keeps fun a o e=>ks1 _ _ (up a o e)) (AT.bn.keeps fun a o e=>ks1 _ _ (up a o e)) LO.list (by decide) (.inr AT.list) _ ?_)
 rw [qG8.back]
 refine PySem.callWith_type rfl (evalArgs_plain (Calls.spliced_cons (EO.ld n1 LO.text ht1 (by decide) _ (Calls.spliced_nil ?_))))
 refine call_list_str hA1.handled (toS sg) u (fun h₂ tk₂ acc n2 hk2 hl2 hi2=>?_) (by rw [show (toS sg).cps.size=sg.length by simp [toS],sizeLine_eq]; exact hs)
 have hk2':∀ b o,h₁.get? b=some o->h₂.get? b=some o:=hk2
 have r2:RepL nB acc.toList (singles sg):=ItemsOf.rep hi2 (by simp [singles,toS]) fun i v d hd hv=>qE5 rfl hv hd
 refine wpAny_Slice (wpAny_pure (wpAny_pure (wpAny_UnaryOp (wpAny_Constant_int (PySem.P.neg_int ?_)))))
 have l2:h₂.PlainList h₁.objs.size acc:=⟨n2,hl2⟩
 refine (fun h₃ (hh₃:h₃=h₂.push { cls:=.type "slice",data:=.fields #[.none,.none,.int (-1) (tk₂+1)] })=>?_) _ rfl
 have hk3:∀ b o,h₂.get? b=some o->h₃.get? b=some o:=fun b o e=>by rw [hh₃]; exact Heap.get?_push_of_some _ e
 have hsl:h₃.IsSliceOf h₂.objs.size .none .none (.int (-1) (tk₂+1)):=⟨_,by rw [hh₃]; exact Heap.get?_push_size _ rfl,rfl,rfl⟩
 have l3:h₃.PlainList h₁.objs.size acc:=⟨n2,hk3 _ _ hl2⟩
 have e1:acc.size=sg.length:=by have:=r2.length; simpa [singles] using this
 subst hh₃
 refine qBM l3.isList.typeIs PySem.F.slot_list_getitem.lookup ?_
 refine wpAny_getItem_list_slice (lo:=none) (hi:=none) (st:=some (-1)) l3.isList hsl .none .none (.int _ _) (by decide) ?_ (by rw [e1,sizeLine_eq]; exact hs)
 rw [krv_pick]
 refine (fun h₃ (hh₃:h₃=h₂.push { cls:=.type "slice",data:=.fields #[.none,.none,.int (-1) (tk₂+1)] })=>?_) _ rfl
 refine (fun h₄ (hh₄:h₄=h₃.push { cls:=.type "list",data:=.seq acc.toList.reverse.toArray })=>?_) _ rfl
 refine (fun l2A (hl2A:l2A=h₃.objs.size)=>?_) _ rfl
 have hk4:∀ b o,h₁.get? b=some o->h₄.get? b=some o:=fun b o e=>by rw [hh₄,hh₃]; exact Heap.get?_push_of_some _ (Heap.get?_push_of_some _ (hk2' b o e))
 have l4:h₄.PlainList l2A acc.toList.reverse.toArray:=⟨0,by rw [hh₄,hl2A]; exact Heap.get?_push_size _ rfl⟩
 have nl1:h₁.get? l2A=none:=by
  cases e:h₁.get? l2A with
  | none=>rfl
  | some o =>
   have e2:h₃.get? l2A=some o:=by rw [hh₃]; exact Heap.get?_push_of_some _ (hk2' _ o e)
   rw [hl2A,qAD] at e2; cases e2
 have l2n:s.heap.get? l2A=none:=nx1 nl1
 have r4:RepL nB acc.toList.reverse.toArray.toList (qA4 sg.reverse):=by rw [← qHx]; exact r2.reverse
 show wpAny (model prog w) (A.deeper env) (storeName env "signs" (.ref (h₂.push { cls:=.type "slice",data:=.fields #[.none,.none,.int (-1) (tk₂+1)] }).objs.size)) (fun _ s₂=>wpAny (model prog w) (A.deeper env) (execs _ env) _ _ s₂) _
  { s with heap:=(h₂.push { cls:=.type "slice",data:=.fields #[.none,.none,.int (-1) (tk₂+1)] }).push { cls:=.type "list",data:=.seq acc.toList.reverse.toArray },toks:=tk₂+1+1 }
 rw [← hh₃,← hl2A,← hh₄]
 clear hsl l3 hk3 l2 r2 hh₃ hh₄ hl2A hi2 hl2
 have n4:=n1.keeps hk4
 have c4:=c1.keeps hk4
 have hceL:ce≠l2A:=fun q=>by obtain ⟨o,e,_⟩:=c1; rw [q,nl1] at e; cases e
 have hLl:L≠l2A:=fun q=>by obtain ⟨o,_,_,e,_⟩:=n1; rw [q,nl1] at e; cases e
 refine wpAny_storeName_cell EO.kind (by rw [EO.ko]; exact LO.signs) hcell c4 fun h₅ c5 hs5=>?_
 have hk5:∀ b o,b≠ce->h₄.get? b=some o->h₅.get? b=some o:=fun b o hb e=>hs5.extBut b o hb e
 have ks5:∀ b o,s.heap.get? b=some o->h₅.get? b=some o:=fun b o e=>hk5 b o (fun q=>by rw [q,hcn] at e; cases e) (hk4 _ _ (ks1 b o e))
 have l5:=l4.at fun o e=>hk5 l2A o (Ne.symm hceL) e
 have n5:=n4.at' fun o e=>hk5 L o hLce e
 exact qJb CO IO F LO AT EO hA1 hbb up hps hcell hge hcd hq n5 c5 l5 r4 ⟨List.nodup_cons.mpr ⟨fun m=>hceL (List.mem_singleton.mp m),List.nodup_cons.mpr ⟨List.not_mem_nil,List.nodup_nil⟩⟩,List.forall_mem_cons.mpr ⟨c5.elim fun o r=>⟨o,r.1⟩,List.forall_mem_cons.mpr ⟨l5.elim fun _ r=>⟨_,r⟩,fun _ m=>nomatch m⟩⟩,
  List.forall_mem_cons.mpr ⟨hcn,List.forall_mem_cons.mpr ⟨l2n,fun _ m=>nomatch m⟩⟩,fun b o _ e=>ks5 b o e,⟨_,hP⟩,⟨_,ks5 _ _ hP⟩,fun m=>(List.mem_cons.mp m).elim hLce fun m=>hLl (List.mem_singleton.mp m),hLn⟩ (ks5 _ _ hP) ks5
section
variable {lp:LexP} {hb:Heap} {S:St} {ω:List OO}
theorem Ok.renew (O:Ok lp hb S ω) {k:Nat} {p:Addr×List Addr} {y:OO} {B':Fz} {h':Heap} {tk:Nat} (hp:S.own[k]?=some p)
 (hB:∀ b o,S.B b=some o->B' b=some o) (hBn:∀ b o,B' b=some o->S.B b=some o\/(S.h.get? b=none/\h'.get? b=some o))
 (keep:∀ b o,S.h.get? b=some o->b ∉ p.2->h'.get? b=some o) (al:∀ b∈p.2,∃ o,h'.get? b=some o) (hy:OOAt lp B' h' p y) :
 Ok lp hb ⟨B',S.own,{ S.s with heap:=h',toks:=tk }⟩ (ω.set k y)/\Le S ⟨B',S.own,{ S.s with heap:=h',toks:=tk }⟩:=by
 have hk:k<S.own.length:=(List.getElem?_eq_some_iff.mp hp).1
 have hs:=qF2 hp
 have hin:∀ b∈p.2,b∈S.fps:=fun b hb'=>St.mem_fps.mpr ⟨k,p,hp,hb'⟩
 have hnd:(((S.own.take k).map (·.2)).flatten++p.2++((S.own.drop (k+1)).map (·.2)).flatten).Nodup:=hs ▸ O.nodup
 have hmid:=qFv hnd
 have hoth:∀ (i:Nat) (r:Addr×List Addr),i≠k->S.own[i]?=some r->∀ b∈r.2,b ∉ p.2:=fun i r hi hr b hb' hb2=>by
  obtain ⟨m1,m2⟩:=hmid b hb2
  rcases Nat.lt_or_gt_of_ne hi with c | c
  · refine m1 (List.mem_flatten.mpr ⟨r.2,List.mem_map.mpr ⟨r,?_,rfl⟩,hb'⟩)
    exact List.mem_of_getElem? (i:=i) (by rw [List.getElem?_take_of_lt c]; exact hr)
  · refine m2 (List.mem_flatten.mpr ⟨r.2,List.mem_map.mpr ⟨r,?_,rfl⟩,hb'⟩)
    exact List.mem_of_getElem? (i:=i-(k+1)) (by rw [List.getElem?_drop,show k+1+(i-(k+1))=i by exact ar17 ‹_›]; exact hr)
 refine ⟨⟨fun b o e=>hB _ _ (O.base _ _ e),fun b o e=>?_,by simp [O.len],fun i r x hr hx=>?_,O.nodup,fun a ha=>?_⟩,⟨⟨h',tk,rfl⟩,fun a o e=>?_,fun a o e nf _=>keep a o e fun hm=>nf (hin a hm),hB,fun a o e=>?_,fun i r hr=>⟨r,hr,rfl⟩,fun a ha=>.inl ha⟩⟩
 · rcases hBn b o e with c | c
   · refine keep b o (O.sub _ _ c) fun hm=>?_
     rw [O.apart b (hin b hm)] at c; cases c
   · exact c.2
 · by_cases hi:i=k
   · clear hoth hmid hnd hs
     subst hi
     rw [List.getElem?_set_self (O.len ▸ hk)] at hx
     have hr':S.own[i]?=some r:=hr
     rw [hp] at hr'; cases hr'; cases hx
     exact hy
   · rw [List.getElem?_set_ne (Ne.symm hi)] at hx
     exact (O.at_ i r x hr hx).stable hB fun b hb' o e=>keep b o e (hoth i r hi hr b hb')
 · cases e:B' a with
   | none=>exact e
   | some o =>
    rcases hBn a o e with c | ⟨c,_⟩
    · have:=O.apart a ha; rw [this] at c; cases c
    · exact absurd ha (O.fpNone c)
 · by_cases hm:a∈p.2
   · exact al a hm
   · exact ⟨o,keep a o e hm⟩
 · rcases hBn a o e with c | ⟨c,_⟩
   · exact .inl c
   · exact .inr (.inr c)
end
noncomputable def LPx (c:CK) (Pt:Addr) (pos:Pos):LexP where
 P:=fun B h a fp pb sg=>∃ x c' oc,a=x.i1/\fp=x.fp/\B c'=some oc/\pb.length≤16777216/\(∀ b∈x.fp,∃ o,h.get? b=some o)/\∀ h₂:Heap,(∀ b∈x.fp,∀ o,h.get? b=some o->h₂.get? b=some o)->h₂.get? c'=some oc->LexOn c.K h₂ x c' pb sg
 stable:=by
  rintro B B' h h' a fp pb sg ⟨x,c',oc,rfl,rfl,hc,hl,al,f⟩ hB hk
  exact ⟨x,c',oc,rfl,rfl,hB _ _ hc,hl,fun b hb=>let ⟨o,e⟩:=al b hb; ⟨o,hk b hb o e⟩,fun h₂ k2=>f h₂ fun b hb o e=>k2 b hb o (hk b hb o e)⟩
 alive:=by
  rintro B h a fp pb sg ⟨x,c',oc,rfl,rfl,hc,hl,al,f⟩
  exact al
 T:=fun B h a fp=>a=Pt/\fp=[Pt]/\∃ ps,h.get? Pt=some (tabObj ps)/\qH3 c.K pos ps B
 stableT:=by
  rintro B B' h h' a fp ⟨rfl,rfl,ps,hP,ht⟩ hB hk
  refine ⟨rfl,rfl,ps,hk _ (by simp) _ hP,?_⟩
  rcases ht with e | ⟨c',oc,vs,t,e,e1,e2⟩
  · exact .inl e
  · exact .inr ⟨c',oc,vs,t,e,hB _ _ e1,e2⟩
 aliveT:=by
  rintro B h a fp ⟨rfl,rfl,ps,hP,ht⟩ b hb
  rw [List.mem_singleton.mp hb]
  exact ⟨_,hP⟩
section
variable {c:CK} {Pt:Addr} {pos:Pos} {hb:Heap} {S:St} {w:W}
theorem qKF (O:Ok (LPx c Pt pos) hb S w) {k:Nat} {p:Addr×List Addr} {pb:List (List Nat)} {sg:List Nat} (hp:S.own[k]?=some p) (hw:w[k]?=some (.lex pb sg)) :
 ∃ x c' oc,p=(x.i1,x.fp)/\LexOn c.K S.h x c' pb sg/\S.B c'=some oc/\Bd hb x S.h/\pb.length≤16777216:=by
 refine x36 (O.at_ k p _ hp hw) fun x c' oc e1 e2 hc hl al f=>?_
 refine ⟨x,c',oc,Prod.ext e1 e2,f _ (fun _ _ _ e=>e) (O.sub _ _ hc),hc,⟨O.heap,fun a ha=>?_⟩,hl⟩
 have:=O.apart a (St.mem_fps.mpr ⟨k,p,hp,e2 ▸ ha⟩)
 cases e:hb.get? a with
 | none=>rfl
 | some o=>rw [O.base _ _ e] at this; cases this
theorem qOD {B:Fz} {h:Heap} {x:LA} {c':Addr} {oc:Obj} {pb:List (List Nat)} {sg:List Nat} (L:LexOn c.K h x c' pb sg) (hB:B c'=some oc) (hh:h.get? c'=some oc) (hl:pb.length≤16777216):(LPx c Pt pos).P B h x.i1 x.fp pb sg :=
 ⟨x,c',oc,rfl,rfl,hB,hl,L.alive,fun h₂ k hc=>L.at (fun a ha o e=>k a ha o e) fun o e=>by rw [hh] at e; cases e; exact hc⟩
theorem qGV (O:Ok (LPx c Pt pos) hb S w) {k:Nat} {x:LA} {c':Addr} {oc:Obj} {pb pb':List (List Nat)} {sg sg':List Nat} (hp:S.own[k]?=some (x.i1,x.fp)) (L:LexOn c.K S.h x c' pb sg) (hB:S.B c'=some oc) {h':Heap} {tk:Nat} (L':LexOn c.K h' x c' pb' sg') (kp:Kp x.fp S.h h') (hl:pb'.length≤16777216) :
 Ok (LPx c Pt pos) hb ⟨S.B,S.own,{ S.s with heap:=h',toks:=tk }⟩ (w.set k (.lex pb' sg'))/\Le S ⟨S.B,S.own,{ S.s with heap:=h',toks:=tk }⟩ :=
 O.renew hp (fun _ _ e=>e) (fun _ _ e=>.inl e) (fun b o e hn=>kp b o e hn) L'.alive (qOD L' hB (kp _ _ (O.sub _ _ hB) L.cnot) hl)
variable {prog:Program} {b:Nat} {w₀:World}
theorem qFP (CO:COk c) (F:CFacts c hb) (O:Ok (LPx c Pt pos) hb S w) {k:Nat} {p:Addr×List Addr} {pb:List (List Nat)} {sg:List Nat} (hp:S.own[k]?=some p) (hw:w[k]?=some (.lex pb sg)) {name:Str} {fa:Addr} {M:Meth} (hf:c.mN name=some (.ref fa)) (hM:MethAt hb fa M) (hB:typeLookup (.type "object") name=pure none) (hwn:name ∉ wn1)
 {A:Around} (pl:Sem Bool):wpAny (model prog w₀) A (getMethod (.ref p.1) name pl) (fun r s'=>r=(.ref fa,[.ref p.1])/\s'=S.s) ff S.s:=by
 refine cps fun X9 k9=>?_
 refine x35 (qKF O hp hw) fun x c' oc eq3 L hc B hl=>?_
 clear hp
 subst eq3
 have F1:=F.keeps B.up
 obtain ⟨nm,q',bs,sn,sub,col,dd,k0,k1,k2,k3,k5,hC⟩:=F1.cls.obj
 refine x16 L.i1 fun m1 I1 w1 ln1 is1 ws1 pb1=>?_
 refine x44 (hM.keeps B.up) fun o pm cd doc ho hcl hdat hcd=>?_
 have hsh:m1 name=none:=by
  cases e:m1 name with
  | none=>rfl
  | some v=>exact absurd (w1 name (by rw [e]; simp)) hwn
 refine k9 ?_
 clear k9
 exact method_of hC F1.cls.ns (CO.no _ (by simp [qAI])) (CO.no _ (by simp [qAI])) hf ho hcl hB I1.inst hsh ⟨rfl,rfl⟩
theorem qOX (CO:COk c) (GO:GtOk c) (F:CFacts c hb) (NO:NmOk hb) (O:Ok (LPx c Pt pos) hb S w) {k:Nat} {p:Addr×List Addr} {pb:List (List Nat)} {sg:List Nat} (hp:S.own[k]?=some p) (hw:w[k]?=some (.lex pb sg)) {A:Around} (hA:AOk b A) (hbb:b≤606) (hs:pb=[]->sg.length≤16777216) :
 wpAny (model prog w₀) A (call (.ref c.fgt) [.ref p.1]) (fun v s'=>∃ S' t,S'.s=s'/\Rep S'.B v (.str t)/\Le S S'/\(match pb with
  | t'::pb'=>t=t'/\Ok (LPx c Pt pos) hb S' (w.set k (.lex pb' sg))
  | []=>t=(LFx.tok sg).1/\Ok (LPx c Pt pos) hb S' (w.set k (.lex [] (LFx.tok sg).2)))) ff S.s:=by
 refine x35 (qKF O hp hw) fun x c' oc eq3 L hc B hl=>?_
 subst eq3
 refine wpAny_mono (qMk CO GO F NO B hA hbb L hs hl) (fun v s' h=>?_) fun _ _ y=>y
 refine x23 h fun h' tk eq2 kp q=>?_
 clear h B
 subst eq2
 cases pb with
 | cons t pb' =>
  obtain ⟨⟨u,rfl⟩,L'⟩:=q
  obtain ⟨O',Le'⟩:=qGV (tk:=tk) O hp L hc L' kp (by simp at hl; (exact Nat.le_succ_of_le ‹_›))
  exact ⟨_,t,rfl,.str t u,Le',rfl,O'⟩
 | nil =>
  obtain ⟨⟨u,rfl⟩,L'⟩:=q
  obtain ⟨O',Le'⟩:=qGV (tk:=tk) O hp L hc L' kp (by simp)
  exact ⟨_,_,rfl,.str _ u,Le',rfl,O'⟩
theorem qMe (CO:COk c) (PO:PuOk c) (F:CFacts c hb) (O:Ok (LPx c Pt pos) hb S w) {k:Nat} {p:Addr×List Addr} {pb:List (List Nat)} {sg:List Nat} (hp:S.own[k]?=some p) (hw:w[k]?=some (.lex pb sg)) {A:Around} (hA:AOk b A) (hbb:b≤606) (hpb:pb.length<16777216) {v:Value} {t:List Nat} (r:Rep S.B v (.str t)) :
 wpAny (model prog w₀) A (call (.ref c.fpu) [.ref p.1,v]) (fun v' s'=>∃ S',S'.s=s'/\v'=.none/\Le S S'/\Ok (LPx c Pt pos) hb S' (w.set k (.lex (pb++[t]) sg))) ff S.s:=by
 refine x35 (qKF O hp hw) fun x c' oc eq3 L hc B hl=>?_
 subst eq3
 clear hl hw
 obtain ⟨u,rfl⟩:=r.str'
 refine wpAny_mono (qNZ CO PO F B hA hbb L hpb) (fun v s' h=>?_) fun _ _ y=>y
 refine x24 h fun h' tk eq2 eq3 kp L'=>?_
 clear h r B
 subst eq2
 subst eq3
 obtain ⟨O',Le'⟩:=qGV (tk:=tk) O hp L hc L' kp (by simp; lia)
 exact ⟨_,rfl,rfl,Le',O'⟩
theorem qOV (CO:COk c) (IO:InOk c) (F:CFacts c hb) {mg mb:Str->Option Value} {fa cc:Addr} {params:Arguments} {body:List Stmt} {sc:Scope} (LO:LlOk c params body sc pos) (AT:LlAt c hb Pt mg mb fa cc params body sc) (O:Ok (LPx c Pt pos) hb S w) (h0:w[0]?=some .fac) {A:Around} (hA:AOk b A) (hbb:b≤603) {v:Value} {s:List Nat} (r:Rep S.B v (.str s)) (hs:s.length≤16777216) :
 wpAny (model prog w₀) A (call (.ref fa) [v]) (fun v' s'=>∃ (S':St) (p:Addr×List Addr),v'=.ref (Prod.fst p)/\S'.s=s'/\Ok (LPx c Pt pos) hb S' w/\Le S S' /\
  (LPx c Pt pos).P S'.B S'.h p.1 p.2 [] s/\p.2.Nodup/\∀ a∈p.2,S.h.get? a=Option.none/\S'.B a=Option.none/\a ∉ S'.fps) ff S.s:=by
 refine cps fun X9 k9=>?_
 obtain ⟨u,rfl⟩:=r.str'
 obtain ⟨p0,hp0⟩:∃ p,S.own[0]?=some p:=by
  have hl:0<w.length:=(List.getElem?_eq_some_iff.mp h0).1
  exact ⟨_,List.getElem?_eq_getElem (O.len ▸ hl)⟩
 obtain ⟨q0,f0⟩:=p0
 refine x03 (O.at_ 0 _ _ hp0 h0) fun e1 e2 r9=>x12 r9 fun ps hP ht=>?_
 refine k9 ?_
 clear k9
 dsimp only at e1 e2 hP ht
 subst e1 e2
 have ht':qH3 c.K pos ps S.h.get?:=by
  rcases ht with e | ⟨c',oc,vs,t,e,e1,e2⟩
  · exact .inl e
  · exact .inr ⟨c',oc,vs,t,e,O.sub _ _ e1,e2⟩
 refine wpAny_mono (qND CO IO F LO AT O.heap hP ht' hs u hA hbb) (fun v s' h=>?_) fun _ _ y=>y
 refine qPM h fun h' tk x c' oc vs t eq7 eq8 L nw kp hP' hc' hd hv hor=>?_
 subst eq7
 subst eq8
 have hPal:∃ o,h'.get? q0=some o:=⟨_,hP'⟩
 have hPin:q0∈S.fps:=St.mem_fps.mpr ⟨0,_,hp0,by simp⟩
 have done:∀ B':Fz,(∀ b o,S.B b=some o->B' b=some o)->(∀ b o,B' b=some o->S.B b=some o\/(S.h.get? b=none/\h'.get? b=some o/\b=c'))->B' c'=some oc ->
  ∃ (S':St) (p:Addr×List Addr),Value.ref x.i1=.ref (Prod.fst p)/\S'.s={ S.s with heap:=h',toks:=tk }/\Ok (LPx c q0 pos) hb S' w/\Le S S' /\
  (LPx c q0 pos).P S'.B S'.h p.1 p.2 [] s/\p.2.Nodup/\∀ a∈p.2,S.h.get? a=Option.none/\S'.B a=Option.none/\a ∉ S'.fps:=by
  intro B' hB hBn hBc
  have:=O.renew (y:=.fac) (B':=B') (h':=h') (tk:=tk) hp0 hB (fun b o e=>(hBn b o e).imp id fun h=>⟨h.1,h.2.1⟩) (fun b o e hn=>kp b o (by simpa using hn) e) (fun b hb'=>by rw [List.mem_singleton.mp hb']; exact hPal) ⟨rfl,rfl,_,hP',.inr ⟨c',oc,vs,t,rfl,hBc,hd,hv⟩⟩
  rw [qKz h0] at this
  refine ⟨_,(x.i1,x.fp),rfl,rfl,this.1,this.2,qOD L hBc hc' (by simp),L.nodup,fun a ha=>⟨nw a ha,?_,O.fpNone (nw a ha)⟩⟩
  cases e:B' a with
  | none=>exact e
  | some o =>
   rcases hBn a o e with q | ⟨_,_,q⟩
   · rw [O.bNone (nw a ha)] at q; cases q
   · exact absurd (q ▸ ha) L.cnot
 rcases hor with hn | rfl
 · refine done (S.B.put c' oc) (fun b o e=>Fz.put_of (O.bNone hn) e) (fun b o e=>?_) (Fz.put_self _ _ _)
   clear done hPin hPal h hv hd hP' kp nw L ht' hp0 hP r9 O AT ht r hs hbb hA h0 LO F IO CO
   rcases Fz.put_cases e with ⟨rfl,rfl⟩ | e
   · exact .inr ⟨hn,hc',rfl⟩
   · exact .inl e
 · rcases ht with e | ⟨c₂,oc₂,vs₂,t₂,e,e1,e2⟩
   · cases e
   · cases e
     have:oc₂=oc:=by
      have:=kp c' oc₂ (fun q=>by rw [q,O.apart q0 hPin] at e1; cases e1) (O.sub _ _ e1)
      rw [hc'] at this; exact (Option.some.inj this).symm
     clear e2 hd hc'
     subst this
     exact done S.B (fun _ _ e=>e) (fun _ _ e=>.inl e) e1
end
section
variable {α β:Type _} {P:Prop}
theorem anyE {o:Option α} {f:α->Bool} (h:o.any f=true) (k:∀ a,o=some a->f a=true->P):P:=by
 cases o with
 | none=>cases h
 | some a=>exact k a rfl h
theorem anE {a b:Bool} (h:(a && b)=true) (k:a=true->b=true->P):P:=by
 cases a with
 | true=>exact k rfl h
 | false=>cases h
theorem ntE {a:Bool} (h:(!a)=true):a=false:=by
 cases a with
 | true=>cases h
 | false=>rfl
end
noncomputable def ty?:Value->Option String
 | .type U=>some U
 | _=>none
theorem ty?_eq {v:Value} {U:String} (h:ty? v=some U):v=.type U:=by
 unfold ty? at h
 split at h
 · cases h; rfl
 · cases h
noncomputable def rf?:Value->Option Addr
 | .ref U=>some U
 | _=>none
theorem rf?_eq {v:Value} {U:Addr} (h:rf? v=some U):v=.ref U:=by
 unfold rf? at h
 split at h
 · cases h; rfl
 · cases h
noncomputable def bl?:Value->Option String
 | .builtin U=>some U
 | _=>none
theorem bl?_eq {v:Value} {U:String} (h:bl? v=some U):v=.builtin U:=by
 unfold bl? at h
 split at h
 · cases h; rfl
 · cases h
noncomputable def st?:Value->Option (Str×Tok)
 | .str x t=>some (x,t)
 | _=>none
theorem st?_eq {v:Value} {p:Str×Tok} (h:st? v=some p):v=.str p.1 p.2:=by
 unfold st? at h
 split at h
 · cases h; rfl
 · cases h
noncomputable def nt?:Value->Option (Int×Tok)
 | .int x t=>some (x,t)
 | _=>none
theorem nt?_eq {v:Value} {p:Int×Tok} (h:nt? v=some p):v=.int p.1 p.2:=by
 unfold nt? at h
 split at h
 · cases h; rfl
 · cases h
noncomputable def bo?:Value->Option Bool
 | .bool x=>some x
 | _=>none
theorem bo?_eq {v:Value} {U:Bool} (h:bo? v=some U):v=.bool U:=by
 unfold bo? at h
 split at h
 · cases h; rfl
 · cases h
noncomputable def fl?:Data->Option (Array Value)
 | .fields x=>some x
 | _=>none
theorem fl?_eq {v:Data} {U:Array Value} (h:fl? v=some U):v=.fields U:=by
 unfold fl? at h
 split at h
 · cases h; rfl
 · cases h
noncomputable def fn?:Data->Option FuncData
 | .func x=>some x
 | _=>none
theorem fn?_eq {v:Data} {U:FuncData} (h:fn? v=some U):v=.func U:=by
 unfold fn? at h
 split at h
 · cases h; rfl
 · cases h
noncomputable def plB:Data->Bool
 | .plain=>true
 | _=>false
theorem qOO {v:Data} (h:plB v=true):v=.plain:=by
 unfold plB at h
 split at h
 · rfl
 · cases h
noncomputable def qG4 (o:Obj) (T:String):Bool:=(ty? o.cls).any (· == T)
theorem qBo {o:Obj} {T:String} (h:qG4 o T=true):o.cls=.type T:=anyE h fun U e h=>beq_iff_eq.mp h ▸ ty?_eq e
noncomputable def fnN (h:Heap) (a:Addr):Option FuncData:=(h.get? a).bind fun o=>gd (qG4 o "function") ((fn? o.data).map fun fd=>{ fd with pyModule:=.none,doc:=.none })
theorem qHg {h:Heap} {a:Addr} {name qual:Str} {params:Arguments} {body:List Stmt} {sc:Scope} {cd:Value} (e:fnN h a=some (methDef name qual params body sc .none cd .none)) :
 ∃ o pm doc,h.get? a=some o/\o.cls=.type "function" /\ o.data=.func (methDef name qual params body sc pm cd doc):=by
 exact qAC e fun o ho e=>gdE e fun hc e=>mapE (R:=fun g:FuncData=>∃ o pm doc,h.get? a=some o/\o.cls=.type "function" /\ o.data=.func { g with pyModule:=pm,doc:=doc }) e fun fd hd=>⟨o,fd.pyModule,fd.doc,ho,qBo hc,fn?_eq hd⟩
noncomputable def recB (h:Heap) (c:Addr) (q:Str):Bool:=(h.get? c).any fun o=>(fl? o.data).any fun vs=>(vs[1]?).any fun v=>(st? v).any fun p=>p.1 == q
theorem qJi {h:Heap} {c:Addr} {q:Str} (e:recB h c q=true):h.CodeRec (.ref c) q :=
 anyE e fun o ho e=>anyE e fun vs hd e=>anyE e fun v hv e=>anyE e fun p hp e=>⟨c,o,vs,p.2,rfl,ho,fl?_eq hd,hv.trans (congrArg some (beq_iff_eq.mp e ▸ st?_eq hp))⟩
noncomputable def hdB (h:Heap) (c P:Addr):Bool:=(h.get? c).any fun o=>qG4 o "code" && !(Nat.beq c P) && (fl? o.data).any fun vs =>
 ((vs[11]?).any fun v=>(rf? v).any fun p=>Nat.beq p P) && (st? (vs.getD 18 .none)).any fun _=>(nt? (vs.getD 7 .none)).any fun _=>(bo? (vs.getD 9 .none)).any fun _=>(nt? (vs.getD 10 .none)).any fun _=>true
theorem qNz {h:Heap} {c P:Addr} (e:hdB h c P=true):CodeHd h c P :=
 anyE e fun o ho e=>anE e fun e e'=>anE e fun hc hne=>anyE e' fun vs hd e=>anE e fun e1 e=>anyE e1 fun v hv e1=>anyE e1 fun p hp e1=>anyE e fun x hx e=>anyE e fun y hy e=>anyE e fun z hz e=>anyE e fun u hu _=>by
  have hp':vs[11]?=some (.ref P):=by rw [hv,rf?_eq hp,Nat.eq_of_beq_eq_true e1]
  exact ⟨o,vs,x.1,x.2,y.1,y.2,z,u.1,u.2,ho,qBo hc,fl?_eq hd,hp',by rw [Array.getD_eq_getD_getElem?,hp']; rfl,st?_eq hx,nt?_eq hy,bo?_eq hz,nt?_eq hu,fun q=>by subst q; rw [Nat.beq_refl] at hne; cases hne⟩
noncomputable def qEg (h:Heap) (N:Addr) (x:Str) (a:Addr):Bool:=(h.nsMap N x).any fun v=>(rf? v).any fun b=>Nat.beq b a
theorem qB8 {h:Heap} {N a:Addr} {x:Str} (e:qEg h N x a=true):h.nsMap N x=some (.ref a) :=
 anyE e fun v hv e=>anyE e fun b hb e=>hv.trans (congrArg some (Nat.eq_of_beq_eq_true e ▸ rf?_eq hb))
noncomputable def qKG (h:Heap) (N:Addr) (x:Str):Bool:=(h.nsMap N x).isNone
theorem qDQ {h:Heap} {N:Addr} {x:Str} (e:qKG h N x=true):h.nsMap N x=none:=Option.isNone_iff_eq_none.mp e
noncomputable def qMB (h:Heap) (N:Addr) (x:Str) (v:Str):Bool:=(h.nsMap N x).any fun u=>(st? u).any fun p=>p.1 == v
theorem qJ2 {h:Heap} {N:Addr} {x v:Str} (e:qMB h N x v=true):∃ t,h.nsMap N x=some (.str v t) :=
 anyE e fun u hu e=>anyE e fun p hp e=>⟨p.2,hu.trans (congrArg some (beq_iff_eq.mp e ▸ st?_eq hp))⟩
noncomputable def bmB (h:Heap) (P:Addr):Bool:=(h.nsMap mainGlobals "__builtins__").any fun v=>(rf? v).any fun bm=>!(Nat.beq bm builtinsNs) && !(Nat.beq bm mainGlobals) && !(Nat.beq bm P) &&
 (h.get? bm).any fun o=>qG4 o "module" && (o.dict.any fun d=>Nat.beq d builtinsNs) && plB o.data
theorem nbeq {a b:Nat} (h:(!Nat.beq a b)=true):a≠b:=fun q=>by subst q; rw [Nat.beq_refl] at h; cases h
theorem qN5 {h:Heap} {P:Addr} (e:bmB h P=true):h.BuiltinsAt (h.nsMap mainGlobals) P :=
 anyE e fun v hv e=>anyE e fun bm hbm e=>anE e fun e e4=>anE e fun e e3=>anE e fun e1 e2=>anyE e4 fun o ho e=>anE e fun e c3=>anE e fun c1 c2=>anyE c2 fun d hd c2 =>
  ⟨bm,o,hv.trans (congrArg some (rf?_eq hbm)),nbeq e1,nbeq e2,nbeq e3,ho,qBo c1,hd.trans (congrArg some (Nat.eq_of_beq_eq_true c2)),qOO c3⟩
theorem six {α:Type _} {l:List α} {v:α} (h:l.length=6):l[4]?=some v->∃ k0 k1 k2 k3 k5,l=[k0,k1,k2,k3,v,k5]:=by
 refine lenE h fun k0 r h=>?_
 refine lenE h fun k1 r h=>?_
 refine lenE h fun k2 r h=>?_
 refine lenE h fun k3 r h=>?_
 refine lenE h fun k4 r h=>?_
 refine lenE h fun k5 r h h4=>?_
 cases len0 h
 cases h4
 exact ⟨k0,k1,k2,k3,k5,rfl⟩
noncomputable def cl?:Data->Option ClassData
 | .cls x=>some x
 | _=>none
theorem cl?_eq {v:Data} {U:ClassData} (h:cl? v=some U):v=.cls U:=by
 unfold cl? at h
 split at h
 · cases h; rfl
 · cases h
theorem cdEq {cd:ClassData} {m:List Value} {n:Addr} (h1:cd.mro=m) (h2:cd.ns=n) (h3:cd.hasDict=true) (h4:cd.abstract=false) (h5:cd.hasDel=false):cd=⟨cd.name,cd.bases,m,n,cd.qualname,true,cd.slotNames,cd.subclasses,false,cd.collection,false⟩:=by
 cases cd; cases h1; cases h2; cases h3; cases h4; cases h5; rfl
theorem obEq {o:Obj} {c:Value} {d:Data} {s:Array (Option Value)} (h1:o.cls=c) (h2:o.data=d) (h3:o.slots=s):o=⟨c,o.dict,d,s⟩:=by
 cases o; cases h1; cases h2; cases h3; rfl
noncomputable def clsB (h:Heap) (C N:Addr):Bool:=(h.get? C).any fun o=>qG4 o "type" && (Nat.beq o.slots.toList.length 6 && (o.slots.toList[4]?).any fun u=>u.any fun v=>(bl? v).any (· == "object.__new__")) && (cl? o.data).any fun cd =>
 ((two? cd.mro).any fun p=>((rf? p.1).any fun a=>Nat.beq a C) && (ty? p.2).any (· == "object")) && Nat.beq cd.ns N && cd.hasDict && !cd.abstract && !cd.hasDel
theorem qNS {h:Heap} {C N:Addr} (e:clsB h C N=true) (hn:h.isNs N=true):ClsAt h C N (h.nsMap N):=by
 refine anyE e fun o ho e=>anE e fun e e'=>anE e fun hc hs=>anE hs fun h6 hs=>anyE hs fun u hu hs=>anyE hs fun v hv hs=>anyE hs fun b hb hs=>anyE e' fun cd hcd e=>anE e fun e d5=>anE e fun e d4=>anE e fun e d3=>anE e fun e d2=>anyE e fun p hp e=>anE e fun e1 e2=>anyE e1 fun a ha e1=>anyE e2 fun T hT e2=>?_
 have hm:cd.mro=[.ref C,.type "object"]:=(two?_eq hp).trans (by rw [rf?_eq ha,Nat.eq_of_beq_eq_true e1,ty?_eq hT,beq_iff_eq.mp e2])
 refine x51 (six (Nat.eq_of_beq_eq_true h6) (hu.trans (congrArg some (hv.trans (congrArg some (beq_iff_eq.mp hs ▸ bl?_eq hb)))))) fun k0 k1 k2 k3 k5 hsl=>?_
 refine ⟨⟨cd.name,cd.qualname,cd.bases,cd.slotNames,cd.subclasses,cd.collection,o.dict,k0,k1,k2,k3,k5,ho.trans (congrArg some ?_)⟩,.of_isNs hn⟩
 exact obEq (qBo hc) ((cl?_eq hcd).trans (congrArg Data.cls (cdEq hm (Nat.eq_of_beq_eq_true d2) d3 (ntE d4) (ntE d5)))) (Array.toList_inj.mp hsl)
noncomputable def entB:List DictEntry->List (Int×Str)->Bool
 | [],ps=>ps.isEmpty
 | e::es,ps=>ps.head?.any fun p=>(nt? e.key).any (fun q=>decide (q.1=p.1)) && (st? e.val).any (fun q=>q.1 == p.2) && decide (e.hash=hashInt p.1) && entB es ps.tail
theorem qJP (es:List DictEntry):∀ (ps:List (Int×Str)),entB es ps=true->(∀ e∈es,∃ k t,e.key=.int k t/\e.hash=hashInt k) /\
 ∀ c:Int,((es.find? fun e=>Value.isInt c e.key).map (·.val)=none/\ps.lookup c=none)\/∃ v t,(es.find? fun e=>Value.isInt c e.key).map (·.val)=some (.str v t)/\ps.lookup c=some v:=by
 induction es with
 | nil =>
  intro ps h
  cases ps with
  | nil=>exact ⟨fun e he=>(nomatch he),fun c=>.inl ⟨rfl,rfl⟩⟩
  | cons p ps=>cases h
 | cons e es ih =>
  intro ps h
  cases ps with
  | nil=>cases h
  | cons p ps =>
   obtain ⟨i,v⟩:=p
   refine anE h fun h h4=>anE h fun h h3=>anE h fun h1 h2=>anyE h1 fun k hk h1=>anyE h2 fun x hx h2=>?_
   have hk:e.key=.int i k.2:=nt?_eq hk ▸ of_decide_eq_true h1 ▸ rfl
   have hx:e.val=.str v x.2:=st?_eq hx ▸ beq_iff_eq.mp h2 ▸ rfl
   refine ⟨fun e' he'=>?_,fun c=>?_⟩
   · cases he' with
     | head=>exact ⟨i,k.2,hk,of_decide_eq_true h3⟩
     | tail _ he'=>exact (ih ps h4).1 e' he'
   · rw [List.find?_cons,List.lookup_cons,hk,show Value.isInt c (.int i k.2)=(i == c) from rfl]
     by_cases hc:i=c
     · subst hc
       rw [beq_self_eq_true]
       exact .inr ⟨v,x.2,congrArg some hx,rfl⟩
     · rw [beq_false_of_ne hc,beq_false_of_ne (Ne.symm hc)]
       exact (ih ps h4).2 c
noncomputable def di?:Data->Option (Array DictEntry×Nat)
 | .dict x n=>some (x,n)
 | _=>none
theorem di?_eq {v:Data} {U:Array DictEntry×Nat} (h:di? v=some U):v=.dict U.1 U.2:=by
 unfold di? at h
 split at h
 · cases h; rfl
 · cases h
noncomputable def qM6 (h:Heap) (a:Addr) (ps:List (Int×Str)):Bool:=(h.get? a).any fun o=>qG4 o "dict" && o.dict.isNone && o.slots.isEmpty && (di? o.data).any fun d=>entB d.1.toList ps
theorem qHU {h:Heap} {a:Addr} {ps:List (Int×Str)} (e:qM6 h a ps=true):∃ f:Int->Option Value,(∃ o,h.get? a=some o/\o.cls=.type "dict" /\ o.dict=none) /\
 (∀ prog w,h.MapOf (intKind prog w) a f)/\∀ c,(f c=none/\ps.lookup c=none)\/∃ v t,f c=some (.str v t)/\ps.lookup c=some v :=
 anyE e fun o ho e=>anE e fun e he=>anE e fun e hs=>anE e fun hc hd=>anyE he fun d hdat he =>
  ⟨fun c=>findBy Value.isInt d.1 c,⟨o,ho,qBo hc,Option.isNone_iff_eq_none.mp hd⟩,fun prog w=>Heap.IntMap.mapOf ⟨o,d.1,d.2,ho,qBo hc,di?_eq hdat,fun e' he'=>(qJP _ _ he).1 e' (Array.mem_toList_iff.mpr he'),fun c=>rfl⟩
    (fun o' ho'=>Option.some.inj (ho.symm.trans ho') ▸ ⟨Option.isNone_iff_eq_none.mp hd,Array.isEmpty_iff.mp hs⟩),fun c=>by
    have hf:findBy Value.isInt d.1 c=(d.1.toList.find? fun e=>Value.isInt c e.key).map (·.val):=by
     unfold findBy
     rw [Array.find?_toList]
    dsimp only
    rw [hf]
    exact (qJP _ _ he).2 c⟩
noncomputable def elB (ns:List Int) (e:Int×Value):Bool:=(nt? e.2).any fun k=>decide (e.1=hashInt k.1) && decide (k.1∈ns)
noncomputable def isI (k:Int) (e:Int×Value):Bool:=(nt? e.2).any fun i=>decide (i.1=k)
noncomputable def se?:Data->Option (Array (Int×Value)×Nat×SetTable)
 | .set x n t=>some (x,n,t)
 | _=>none
theorem se?_eq {v:Data} {U:Array (Int×Value)×Nat×SetTable} (h:se? v=some U):v=.set U.1 U.2.1 U.2.2:=by
 unfold se? at h
 split at h
 · cases h; rfl
 · cases h
noncomputable def setB (h:Heap) (a:Addr) (ns:List Int):Bool:=(h.get? a).any fun o=>qG4 o "set" && o.dict.isNone && o.slots.isEmpty && (se? o.data).any fun d =>
 d.1.toList.all (elB ns) && ns.all (fun k=>d.1.toList.any (isI k)) && Nat.blt d.1.size 4096 && d.2.2.fits d.1.size
theorem qOz {ns:List Int} {e:Int×Value} (h:elB ns e=true):∃ k t,e.2=.int k t/\e.1=hashInt k/\k∈ns:=anyE h fun k hk h=>anE h fun h1 h2=>⟨k.1,k.2,nt?_eq hk,of_decide_eq_true h1,of_decide_eq_true h2⟩
theorem qN4 {k:Int} {e:Int×Value} (h:isI k e=true):∃ t,e.2=.int k t:=anyE h fun i hi h=>⟨i.2,of_decide_eq_true h ▸ nt?_eq hi⟩
theorem qNG {h:Heap} {a:Addr} {ns:List Int} (e:setB h a ns=true):∃ n,∀ prog w,h.SetOf (intKind prog w) a (fun c=>decide (c∈ns)) n:=by
 refine anyE e fun o ho e=>anE e fun e he=>anE e fun e hs=>anE e fun hc hd=>anyE he fun d hdat he=>anE he fun he h4=>anE he fun he h3=>anE he fun h1 h2=>?_
 have el:=fun e he=>qOz (List.all_eq_true.mp h1 e he)
 refine ⟨d.1.size,fun prog w=>⟨o,d.1,d.2.1,d.2.2,ho,⟨qBo hc,Option.isNone_iff_eq_none.mp hd,Array.isEmpty_iff.mp hs⟩,se?_eq hdat,fun e he=>?_,fun k=>?_,Nat.blt_eq.mp h3,h4,rfl⟩⟩
 · refine x23 (el e he) fun k t e1 e2 _=>?_
   rw [e1]
   exact ⟨⟨k,intKind_is _ _ _ _,e2⟩,rfl⟩
 · rw [decide_eq_true_eq]
   constructor
   · intro hk
     obtain ⟨e,he,hi⟩:=List.any_eq_true.mp (List.all_eq_true.mp h2 k hk)
     obtain ⟨t,hi'⟩:=qN4 hi
     exact ⟨e,he,by rw [hi']; exact intKind_is _ _ _ _⟩
   · refine fun h9=>x12 h9 fun e he hi=>?_
     refine x23 (el e he) fun k' t e1 _ hm=>?_
     rw [e1] at hi
     have:k'=k:=by simpa [intKind,Value.isInt] using hi
     exact this ▸ hm
noncomputable def qMX (p:Program) (x:Str):List Stmt:=(p.main.body.findSome? fun
 | .ClassDef n _ _ b _ _ _ _ _ _ _=>if n == x then some b else none
 | _=>none).getD []
noncomputable def mA (m:Str):Arguments×List Stmt×Scope:=((qMX P91 "_netrclex").findSome? fun
 | .FunctionDef n a b _ _ _ sc _ _ _=>if n == m then some (a,b,sc) else none
 | _=>none).getD default
noncomputable def qLF:Option (Arguments×Expr×Scope×Pos):=match (dA P91 "_law_lexer").2.1 with
 | [_,_,.Assign _ (.Lambda a b s p) _,_]=>some (a,b,s,p)
 | _=>none
noncomputable def b3List:List (Int×Str):=match stmt8 P91 with
 | some d=>(qCY d.ks d.vs).getD []
 | none=>[]
noncomputable def qHT:List Int:=noise.map Int.ofNat
noncomputable def cx1:Addr:=141
noncomputable def Mx (m:Str):Meth:=⟨m,("_netrclex." : Str)++m,(mA m).1,(mA m).2.1,(mA m).2.2⟩
noncomputable def Kx:LK:=⟨59, "_law_lexer.<locals>.<lambda>",(qLF.getD default).1,(qLF.getD default).2.1,(qLF.getD default).2.2.1⟩
noncomputable def posx:Pos:=(qLF.getD default).2.2.2
noncomputable def cX (h:Heap):CK:=⟨Kx,58,h.nsMap 58,42,35,49,56,Mx "_read_char",Mx "__init__",Mx "get_token",Mx "push_token"⟩
noncomputable def defL:List (Str×Addr):=[("_ellipsis_match",21),("in_table_b1",81),("map_table_b3",127),("_law_drawn",134),("_law_prepared",139),("_law_written",153),("_law_marks",160),("_law_filled",167),("_law_left",172),("_law_shape",179),("law",184),("_law_lexer",146)]
noncomputable def qBw:List (Str×Addr):=[("__init__",35),("_read_char",42),("get_token",49),("push_token",56)]
noncomputable def dFn (p:Str×Addr):FuncData:=Calls.docDef p.1 (dA P91 p.1).1 (dA P91 p.1).2.1 (dA P91 p.1).2.2 .none (.ref (p.2-1)) .none
noncomputable def mFn (p:Str×Addr):FuncData:=methDef p.1 (("_netrclex." : Str)++p.1) (mA p.1).1 (mA p.1).2.1 (mA p.1).2.2 .none (.ref (p.2-1)) .none
noncomputable def qMq (h:Heap):Bool:=h.isNs 3 && h.isNs 0 && h.isNs 58 && h.isNs cStatics && qKG h cStatics "sys.recursionlimit" &&
 defL.all (fun p=>qEg h 3 p.1 p.2 && recB h (p.2-1) p.1) && qBw.all (fun p=>qEg h 58 p.1 p.2 && recB h (p.2-1) (("_netrclex." : Str)++p.1)) &&
 qAI.all (qKG h 58) && qCQ.all (fun p=>qKG h 3 p.1) && qKG h 3 "iter" && qMB h 3 "ELLIPSIS_MARKER" "..." && qEg h 3 "_netrclex" 59 && qEg h 3 "b1_set" 71 && qEg h 3 "b3_exceptions" 82 &&
 clsB h 59 58 && hdB h 145 141 && bmB h 141 && qM6 h 82 b3List && setB h 71 qHT
noncomputable def hbOf (h:Heap):Heap:=hideAll h [141]
noncomputable def qI4 (h:Heap):List (Option Obj):=((List.range 11).filter fun b=>b != mainNs && b != cStatics).map h.get?
noncomputable def chk (P:Program) (h₀ h:Heap):Bool:=staticsOk (importedModules P.main.body) h₀ h && h.accountedOkI (importedModules P.main.body) && h.isNs mainGlobals && h.isNs builtinsNs && h.bmainOk && namesBound P h && laidKept h₀ h
noncomputable def wC (w:World) (b c:Bool):World:=(w.withFollow "set-order" b).withFollow "special-get-raises" c
section
set_option maxHeartbeats 0
noncomputable def qDX (S S₀:SharedT):=(S.gens,S.os,qI4 S.abs.heap,S.abs.heap.bltView,chk P91 S₀.abs.heap S.abs.heap,qMq (hbOf S.abs.heap),S.abs.heap.get? 141,defL.map (fun p=>fnN (hbOf S.abs.heap) p.2),qBw.map (fun p=>fnN (hbOf S.abs.heap) p.2))
noncomputable def qEF (os:OsState) (S₀:SharedT):=((#[]:Array GenState),os,qI4 S₀.abs.heap,bltViewBooted,true,true,some (tabObj #[]),defL.map (fun p=>some (dFn p)),qBw.map (fun p=>some (mFn p)))
theorem hdTT (w:World) (os:OsState) (p:Pos):(qJr (wC w true true) os p).map (fun S=>qDX S (S0 (wC w true true) os))=some (qEF os (S0 (wC w true true) os)):=by kernel_rfl
theorem hdTF (w:World) (os:OsState) (p:Pos):(qJr (wC w true false) os p).map (fun S=>qDX S (S0 (wC w true false) os))=some (qEF os (S0 (wC w true false) os)):=by kernel_rfl
theorem hdFT (w:World) (os:OsState) (p:Pos):(qJr (wC w false true) os p).map (fun S=>qDX S (S0 (wC w false true) os))=some (qEF os (S0 (wC w false true) os)):=by kernel_rfl
theorem hdFF (w:World) (os:OsState) (p:Pos):(qJr (wC w false false) os p).map (fun S=>qDX S (S0 (wC w false false) os))=some (qEF os (S0 (wC w false false) os)):=by kernel_rfl
theorem hd4 (w:World) (os:OsState) (p:Pos) (b c:Bool):(qJr (wC w b c) os p).map (fun S=>qDX S (S0 (wC w b c) os))=some (qEF os (S0 (wC w b c) os)):=by
 cases b <;> cases c
 · exact hdFF w os p
 · exact hdFT w os p
 · exact hdTF w os p
 · exact hdTT w os p
end
theorem lenS {α:Type} {l:List α} {n:Nat} (h:l.length=n+1):∃ a r,l=a::r/\r.length=n:=by
 cases l with
 | nil=>cases h
 | cons a r=>exact ⟨a,r,rfl,Nat.succ.inj h⟩
theorem bind1 {fd:FuncData} {x:Str} (h:∀ v,bindArgs fd ⟨[v],[]⟩=pure [(x,v)]) (vs:List Value) (hl:vs.length=[x].length):bindArgs fd ⟨vs,[]⟩=pure ([x].zip vs):=by
 refine x22 (lenS hl) fun v r eq2 h1=>?_
 subst eq2
 cases len0 h1
 exact h v
theorem bind2 {fd:FuncData} {x y:Str} (h:∀ u v,bindArgs fd ⟨[u,v],[]⟩=pure [(x,u),(y,v)]) (vs:List Value) (hl:vs.length=[x,y].length):bindArgs fd ⟨vs,[]⟩=pure ([x,y].zip vs):=by
 refine x22 (lenS hl) fun u r eq2 h1=>?_
 clear hl
 subst eq2
 refine x22 (lenS h1) fun v r eq2 h2=>?_
 subst eq2
 cases len0 h2
 exact h u v
theorem rcOk:MethOk (Mx "_read_char") ["self"]:=⟨by kernel_rfl,by decide +kernel,by kernel_rfl,by kernel_rfl,by decide +kernel,fun pm cd doc=>bind1 fun v=>by kernel_rfl⟩
theorem puOk:MethOk (Mx "push_token") ["self", "token"]:=⟨by kernel_rfl,by decide +kernel,by kernel_rfl,by kernel_rfl,by decide +kernel,fun pm cd doc=>bind2 fun u v=>by kernel_rfl⟩
theorem inOk:MethOk (Mx "__init__") ["self", "fp"]:=⟨by kernel_rfl,by decide +kernel,by kernel_rfl,by kernel_rfl,by decide +kernel,fun pm cd doc=>bind2 fun u v=>by kernel_rfl⟩
theorem gtOk:MethOk (Mx "get_token") ["self"]:=⟨by kernel_rfl,by decide +kernel,by kernel_rfl,by kernel_rfl,by decide +kernel,fun pm cd doc=>bind1 fun v=>by kernel_rfl⟩
theorem rcS:(Mx "_read_char").body=qJn:=by kernel_rfl
theorem puS:(Mx "push_token").body=qL7:=by kernel_rfl
theorem inSh:(Mx "__init__").body=qMD:=by kernel_rfl
theorem lamS:Kx.body=qKJ:=by kernel_rfl
theorem llS:(dA P91 "_law_lexer").2.1=qD5 Kx posx:=by kernel_rfl
theorem gtS:(Mx "get_token").body=qMF:=by kernel_rfl
theorem gSc:GSc (Mx "get_token").scope:=⟨by kernel_rfl,by kernel_rfl,by kernel_rfl,by kernel_rfl⟩
theorem qOs:LamOk Kx:=⟨lamS,by kernel_rfl,by kernel_rfl,by kernel_rfl,by decide +kernel,by kernel_rfl,by kernel_rfl,fun cl pm c' ct v=>by kernel_rfl⟩
theorem qOF (env:Env) (ce:Addr) (h:env.cells.lookup ("signs" : Str)=some ce):closureFor Kx.scope env=pure [(("signs" : Str),ce)]:=by
 have e:∃ k,Kx.scope.names=[(("count" : Str),.local),(("signs" : Str),.free)]/\k=0:=⟨0,by kernel_rfl,rfl⟩
 refine x12 e fun _ e _=>?_
 unfold closureFor
 rw [e]
 simp [cellOf,h]
theorem llOk (h:Heap):LlOk (cX h) (dA P91 "_law_lexer").1 (dA P91 "_law_lexer").2.1 (dA P91 "_law_lexer").2.2 posx:=⟨llS,by kernel_rfl,by kernel_rfl,by kernel_rfl,by kernel_rfl,by kernel_rfl,by kernel_rfl,by kernel_rfl,by kernel_rfl,fun n=>by kernel_rfl,fun pm cd doc v=>by kernel_rfl,qOF,fun env=>by kernel_rfl,by kernel_rfl⟩
structure HF (h:Heap):Prop where
 n3:h.isNs 3=true
 n0:h.isNs 0=true
 n58:h.isNs 58=true
 lim:h.NoLimit
 dref:∀ p∈defL,h.nsMap 3 p.1=some (.ref p.2)/\h.CodeRec (.ref (p.2-1)) p.1
 mref:∀ p∈qBw,h.nsMap 58 p.1=some (.ref p.2)/\h.CodeRec (.ref (p.2-1)) (("_netrclex." : Str)++p.1)
 noN:∀ n∈qAI,h.nsMap 58 n=none
 noB:∀ p∈qCQ,h.nsMap 3 p.1=none
 noIt:h.nsMap 3 "iter" = none
 mark:∃ t,h.nsMap 3 "ELLIPSIS_MARKER" = some (.str "..." t)
 cls:h.nsMap 3 "_netrclex" = some (.ref 59)
 b1:h.nsMap 3 "b1_set" = some (.ref 71)
 b3:h.nsMap 3 "b3_exceptions" = some (.ref 82)
 clsAt:ClsAt h 59 58 (h.nsMap 58)
 hd:CodeHd h 145 141
 bm:h.BuiltinsAt (h.nsMap mainGlobals) 141
 dict:qM6 h 82 b3List=true
 set:setB h 71 qHT=true
 blt:∀ x:Str,x ≠ "__name__" -> h.nsMap builtinsNs x=bootBuiltins x
 freed:h.get? 141=none
 dfn:defL.map (fun p=>fnN h p.2)=defL.map (fun p=>some (dFn p))
 mfn:qBw.map (fun p=>fnN h p.2)=qBw.map (fun p=>some (mFn p))
theorem HF.of {h:Heap} (e:qMq h=true) (eb:∀ x:Str,x ≠ "__name__" -> h.nsMap builtinsNs x=bootBuiltins x) (ef:h.get? 141=none) (ed:defL.map (fun p=>fnN h p.2)=defL.map (fun p=>some (dFn p))) (em:qBw.map (fun p=>fnN h p.2)=qBw.map (fun p=>some (mFn p))):HF h:=by
 unfold qMq at e
 simp only [Bool.and_eq_true,List.all_eq_true] at e
 obtain ⟨⟨⟨⟨⟨⟨⟨⟨⟨⟨⟨⟨⟨⟨⟨⟨⟨⟨e1,e2⟩,e3⟩,e4⟩,e5⟩,e6⟩,e7⟩,e8⟩,e9⟩,e10⟩,e11⟩,e12⟩,e13⟩,e14⟩,e15⟩,e16⟩,e17⟩,e18⟩,e19⟩:=e
 exact ⟨e1,e2,e3,⟨_,.of_isNs e4,qDQ e5⟩,fun p hp=>⟨qB8 (e6 p hp).1,qJi (e6 p hp).2⟩,fun p hp=>⟨qB8 (e7 p hp).1,qJi (e7 p hp).2⟩,fun n hn=>qDQ (e8 n hn),fun p hp=>qDQ (e9 p hp),qDQ e10,qJ2 e11,
  qB8 e12,qB8 e13,qB8 e14,qNS e15 e3,qNz e16,qN5 e17,e18,e19,eb,ef,ed,em⟩
section
variable {h:Heap} (H:HF h)
include H
theorem HF.dfnAt {p:Str×Addr} (hp:p∈defL):∃ o pm doc,h.get? p.2=some o/\o.cls=.type "function" /\ o.data=.func (Calls.docDef p.1 (dA P91 p.1).1 (dA P91 p.1).2.1 (dA P91 p.1).2.2 pm (.ref (p.2-1)) doc):=by
 have:=List.map_inj_left.mp H.dfn p hp
 exact qHg (qual:=p.1) this
theorem HF.mfnAt {p:Str×Addr} (hp:p∈qBw):MethAt h p.2 (Mx p.1):=by
 have:=List.map_inj_left.mp H.mfn p hp
 refine x33 (qHg this) fun o pm doc h1 h2 h3=>?_
 exact ⟨o,pm,_,doc,h1,h2,h3,(H.mref p hp).2⟩
theorem HF.cf:CFacts (cX h) h:=⟨H.clsAt,H.lim,H.mfnAt (p:=("_read_char",42)) (by simp [qBw]),H.mfnAt (p:=("__init__",35)) (by simp [qBw]),H.mfnAt (p:=("get_token",49)) (by simp [qBw]),H.mfnAt (p:=("push_token",56)) (by simp [qBw])⟩
theorem HF.co:COk (cX h):=⟨qOs,H.noN,(H.mref ("_read_char",42) (by simp [qBw])).1,(H.mref ("__init__",35) (by simp [qBw])).1,(H.mref ("get_token",49) (by simp [qBw])).1,(H.mref ("push_token",56) (by simp [qBw])).1,rcOk,rcS,by kernel_rfl⟩
theorem HF.go:GtOk (cX h):=⟨gtOk,gSc,by kernel_rfl,gtS⟩
theorem HF.po:PuOk (cX h):=⟨puOk,puS⟩
theorem HF.io:InOk (cX h):=⟨inOk,inSh⟩
theorem HF.bn (x:Str) (hx:x ≠ "__name__"):h.nsMap builtinsNs x=bootBuiltins x:=H.blt x hx
theorem HF.nm:NmOk h:=⟨_,_,.of_isNs H.n3,.of_isNs H.n0,H.noIt,(H.bn "iter" (by decide)).trans (by kernel_rfl)⟩
theorem HF.lx:LlAt (cX h) h 141 (h.nsMap mainGlobals) (h.nsMap builtinsNs) 146 145 (dA P91 "_law_lexer").1 (dA P91 "_law_lexer").2.1 (dA P91 "_law_lexer").2.2:=by
 refine x33 (H.dfnAt (p:=("_law_lexer",146)) (by simp [defL])) fun o pm doc h1 _ h2=>?_
 refine ⟨⟨o,pm,doc,h1,h2⟩,(H.dref ("_law_lexer",146) (by simp [defL])).2,H.hd,H.freed,by decide,.of_isNs H.n3,.of_isNs H.n0,H.bm,H.cls,⟨H.noB ("list",.type "list") (by simp [qCQ]),(H.bn "list" (by decide)).trans (by kernel_rfl)⟩⟩
end
theorem qOi:∀ p∈b3List,(128:Int)≤p.1:=by
 have e:b3List.all (fun p=>decide ((128:Int)≤p.1))=true:=by kernel_rfl
 intro p hp
 exact of_decide_eq_true (List.all_eq_true.mp e p hp)
theorem qNf {c:Nat} (hc:c<128):b3List.lookup (c:Int)=none:=by
 cases e:b3List.lookup (c:Int) with
 | none=>rfl
 | some v =>
  have key:∀ (l:List (Int×Str)),(∀ p∈l,(128:Int)≤p.1)->l.lookup (c:Int)=some v->False:=by
   intro l
   induction l with
   | nil=>intro _ h; cases h
   | cons q l ih =>
    intro hl h
    obtain ⟨k,x⟩:=q
    rw [List.lookup_cons] at h
    cases hk:(c:Int) == k with
    | true =>
     have:=beq_iff_eq.mp hk
     have:=hl (k,x) List.mem_cons_self
     dsimp only at this
     lia
    | false =>
     rw [hk] at h
     exact ih (fun p hp=>hl p (List.mem_cons_of_mem _ hp)) h
  exact (key _ qOi e).elim
noncomputable def b3Chk:Bool:=qAb.all fun p=>match p.1 with
 | [c]=>Nat.blt c 128 || p.2.isEmpty || (match b3List.lookup (c:Int) with | some v=>v == toS (b3Of c) | none=>false)
 | _=>true
theorem qLJ:b3Chk=true:=by kernel_rfl
set_option tactic.hygienic true in
theorem qNi {c:Nat} (hc:¬ c<128) (h:okB3 c):b3List.lookup (c:Int)=some (toS (b3Of c)):=by
 rcases h with h | ⟨p,hp,h1,h2⟩
 · exact absurd h hc
 have:=List.all_eq_true.mp qLJ p hp
 rw [h1] at this
 simp only [Bool.or_eq_true] at this
 rcases this with (e | e) | e
 · exact absurd (Nat.blt_eq.mp e) hc
 · exact absurd (List.isEmpty_iff.mp e) h2
 · split at e
   · rename_i v hv
     rw [hv,beq_iff_eq.mp e]
   · cases e
noncomputable def rk (x:Str):Nat:=if x == "#b1" || x == "#b3" then 0 else if x == "_law_prepared" then 2 else 1
theorem FF.b1 {f:Str} {ds:List Mine.D} {r:Mine.D} (h:FF f ds r) (e:f = "#b1"):∃ c:Nat,ds=[.int c]/\r=.bool (isB1 c):=by
 cases h <;> first | exact ⟨_,rfl,rfl⟩ | exact absurd e (by decide +kernel)
theorem FF.b3 {f:Str} {ds:List Mine.D} {r:Mine.D} (h:FF f ds r) (e:f = "#b3"):∃ c:Nat,ds=[.int c]/\((b3List.lookup (c:Int)=none/\r=.none)\/∃ s,b3List.lookup (c:Int)=some (toS s)/\r=.str s):=by
 cases h <;> first | exact absurd e (by decide +kernel) | exact ⟨_,rfl,.inl ⟨qNf ‹_›,rfl⟩⟩ | exact ⟨_,rfl,.inr ⟨_,qNi ‹_› ‹_›,rfl⟩⟩
noncomputable def Fn (n:Nat) (x:Str) (ds:List Mine.D) (r:Mine.D):Prop:=FF x ds r/\rk x≤n
section
variable {prog:Program} {w₀:World} {hb:Heap} (H:HF hb)
noncomputable abbrev LPh (hb:Heap):LexP:=LPx (cX hb) 141 posx
include H
theorem HF.in1 {A:Around} {S:St} {w:W} {v:Value} {c:Nat} (O:Ok (LPh hb) hb S w) (r:Rep S.B v (.int c)):wpAny (model prog w₀) A (compareOp .In v (.ref 71)) (KRes (LPh hb) hb S w (·=.bool (isB1 c))) ff S.s:=by
 obtain ⟨t,rfl⟩:=r.int'
 obtain ⟨n,hS⟩:=qNG H.set
 refine x42 (hS prog w₀) fun o es ep tb ho r=>?_
 refine wpAny_inSet_of (knd:=intKind prog w₀) (k:=(c:Int)) (intKind_is _ _ _ _) rfl ⟨o,es,ep,tb,O.heap _ _ ho,r⟩ ?_
 have e:decide ((c:Int)∈qHT)=isB1 c:=by
  unfold isB1 qHT
  congr 1
  apply propext
  rw [List.mem_map]
  exact ⟨fun ⟨a,ha,e⟩=>(Int.ofNat.inj e:a=c) ▸ ha,fun h=>⟨c,h,rfl⟩⟩
 rw [e]
 exact KRes.val O (K:=(·=.bool (isB1 c))) (.bool _) rfl
theorem HF.get3 {A:Around} {S:St} {w:W} {v:Value} {c:Nat} (O:Ok (LPh hb) hb S w) (r:Rep S.B v (.int c)) {d:Mine.D} (hd:(b3List.lookup (c:Int)=none/\d=.none)\/∃ s,b3List.lookup (c:Int)=some (toS s)/\d=.str s) :
 wpAny (model prog w₀) A (call (.builtin "dict.get") [.ref 82,v]) (KRes (LPh hb) hb S w (·=d)) ff S.s:=by
 refine cps fun X9 k9=>?_
 obtain ⟨t,rfl⟩:=r.int'
 obtain ⟨f,⟨o,ho,hc,_⟩,hM,hl⟩:=qHU H.dict
 refine x32 (hM prog w₀) fun o' es ep ho' r=>?_
 refine k9 ?_
 clear k9
 refine call_meetsIn PySem.F.slot_dict_get ⟨o,O.heap _ _ ho,hc⟩ PySem.F.entry_dict_get (PySem.F.args_dict_get_2 _ _) (meets_dict_get (knd:=intKind prog w₀) (k:=(c:Int)) 82 (intKind_is _ _ _ _) (by decide)) ⟨f,⟨o',es,ep,O.heap _ _ ho',r⟩,?_⟩
 show KRes (LPh hb) hb S w (·=d) ((f c).getD .none) { S.s with toks:=S.s.toks+1 }
 rcases hl c with ⟨e1,e2⟩ | ⟨v,t,e1,e2⟩
 · rcases hd with ⟨_,rfl⟩ | ⟨s,e3,_⟩
   · rw [e1]; exact KRes.val O (K:=(·=.none)) .none rfl
   · rw [e2] at e3; cases e3
 · rcases hd with ⟨e3,_⟩ | ⟨s,e3,rfl⟩
   · rw [e2] at e3; cases e3
   · rw [e1]
     rw [e2] at e3
     clear e2 e1
     cases e3
     exact KRes.val O (K:=(·=.str s)) (.str s t) rfl
theorem HF.glo {n b:Nat} (hb6:b≤600) (hd:∀ x,x∈qCO->∃ a,(x,a)∈defL/\∀ A S w vs ds r,AOk b A->Ok (LPh hb) hb S w->RepL S.B vs ds->Fn n x ds r->wpAny (model prog w₀) A (call (.ref a) vs) (KRes (LPh hb) hb S w (·=r)) ff S.s) :
 Glo (LPh hb) hb prog w₀ b (Fn n) LFx (hb.nsMap mainGlobals) (hb.nsMap builtinsNs):=by
 refine ⟨hb6,.of_isNs H.n3,.of_isNs H.n0,?_,?_,?_,?_,?_,?_,?_,?_⟩
 · intro x v hx
   refine ⟨H.noB _ hx,?_⟩
   have key:∀ p∈qCQ,p.1≠("__name__" : Str)/\bootBuiltins p.1=some p.2:=by
    refine List.forall_mem_cons.mpr ⟨⟨by decide,by kernel_rfl⟩,List.forall_mem_cons.mpr ⟨⟨by decide,by kernel_rfl⟩,List.forall_mem_cons.mpr ⟨⟨by decide,by kernel_rfl⟩,List.forall_mem_cons.mpr ⟨⟨by decide,by kernel_rfl⟩,List.forall_mem_cons.mpr ⟨⟨by decide,by kernel_rfl⟩,
     List.forall_mem_cons.mpr ⟨⟨by decide,by kernel_rfl⟩,List.forall_mem_cons.mpr ⟨⟨by decide,by kernel_rfl⟩,List.forall_mem_cons.mpr ⟨⟨by decide,by kernel_rfl⟩,List.forall_mem_cons.mpr ⟨⟨by decide,by kernel_rfl⟩,nofun⟩⟩⟩⟩⟩⟩⟩⟩⟩
   rw [H.bn x (key _ hx).1]
   exact (key _ hx).2
 · obtain ⟨t,e⟩:=H.mark
   exact ⟨t,by rw [show (toS [46,46,46]:Str) = "..." from by decide +kernel]; exact e⟩
 · intro x hx
   refine x12 (hd x hx) fun a ha h=>?_
   refine x33 (H.dfnAt ha) fun o pm doc h1 _ h2=>?_
   exact ⟨a,o,_,(H.dref _ ha).1,h1,h2,h⟩
 · refine ⟨71,H.b1,fun A S w v d r hA O rv q=>x12 (q.1.b1 rfl) fun c e1 e2=>?_⟩
   cases e1
   subst e2
   exact H.in1 O rv
 · refine (qHU H.dict).elim fun f h=>x13 h.1 fun o ho hc hdn=>⟨82,o,H.b3,ho,hc,hdn,fun A S w v d r hA O rv q=>x12 (q.1.b3 rfl) fun c e1 e2=>?_⟩
   cases e1
   exact H.get3 O rv e2
 · refine x33 (H.dfnAt (p:=("_law_lexer",146)) (by simp [defL])) fun o pm doc h1 _ h2=>?_
   exact ⟨146,o,_,(H.dref ("_law_lexer",146) (by simp [defL])).1,h1,h2,fun A S w v s hA O r h0 hs=>qOV H.co H.io H.cf (llOk hb) H.lx O h0 hA (by exact Nat.le_trans ‹_› (by decide)) r hs⟩
 · refine x44 (H.mfnAt (p:=("get_token",49)) (by simp [qBw])) fun o pm cd doc h1 _ h2 _=>?_
   exact ⟨49,o,_,h1,h2,fun A S w k p pb sg pl hA O hp hw=>qFP H.co H.cf O hp hw H.co.gtv H.cf.gt qGF (by decide) pl,fun A S w k p pb sg hA O hp hw hs=>wpAny_mono (qOX H.co H.go H.cf H.nm O hp hw hA (by exact Nat.le_trans ‹_› (by decide)) hs) (fun v s' h=>by
    refine x24 h fun S' t e1 e2 e3 e4=>?_
    refine ⟨S',t,e1,e2,e3,?_⟩
    clear h
    cases pb <;> exact e4) fun _ _ y=>y⟩
 · refine x44 (H.mfnAt (p:=("push_token",56)) (by simp [qBw])) fun o pm cd doc h1 _ h2 _=>?_
   exact ⟨56,o,_,h1,h2,fun A S w k p pb sg pl hA O hp hw=>qFP H.co H.cf O hp hw H.co.puv H.cf.pu qE9 (by decide) pl,fun A S w k p pb sg v t hA O hp hw hl r=>qMe H.co H.po H.cf O hp hw hA (by exact Nat.le_trans ‹_› (by decide)) hl r⟩
end
theorem bind3 {fd:FuncData} {x y z:Str} (h:∀ u v t,bindArgs fd ⟨[u,v,t],[]⟩=pure [(x,u),(y,v),(z,t)]) (vs:List Value) (hl:vs.length=[x,y,z].length):bindArgs fd ⟨vs,[]⟩=pure ([x,y,z].zip vs):=by
 refine x22 (lenS hl) fun u r eq2 h1=>?_
 subst eq2
 refine x22 (lenS h1) fun v r eq2 h2=>?_
 clear hl h1
 subst eq2
 refine x22 (lenS h2) fun w r eq2 h3=>?_
 subst eq2
 cases len0 h3
 exact h u v w
theorem qH6:(qCO.all fun x=>defL.any (fun p=>p.1 == x) && !decide (rk x≤0))=true:=by decide +kernel
theorem qC1 (x:Str) (hx:x∈qCO):(∃ a,(x,a)∈defL)/\¬ rk x≤0:=by
 refine x02 (Bool.and_eq_true_iff.mp (List.all_eq_true.mp qH6 x hx)) fun h1 h2=>?_
 refine x12 (List.any_eq_true.mp h1) fun p hp h3=>?_
 exact ⟨⟨p.2,by rw [← eq_of_beq h3]; exact hp⟩,by simpa using h2⟩
theorem FF.prep {f:Str} {ds:List Mine.D} {r:Mine.D} (h:FF f ds r) (e:f = "_law_prepared"):∃ t,ds=[.str t]/\r=.str (qBC isB1 b3Of t).flatten/\t.length≤16000000/\(∀ c∈t,c<1114112)/\(∀ c∈t,isB1 c=false->okB3 c)/\(qBC isB1 b3Of t).flatten.length≤16000000:=by
 cases h <;> first | exact absurd e (by decide +kernel) | exact ⟨_,rfl,rfl,by assumption,by assumption,by assumption,by assumption⟩
section
variable {prog:Program} {w₀:World} {hb:Heap} (H:HF hb)
include H
theorem HF.use {b:Nat} {F:Str->List Mine.D->Mine.D->Prop} {mg mb:Str->Option Value} (G:Glo (LPh hb) hb prog w₀ (b+1) F LFx mg mb) {p:Str×Addr} (hp:p∈defL) {m:MSL} {names:List Str}
 (htr:trSL 60 ⟨qAN (dA P91 p.1).2.2,(dA P91 p.1).2.2.names⟩ (qC2 p.1) (dA P91 p.1).2.1=some m) (hfit:qDx (dA P91 p.1).2.2 (qAN (dA P91 p.1).2.2) names=true)
 (hbind:∀ pm cd doc vs,vs.length=names.length->bindArgs (Calls.docDef p.1 (dA P91 p.1).1 (dA P91 p.1).2.1 (dA P91 p.1).2.2 pm cd doc) ⟨vs,[]⟩=pure (names.zip vs))
 {A:Around} {S:St} {w:W} {vs:List Value} {ds:List Mine.D} {r:Mine.D} (hA:AOk b A) (O:Ok (LPh hb) hb S w) (R:RepL S.B vs ds) (hl:names.length=ds.length) {σ₀:Sg} (hini:iniS (qAN (dA P91 p.1).2.2) names ds=σ₀) (q:SL F LFx m σ₀ w (FnRes r w)) :
 wpAny (model prog w₀) A (call (.ref p.2) vs) (KRes (LPh hb) hb S w (·=r)) ff S.s:=by
 refine x33 (H.dfnAt hp) fun o pm doc h1 _ h2=>?_
 subst hini
 exact qL5 G H.lim htr h1 h2 (H.dref p hp).2 hfit hA O R (hl.trans R.length.symm) (hbind _ _ _ _ (R.length.trans hl.symm)) q
theorem HF.glo0 {b:Nat} (hb6:b≤600):Glo (LPh hb) hb prog w₀ b (Fn 0) LFx (hb.nsMap mainGlobals) (hb.nsMap builtinsNs):=by
 refine H.glo hb6 fun x hx=>?_
 obtain ⟨⟨a,ha⟩,hn⟩:=qC1 x hx
 exact ⟨a,ha,fun A S w vs ds r hA O R q=>(hn q.2).elim⟩
end
theorem qNC (d e:Mine.D):iniS (qAN (dA P91 "_ellipsis_match").2.2) ["want", "got"] [d,e]=.dat d::.dat e::.unb::.unb::.unb::.unb::(iniS (qAN (dA P91 "_ellipsis_match").2.2) ["want", "got"] [d,e]).drop 6:=by kernel_rfl
theorem qKV (d:Mine.D):iniS (qAN (dA P91 "in_table_b1").2.2) ["code"] [d]=.dat d::(iniS (qAN (dA P91 "in_table_b1").2.2) ["code"] [d]).drop 1:=by kernel_rfl
theorem qJC (d:Mine.D):iniS (qAN (dA P91 "map_table_b3").2.2) ["code"] [d]=.dat d::.unb::(iniS (qAN (dA P91 "map_table_b3").2.2) ["code"] [d]).drop 2:=by kernel_rfl
theorem qJ0 (d:Mine.D):iniS (qAN (dA P91 "_law_drawn").2.2) ["number"] [d]=.dat d::.unb::.unb::.unb::.unb::.unb::.unb::(iniS (qAN (dA P91 "_law_drawn").2.2) ["number"] [d]).drop 7:=by kernel_rfl
theorem qG3 (d e:Mine.D):iniS (qAN (dA P91 "_law_written").2.2) ["items", "guarded"] [d,e]=.dat d::.dat e::.unb::.unb::.unb::(iniS (qAN (dA P91 "_law_written").2.2) ["items", "guarded"] [d,e]).drop 5:=by kernel_rfl
theorem qJZ (d:Mine.D):iniS (qAN (dA P91 "_law_marks").2.2) ["items"] [d]=.dat d::.unb::.unb::.unb::.unb::(iniS (qAN (dA P91 "_law_marks").2.2) ["items"] [d]).drop 5:=by kernel_rfl
theorem qIQ (d e f:Mine.D):iniS (qAN (dA P91 "_law_filled").2.2) ["items", "marks", "fill"] [d,e,f]=.dat d::.dat e::.dat f::.unb::.unb::.unb::(iniS (qAN (dA P91 "_law_filled").2.2) ["items", "marks", "fill"] [d,e,f]).drop 6:=by kernel_rfl
theorem qLj (d e f:Mine.D):iniS (qAN (dA P91 "_law_left").2.2) ["items", "marks", "guarded"] [d,e,f]=.dat d::.dat e::.dat f::.unb::.unb::.unb::.unb::.unb::.unb::.unb::.unb::.unb::.unb::(iniS (qAN (dA P91 "_law_left").2.2) ["items", "marks", "guarded"] [d,e,f]).drop 13:=by kernel_rfl
theorem qI5 (d:Mine.D):iniS (qAN (dA P91 "_law_shape").2.2) ["left"] [d]=.dat d::.unb::.unb::.unb::.unb::.unb::.unb::.unb::(iniS (qAN (dA P91 "_law_shape").2.2) ["left"] [d]).drop 8:=by kernel_rfl
theorem qFL (d:Mine.D):∃ s1 s2 s3 s4 s5 s6 s7 s8 s9 rest,iniS (qAN (dA P91 "_law_prepared").2.2) ["text"] [d]=.dat d::s1::s2::s3::s4::s5::s6::s7::s8::s9::rest :=
 ⟨.unb,.unb,.unb,.unb,.unb,.unb,.unb,.unb,.unb,(iniS (qAN (dA P91 "_law_prepared").2.2) ["text"] [d]).drop 10,by kernel_rfl⟩
section
variable {prog:Program} {w₀:World} {hb:Heap} (H:HF hb)
include H
theorem HF.one {b n:Nat} (G:Glo (LPh hb) hb prog w₀ (b+1) (Fn n) LFx (hb.nsMap mainGlobals) (hb.nsMap builtinsNs)) {x:Str} {a:Addr} (hp:(x,a)∈defL) (hx:x∈qCO) (hrk:rk x≤1) {A:Around} {S:St} {w:W} {vs:List Value} {ds:List Mine.D} {r:Mine.D} (hA:AOk b A) (O:Ok (LPh hb) hb S w) (R:RepL S.B vs ds) (q:FF x ds r) :
 wpAny (model prog w₀) A (call (.ref a) vs) (KRes (LPh hb) hb S w (·=r)) ff S.s:=by
 cases q with
 | ell want got h1 h2 =>
  exact H.use G (p:=("_ellipsis_match",a)) hp (names:=["want", "got"]) qF3 (by kernel_rfl) (fun pm cd doc=>bind2 fun u v=>by kernel_rfl) hA O R rfl (qNC _ _) (qK3 _ _ want got h1 h2 w _)
 | tabB1 c hc =>
  exact H.use G (p:=("in_table_b1",a)) hp (names:=["code"]) qI1 (by kernel_rfl) (fun pm cd doc=>bind1 fun v=>by kernel_rfl) hA O R rfl (qKV _) (qIH _ _ c _ ⟨.inB1 c hc,Nat.zero_le _⟩ w _)
 | mapB3 c hc =>
  refine H.use G (p:=("map_table_b3",a)) hp (names:=["code"]) qJ5 (by kernel_rfl) (fun pm cd doc=>bind1 fun v=>by kernel_rfl) hA O R rfl (qJC _) ?_
  by_cases hl:c<128
  · have:=qIC (F:=Fn n) (LF:=LFx) c ⟨.getB3n c hl,Nat.zero_le _⟩ hl w ((iniS (qAN (dA P91 "map_table_b3").2.2) ["code"] [.str [c]]).drop 2)
    unfold b3Of
    rw [if_pos hl]
    exact this
  · exact qIm _ _ c _ ⟨.getB3s c hl hc,Nat.zero_le _⟩ w _
 | drawn k =>
  exact H.use G (p:=("_law_drawn",a)) hp (names:=["number"]) qKd (by kernel_rfl) (fun pm cd doc=>bind1 fun v=>by kernel_rfl) hA O R rfl (qJ0 _) (qHv _ _ k w _)
 | prepared t h1' h2 h3 h4=>exact absurd hrk (by decide)
 | written l g h1 h2 =>
  exact H.use G (p:=("_law_written",a)) hp (names:=["items", "guarded"]) qHE (by kernel_rfl) (fun pm cd doc=>bind2 fun u v=>by kernel_rfl) hA O R rfl (qG3 _ _) (qFZ _ _ l g w h1 h2 _)
 | marks l h1 =>
  exact H.use G (p:=("_law_marks",a)) hp (names:=["items"]) qI6 (by kernel_rfl) (fun pm cd doc=>bind1 fun v=>by kernel_rfl) hA O R rfl (qJZ _) (qIi _ _ l w h1 _)
 | filled l fl ms h1 h2 =>
  exact H.use G (p:=("_law_filled",a)) hp (names:=["items", "marks", "fill"]) qH9 (by kernel_rfl) (fun pm cd doc=>bind3 fun u v t=>by kernel_rfl) hA O R rfl (qIQ _ _ _) (qG7 _ _ l fl ms h1 w h2 _)
 | left l ms g h1 h2 h3 =>
  exact H.use G (p:=("_law_left",a)) hp (names:=["items", "marks", "guarded"]) qLw (by kernel_rfl) (fun pm cd doc=>bind3 fun u v t=>by kernel_rfl) hA O R rfl (qLj _ _ _) (qJ1 _ _ l ms g h1 h2 h3 w _)
 | shape l h1 h2 =>
  exact H.use G (p:=("_law_shape",a)) hp (names:=["left"]) qKs (by kernel_rfl) (fun pm cd doc=>bind1 fun v=>by kernel_rfl) hA O R rfl (qI5 _) (qIN _ _ l w h1 h2 _)
 | inB1 c _=>exact absurd hx (by decide)
 | getB3n c _=>exact absurd hx (by decide)
 | getB3s c _ _=>exact absurd hx (by decide)
theorem HF.glo1 {b:Nat} (hb6:b≤599):Glo (LPh hb) hb prog w₀ b (Fn 1) LFx (hb.nsMap mainGlobals) (hb.nsMap builtinsNs):=by
 have G0:Glo (LPh hb) hb prog w₀ (b+1) (Fn 0) LFx (hb.nsMap mainGlobals) (hb.nsMap builtinsNs):=H.glo0 (by exact Nat.succ_le_succ ‹_›)
 refine H.glo (by exact Nat.le_succ_of_le ‹_›) fun x hx=>?_
 obtain ⟨⟨a',ha⟩,_⟩:=qC1 x hx
 exact ⟨a',ha,fun A S w vs ds r hA O R q=>H.one G0 ha hx q.2 hA O R q.1⟩
set_option tactic.hygienic true in
theorem HF.glo2 {b:Nat} (hb6:b≤598):Glo (LPh hb) hb prog w₀ b FF LFx (hb.nsMap mainGlobals) (hb.nsMap builtinsNs):=by
 have G1:Glo (LPh hb) hb prog w₀ (b+1) (Fn 1) LFx (hb.nsMap mainGlobals) (hb.nsMap builtinsNs):=H.glo1 (by exact Nat.succ_le_succ ‹_›)
 have e:FF=Fn 2:=by
  funext x ds r
  refine propext ⟨fun h=>⟨h,?_⟩,fun h=>h.1⟩
  unfold rk
  split
  · (exact Nat.zero_le _)
  · split <;> lia
 rw [e]
 refine H.glo (by exact Nat.le_trans ‹_› (by decide)) fun x hx=>?_
 obtain ⟨⟨a',ha⟩,_⟩:=qC1 x hx
 refine ⟨a',ha,fun A S w vs ds r hA O R q=>?_⟩
 by_cases hr:rk x≤1
 · exact H.one G1 ha hx hr hA O R q.1
 · have hxp:x = "_law_prepared" := by
    unfold rk at hr
    split at hr
    · lia
    · split at hr
      · rename_i h; exact beq_iff_eq.mp h
      · lia
   clear hr hx
   subst hxp
   refine x16 (q.1.prep rfl) fun t e1 e2 h1 h2 h3 h4=>?_
   subst e1
   subst e2
   clear q
   · obtain ⟨s1,s2,s3,s4,s5,s6,s7,s8,s9,rest,e⟩:=qFL (.str t)
     exact H.use G1 (p:=("_law_prepared",a')) ha (names:=["text"]) qFV (by kernel_rfl) (fun pm cd doc=>bind1 fun v=>by kernel_rfl) hA O R rfl e (qE8 _ _ isB1 b3Of t h1 (fun c hc=>⟨.tabB1 c (h2 c hc),by decide⟩) (fun c hc hb'=>⟨.mapB3 c (h3 c hc hb'),by decide⟩) h4 w s1 s2 s3 s4 s5 s6 s7 s8 s9 rest)
theorem HF.law {b:Nat} (hb6:b≤597) {A:Around} {S:St} {w:W} {v:Value} {sc:List Int} (hA:AOk b A) (O:Ok (LPh hb) hb S w) (R:Rep S.B v (.list (sc.map .int))) (h0:w[0]?=some .fac) (hn:sc.length≤63) :
 wpAny (model prog w₀) A (call (.ref 184) [v]) (KRes (LPh hb) hb S w (·=.bool true)) ff S.s:=by
 have G2:Glo (LPh hb) hb prog w₀ (b+1) FF LFx (hb.nsMap mainGlobals) (hb.nsMap builtinsNs):=H.glo2 (by exact Nat.succ_le_succ ‹_›)
 refine H.use G2 (p:=("law",184)) (by simp [defL]) (names:=["script"]) qMn (by kernel_rfl) (fun pm cd doc=>bind1 fun v=>by kernel_rfl) hA O (ds:=[.list (sc.map .int)]) (.cons R .nil) rfl rfl ?_
 refine qLX ?_ ?_ h0 (plain sc hn)
 · have:(iniS (qAN (dA P91 "law").2.2) ["script"] [.list (sc.map .int)]).length=36:=by kernel_rfl
   exact this
 · have:(iniS (qAN (dA P91 "law").2.2) ["script"] [.list (sc.map .int)]).getD 0 .unb=.dat (.list (sc.map .int)):=by kernel_rfl
   exact this
end
section
open PySem.Challenge
noncomputable abbrev rwL:PySem.W.RowW:=rw_sc0091_01.row.toRowW
theorem qJs:∀ (ds:List WData),WShape.hasItems [] ds .int=true->∃ sc:List Int,ds=sc.map .int:=by
 intro L9
 induction L9 with
 | nil =>
  intro _
  exact ⟨[],rfl⟩
 | cons d ds ih9 =>
  intro h
  unfold WShape.hasItems at h
  obtain ⟨h1,h2⟩:=Bool.and_eq_true_iff.mp h
  clear h
  obtain ⟨i,rfl⟩:=hasW_int h1
  obtain ⟨sc,rfl⟩:=ih9 h2
  exact ⟨i::sc,rfl⟩
theorem qL0 {args:List WData} (h:rwL.claim.pre args=true):∃ sc:List Int,args=[.list (sc.map .int)]/\sc.length≤63:=by
 refine x02 (pre_splitW h) fun h1 h2=>?_
 refine x23 (hasAllW_cons h1) fun d r eq2 h3 h4=>?_
 clear h1 h
 subst eq2
 have:r=[]:=by cases r with
  | nil=>rfl
  | cons a b=>simp [WShape.hasAll] at h4
 subst this
 refine x12 (hasW_list h3) fun ds eq1 h5=>?_
 subst eq1
 obtain ⟨sc,rfl⟩:=qJs ds h5
 refine ⟨sc,rfl,?_⟩
 apply Classical.byContradiction
 intro hn
 have h2':WTm.holds [] (rw_sc0091_01.pre) { args:=[.list (sc.map .int)] }=true:=h2
 have e:WTm.value [] (rw_sc0091_01.pre) { args:=[.list (sc.map .int)] }=none\/WTm.value [] (rw_sc0091_01.pre) { args:=[.list (sc.map .int)] }=some (.bool false):=by
  have hl:less? (WData.int 63) (WData.int ↑sc.length)=some true:=by
   have h63:(63:Int)<(sc.length:Int):=by lia
   have e0:less? (WData.int 63) (WData.int ↑sc.length)=some (decide ((63:Int)<(sc.length:Int))):=rfl
   rw [e0,decide_eq_true h63]
  simp [OpenLaw.pre,rw_sc0091_01,WTm.value,hl]
 unfold WTm.holds at h2'
 rcases e with e | e <;> rw [e] at h2' <;> cases h2'
theorem qIE {R:WRecords} {cl:Str->Option Addr} {h:Heap} {B:Fz} {vs:List Value} {sc:List Int} {as:List Addr} (q:ReadsAllW R cl h vs (sc.map .int) as):RepL B vs (sc.map .int):=by
 induction sc generalizing vs as with
 | nil=>cases q; exact .nil
 | cons i sc ih =>
  cases q with
  | cons p r =>
   cases p
   exact .cons (.int i _) (ih r)
end
section
open PySem.Challenge
theorem qMd {h:Heap} {a:Addr} {o:Obj} (e:(hbOf h).get? a=some o):a≠141:=by
 rintro rfl
 have:(hbOf h).get? 141=none:=hideAll_none [141] (by simp)
 rw [this] at e; cases e
theorem qLD:AOk 301 callerA:=⟨rfl,by decide,by decide⟩
set_option tactic.hygienic true in
theorem qIS {w:World} {s s₁:Shared} (H:HF (hbOf s.heap)) (hP:s.heap.get? 141=some (tabObj #[])) (keeps:∀ b o,s.heap.get? b=some o->s₁.heap.get? b=some o) (hg:s₁.gens=#[]) {sc:List Int} (hn:sc.length≤63) {R:WRecords} {cl:Str->Option Addr} {mean:ExcName->Option Value} {vs:List Value} {as:List Addr}
 (hr:ReadsAllW R cl s₁.heap vs [.list (sc.map .int)] as) :
 wpAny (model P91 w) callerA (call (.ref 184) vs) (fun v s'=>GoodWG rwL.claim cl mean [.list (sc.map .int)] s₁ (.ok (.ret v)) s') (fun e s'=>GoodWG rwL.claim cl mean [.list (sc.map .int)] s₁ (.error e) s') s₁:=by
 cases hr with
 | cons r1 r2 =>
 cases r2
 cases r1 with
 | list ha hc hd hi =>
 rename_i a o xs n as'
 obtain ⟨S₀,hS⟩:∃ S₀:St,S₀=⟨fun b=>(hbOf s₁.heap).get? b,[((141:Addr),[141])],s₁⟩:=⟨_,rfl⟩
 have hP1:=keeps _ _ hP
 have hane:a≠141:=by
  clear hS hi hd hn hg keeps hP H
  rintro rfl
  rw [hP1] at ha; cases ha; cases hc
 have up:∀ (b:Addr) (o:Obj),b≠141->s₁.heap.get? b=some o->(hbOf s₁.heap).get? b=some o:=fun b o hb e=>hideAll_get [141] e (by simpa using hb)
 have O:Ok (LPh (hbOf s.heap)) (hbOf s.heap) S₀ [.fac]:=by
  subst hS
  refine ⟨fun b o e=>up b o (qMd e) (keeps _ _ (of_hideAll [141] e)),fun b o e=>of_hideAll [141] e,rfl,fun k p x h1 h2=>?_,by simp [St.fps],fun b hb=>?_⟩
  · cases k with
    | zero =>
     simp at h1 h2
     subst h1 h2
     exact ⟨rfl,rfl,#[],hP1,.inl rfl⟩
    | succ k=>simp at h1
  · simp [St.fps] at hb
    subst hb
    exact hideAll_none [141] (by simp)
 have Rv:Rep S₀.B (.ref a) (.list (sc.map .int)):=by
  clear O hP1 hg keeps
  subst hS
  exact .list (up a o hane ha) hc hd (qIE hi)
 have hs1:S₀.s=s₁:=by rw [hS]
 have W:=H.law (prog:=P91) (w₀:=w) (b:=301) (by exact Nat.le_add_left _ _) qLD O Rv rfl hn
 rw [hs1] at W
 refine wpAny_mono W (fun v s' h=>?_) fun _ _ h=>h.elim
 obtain ⟨S',d,rfl,O',L',rv,rfl⟩:=h
 obtain rfl:=rv.bool'
 have hsh:=L'.sh
 rw [hs1] at hsh
 refine x21 hsh fun h' tk e'=>?_
 have hfps:S₀.fps=[141]:=by rw [hS]; rfl
 have hSh:S₀.h=s₁.heap:=by rw [hS]
 refine ⟨.inl ⟨.bool true,.bool true,[],rfl,fun _=>rfl,.bool true,by kernel_rfl,fun _=>⟨List.nodup_nil,fun a ha=>(nomatch ha)⟩⟩,⟨fun b o e=>?_,fun b o e=>L'.alive b o (by rw [hSh]; exact e)⟩,by rw [e'],AllBare.of_eq (by rw [e']; exact hg)⟩
 by_cases hb:b=141
 · subst hb
   rw [hP1] at e
   cases e
   refine .inr (.inl ⟨?_,rfl,?_⟩)
   · obtain ⟨o,vs,file,tf,flags,tg,inF,text,tt,e1,e2,e3,e4,_⟩:=H.hd
     exact ⟨145,o,vs,keeps _ _ (of_hideAll [141] e1),e2,e3,e4⟩
   · refine x12 (L'.own 0 (141,[141]) (by rw [hS]; rfl)) fun p' hp' ep=>?_
     refine x03 (O'.at_ 0 p' .fac hp' rfl) fun _ _ r9=>x12 r9 fun ps hps _=>?_
     exact ⟨#[],ps,rfl,by rw [show S'.s.heap.get? 141=some (tabObj ps) from hps]; simp⟩
 · exact .inl (L'.keep b o (by rw [hSh]; exact e) (by rw [hfps]; simpa using hb) (fun x=>x))
end
section
open PySem.Challenge
theorem qE0 {h:Heap} {a:Addr} (ha:a≠141):(hbOf h).get? a=h.get? a:=by
 cases e:h.get? a with
 | some o=>exact hideAll_get [141] e (by simpa using ha)
 | none =>
  cases e':(hbOf h).get? a with
  | none=>rfl
  | some o=>rw [of_hideAll [141] e'] at e; cases e
theorem qO2 {S:SharedT} {os:OsState} {S₀:SharedT} (e:qDX S S₀=qEF os S₀):HF (hbOf S.abs.heap)/\S.abs.heap.get? 141=some (tabObj #[]):=by
 unfold qDX qEF at e
 simp only [Prod.mk.injEq] at e
 refine x09 e fun e1 e2 e3 e4 e5 e6 e7 e8 e9=>?_
 refine ⟨HF.of e6 (fun x hx=>?_) (hideAll_none [141] (by simp)) e8 e9,e7⟩
 have hc:=e5
 unfold chk at hc
 simp only [Bool.and_eq_true] at hc
 have:(hbOf S.abs.heap).nsMap builtinsNs x=S.abs.heap.nsMap builtinsNs x:=by
  unfold Heap.nsMap
  rw [qE0 (by decide)]
 rw [this]
 exact Heap.of_bltView hc.1.1.1.2 e4 x hx
theorem qMm (w:World) (os:OsState) (p:Pos):∃ S,qLL P91 w (S0 w os) p=some S/\qDX S (S0 w os)=qEF os (S0 w os):=by
 have h:=hd4 w os p (w.params.followText "set-order") (w.params.followText "special-get-raises")
 have e:wC w (w.params.followText "set-order") (w.params.followText "special-get-raises")=w:=by
  unfold wC
  rw [World.withFollow_self,World.withFollow_self]
 rw [e] at h
 exact Option.map_eq_some_iff.mp h
theorem qMp (w:World) (os:OsState):(S0 w os).abs.heap.objs.size=11:=by rw [s0abs]; kernel_rfl
theorem qK6 {S:SharedT} {w:World} {os:OsState} (e:qDX S (S0 w os)=qEF os (S0 w os)):TopFacts P91 (S0 w os).abs S.abs:=by
 have e0:=e
 unfold qDX qEF at e
 simp only [Prod.mk.injEq] at e
 refine x09 e fun e1 e2 e3 e4 e5 e6 e7 e8 e9=>?_
 have hc:=e5
 unfold chk at hc
 simp only [Bool.and_eq_true] at hc
 obtain ⟨⟨⟨⟨⟨⟨c1,c2⟩,c3⟩,c4⟩,c5⟩,c6⟩,c7⟩:=hc
 refine ⟨e1,?_,fun b hb h1 h2=>?_,c1,c2,c3,c4,e4,c5,c6,c7⟩
 · rw [s0abs]; exact e2
 · rw [qMp] at hb
   have:=List.map_inj_left.mp e3 b (by simp only [List.mem_filter,List.mem_range,Bool.and_eq_true,bne_iff_ne,ne_eq]; exact ⟨hb,h1,h2⟩)
   exact this
theorem qLI (w:World) (os:OsState) (hz:(⟨boot_heap w.params,#[],boot_drawn,boot_toks,os⟩:Shared).asleep):∃ s₁,TopRan P91 w ⟨boot_heap w.params,#[],boot_drawn,boot_toks,os⟩ s₁/\s₁.asleep/\s₁.gens=#[]/\s₁.heap.isNs mainGlobals=true/\(HF (hbOf s₁.heap)/\s₁.heap.get? 141=some (tabObj #[])):=by
 have e:(S0 w os).abs=(⟨boot_heap w.params,#[],boot_drawn,boot_toks,os⟩:Shared):=s0abs w os
 rw [← e] at hz ⊢
 refine qMi hz ?_
 refine Sem.wp_mono _ _ _ (fun f p s h=>?_) (fun _ _ _ h=>h) _ _ (qNN (P:=P91) (by kernel_rfl) (by kernel_rfl) (w:=w) (s₀:=S0 w os) (Pp:=fun S=>qDX S (S0 w os)=qEF os (S0 w os)) (qMm w os))
 obtain ⟨rfl,S,rfl,hS⟩:=h
 exact ⟨rfl,qK6 hS,qO2 hS⟩
end
section
open PySem.Challenge
theorem qMw {s:Shared} (hg:s.heap.isNs mainGlobals=true) (H:HF (hbOf s.heap)):isTheDefsW P91 s.heap "law" := by
 obtain ⟨o,pm,doc,h1,_,h2⟩:=H.dfnAt (p:=("law",184)) (by simp [defL])
 have hn:=(H.dref ("law",184) (by simp [defL])).1
 refine ⟨184,o,_,(dA P91 "law").1,(dA P91 "law").2.1,(dA P91 "law").2.2,(Pin.globalOf_eq hg _).trans ?_,of_hideAll [141] h1,h2,by kernel_rfl,rfl,rfl,rfl,rfl,rfl,rfl,rfl,rfl,.inl ⟨by kernel_rfl,rfl⟩,[],by kernel_rfl,.inl ⟨rfl,rfl⟩⟩
 have:(hbOf s.heap).nsMap mainGlobals "law" = s.heap.nsMap mainGlobals "law" := by
  unfold Heap.nsMap
  rw [qE0 (by decide)]
 rw [← this]
 exact hn
theorem holds_open:rwL.claim.HoldsOpenBy (callStub "law") ["law"] rw_sc0091_01.row.keeps false:=by
 refine ⟨⟨⟨rfl,rfl,rfl,rfl,rfl,by kernel_rfl⟩,by kernel_rfl,rfl⟩,⟨[.list []],by kernel_rfl,by kernel_rfl⟩,fun w=>⟨(opened bo w).1,fun s hs=>?_⟩⟩
 obtain ⟨os,hf,hz⟩:=(opened bo w).2 s hs
 obtain ⟨s₁,hT,hz1,hg1,hn1,H,hP⟩:=qLI w os hz
 refine ⟨_,hf,rfl,s₁,hT,fun n hn=>?_,fun x hx=>(nomatch hx),fun x hx=>(nomatch hx),?_⟩
 · rw [List.mem_singleton.mp hn]
   exact qMw hn1 H
 refine ClaimW.callFrom_of_specG (c:=rwL.claim) (tree:=fun vs=>do match ← nsGet mainNs "law" with
  | some f=>do ret (← call f vs)
  | none=>unsupported "claim.caller:no-such-global") hz1 hg1 fun args hpre hlay ord hord=>?_
 obtain ⟨⟨vs,s₂⟩,hlaid⟩:=Option.isSome_iff_exists.mp (layAllW_isSome (R:=[]) (cl:=classAt s₁.heap) (P:=w.params) (ord:=ord) (fun c hc=>(nomatch hc)) args rwL.args s₁ (pre_splitW hpre).1)
 have keeps:=layAllW_keeps _ _ _ hlaid
 have hal:=layAllW_rest _ _ _ hlaid
 obtain ⟨as,hrd,hin,hold⟩:=reads_layAllW hord _ _ _ hlaid hlay s₂.heap (fun _ _ e=>e)
 have L:Laid [] w s₁ s₂ args vs as:=⟨⟨ord,hord,hlaid⟩,hrd,hin,hold,keeps,hal.1.trans hg1,hal.2.2.1⟩
 obtain ⟨sc,rfl,hsc⟩:=qL0 hpre
 refine ⟨vs,s₂,hlaid,?_⟩
 have hmg:s₂.heap.Ns mainGlobals (s₁.heap.nsMap mainGlobals):=(Heap.Ns.of_isNs hn1).keeps keeps
 have hlaw:s₁.heap.nsMap mainGlobals "law" = some (.ref 184):=by
  have hn:=(H.dref ("law",184) (by simp [defL])).1
  have:(hbOf s₁.heap).nsMap mainGlobals "law" = s₁.heap.nsMap mainGlobals "law" := by
   unfold Heap.nsMap
   rw [qE0 (by decide)]
  rw [← this]; exact hn
 have W:=qIS (w:=w) (cl:=classAt s₁.heap) (mean:=ExcName.means s₁.heap) H hP keeps L.gens hsc hrd
 have fin:∀ r s',GoodWG rwL.claim (classAt s₁.heap) (ExcName.means s₁.heap) [.list (sc.map .int)] s₂ r s'->rwL.claim.Ends s₁ [.list (sc.map .int)] vs s₂ r s'/\s'.os=s₁.os/\AllBare s'.gens:=fun r s' g =>
  g.laid (c:=rwL.claim) rfl rfl (fun a b=>ident_freeW (r:=rwL) rfl rfl rfl a b) L
 refine wpAny_bind (wpAny_nsGet hmg ?_)
 rw [hlaw]
 refine wpAny_bind (wpAny_mono W (fun v s' g=>wpAny_pure ?_) fun e s' g=>?_)
 · have z:=fin _ _ g
   exact ⟨_,rfl,z.1,z.2.1,z.2.2,fun q=>by cases q⟩
 · have z:=fin _ _ g
   exact ⟨z.1,z.2.1,z.2.2,fun q=>by cases q⟩
theorem promised:rwL.promised:=⟨[.list []],by kernel_rfl,by kernel_rfl⟩
theorem ws:rw_sc0091_01.wellSaid=true:=by kernel_rfl
end
end Mine
open PySem PySem.W PyProof.Rows
theorem PySem.Challenge.cw_sc0091_01_holds : PySem.Challenge.rw_sc0091_01.Holds := by
  exact holds_law Mine.ws fun said => ⟨said, Mine.promised, Mine.holds_open⟩
