import PyProof.Rows.All
import Wide.All
import OpenK.AllK
import Wide.FinOn
import KE.KIntText
import Lean
import PySem.Challenge.RW_md0059_01
open PySem PySem.W PyProof.Rows
set_option Elab.async false
set_option linter.all false
set_option genSizeOf false
set_option tactic.hygienic false
set_option compiler.extract_closed false
namespace Mine
namespace Internal
universe u0 u1 u2 u3 u4 u5 u6 u7 u8 u9 u10 u11
set_option genInjectivity false
set_option genCtorIdx false in
inductive Lx where
 | v (i:Nat) | n (k:Nat) | a (x y:Lx) | m (k:Nat) (x:Lx) | r (x:Lx) (k:Nat)
noncomputable abbrev lnth (l:List Nat) (i:Nat):Nat:=List.rec (motive:=fun _=>Nat→Nat) (fun _=>0) (fun x _ ih i=>Nat.rec x (fun j _=>ih j) i) l i
noncomputable abbrev Lx.den (c:List Nat) (t:Lx):Nat:=Lx.rec (lnth c) (fun k=>k) (fun _ _ x y=>x + y) (fun k _ x=>k * x) (fun _ k x=>x * k) t
noncomputable def Lx.co (j:Nat) (t:Lx):Nat:=Lx.rec (fun i=>cond (Nat.beq i j) 1 0) (fun _=>0) (fun _ _ x y=>x + y) (fun k _ x=>k * x) (fun _ k x=>x * k) t
noncomputable def Lx.k0 (t:Lx):Nat:=Lx.rec (fun _=>0) (fun k=>k) (fun _ _ x y=>x + y) (fun k _ x=>k * x) (fun _ k x=>x * k) t
noncomputable def lS (c:List Nat) (f:Nat→Nat):Nat:=List.rec (motive:=fun _=>(Nat→Nat)→Nat) (fun _=>0) (fun x _ ih f=>f 0 * x + ih fun j=>f (j + 1)) c f
theorem lS_add (c:List Nat):∀ f g:Nat→Nat,lS c (fun j=>f j + g j) = lS c f + lS c g:=by
 induction c with
 | nil=>exact fun _ _=>rfl
 | cons x l ih=>
   intro f g
   show (f 0 + g 0) * x + lS l (fun j=>f (j + 1) + g (j + 1)) = f 0 * x + lS l _ + (g 0 * x + lS l _)
   rw [ih,Nat.add_mul];exact Nat.add_add_add_comm ..
theorem lS_mul (k:Nat) (c:List Nat):∀ f:Nat→Nat,lS c (fun j=>k * f j) = k * lS c f:=by
 induction c with
 | nil=>exact fun _=>rfl
 | cons x l ih=>
   intro f
   show k * f 0 * x + lS l (fun j=>k * f (j + 1)) = k * (f 0 * x + lS l _)
   rw [ih,Nat.mul_add,Nat.mul_assoc]
theorem lS_zero (c:List Nat):lS c (fun _=>0) = 0:=by
 induction c with
 | nil=>rfl
 | cons x l ih=>show 0 * x + lS l _ = 0;rw [ih,Nat.zero_mul]
theorem lS_unit (c:List Nat):∀ i,lS c (fun j=>cond (Nat.beq i j) 1 0) = lnth c i:=by
 induction c with
 | nil=>intro i;cases i<;>rfl
 | cons x l ih=>
   intro i
   cases i with
   | zero=>show 1 * x + lS l (fun _=>0) = x;rw [lS_zero,Nat.one_mul,Nat.add_zero]
   | succ i=>show 0 * x + lS l (fun j=>cond (Nat.beq i j) 1 0) = lnth l i;rw [ih,Nat.zero_mul,Nat.zero_add]
theorem lS_le (c:List Nat):∀ f g:Nat→Nat,(∀ j,j < c.length→f j≤g j)→lS c f≤lS c g:=by
 induction c with
 | nil=>exact fun _ _ _=>Nat.le_refl _
 | cons x l ih=>exact fun f g h=>Nat.add_le_add (Nat.mul_le_mul_right _ (h 0 (Nat.zero_lt_succ _))) (ih _ _ fun j hj=>h (j + 1) (Nat.succ_lt_succ hj))
theorem Lx.den_eq (c:List Nat) (t:Lx):t.den c = t.k0 + lS c fun j=>t.co j:=by
 induction t with
 | v i=>exact ((Nat.zero_add _).trans (lS_unit c i)).symm
 | n k=>show k = k + lS c (fun _=>0);rw [lS_zero];rfl
 | a x y ihx ihy=>show x.den c + y.den c = (x.k0 + y.k0) + lS c (fun j=>x.co j + y.co j);rw [lS_add,ihx,ihy];exact Nat.add_add_add_comm ..
 | m k x ih=>show k * x.den c = k * x.k0 + lS c (fun j=>k * x.co j);rw [lS_mul,ih,Nat.mul_add]
 | r x k ih=>show x.den c * k = x.k0 * k + lS c (fun j=>x.co j * k);rw [show (fun j=>x.co j * k) = fun j=>k * x.co j from funext fun j=>Nat.mul_comm .., lS_mul,ih,Nat.add_mul,Nat.mul_comm k]
set_option genCtorIdx false in
inductive Lh where
 | le (c:Nat) (x y:Lx) | lt (c:Nat) (x y:Lx) | eq (c:Nat) (x y:Lx) | ge (c:Nat) (x y:Lx) | nle (c:Nat) (x y:Lx) | nlt (c:Nat) (x y:Lx)
noncomputable abbrev Lh.den (l:List Nat) (h:Lh):Prop:=Lh.rec (fun _ x y=>x.den l≤y.den l) (fun _ x y=>x.den l < y.den l) (fun _ x y=>x.den l = y.den l) (fun _ x y=>x.den l = y.den l) (fun _ x y=>¬ x.den l≤y.den l) (fun _ x y=>¬ x.den l < y.den l) h
noncomputable def Lh.f {β:Type} (k:Nat→Lx→Lx→Nat→β) (h:Lh):β:=Lh.rec (fun c x y=>k c x y 0) (fun c x y=>k c x y 1) (fun c x y=>k c x y 0) (fun c x y=>k c y x 0) (fun c x y=>k c y x 1) (fun c x y=>k c y x 0) h
theorem Lh.ok {l:List Nat} {h:Lh} (d:h.den l):h.f (fun c lo hi e=>c * (lo.den l + e))≤h.f fun c _ hi _=>c * hi.den l:=by
 cases h with
 | le c x y=>exact Nat.mul_le_mul_left c d
 | lt c x y=>exact Nat.mul_le_mul_left c d
 | eq c x y=>exact Nat.mul_le_mul_left c (Nat.le_of_eq d)
 | ge c x y=>exact Nat.mul_le_mul_left c (Nat.le_of_eq d.symm)
 | nle c x y=>exact Nat.mul_le_mul_left c (Nat.lt_of_not_le d)
 | nlt c x y=>exact Nat.mul_le_mul_left c (Nat.le_of_not_lt d)
noncomputable def lT (g:Nat→Lx→Lx→Nat→Nat) (hs:List Lh):Nat:=List.rec 0 (fun h _ ih=>h.f g + ih) hs
noncomputable def lAll (l:List Nat) (hs:List Lh):Prop:=List.rec True (fun h _ ih=>h.den l∧ih) hs
theorem lT_le {l:List Nat}:∀ hs,lAll l hs→lT (fun c lo _ e=>c * (lo.den l + e)) hs≤lT (fun c _ hi _=>c * hi.den l) hs
 | [],_=>Nat.le_refl _
 | _ :: hs,a=>Nat.add_le_add (Lh.ok a.1) (lT_le hs a.2)
theorem lside (l:List Nat) (c:Nat) (t:Lx) (e:Nat):c * (t.den l + e) = c * (t.k0 + e) + lS l fun j=>c * t.co j:=by
 rw [lS_mul,t.den_eq l,← Nat.mul_add,Nat.add_right_comm]
theorem lT_lo (l:List Nat):∀ hs,lT (fun c lo _ e=>c * (lo.den l + e)) hs = lT (fun c lo _ e=>c * (lo.k0 + e)) hs + lS l fun j=>lT (fun c lo _ _=>c * lo.co j) hs
 | []=>by show 0 = 0 + lS l fun _=>0;rw [lS_zero]
 | h :: hs=>by
   have e:h.f (fun c lo _ e=>c * (lo.den l + e)) = h.f (fun c lo _ e=>c * (lo.k0 + e)) + lS l fun j=>h.f fun c lo _ _=>c * lo.co j:=by cases h<;>exact lside ..
   show h.f _ + lT _ hs = h.f _ + lT _ hs + lS l fun j=>h.f _ + lT _ hs
   rw [e,lT_lo l hs,lS_add];exact Nat.add_add_add_comm ..
theorem lT_hi (l:List Nat):∀ hs,lT (fun c _ hi _=>c * hi.den l) hs = lT (fun c _ hi _=>c * hi.k0) hs + lS l fun j=>lT (fun c _ hi _=>c * hi.co j) hs
 | []=>by show 0 = 0 + lS l fun _=>0;rw [lS_zero]
 | h :: hs=>by
   have e:h.f (fun c _ hi _=>c * hi.den l) = h.f (fun c _ hi _=>c * hi.k0) + lS l fun j=>h.f fun c _ hi _=>c * hi.co j:=by cases h<;>exact lside _ _ _ 0
   show h.f _ + lT _ hs = h.f _ + lT _ hs + lS l fun j=>h.f _ + lT _ hs
   rw [e,lT_hi l hs,lS_add];exact Nat.add_add_add_comm ..
noncomputable def lcheck (hs:List Lh) (n:Nat):Bool:=Nat.blt (lT (fun c _ hi _=>c * hi.k0) hs) (lT (fun c lo _ e=>c * (lo.k0 + e)) hs) && Nat.rec true (fun j ih=>Nat.ble (lT (fun c _ hi _=>c * hi.co j) hs) (lT (fun c lo _ _=>c * lo.co j) hs) && ih) n
theorem lupto {p:Nat→Bool}:∀ {n:Nat},(Nat.rec true (fun j ih=>p j && ih) n:Bool) = true→∀ j,j < n→p j = true
 | 0,_,_,h=>absurd h (Nat.not_lt_zero _)
 | n + 1,e,j,h=>by
   have e:(p n && _) = true:=e
   rw [Bool.and_eq_true] at e
   rcases Nat.lt_or_eq_of_le (Nat.lt_succ_iff.mp h) with h | h
   · exact lupto e.2 j h
   · exact h▸e.1
theorem lclash {l:List Nat} {hs:List Lh} (h:lcheck hs l.length = true) (a:lAll l hs):False:=by
 unfold lcheck at h
 rw [Bool.and_eq_true] at h
 have k:=lT_le hs a
 rw [lT_lo,lT_hi] at k
 have b:=lS_le l _ _ fun j hj=>Nat.le_of_ble_eq_true (lupto h.2 j hj)
 have d:lT (fun c _ hi _=>c * hi.k0) hs < lT (fun c lo _ e=>c * (lo.k0 + e)) hs:=Nat.le_of_ble_eq_true h.1
 exact Nat.lt_irrefl _ (Nat.lt_of_lt_of_le (Nat.add_lt_add_of_lt_of_le d b) k)
noncomputable def limp (l:List Nat) (g:Prop) (hs:List Lh):Prop:=List.rec g (fun h _ ih=>h.den l→ih) hs
theorem limp_of {l:List Nat} {g:Prop}:∀ {hs:List Lh},(lAll l hs→g)→limp l g hs
 | [],k=>k trivial
 | _ :: _,k=>fun d=>limp_of fun a=>k ⟨d,a⟩
theorem linF (l:List Nat) (hs:List Lh) (h:lcheck hs l.length = true):limp l False hs:=limp_of fun a=>lclash h a
theorem linLe (l:List Nat) (k:Nat) (x y:Lx) (hs:List Lh) (h:lcheck (.nle k x y :: hs) l.length = true):limp l (x.den l≤y.den l) hs:=limp_of fun a=>Decidable.byContradiction fun n=>lclash h ⟨n,a⟩
theorem linLt (l:List Nat) (k:Nat) (x y:Lx) (hs:List Lh) (h:lcheck (.nlt k x y :: hs) l.length = true):limp l (x.den l < y.den l) hs:=limp_of fun a=>Decidable.byContradiction fun n=>lclash h ⟨n,a⟩
theorem le_sub (a b:Nat):a≤a - b + b:=Nat.sub_le_iff_le_add.mp (Nat.le_refl _)
theorem dv1 (a k:Nat):k * (a / k)≤a:=Nat.mul_div_le a k
theorem sub_one_add {n j:Nat} (h:j < n):n - j = n - (j + 1) + 1:=by exact Nat.le_antisymm (linLe [_,_,_,_] 1 (.v 3) (.a (.v 1) (.n 1)) [.le 1 (.v 0) (.a (.v 1) (.a (.v 2) (.n 1))),.eq 1 (.a (.v 3) (.v 2)) (.v 0)] rfl (le_sub n (j + 1)) (Nat.sub_add_cancel (linLe [_,_] 1 (.v 0) (.v 1) [.lt 1 (.v 0) (.v 1)] rfl h))) (linLe [_,_,_,_] 1 (.a (.v 3) (.n 1)) (.v 1) [.le 1 (.v 0) (.a (.v 1) (.v 2)),.eq 1 (.a (.v 3) (.a (.v 2) (.n 1))) (.v 0)] rfl (le_sub n j) (Nat.sub_add_cancel (linLe [_,_] 1 (.a (.v 0) (.n 1)) (.v 1) [.lt 1 (.v 0) (.v 1)] rfl h)))
theorem lt_trans1 {a b c:Nat} (h:a < b) (k:b≤c):a < c + 1:=by exact linLt [_,_,_] 1 (.v 0) (.a (.v 2) (.n 1)) [.lt 1 (.v 0) (.v 1),.le 1 (.v 1) (.v 2)] rfl h k
theorem le_mid {a b c:Nat} (h:a≤b) (k:b < c):a + 1≤c:=by exact linLe [_,_,_] 1 (.a (.v 0) (.n 1)) (.v 2) [.le 1 (.v 0) (.v 1),.lt 1 (.v 1) (.v 2)] rfl h k
theorem lt_le {a b c:Nat} (h:a < b) (k:b≤c):a≤c:=by exact linLe [_,_,_] 1 (.v 0) (.v 2) [.lt 1 (.v 0) (.v 1),.le 1 (.v 1) (.v 2)] rfl h k
theorem pos_lt {a b:Nat} (h:a < b):0 < b:=by exact linLt [_,_] 1 (.n 0) (.v 1) [.lt 1 (.v 0) (.v 1)] rfl h
theorem ne_lt {a b:Nat} (h:a < b):a≠b:=by exact Nat.ne_of_lt (linLt [_,_] 1 (.v 0) (.v 1) [.lt 1 (.v 0) (.v 1)] rfl h)
theorem ne_gt {a b:Nat} (h:b < a):a≠b:=by exact Nat.ne_of_gt (linLt [_,_] 1 (.v 0) (.v 1) [.lt 1 (.v 0) (.v 1)] rfl h)
@[elab_as_elim] theorem wat.{u} {γ:Sort u} {P:γ→Prop} {o v:γ} (h:o = v) (k:P v):P o:=h▸k
theorem bc {p:Prop} (h:¬p→False):p:=Classical.byContradiction h
theorem wif_pos {α:Type} {M:Model} {A:Around} {E:Value→Shared→Prop} {s:Shared} {c:Prop} [Decidable c] {t e:Sem α} {Q:α→Shared→Prop} (h:c) (k:wpAny M A t Q E s):wpAny M A (if c then t else e) Q E s:=by refine wat (if_pos h) ?_;exact k
theorem wif_neg {α:Type} {M:Model} {A:Around} {E:Value→Shared→Prop} {s:Shared} {c:Prop} [Decidable c] {t e:Sem α} {Q:α→Shared→Prop} (h:¬c) (k:wpAny M A e Q E s):wpAny M A (if c then t else e) Q E s:=by refine wat (if_neg h) ?_;exact k
theorem wifb_neg {α β:Type} {M:Model} {A:Around} {E:Value→Shared→Prop} {s:Shared} {c:Prop} [Decidable c] {t e:Sem α} {f:α→Sem β} {Q:β→Shared→Prop} (h:¬c) (k:wpAny M A (e >>= f) Q E s):wpAny M A ((if c then t else e) >>= f) Q E s:=by refine wat (if_neg h) ?_;exact k
theorem weq {α:Type} {M:Model} {A:Around} {E:Value→Shared→Prop} {s:Shared} {t t':Sem α} {Q:α→Shared→Prop} (h:t = t') (k:wpAny M A t' Q E s):wpAny M A t Q E s:=h▸k
theorem weqb {α β:Type} {M:Model} {A:Around} {E:Value→Shared→Prop} {s:Shared} {t t':Sem α} {f:α→Sem β} {Q:β→Shared→Prop} (h:t = t') (k:wpAny M A (t' >>= f) Q E s):wpAny M A (t >>= f) Q E s:=h▸k
inductive A2 (a b:Prop):Prop where
 | mk:a→b→A2 a b
inductive A3 (a b c:Prop):Prop where
 | mk:a→b→c→A3 a b c
inductive A4 (a b c d:Prop):Prop where
 | mk:a→b→c→d→A4 a b c d
inductive A5 (a b c d e:Prop):Prop where
 | mk:a→b→c→d→e→A5 a b c d e
inductive A6 (a b c d e f:Prop):Prop where
 | mk:a→b→c→d→e→f→A6 a b c d e f
inductive A7 (a b c d e f g:Prop):Prop where
 | mk:a→b→c→d→e→f→g→A7 a b c d e f g
inductive A8 (a b c d e f g h:Prop):Prop where
 | mk:a→b→c→d→e→f→g→h→A8 a b c d e f g h
inductive A9 (a b c d e f g h i:Prop):Prop where
 | mk:a→b→c→d→e→f→g→h→i→A9 a b c d e f g h i
inductive A10 (a b c d e f g h i j:Prop):Prop where
 | mk:a→b→c→d→e→f→g→h→i→j→A10 a b c d e f g h i j
inductive X1 {α0:Sort u0} (p:α0→Prop):Prop where
 | mk (x0:α0):p x0→X1 p
inductive X2 {α0:Sort u0} {α1:Sort u1} (p:α0→α1→Prop):Prop where
 | mk (x0:α0) (x1:α1):p x0 x1→X2 p
inductive X3 {α0:Sort u0} {α1:Sort u1} {α2:Sort u2} (p:α0→α1→α2→Prop):Prop where
 | mk (x0:α0) (x1:α1) (x2:α2):p x0 x1 x2→X3 p
inductive X4 {α0:Sort u0} {α1:Sort u1} {α2:Sort u2} {α3:Sort u3} (p:α0→α1→α2→α3→Prop):Prop where
 | mk (x0:α0) (x1:α1) (x2:α2) (x3:α3):p x0 x1 x2 x3→X4 p
inductive X5 {α0:Sort u0} {α1:Sort u1} {α2:Sort u2} {α3:Sort u3} {α4:Sort u4} (p:α0→α1→α2→α3→α4→Prop):Prop where
 | mk (x0:α0) (x1:α1) (x2:α2) (x3:α3) (x4:α4):p x0 x1 x2 x3 x4→X5 p
inductive X6 {α0:Sort u0} {α1:Sort u1} {α2:Sort u2} {α3:Sort u3} {α4:Sort u4} {α5:Sort u5} (p:α0→α1→α2→α3→α4→α5→Prop):Prop where
 | mk (x0:α0) (x1:α1) (x2:α2) (x3:α3) (x4:α4) (x5:α5):p x0 x1 x2 x3 x4 x5→X6 p
inductive X7 {α0:Sort u0} {α1:Sort u1} {α2:Sort u2} {α3:Sort u3} {α4:Sort u4} {α5:Sort u5} {α6:Sort u6} (p:α0→α1→α2→α3→α4→α5→α6→Prop):Prop where
 | mk (x0:α0) (x1:α1) (x2:α2) (x3:α3) (x4:α4) (x5:α5) (x6:α6):p x0 x1 x2 x3 x4 x5 x6→X7 p
inductive X8 {α0:Sort u0} {α1:Sort u1} {α2:Sort u2} {α3:Sort u3} {α4:Sort u4} {α5:Sort u5} {α6:Sort u6} {α7:Sort u7} (p:α0→α1→α2→α3→α4→α5→α6→α7→Prop):Prop where
 | mk (x0:α0) (x1:α1) (x2:α2) (x3:α3) (x4:α4) (x5:α5) (x6:α6) (x7:α7):p x0 x1 x2 x3 x4 x5 x6 x7→X8 p
inductive X9 {α0:Sort u0} {α1:Sort u1} {α2:Sort u2} {α3:Sort u3} {α4:Sort u4} {α5:Sort u5} {α6:Sort u6} {α7:Sort u7} {α8:Sort u8} (p:α0→α1→α2→α3→α4→α5→α6→α7→α8→Prop):Prop where
 | mk (x0:α0) (x1:α1) (x2:α2) (x3:α3) (x4:α4) (x5:α5) (x6:α6) (x7:α7) (x8:α8):p x0 x1 x2 x3 x4 x5 x6 x7 x8→X9 p
inductive X11 {α0:Sort u0} {α1:Sort u1} {α2:Sort u2} {α3:Sort u3} {α4:Sort u4} {α5:Sort u5} {α6:Sort u6} {α7:Sort u7} {α8:Sort u8} {α9:Sort u9} {α10:Sort u10} (p:α0→α1→α2→α3→α4→α5→α6→α7→α8→α9→α10→Prop):Prop where
 | mk (x0:α0) (x1:α1) (x2:α2) (x3:α3) (x4:α4) (x5:α5) (x6:α6) (x7:α7) (x8:α8) (x9:α9) (x10:α10):p x0 x1 x2 x3 x4 x5 x6 x7 x8 x9 x10→X11 p
inductive X12 {α0:Sort u0} {α1:Sort u1} {α2:Sort u2} {α3:Sort u3} {α4:Sort u4} {α5:Sort u5} {α6:Sort u6} {α7:Sort u7} {α8:Sort u8} {α9:Sort u9} {α10:Sort u10} {α11:Sort u11} (p:α0→α1→α2→α3→α4→α5→α6→α7→α8→α9→α10→α11→Prop):Prop where
 | mk (x0:α0) (x1:α1) (x2:α2) (x3:α3) (x4:α4) (x5:α5) (x6:α6) (x7:α7) (x8:α8) (x9:α9) (x10:α10) (x11:α11):p x0 x1 x2 x3 x4 x5 x6 x7 x8 x9 x10 x11→X12 p
open SetTable in
noncomputable def advM (m:Nat) (p:Probe):Probe:=
 if p.more > 0 then { p with j:=p.j + 1,more:=p.more - 1 } else
 { p with j:=(leap m p.i p.perturb).1,more:=runEnd m (leap m p.i p.perturb).1 - (leap m p.i p.perturb).1,i:=(leap m p.i p.perturb).1,perturb:=(leap m p.i p.perturb).2 }
open SetTable in
noncomputable def startM (m:Nat) (h:Int):Probe:=
 { j:=bits h % (m + 1),more:=runEnd m (bits h % (m + 1)) - bits h % (m + 1),i:=bits h % (m + 1),perturb:=bits h,dummy:=none }
noncomputable def path (m:Nat) (h:Int):Nat→SetTable.Probe
 | 0=>startM m h
 | k + 1=>advM m (path m h k)
noncomputable def masks:List Nat:=[7,15,31,63,127]
noncomputable def taken (t:SetTable) (j:Nat):Prop:=j∈t.place.toList∨j∈t.dummies.toList
structure SInv (hs:List Int) (t:SetTable):Prop where
 mask:t.mask∈masks
 size:t.place.toList.length = hs.length
 up:t.place.toList.Pairwise (· < ·)
 upD:t.dummies.toList.Pairwise (· < ·)
 le:∀ j∈t.place.toList,j≤t.mask
 leD:∀ j∈t.dummies.toList,j≤t.mask
 apart:∀ j∈t.place.toList,j∉t.dummies.toList
 room:(t.place.toList.length + t.dummies.toList.length) * 5 < t.mask * 3
 reach:∀ (i:Nat) (h:Int) (j:Nat),hs[i]? = some h→t.place.toList[i]? = some j→
  (X1 fun k=>A3 (k < 10 * SetTable.turns t.mask) ((path t.mask h k).j = j) (∀ k' < k,taken t (path t.mask h k').j))
open SetTable
theorem path_run (m:Nat) (h:Int) (k:Nat):∀ r,r≤(path m h k).more→path m h (k + r) = { path m h k with j:=(path m h k).j + r,more:=(path m h k).more - r }
 | 0,_=>by simp
 | r + 1,hr=>by
   have ih:=path_run m h k r (by exact Nat.le_of_succ_le ‹_›)
   show advM m (path m h (k + r)) = _
   refine wat ih ?_
   unfold advM
   have:(path m h k).more - r > 0:=by exact linLt [_,_,_] 1 (.n 0) (.v 2) [.le 1 (.a (.v 0) (.n 1)) (.v 1),.le 1 (.v 1) (.a (.v 2) (.v 0))] rfl hr (le_sub ((path m h k).more) r)
   simp only [this,if_true]
   congr 1
theorem more_le (m i:Nat):runEnd m i - i≤9:=by unfold runEnd;split<;>lia
noncomputable def leaps (m:Nat) (h:Int):Nat→Nat×Nat
 | 0=>(bits h % (m + 1),bits h)
 | n + 1=>leap m (leaps m h n).1 (leaps m h n).2
noncomputable def atLeap (m:Nat) (x:Nat×Nat):Probe:={ j:=x.1,more:=runEnd m x.1 - x.1,i:=x.1,perturb:=x.2,dummy:=none }
theorem path_leaps (m:Nat) (h:Int):∀ n,∃ k,k≤10 * n∧path m h k = atLeap m (leaps m h n)
 | 0=>⟨0,Nat.le_refl _,rfl⟩
 | n + 1=>by
   obtain ⟨k,hk,e⟩:=path_leaps m h n
   have hm:=more_le m (leaps m h n).1
   have em:(path m h k).more = runEnd m (leaps m h n).1 - (leaps m h n).1:=by refine wat e ?_;rfl
   have r:=path_run m h k (path m h k).more (Nat.le_refl _)
   refine ⟨k + (path m h k).more + 1,by exact linLe [_,_,_,_] 1 (.a (.a (.v 0) (.v 3)) (.n 1)) (.m 10 (.a (.v 1) (.n 1))) [.le 1 (.v 0) (.m 10 (.v 1)),.le 1 (.v 2) (.n 9),.eq 1 (.v 3) (.v 2)] rfl hk hm em,?_⟩
   show advM m (path m h (k + (path m h k).more)) = _
   refine wat r ?_
   simp only [Nat.sub_self,gt_iff_lt,Nat.lt_irrefl,if_false]
   refine wat e ?_
   rfl
theorem leaps_perturb (m:Nat) (h:Int):∀ n,(leaps m h n).2 = bits h / 32 ^ n
 | 0=>by simp [leaps]
 | n + 1=>by
   show (leaps m h n).2 / 32 = _
   rw [leaps_perturb m h n,Nat.div_div_eq_div_mul,Nat.pow_succ]
theorem bits_lt (h:Int):bits h < 2 ^ 64:=by unfold bits;lia
theorem leaps_tail (m:Nat) (h:Int) (n:Nat) (hn:12≤n):(leaps m h (n + 1)).1 = ((leaps m h n).1 * 5 + 1) % (m + 1):=by
 show ((leaps m h n).1 * 5 + 1 + (leaps m h n).2 / 32) % (m + 1) = _
 have e:(leaps m h n).2 / 32 = 0:=by
  rw [leaps_perturb,Nat.div_div_eq_div_mul,← Nat.pow_succ]
  apply Nat.div_eq_of_lt
  have:=bits_lt h
  calc bits h < 2 ^ 64:=this
   _≤32 ^ 13:=by decide
   _≤32 ^ (n + 1):=Nat.pow_le_pow_right (by decide) (by exact linLe [_] 1 (.n 13) (.a (.v 0) (.n 1)) [.le 1 (.n 12) (.v 0)] rfl hn)
 exact wat e rfl
noncomputable def lcg (m:Nat):Nat→Nat→Nat
 | 0,i=>i
 | n + 1,i=>(lcg m n i * 5 + 1) % (m + 1)
theorem lcg_add (m a:Nat) (i:Nat):∀ b,lcg m (a + b) i = lcg m b (lcg m a i)
 | 0=>rfl
 | b + 1=>by show (lcg m (a + b) i * 5 + 1) % (m + 1) = _;refine wat (lcg_add m a i b) ?_;rfl
theorem leaps_lcg (m:Nat) (h:Int):∀ a,(leaps m h (12 + a)).1 = lcg m a (leaps m h 12).1
 | 0=>rfl
 | a + 1=>by
   show (leaps m h (12 + a + 1)).1 = _
   refine wat (leaps_tail m h (12 + a) (by exact Nat.le_add_right _ _)) (wat (leaps_lcg m h a) ?_);rfl
theorem lcg_orbit:∀ m∈masks,(∀ j≤m,∃ k≤m,lcg m k 0 = j)∧lcg m (m + 1) 0 = 0:=by decide +kernel
theorem lcg_cover {m:Nat} (hm:m∈masks) {i j:Nat} (hi:i≤m) (hj:j≤m):∃ k≤m,lcg m k i = j:=by
 obtain ⟨h1,h2⟩:=lcg_orbit m hm
 obtain ⟨a,ha,ea⟩:=h1 i hi
 obtain ⟨b,hb,eb⟩:=h1 j hj
 by_cases hab:a≤b
 · refine ⟨b - a,by exact linLe [_,_,_] 1 (.v 2) (.v 1) [.le 1 (.v 0) (.v 1),.le 1 (.v 2) (.v 0)] rfl hb (Nat.sub_le b a),?_⟩
   rw [← ea,← lcg_add,show a + (b - a) = b by exact Nat.add_sub_of_le ‹_›,eb]
 · refine ⟨m + 1 - a + b,by exact linLe [_,_,_,_] 1 (.a (.v 2) (.v 1)) (.v 3) [.nle 1 (.v 0) (.v 1),.eq 1 (.a (.v 2) (.v 0)) (.a (.v 3) (.n 1))] rfl hab (Nat.sub_add_cancel (linLe [_,_] 1 (.v 0) (.a (.v 1) (.n 1)) [.le 1 (.v 0) (.v 1)] rfl ha)),?_⟩
   rw [← ea,← lcg_add,show a + (m + 1 - a + b) = (m + 1) + b by exact Nat.le_antisymm (linLe [_,_,_,_] 1 (.a (.v 1) (.a (.v 0) (.v 3))) (.a (.a (.v 2) (.n 1)) (.v 3)) [.eq 1 (.a (.v 0) (.v 1)) (.a (.v 2) (.n 1))] rfl (Nat.sub_add_cancel (linLe [_,_] 1 (.v 0) (.a (.v 1) (.n 1)) [.le 1 (.v 0) (.v 1)] rfl ha))) (linLe [_,_,_,_] 1 (.a (.a (.v 0) (.n 1)) (.v 3)) (.a (.v 2) (.a (.v 1) (.v 3))) [.le 1 (.a (.v 0) (.n 1)) (.a (.v 1) (.v 2))] rfl (le_sub (m + 1) a)),lcg_add,h2,eb]
theorem path_cover {m:Nat} (hm:m∈masks) (h:Int) {j:Nat} (hj:j≤m):∃ k,k≤10 * (m + 12)∧(path m h k).j = j:=by
 have hi:(leaps m h 12).1≤m:=by
  exact Nat.lt_succ_iff.mp (Nat.mod_lt ((leaps m h 11).1 * 5 + 1 + (leaps m h 11).2 / 32) (show m + 1 > 0 by exact linLt [_] 1 (.n 0) (.a (.v 0) (.n 1)) [] rfl))
 obtain ⟨a,ha,e⟩:=lcg_cover hm hi hj
 obtain ⟨k,hk,ek⟩:=path_leaps m h (12 + a)
 refine ⟨k,by exact linLe [_,_,_] 1 (.v 2) (.m 10 (.a (.v 1) (.n 12))) [.le 10 (.v 0) (.v 1),.le 1 (.v 2) (.m 10 (.a (.n 12) (.v 0)))] rfl ha hk,?_⟩
 refine wat ek ?_
 show (leaps m h (12 + a)).1 = j
 rw [leaps_lcg,e]
set_option tactic.hygienic true in
theorem below_go {xs:Array Nat} {j:Nat} (hp:xs.toList.Pairwise (· < ·)):∀ (fuel lo hi:Nat),hi - lo≤fuel→lo≤hi→hi≤xs.size→(∀ i x,i < lo→xs.toList[i]? = some x→x < j)→(∀ i x,hi≤i→xs.toList[i]? = some x→j≤x)→
 below.go xs j fuel lo hi≤xs.size∧(∀ i x,i < below.go xs j fuel lo hi→xs.toList[i]? = some x→x < j)∧(∀ i x,below.go xs j fuel lo hi≤i→xs.toList[i]? = some x→j≤x)
 | 0,lo,hi,h1,h2,h3,h4,h5=>by
   have:lo = hi:=by exact Nat.le_antisymm (linLe [_,_] 1 (.v 0) (.v 1) [.le 1 (.v 0) (.v 1)] rfl h2) (linLe [_,_,_] 1 (.v 1) (.v 2) [.le 1 (.v 0) (.n 0),.le 1 (.v 1) (.a (.v 0) (.v 2))] rfl h1 (le_sub hi lo))
   subst this
   exact ⟨h3,h4,h5⟩
 | fuel + 1,lo,hi,h1,h2,h3,h4,h5=>by
   unfold below.go
   split
   · rename_i hlt
     have hmid:(lo + hi) / 2 < hi:=by exact linLt [_,_,_] 2 (.v 2) (.v 1) [.lt 1 (.v 0) (.v 1),.le 1 (.m 2 (.v 2)) (.a (.v 0) (.v 1))] rfl hlt (Nat.mul_div_le (lo + hi) 2)
     have hlt':(lo + hi) / 2 < xs.size:=by exact Nat.lt_of_lt_of_le ‹_› ‹_›
     have hget:xs.toList[(lo + hi) / 2]? = some xs[(lo + hi) / 2]:=by exact wat (Array.getElem?_toList) (wat (Array.getElem?_eq_getElem hlt') rfl)
     have hD:xs.getD ((lo + hi) / 2) j = xs[(lo + hi) / 2]:=by simp [Array.getD,hlt']
     have hpw:∀ (a b:Nat) (ha:a < xs.toList.length) (hb:b < xs.toList.length),a < b→xs.toList[a] < xs.toList[b]:=List.pairwise_iff_getElem.mp hp
     have mono:∀ (a b x y:Nat),a < b→xs.toList[a]? = some x→xs.toList[b]? = some y→x < y:=by
      intro a b x y hab ha hb
      obtain ⟨ha1,ha2⟩:=List.getElem?_eq_some_iff.mp ha
      obtain ⟨hb1,hb2⟩:=List.getElem?_eq_some_iff.mp hb
      refine wat ha2.symm (wat hb2.symm ?_);exact hpw a b ha1 hb1 hab
     simp only [hD]
     split
     · rename_i hx
       refine below_go hp fuel _ hi (by exact linLe [_,_,_,_,_,_] 2 (.v 5) (.v 1) [.le 1 (.v 0) (.a (.v 1) (.n 1)),.le 1 (.v 2) (.a (.v 0) (.v 3)),.lt 1 (.a (.v 3) (.v 2)) (.m 2 (.a (.v 4) (.n 1))),.eq 2 (.a (.v 5) (.a (.v 4) (.n 1))) (.v 2)] (by kernel_rfl) h1 (le_sub hi lo) (Nat.lt_mul_div_succ (lo + hi) (by decide)) (Nat.sub_add_cancel (linLe [_,_] 1 (.a (.v 0) (.n 1)) (.v 1) [.lt 1 (.v 0) (.v 1)] rfl hmid))) (by exact Nat.succ_le_of_lt ‹_›) h3 (fun i x hi' hx'=>?_) h5
       rcases Nat.lt_or_eq_of_le (Nat.lt_succ_iff.mp hi') with h | h
       · exact Nat.lt_trans (mono i _ x _ h hx' hget) hx
       · subst h;rw [hget] at hx';cases hx';exact hx
     · rename_i hx
       refine below_go hp fuel lo _ (by exact linLe [_,_,_,_,_,_] 1 (.v 5) (.v 1) [.le 1 (.v 0) (.a (.v 1) (.n 1)),.lt 1 (.v 2) (.v 3),.le 1 (.v 3) (.a (.v 0) (.v 4)),.eq 1 (.a (.v 5) (.v 4)) (.v 2)] (by kernel_rfl) h1 hmid (le_sub hi lo) (Nat.sub_add_cancel (linLe [_,_,_] 2 (.v 0) (.v 2) [.lt 1 (.v 0) (.v 1),.lt 1 (.a (.v 0) (.v 1)) (.m 2 (.a (.v 2) (.n 1)))] rfl hlt (Nat.lt_mul_div_succ (lo + hi) (by decide))))) (by exact linLe [_,_,_] 2 (.v 0) (.v 2) [.lt 1 (.v 0) (.v 1),.lt 1 (.a (.v 0) (.v 1)) (.m 2 (.a (.v 2) (.n 1)))] rfl hlt (Nat.lt_mul_div_succ (lo + hi) (by decide))) (by exact Nat.le_of_lt ‹_›) h4 (fun i x hi' hx'=>?_)
       rcases Nat.lt_or_eq_of_le hi' with h | h
       · have:=mono _ i _ x h hget hx';exact linLe [_,_,_] 1 (.v 1) (.v 2) [.nlt 1 (.v 0) (.v 1),.lt 1 (.v 0) (.v 2)] rfl hx this
       · subst h;rw [hget] at hx';cases hx';exact linLe [_,_] 1 (.v 1) (.v 0) [.nlt 1 (.v 0) (.v 1)] rfl hx
   · exact ⟨by exact Nat.le_trans ‹_› ‹_›,h4,fun i x hi' hx'=>h5 i x (by lia) hx'⟩
theorem below_spec {xs:Array Nat} (hp:xs.toList.Pairwise (· < ·)) (j:Nat):
 below xs j≤xs.size∧(∀ i x,i < below xs j→xs.toList[i]? = some x→x < j)∧(∀ i x,below xs j≤i→xs.toList[i]? = some x→j≤x):=
 below_go hp xs.size 0 xs.size (by exact linLe [_,_] 1 (.v 0) (.v 1) [.le 1 (.v 0) (.v 1)] rfl (Nat.sub_le xs.size 0)) (by exact Nat.zero_le _) (by exact Nat.le_refl _) (fun _ _ h=>by exact absurd ‹_› (Nat.not_lt_zero _)) (fun i x h e=>by
  have:=(List.getElem?_eq_some_iff.mp e).1
  simp at this;exact absurd ‹_› (Nat.not_lt_of_le ‹_›))
theorem rise {l:List Nat} (hp:l.Pairwise (· < ·)) {a b x y:Nat} (hab:a < b) (ha:l[a]? = some x) (hb:l[b]? = some y):x < y:=by
 obtain ⟨ha1,ha2⟩:=List.getElem?_eq_some_iff.mp ha
 obtain ⟨hb1,hb2⟩:=List.getElem?_eq_some_iff.mp hb
 refine wat ha2.symm (wat hb2.symm ?_);exact List.pairwise_iff_getElem.mp hp a b ha1 hb1 hab
theorem below_at {xs:Array Nat} (hp:xs.toList.Pairwise (· < ·)) {i j:Nat} (h:xs.toList[i]? = some j):below xs j = i:=by
 obtain ⟨h1,h2,h3⟩:=below_spec hp j
 rcases Nat.lt_trichotomy (below xs j) i with q | q | q
 · have hlt:below xs j < xs.toList.length:=Nat.lt_trans q (List.getElem?_eq_some_iff.mp h).1
   have hg:=List.getElem?_eq_getElem hlt
   have:=rise hp q hg h
   have:=h3 _ _ (Nat.le_refl _) hg
   exact absurd ‹_› (Nat.not_lt_of_le ‹_›)
 · exact q
 · have:=h2 i j q h;exact Nat.le_antisymm (linLe [_,_,_] 0 (.v 1) (.v 2) [.lt 1 (.v 0) (.v 0)] rfl this) (linLe [_,_] 1 (.v 0) (.v 1) [.lt 1 (.v 0) (.v 1)] rfl q)
theorem has_iff {xs:Array Nat} (hp:xs.toList.Pairwise (· < ·)) (j:Nat):has xs j = true↔j∈xs.toList:=by
 unfold has
 constructor
 · intro h
   rw [beq_iff_eq] at h
   exact List.mem_of_getElem? (by rw [Array.getElem?_toList];exact h)
 · intro h
   obtain ⟨i,hi⟩:=List.mem_iff_getElem?.mp h
   rw [below_at hp hi,beq_iff_eq,← Array.getElem?_toList];exact hi
theorem slot_live {t:SetTable} (hp:t.place.toList.Pairwise (· < ·)) {i j:Nat} (h:t.place.toList[i]? = some j):t.slot j = .live i:=by
 unfold SetTable.slot
 simp only [below_at hp h]
 rw [if_pos]
 rw [beq_iff_eq,← Array.getElem?_toList];exact h
theorem slot_dummy {t:SetTable} (hp:t.place.toList.Pairwise (· < ·)) (hd:t.dummies.toList.Pairwise (· < ·)) {j:Nat} (h1:j∉t.place.toList) (h2:j∈t.dummies.toList):t.slot j = .dummy:=by
 unfold SetTable.slot
 have e1:¬ (t.place[below t.place j]? == some j) = true:=fun e=>h1 ((has_iff hp j).mp e)
 simp only [e1,if_false,(has_iff hd j).mpr h2,if_true]
 rfl
theorem slot_empty {t:SetTable} (hp:t.place.toList.Pairwise (· < ·)) (hd:t.dummies.toList.Pairwise (· < ·)) {j:Nat} (h1:j∉t.place.toList) (h2:j∉t.dummies.toList):t.slot j = .empty:=by
 unfold SetTable.slot
 have e1:¬ (t.place[below t.place j]? == some j) = true:=fun e=>h1 ((has_iff hp j).mp e)
 have e2:¬ has t.dummies j = true:=fun e=>h2 ((has_iff hd j).mp e)
 simp only [e1,if_false,e2]
 rfl
open SetTable
theorem length_le_of_subset {α:Type} [BEq α] [LawfulBEq α]:∀ {l₁ l₂:List α},l₁.Nodup→(∀ x∈l₁,x∈l₂)→l₁.length≤l₂.length
 | [],_,_,_=>Nat.zero_le _
 | x :: l,l₂,hn,hs=>by
   rw [List.nodup_cons] at hn
   have hx:=hs x List.mem_cons_self
   have:=length_le_of_subset (l₁:=l) (l₂:=l₂.erase x) hn.2 (fun y hy=>by
    have hne:y≠x:=fun e=>hn.1 (e▸hy)
    exact (List.mem_erase_of_ne hne).mpr (hs y (List.mem_cons_of_mem _ hy)))
   rw [List.length_erase_of_mem hx] at this
   have:0 < l₂.length:=List.length_pos_of_mem hx
   simp only [List.length_cons];omega
theorem nodup_of_rise {l:List Nat} (h:l.Pairwise (· < ·)):l.Nodup:=h.imp (fun h=>Nat.ne_of_lt h)
theorem SInv.free {hs:List Int} {t:SetTable} (I:SInv hs t):∃ j,j≤t.mask∧¬ taken t j:=by
 apply Classical.byContradiction
 intro hno
 have hall:∀ x∈List.range (t.mask + 1),x∈t.place.toList ++ t.dummies.toList:=by
  intro x hx
  have hx':x≤t.mask:=by simpa [Nat.lt_succ_iff] using hx
  have:taken t x:=Classical.byContradiction fun q=>hno ⟨x,hx',q⟩
  exact List.mem_append.mpr this
 have:=length_le_of_subset List.nodup_range hall
 simp only [List.length_range,List.length_append] at this
 have:=I.room
 lia
theorem SInv.free_path {hs:List Int} {t:SetTable} (I:SInv hs t) (h:Int):∃ k,k≤10 * (t.mask + 12)∧¬ taken t (path t.mask h k).j:=by
 refine bc fun nG=>?_
 obtain ⟨j,hj,hn⟩:=I.free
 refine nG ?_
 refine bc fun nG=>?_
 obtain ⟨k,hk,e⟩:=path_cover I.mask h hj
 refine nG ?_
 exact ⟨k,hk,by refine wat e ?_;exact hn⟩
theorem advance_path (t:SetTable) (h:Int) (k:Nat) (d:Option Nat):t.advance { path t.mask h k with dummy:=d } = { path t.mask h (k + 1) with dummy:=d }:=by
 show _ = { advM t.mask (path t.mask h k) with dummy:=d }
 unfold SetTable.advance advM
 by_cases hm:(path t.mask h k).more > 0
 · simp only [hm,if_true]
 · simp only [hm,if_false]
noncomputable def DumOk (t:SetTable) (h:Int) (d:Option Nat) (k:Nat):Prop:=∀ x,d = some x→x∈t.dummies.toList∧∃ q,q < k∧(path t.mask h q).j = x
theorem go_spec {hs:List Int} {t:SetTable} (I:SInv hs t) (h:Int) (hash:Nat→Int) (hh:∀ (i:Nat) (x:Int),hs[i]? = some x→hash i = x):∀ (fuel k:Nat) (d:Option Nat),((X1 fun k'=>A3 (k≤k') (k' < k + fuel) (¬ taken t (path t.mask h k').j)))→DumOk t h d k→
 (X2 fun k' d'=>A5 (k≤k') (k' < k + fuel) (DumOk t h d' k') ((∀ q,k≤q→q < k'→taken t (path t.mask h q).j∧∀ i:Nat,t.place.toList[i]? = some (path t.mask h q).j→hs[i]?≠some h)) (((¬ taken t (path t.mask h k').j∧probe.go t hash h fuel { path t.mask h k with dummy:=d } = some (.empty (path t.mask h k').j d'))∨
   (X1 fun (i:Nat)=>A3 (t.place.toList[i]? = some (path t.mask h k').j) (hs[i]? = some h) (probe.go t hash h fuel { path t.mask h k with dummy:=d } = some (.candidate (path t.mask h k').j i { path t.mask h (k' + 1) with dummy:=d' }))))))
 | 0,k,d,⟨k',h1,h2,_⟩,_=>by omega
 | fuel + 1,k,d,⟨ke,h1,h2,h3⟩,hd=>by
   unfold probe.go
   by_cases hl:(path t.mask h k).j∈t.place.toList
   · obtain ⟨i,hi⟩:=List.mem_iff_getElem?.mp hl
     have es:=slot_live I.up hi
     have hil:i < hs.length:=by refine wat (I.size).symm ?_;exact (List.getElem?_eq_some_iff.mp hi).1
     have hx:hs[i]? = some hs[i]:=List.getElem?_eq_getElem hil
     by_cases e:hs[i] = h
     · refine ⟨k,d,Nat.le_refl _,by exact Nat.lt_of_le_of_lt ‹_› ‹_›,hd,fun q a b=>by exact absurd ‹_› (Nat.not_lt_of_le ‹_›),.inr ⟨i,hi,by exact wat hx (wat e rfl),?_⟩⟩
       have e1:(hash i == h) = true:=by refine wat (hh i _ hx) (wat e ?_);simp
       simp only [es,e1,if_true]
       rw [advance_path]
     · have hne:k≠ke:=fun q=>h3 (q▸.inl hl)
       obtain ⟨k',d',a1,a2,a3,a4,a5⟩:=go_spec I h hash hh fuel (k + 1) d ⟨ke,by lia,by exact linLt [_,_,_] 1 (.v 0) (.a (.a (.v 1) (.n 1)) (.v 2)) [.lt 1 (.v 0) (.a (.v 1) (.a (.v 2) (.n 1)))] rfl h2,h3⟩ (fun x hx=>by
        obtain ⟨b1,q,b2,b3⟩:=hd x hx;exact ⟨b1,q,by exact linLt [_,_] 1 (.v 0) (.a (.v 1) (.n 1)) [.lt 1 (.v 0) (.v 1)] rfl b2,b3⟩)
       have e1:(hash i == h) = false:=by refine wat (hh i _ hx) ?_;simpa using e
       refine ⟨k',d',by exact Nat.le_of_succ_le ‹_›,by exact linLt [_,_,_] 1 (.v 0) (.a (.v 1) (.a (.v 2) (.n 1))) [.lt 1 (.v 0) (.a (.a (.v 1) (.n 1)) (.v 2))] rfl a2,a3,fun q b1 b2=>?_,?_⟩
       · rcases Nat.lt_or_eq_of_le b1 with b | b
         · exact a4 q b b2
         · subst b
           refine ⟨.inl hl,fun i' hi'=>?_⟩
           have:i' = i:=by exact wat (below_at I.up hi').symm (wat (below_at I.up hi).symm rfl)
           refine wat this (wat hx ?_);simpa using e
       · simp only [es,e1,Bool.false_eq_true,if_false]
         rw [advance_path]
         exact a5
   · by_cases hdm:(path t.mask h k).j∈t.dummies.toList
     · have es:=slot_dummy I.up I.upD hl hdm
       have hne:k≠ke:=fun q=>h3 (q▸.inr hdm)
       obtain ⟨k',d',a1,a2,a3,a4,a5⟩:=go_spec I h hash hh fuel (k + 1) (some (path t.mask h k).j) ⟨ke,by lia,by exact linLt [_,_,_] 1 (.v 0) (.a (.a (.v 1) (.n 1)) (.v 2)) [.lt 1 (.v 0) (.a (.v 1) (.a (.v 2) (.n 1)))] rfl h2,h3⟩ (fun x hx=>by
        cases hx;exact ⟨hdm,k,by exact Nat.lt_succ_self _,rfl⟩)
       refine ⟨k',d',by exact Nat.le_of_succ_le ‹_›,by exact linLt [_,_,_] 1 (.v 0) (.a (.v 1) (.a (.v 2) (.n 1))) [.lt 1 (.v 0) (.a (.a (.v 1) (.n 1)) (.v 2))] rfl a2,a3,fun q b1 b2=>?_,?_⟩
       · rcases Nat.lt_or_eq_of_le b1 with b | b
         · exact a4 q b b2
         · subst b
           exact ⟨.inr hdm,fun i' hi'=>absurd (List.mem_of_getElem? hi') hl⟩
       · simp only [es]
         rw [show ({ ({ path t.mask h k with dummy:=d }:Probe) with dummy:=some (path t.mask h k).j }:Probe) = { path t.mask h k with dummy:=some (path t.mask h k).j } from rfl,advance_path]
         exact a5
     · have es:=slot_empty I.up I.upD hl hdm
       refine ⟨k,d,Nat.le_refl _,by exact Nat.lt_of_le_of_lt ‹_› ‹_›,hd,fun q a b=>by exact absurd ‹_› (Nat.not_lt_of_le ‹_›),.inl ⟨fun q=>q.elim hl hdm,?_⟩⟩
       simp only [es]
theorem insertAt_list {α:Type} (xs:Array α) (p:Nat) (x:α):(insertAt xs p x).toList = xs.toList.take p ++ x :: xs.toList.drop p:=by
 unfold insertAt
 simp
 exact List.take_of_length_le (by simp)
theorem eraseAt_list {α:Type} (xs:Array α) (p:Nat):(eraseAt xs p).toList = xs.toList.eraseIdx p:=by
 unfold eraseAt
 simp [List.eraseIdx_eq_take_drop_succ]
 exact List.take_of_length_le (by simp)
theorem rise_insert {xs:Array Nat} (hp:xs.toList.Pairwise (· < ·)) {j:Nat} (hj:j∉xs.toList):(insertAt xs (below xs j) j).toList.Pairwise (· < ·):=by
 rw [insertAt_list]
 obtain ⟨h1,h2,h3⟩:=below_spec hp j
 have a1:∀ x∈xs.toList.take (below xs j),x < j:=by
  intro x hx
  obtain ⟨i,hi⟩:=List.mem_iff_getElem?.mp hx
  rw [List.getElem?_take] at hi
  split at hi
  · exact h2 i x ‹_› hi
  · cases hi
 have a2:∀ x∈xs.toList.drop (below xs j),j < x:=by
  intro x hx
  have hne:x≠j:=fun e=>hj (e▸List.mem_of_mem_drop hx)
  obtain ⟨i,hi⟩:=List.mem_iff_getElem?.mp hx
  rw [List.getElem?_drop] at hi
  have:=h3 _ x (by exact Nat.le_add_right _ _) hi
  lia
 rw [List.pairwise_append]
 refine ⟨hp.sublist (List.take_sublist _ _),?_,?_⟩
 · rw [List.pairwise_cons];exact ⟨a2,hp.sublist (List.drop_sublist _ _)⟩
 · intro x hx y hy
   rcases List.mem_cons.mp hy with rfl | hy
   · exact a1 x hx
   · exact Nat.lt_trans (a1 x hx) (a2 y hy)
theorem mem_insertAt {α:Type} (xs:Array α) (p:Nat) (x y:α):y∈(insertAt xs p x).toList↔y = x∨y∈xs.toList:=by
 rw [insertAt_list,List.mem_append,List.mem_cons]
 constructor
 · rintro (h | h | h)
   · exact .inr (List.mem_of_mem_take h)
   · exact .inl h
   · exact .inr (List.mem_of_mem_drop h)
 · rintro (h | h)
   · exact .inr (.inl h)
   · rw [← List.take_append_drop p xs.toList,List.mem_append] at h
     exact h.imp id .inr
theorem mem_eraseAt {xs:Array Nat} (hp:xs.toList.Pairwise (· < ·)) {i j y:Nat} (hi:xs.toList[i]? = some j):y∈(eraseAt xs i).toList↔y≠j∧y∈xs.toList:=by
 rw [eraseAt_list,List.mem_eraseIdx_iff_getElem?]
 constructor
 · rintro ⟨q,hq,e⟩
   refine ⟨fun e'=>?_,List.mem_of_getElem? e⟩
   subst e'
   have:=below_at hp e
   have:=below_at hp hi
   lia
 · rintro ⟨hne,hy⟩
   obtain ⟨q,hq⟩:=List.mem_iff_getElem?.mp hy
   refine ⟨q,fun e=>hne ?_,hq⟩
   subst e;rw [hi] at hq;cases hq;rfl
open SetTable
structure Spot (t:SetTable) (h:Int) (j:Nat):Prop where
 le:j≤t.mask
 out:j∉t.place.toList
 way:(X1 fun k=>A3 (k < 10 * turns t.mask) ((path t.mask h k).j = j) (∀ k' < k,taken t (path t.mask h k').j))
theorem put_place (t:SetTable) (j:Nat):(t.put j).1.place = insertAt t.place (below t.place j) j:=rfl
set_option tactic.hygienic true in
theorem put_taken {t:SetTable} (hd:t.dummies.toList.Pairwise (· < ·)) (j x:Nat):taken (t.put j).1 x↔x = j∨taken t x:=by
 have key:x∈(if has t.dummies j then eraseAt t.dummies (below t.dummies j) else t.dummies).toList→x∈t.dummies.toList:=by
  intro h
  split at h
  · rw [eraseAt_list] at h;exact List.mem_of_mem_eraseIdx h
  · exact h
 have key2:x∈t.dummies.toList→x = j∨x∈(if has t.dummies j then eraseAt t.dummies (below t.dummies j) else t.dummies).toList:=by
  intro h
  by_cases e:x = j
  · exact .inl e
  · right
    split
    · rename_i hh
      obtain ⟨i,hi⟩:=List.mem_iff_getElem?.mp ((has_iff hd j).mp hh)
      rw [below_at hd hi,mem_eraseAt hd hi];exact ⟨e,h⟩
    · exact h
 unfold taken
 rw [put_place,mem_insertAt]
 show (_∨x∈(if has t.dummies j then eraseAt t.dummies (below t.dummies j) else t.dummies).toList)↔_
 constructor
 · rintro ((h | h) | h)
   · exact .inl h
   · exact .inr (.inl h)
   · exact .inr (.inr (key h))
 · rintro (h | h | h)
   · exact .inl (.inl h)
   · exact .inl (.inr h)
   · rcases key2 h with h | h
     · exact .inl (.inl h)
     · exact .inr h
theorem put_fill {t:SetTable} (hd:t.dummies.toList.Pairwise (· < ·)) (j:Nat):
 (t.put j).1.place.toList.length = t.place.toList.length + 1∧(t.put j).1.dummies.toList.length = (if j∈t.dummies.toList then t.dummies.toList.length - 1 else t.dummies.toList.length):=by
 refine ⟨?_,?_⟩
 · rw [put_place,insertAt_list]
   simp only [List.length_append,List.length_cons,List.length_take,List.length_drop];omega
 · show (if has t.dummies j then eraseAt t.dummies (below t.dummies j) else t.dummies).toList.length = _
   by_cases h:j∈t.dummies.toList
   · obtain ⟨i,hi⟩:=List.mem_iff_getElem?.mp h
     rw [if_pos ((has_iff hd j).mpr h),if_pos h,eraseAt_list,List.length_eraseIdx,below_at hd hi,if_pos (List.getElem?_eq_some_iff.mp hi).1]
   · exact wat (if_neg (fun e=>h ((has_iff hd j).mp e))) (wat (if_neg h) rfl)
theorem put_dummies_rise {t:SetTable} (hd:t.dummies.toList.Pairwise (· < ·)) (j:Nat):(t.put j).1.dummies.toList.Pairwise (· < ·)∧∀ x∈(t.put j).1.dummies.toList,x∈t.dummies.toList∧x≠j:=by
 show (if has t.dummies j then eraseAt t.dummies (below t.dummies j) else t.dummies).toList.Pairwise (· < ·)∧∀ x∈(if has t.dummies j then eraseAt t.dummies (below t.dummies j) else t.dummies).toList,_
 by_cases h:j∈t.dummies.toList
 · obtain ⟨i,hi⟩:=List.mem_iff_getElem?.mp h
   refine wat (if_pos ((has_iff hd j).mpr h)) (wat (below_at hd hi) ?_)
   refine ⟨?_,fun x hx=>?_⟩
   · rw [eraseAt_list];exact hd.sublist (List.eraseIdx_sublist ..)
   · rw [mem_eraseAt hd hi] at hx;exact ⟨hx.2,hx.1⟩
 · refine wat (if_neg (fun e=>h ((has_iff hd j).mp e))) ?_
   exact ⟨hd,fun x hx=>⟨hx,fun e=>h (e▸hx)⟩⟩
theorem SInv.put {hs:List Int} {t:SetTable} (I:SInv hs t) {h:Int} {j:Nat} (sp:Spot t h j) (room:((t.put j).1.place.toList.length + (t.put j).1.dummies.toList.length) * 5 < t.mask * 3):
 SInv (hs.take (t.put j).2 ++ h :: hs.drop (t.put j).2) (t.put j).1:=by
 have hp:(t.put j).2 = below t.place j:=rfl
 obtain ⟨b1,b2,b3⟩:=below_spec I.up j
 obtain ⟨f1,f2⟩:=put_fill I.upD j
 obtain ⟨d1,d2⟩:=put_dummies_rise I.upD j
 have hsz:=I.size
 refine ⟨I.mask,?_,?_,d1,?_,fun x hx=>I.leD x (d2 x hx).1,?_,room,?_⟩
 · refine wat f1 (wat hsz ?_);simp only [List.length_append,List.length_cons,List.length_take,List.length_drop];omega
 · rw [put_place];exact rise_insert I.up sp.out
 · intro x hx
   rw [put_place,mem_insertAt] at hx
   rcases hx with rfl | hx
   · exact sp.le
   · exact I.le x hx
 · intro x hx hx'
   rw [put_place,mem_insertAt] at hx
   rcases hx with rfl | hx
   · exact (d2 x hx').2 rfl
   · exact I.apart x hx (d2 x hx').1
 · intro i h' j' e1 e2
   rw [hp] at e1
   rw [put_place,insertAt_list] at e2
   have hlen1:(hs.take (below t.place j)).length = below t.place j:=by
    rw [List.length_take,← hsz,Nat.min_eq_left];rw [Array.length_toList];exact b1
   have hlen2:(t.place.toList.take (below t.place j)).length = below t.place j:=by
    rw [List.length_take,Nat.min_eq_left];rw [Array.length_toList];exact b1
   have grow:∀ {k:Nat},(∀ k' < k,taken t (path t.mask h' k').j)→∀ k' < k,taken (t.put j).1 (path t.mask h' k').j:=fun q k' hk'=>(put_taken I.upD j _).mpr (.inr (q k' hk'))
   rcases Nat.lt_trichotomy i (below t.place j) with q | q | q
   · rw [List.getElem?_append_left (by omega),List.getElem?_take,if_pos q] at e1 e2
     refine bc fun nG=>?_
     obtain ⟨k,k1,k2,k3⟩:=I.reach i h' j' e1 e2
     refine nG ?_
     exact ⟨k,k1,k2,grow k3⟩
   · rw [List.getElem?_append_right (by exact linLe [_,_,_] 1 (.v 0) (.v 2) [.eq 1 (.v 0) (.v 1),.ge 1 (.v 2) (.v 1)] rfl hlen1 q),hlen1,q,Nat.sub_self] at e1
     rw [List.getElem?_append_right (by exact linLe [_,_,_] 1 (.v 0) (.v 2) [.eq 1 (.v 0) (.v 1),.ge 1 (.v 2) (.v 1)] rfl hlen2 q),hlen2,q,Nat.sub_self] at e2
     simp only [List.getElem?_cons_zero,Option.some.injEq] at e1 e2
     subst e1 e2
     refine bc fun nG=>?_
     obtain ⟨k,k1,k2,k3⟩:=sp.way
     refine nG ?_
     exact ⟨k,k1,k2,grow k3⟩
   · obtain ⟨r,hr⟩:∃ r,i = below t.place j + 1 + r:=⟨i - (below t.place j + 1),by exact Nat.le_antisymm (linLe [_,_,_] 1 (.v 0) (.a (.a (.v 2) (.n 1)) (.v 1)) [.le 1 (.v 0) (.a (.v 1) (.a (.v 2) (.n 1)))] rfl (le_sub i (below t.place j + 1))) (linLe [_,_,_] 1 (.a (.a (.v 1) (.n 1)) (.v 0)) (.v 2) [.eq 1 (.a (.v 0) (.a (.v 1) (.n 1))) (.v 2)] rfl (Nat.sub_add_cancel (linLe [_,_] 1 (.a (.v 0) (.n 1)) (.v 1) [.lt 1 (.v 0) (.v 1)] rfl q)))⟩
     rw [List.getElem?_append_right (by exact linLe [_,_,_] 1 (.v 0) (.v 2) [.eq 1 (.v 0) (.v 1),.lt 1 (.v 1) (.v 2)] rfl hlen1 q),hlen1,show i - below t.place j = r + 1 by exact Nat.le_antisymm (linLe [_,_,_,_] 1 (.v 3) (.a (.v 2) (.n 1)) [.eq 1 (.v 0) (.a (.a (.v 1) (.n 1)) (.v 2)),.eq 1 (.a (.v 3) (.v 1)) (.v 0)] rfl hr (Nat.sub_add_cancel (linLe [_,_] 1 (.v 0) (.v 1) [.lt 1 (.v 0) (.v 1)] rfl q))) (linLe [_,_,_,_] 1 (.a (.v 2) (.n 1)) (.v 3) [.ge 1 (.v 0) (.a (.a (.v 1) (.n 1)) (.v 2)),.le 1 (.v 0) (.a (.v 3) (.v 1))] rfl hr (le_sub i (below t.place j))),List.getElem?_cons_succ,List.getElem?_drop] at e1
     rw [List.getElem?_append_right (by exact linLe [_,_,_] 1 (.v 0) (.v 2) [.eq 1 (.v 0) (.v 1),.lt 1 (.v 1) (.v 2)] rfl hlen2 q),hlen2,show i - below t.place j = r + 1 by exact Nat.le_antisymm (linLe [_,_,_,_] 1 (.v 3) (.a (.v 2) (.n 1)) [.eq 1 (.v 0) (.a (.a (.v 1) (.n 1)) (.v 2)),.eq 1 (.a (.v 3) (.v 1)) (.v 0)] rfl hr (Nat.sub_add_cancel (linLe [_,_] 1 (.v 0) (.v 1) [.lt 1 (.v 0) (.v 1)] rfl q))) (linLe [_,_,_,_] 1 (.a (.v 2) (.n 1)) (.v 3) [.ge 1 (.v 0) (.a (.a (.v 1) (.n 1)) (.v 2)),.le 1 (.v 0) (.a (.v 3) (.v 1))] rfl hr (le_sub i (below t.place j))),List.getElem?_cons_succ,List.getElem?_drop] at e2
     obtain ⟨k,k1,k2,k3⟩:=I.reach _ h' j' e1 e2
     exact ⟨k,k1,k2,grow k3⟩
set_option tactic.hygienic true in
theorem SInv.popped {hs:List Int} {t:SetTable} (I:SInv hs t) {i:Nat} (hi:i < hs.length):SInv (hs.eraseIdx i) (t.popped i):=by
 have hil:i < t.place.toList.length:=by refine wat I.size ?_;exact hi
 obtain ⟨j,hj⟩:∃ j,t.place.toList[i]? = some j:=⟨_,List.getElem?_eq_getElem hil⟩
 have hj':t.place[i]? = some j:=by refine wat (Array.getElem?_toList).symm ?_;exact hj
 have ej:j∉t.dummies.toList:=I.apart j (List.mem_of_getElem? hj)
 have ep:(t.popped i).place = eraseAt t.place i:=by unfold SetTable.popped SetTable.drop;exact wat hj' rfl
 have ed:(t.popped i).dummies = insertAt t.dummies (below t.dummies j) j:=by unfold SetTable.popped SetTable.drop;exact wat hj' rfl
 have em:(t.popped i).mask = t.mask:=by unfold SetTable.popped SetTable.drop;exact wat hj' rfl
 have htk:∀ x,taken t x→taken (t.popped i) x:=by
  intro x hx
  unfold taken
  rw [ep,ed,mem_insertAt,mem_eraseAt I.up hj]
  rcases hx with hx | hx
  · by_cases e:x = j
    · exact .inr (.inl e)
    · exact .inl ⟨e,hx⟩
  · exact .inr (.inr hx)
 refine ⟨by refine wat em ?_;exact I.mask,?_,?_,?_,?_,?_,?_,?_,?_⟩
 · rw [ep,eraseAt_list,List.length_eraseIdx,List.length_eraseIdx,I.size]
 · rw [ep,eraseAt_list];exact I.up.sublist (List.eraseIdx_sublist ..)
 · refine wat ed ?_;exact rise_insert I.upD ej
 · intro x hx;rw [ep,mem_eraseAt I.up hj] at hx;refine wat em ?_;exact I.le x hx.2
 · intro x hx;rw [ed,mem_insertAt] at hx;refine wat em ?_
   rcases hx with rfl | hx
   · exact I.le x (List.mem_of_getElem? hj)
   · exact I.leD x hx
 · intro x hx hx'
   rw [ep,mem_eraseAt I.up hj] at hx
   rw [ed,mem_insertAt] at hx'
   rcases hx' with e | hx'
   · exact hx.1 e
   · exact I.apart x hx.2 hx'
 · rw [ep,ed,em,eraseAt_list,insertAt_list,List.length_eraseIdx,if_pos hil]
   have hb:=(below_spec I.upD j).1
   have:=I.room
   simp only [List.length_append,List.length_cons,List.length_take,List.length_drop]
   omega
 · intro i' h' j' e1 e2
   rw [ep,eraseAt_list] at e2
   refine wat em ?_
   rw [List.getElem?_eraseIdx] at e1 e2
   have:∃ q:Nat,hs[q]? = some h'∧t.place.toList[q]? = some j':=by
    split at e1
    · rename_i hlt;rw [if_pos hlt] at e2;exact ⟨_,e1,e2⟩
    · rename_i hlt;rw [if_neg hlt] at e2;exact ⟨_,e1,e2⟩
   obtain ⟨q,q1,q2⟩:=this
   refine bc fun nG=>?_
   obtain ⟨k,k1,k2,k3⟩:=I.reach q h' j' q1 q2
   refine nG ?_
   exact ⟨k,k1,k2,fun k' hk'=>htk _ (k3 k' hk')⟩
theorem SInv.same {hs:List Int} {t t':SetTable} (I:SInv hs t) (h1:t'.mask = t.mask) (h2:t'.place = t.place) (h3:t'.dummies = t.dummies):SInv hs t':=by
 have tk:∀ x,taken t x↔taken t' x:=fun x=>by unfold taken;rw [h2,h3]
 refine ⟨h1▸I.mask,h2▸I.size,h2▸I.up,h3▸I.upD,?_,?_,?_,?_,?_⟩
 · rw [h2,h1];exact I.le
 · rw [h3,h1];exact I.leD
 · refine wat h2 (wat h3 ?_);exact I.apart
 · refine wat h2 (wat h3 (wat h1 ?_));exact I.room
 · intro i h j e1 e2
   rw [h2] at e2
   refine wat h1 ?_
   refine bc fun nG=>?_
   obtain ⟨k,k1,k2,k3⟩:=I.reach i h j e1 e2
   refine nG ?_
   exact ⟨k,k1,k2,fun k' q=>(tk _).mp (k3 k' q)⟩
open SetTable
theorem leap_cover {m:Nat} (hm:m∈masks) (h:Int) {j:Nat} (hj:j≤m):∃ n,n≤m + 12∧(leaps m h n).1 = j:=by
 have hi:(leaps m h 12).1≤m:=Nat.lt_succ_iff.mp (Nat.mod_lt ((leaps m h 11).1 * 5 + 1 + (leaps m h 11).2 / 32) (show m + 1 > 0 by exact linLt [_] 1 (.n 0) (.a (.v 0) (.n 1)) [] rfl))
 refine bc fun nG=>?_
 obtain ⟨a,ha,e⟩:=lcg_cover hm hi hj
 refine nG ?_
 exact ⟨12 + a,by exact linLe [_,_] 1 (.a (.n 12) (.v 0)) (.a (.v 1) (.n 12)) [.le 1 (.v 0) (.v 1)] rfl ha,by rw [leaps_lcg,e]⟩
theorem leaps_le (m:Nat) (h:Int):∀ n,(leaps m h n).1≤m
 | 0=>Nat.lt_succ_iff.mp (Nat.mod_lt _ (by exact linLt [_] 1 (.n 0) (.a (.v 0) (.n 1)) [] rfl))
 | n + 1=>Nat.lt_succ_iff.mp (Nat.mod_lt ((leaps m h n).1 * 5 + 1 + (leaps m h n).2 / 32) (show m + 1 > 0 by exact linLt [_] 1 (.n 0) (.a (.v 0) (.n 1)) [] rfl))
structure Owned (m:Nat) (hs:List Int) (owner:Array (Option Nat)) (pos:List Nat):Prop where
 size:owner.size = m + 1
 len:pos.length≤hs.length
 nodup:pos.Nodup
 le:∀ j∈pos,j≤m
 owns:∀ j≤m,∀ k:Nat,owner[j]? = some (some k)↔pos[k]? = some j
 reach:∀ (k:Nat) (h:Int) (j:Nat),hs[k]? = some h→pos[k]? = some j→(X1 fun q=>A3 (q < 10 * turns m) ((path m h q).j = j) (∀ q' < q,(path m h q').j∈pos))
theorem Owned.isNone {m hs owner pos} (O:Owned m hs owner pos) {j:Nat} (hj:j≤m):(owner.getD j (some 0)).isNone = true↔j∉pos:=by
 have hlt:j < owner.size:=by refine wat O.size ?_;exact Nat.lt_succ_of_le ‹_›
 have e:owner[j]? = some owner[j]:=Array.getElem?_eq_getElem hlt
 have eD:owner.getD j (some 0) = owner[j]:=by simp [Array.getD,hlt]
 refine wat eD ?_
 constructor
 · intro h hp
   obtain ⟨k,hk⟩:=List.mem_iff_getElem?.mp hp
   rw [← O.owns j hj k,e] at hk
   rw [Option.some.injEq] at hk
   rw [hk] at h;cases h
 · intro h
   cases hq:owner[j] with
   | none=>rfl
   | some k=>
     rw [hq] at e
     exact absurd (List.mem_of_getElem? ((O.owns j hj k).mp e)) h
theorem free_spec {m:Nat} {hs:List Int} {owner:Array (Option Nat)} {pos:List Nat} (O:Owned m hs owner pos) (h:Int) (N:Nat) (hN:(leaps m h N).1∉pos):∀ (fuel n k:Nat),n≤N→N < n + fuel→k≤10 * n→path m h k = atLeap m (leaps m h n)→(∀ q < k,(path m h q).j∈pos)→
 (X1 fun q=>A5 (q < 10 * (N + 1)) ((path m h q).j∉pos) ((path m h q).j≤m) ((∀ q' < q,(path m h q').j∈pos)) (layClean.free m owner fuel (leaps m h n).1 (leaps m h n).2 = some (path m h q).j))
 | 0,n,k,h1,h2,_,_,_=>by omega
 | fuel + 1,n,k,h1,h2,h3,h4,h5=>by
   have hle:=leaps_le m h n
   have hmore:=more_le m (leaps m h n).1
   have hend:runEnd m (leaps m h n).1≤m:=by unfold runEnd;split<;>assumption
   have hge:(leaps m h n).1≤runEnd m (leaps m h n).1:=by unfold runEnd;split<;>lia
   have hmr:(path m h k).more = runEnd m (leaps m h n).1 - (leaps m h n).1:=by refine wat h4 ?_;rfl
   have hj0:(path m h k).j = (leaps m h n).1:=by refine wat h4 ?_;rfl
   have run:∀ r,r≤runEnd m (leaps m h n).1 - (leaps m h n).1→(path m h (k + r)).j = (leaps m h n).1 + r:=by
    intro r hr
    refine wat (path_run m h k r (by exact linLe [_,_,_] 1 (.v 2) (.v 0) [.ge 1 (.v 0) (.v 1),.le 1 (.v 2) (.v 1)] rfl hmr hr)) ?_
    simp only [hj0]
   unfold layClean.free
   cases hf:(List.range (runEnd m (leaps m h n).1 + 1 - (leaps m h n).1)).find? fun r=>(owner.getD ((leaps m h n).1 + r) (some 0)).isNone with
   | some r=>
     rw [List.find?_range_eq_some] at hf
     refine bc fun nG=>?_
     obtain ⟨f1,f2,f3⟩:=hf
     refine nG ?_
     have hr:r < runEnd m (leaps m h n).1 + 1 - (leaps m h n).1:=by simpa using f2
     have hjr:=run r (by exact linLe [_,_,_,_,_] 1 (.v 0) (.v 3) [.lt 1 (.v 0) (.v 1),.le 1 (.v 2) (.a (.v 3) (.v 4)),.eq 1 (.a (.v 1) (.v 4)) (.a (.v 2) (.n 1))] rfl hr (le_sub (runEnd m (leaps m h n).fst) ((leaps m h n).fst)) (Nat.sub_add_cancel (linLe [_,_] 1 (.v 0) (.a (.v 1) (.n 1)) [.le 1 (.v 0) (.v 1)] rfl hge)))
     refine ⟨k + r,by exact linLt [_,_,_,_,_,_,_,_] 1 (.a (.v 2) (.v 4)) (.m 10 (.a (.v 1) (.n 1))) [.le 10 (.v 0) (.v 1),.le 1 (.v 2) (.m 10 (.v 0)),.le 1 (.v 3) (.n 9),.lt 1 (.v 4) (.v 5),.le 1 (.v 6) (.a (.v 3) (.v 7)),.eq 1 (.a (.v 5) (.v 7)) (.a (.v 6) (.n 1))] (by kernel_rfl) h1 h3 hmore hr (le_sub (runEnd m (leaps m h n).fst) ((leaps m h n).fst)) (Nat.sub_add_cancel (linLe [_,_] 1 (.v 0) (.a (.v 1) (.n 1)) [.le 1 (.v 0) (.v 1)] rfl hge)),?_,by exact linLe [_,_,_,_,_,_] 1 (.v 4) (.v 1) [.le 1 (.v 0) (.v 1),.lt 1 (.v 2) (.v 3),.eq 1 (.v 4) (.a (.v 5) (.v 2)),.eq 1 (.a (.v 3) (.v 5)) (.a (.v 0) (.n 1))] (by kernel_rfl) hend hr hjr (Nat.sub_add_cancel (linLe [_,_] 1 (.v 0) (.a (.v 1) (.n 1)) [.le 1 (.v 0) (.v 1)] rfl hge)),?_,by exact wat hjr rfl⟩
     · refine wat hjr ?_;exact (O.isNone (by exact linLe [_,_,_,_,_] 1 (.a (.v 4) (.v 2)) (.v 1) [.le 1 (.v 0) (.v 1),.lt 1 (.v 2) (.v 3),.eq 1 (.a (.v 3) (.v 4)) (.a (.v 0) (.n 1))] rfl hend hr (Nat.sub_add_cancel (linLe [_,_] 1 (.v 0) (.a (.v 1) (.n 1)) [.le 1 (.v 0) (.v 1)] rfl hge)))).mp f1
     · intro q' hq'
       by_cases hq:q' < k
       · exact h5 q' hq
       · have e:=f3 (q' - k) (by exact linLt [_,_,_,_] 1 (.v 3) (.v 2) [.lt 1 (.v 0) (.a (.v 1) (.v 2)),.eq 1 (.a (.v 3) (.v 1)) (.v 0)] rfl hq' (Nat.sub_add_cancel (linLe [_,_] 1 (.v 1) (.v 0) [.nlt 1 (.v 0) (.v 1)] rfl hq)))
         have hj':=run (q' - k) (by exact linLe [_,_,_,_,_,_,_,_] 1 (.v 7) (.v 5) [.lt 1 (.v 0) (.v 1),.lt 1 (.v 2) (.a (.v 3) (.v 0)),.le 1 (.v 4) (.a (.v 5) (.v 6)),.eq 1 (.a (.v 7) (.v 3)) (.v 2),.eq 1 (.a (.v 1) (.v 6)) (.a (.v 4) (.n 1))] (by kernel_rfl) hr hq' (le_sub (runEnd m (leaps m h n).fst) ((leaps m h n).fst)) (Nat.sub_add_cancel (linLe [_,_] 1 (.v 1) (.v 0) [.nlt 1 (.v 0) (.v 1)] rfl hq)) (Nat.sub_add_cancel (linLe [_,_] 1 (.v 0) (.a (.v 1) (.n 1)) [.le 1 (.v 0) (.v 1)] rfl hge)))
         rw [show k + (q' - k) = q' by exact Nat.le_antisymm (linLe [_,_,_] 1 (.a (.v 1) (.v 0)) (.v 2) [.eq 1 (.a (.v 0) (.v 1)) (.v 2)] rfl (Nat.sub_add_cancel (linLe [_,_] 1 (.v 1) (.v 0) [.nlt 1 (.v 0) (.v 1)] rfl hq))) (linLe [_,_,_] 1 (.v 0) (.a (.v 2) (.v 1)) [.le 1 (.v 0) (.a (.v 1) (.v 2))] rfl (le_sub q' k))] at hj'
         refine wat hj' ?_
         apply Classical.byContradiction
         intro hno
         rw [(O.isNone (by exact linLe [_,_,_,_,_,_,_,_] 1 (.a (.v 7) (.v 6)) (.v 1) [.le 1 (.v 0) (.v 1),.lt 1 (.v 2) (.v 3),.lt 1 (.v 4) (.a (.v 5) (.v 2)),.eq 1 (.a (.v 6) (.v 5)) (.v 4),.eq 1 (.a (.v 3) (.v 7)) (.a (.v 0) (.n 1))] (by kernel_rfl) hend hr hq' (Nat.sub_add_cancel (linLe [_,_] 1 (.v 1) (.v 0) [.nlt 1 (.v 0) (.v 1)] rfl hq)) (Nat.sub_add_cancel (linLe [_,_] 1 (.v 0) (.a (.v 1) (.n 1)) [.le 1 (.v 0) (.v 1)] rfl hge)))).mpr hno] at e
         simp at e
   | none=>
     have hall:∀ r,r < runEnd m (leaps m h n).1 + 1 - (leaps m h n).1→(leaps m h n).1 + r∈pos:=by
      intro r hr
      have:=List.find?_eq_none.mp hf r (List.mem_range.mpr hr)
      apply Classical.byContradiction
      intro hno
      exact this ((O.isNone (by exact linLe [_,_,_,_,_] 1 (.a (.v 4) (.v 2)) (.v 1) [.le 1 (.v 0) (.v 1),.lt 1 (.v 2) (.v 3),.eq 1 (.a (.v 3) (.v 4)) (.a (.v 0) (.n 1))] rfl hend hr (Nat.sub_add_cancel (linLe [_,_] 1 (.v 0) (.a (.v 1) (.n 1)) [.le 1 (.v 0) (.v 1)] rfl hge)))).mpr hno)
     have hne:n≠N:=fun e=>hN (by have:=hall 0 (by exact linLt [_,_,_] 1 (.n 0) (.v 2) [.le 1 (.v 0) (.v 1),.le 1 (.a (.v 1) (.n 1)) (.a (.v 2) (.v 0))] rfl hge (le_sub (runEnd m (leaps m h n).fst + 1) ((leaps m h n).fst)));refine wat e.symm ?_;simpa using this)
     refine free_spec O h N hN fuel (n + 1) (k + (path m h k).more + 1) (by lia) (by exact linLt [_,_,_] 1 (.v 0) (.a (.a (.v 1) (.n 1)) (.v 2)) [.lt 1 (.v 0) (.a (.v 1) (.a (.v 2) (.n 1)))] rfl h2) (by exact linLe [_,_,_,_] 1 (.a (.a (.v 0) (.v 3)) (.n 1)) (.m 10 (.a (.v 1) (.n 1))) [.le 1 (.v 0) (.m 10 (.v 1)),.le 1 (.v 2) (.n 9),.eq 1 (.v 3) (.v 2)] rfl h3 hmore hmr) ?_ ?_
     · show advM m (path m h (k + (path m h k).more)) = _
       refine wat (path_run m h k _ (Nat.le_refl _)) ?_
       simp only [Nat.sub_self,gt_iff_lt,Nat.lt_irrefl,if_false]
       refine wat h4 ?_;rfl
     · intro q' hq'
       by_cases hq:q' < k
       · exact h5 q' hq
       · have hj':=run (q' - k) (by exact linLe [_,_,_,_,_] 1 (.v 4) (.v 1) [.eq 1 (.v 0) (.v 1),.lt 1 (.v 2) (.a (.a (.v 3) (.v 0)) (.n 1)),.eq 1 (.a (.v 4) (.v 3)) (.v 2)] rfl hmr hq' (Nat.sub_add_cancel (linLe [_,_] 1 (.v 1) (.v 0) [.nlt 1 (.v 0) (.v 1)] rfl hq)))
         rw [show k + (q' - k) = q' by exact Nat.le_antisymm (linLe [_,_,_] 1 (.a (.v 1) (.v 0)) (.v 2) [.eq 1 (.a (.v 0) (.v 1)) (.v 2)] rfl (Nat.sub_add_cancel (linLe [_,_] 1 (.v 1) (.v 0) [.nlt 1 (.v 0) (.v 1)] rfl hq))) (linLe [_,_,_] 1 (.v 0) (.a (.v 2) (.v 1)) [.le 1 (.v 0) (.a (.v 1) (.v 2))] rfl (le_sub q' k))] at hj'
         refine wat hj' ?_
         exact hall _ (by lia)
theorem Owned.step {m:Nat} (hm:m∈masks) {hs:List Int} {owner:Array (Option Nat)} {pos:List Nat} (O:Owned m hs owner pos) {h:Int} (hh:hs[pos.length]? = some h) (room:hs.length≤m):
 ∃ j,layClean.free m owner (turns m) (bits h % (m + 1)) (bits h) = some j∧Owned m hs (owner.setIfInBounds j (some pos.length)) (pos ++ [j]):=by
 have hlt:pos.length < hs.length:=(List.getElem?_eq_some_iff.mp hh).1
 obtain ⟨x,hx,hxp⟩:∃ x,x≤m∧x∉pos:=by
  apply Classical.byContradiction
  intro hno
  have:∀ x∈List.range (m + 1),x∈pos:=fun x hx=>Classical.byContradiction fun q=>hno ⟨x,by simpa [Nat.lt_succ_iff] using hx,q⟩
  have:=length_le_of_subset List.nodup_range this
  simp at this;exact linF [_,_,_] [.le 1 (.v 0) (.v 1),.lt 1 (.v 2) (.v 0),.le 1 (.a (.v 1) (.n 1)) (.v 2)] rfl room hlt this
 refine bc fun nG=>?_
 obtain ⟨N,hN,eN⟩:=leap_cover hm h hx
 refine nG ?_
 obtain ⟨q,q1,q2,q3,q4,q5⟩:=free_spec O h N (by refine wat eN ?_;exact hxp) (turns m) 0 0 (Nat.zero_le _) (by unfold turns;lia) (Nat.zero_le _) rfl (fun _ h=>by exact absurd ‹_› (Nat.not_lt_zero _))
 refine ⟨(path m h q).j,q5,?_⟩
 generalize hJ:(path m h q).j = J at *
 have hJs:J < owner.size:=by refine wat O.size ?_;exact Nat.lt_succ_of_le ‹_›
 refine ⟨by simp [O.size],by simp;exact Nat.succ_le_of_lt ‹_›,?_,?_,?_,?_⟩
 · rw [List.nodup_append];exact ⟨O.nodup,by simp,fun a ha b hb e=>q2 (by simp at hb;rw [← hb,← e];exact ha)⟩
 · intro j hj
   rcases List.mem_append.mp hj with h' | h'
   · exact O.le j h'
   · simp at h';exact linLe [_,_,_] 1 (.v 2) (.v 1) [.le 1 (.v 0) (.v 1),.eq 1 (.v 2) (.v 0)] rfl q3 h'
 · intro j hj k
   refine wat (Array.getElem?_setIfInBounds) ?_
   by_cases e:J = j
   · subst e
     refine wat (if_pos rfl) (wat (if_pos hJs) ?_)
     constructor
     · intro e'
       simp only [Option.some.injEq] at e'
       subst e'
       simp
     · intro e'
       by_cases hk:k < pos.length
       · rw [List.getElem?_append_left hk] at e'
         exact absurd (List.mem_of_getElem? e') q2
       · rw [List.getElem?_append_right (by exact linLe [_,_] 1 (.v 1) (.v 0) [.nlt 1 (.v 0) (.v 1)] rfl hk)] at e'
         have:k - pos.length = 0:=by
          have:=(List.getElem?_eq_some_iff.mp e').1
          simp at this;assumption
         exact wat (show k = pos.length by exact Nat.le_antisymm (linLe [_,_,_] 1 (.v 1) (.v 2) [.eq 1 (.v 0) (.n 0),.le 1 (.v 1) (.a (.v 0) (.v 2))] rfl this (le_sub k pos.length)) (linLe [_,_] 1 (.v 1) (.v 0) [.nlt 1 (.v 0) (.v 1)] rfl hk)) rfl
   · rw [if_neg e,O.owns j hj k]
     constructor
     · intro e';refine wat (List.getElem?_append_left (List.getElem?_eq_some_iff.mp e').1) ?_;exact e'
     · intro e'
       by_cases hk:k < pos.length
       · rwa [List.getElem?_append_left hk] at e'
       · rw [List.getElem?_append_right (by exact linLe [_,_] 1 (.v 1) (.v 0) [.nlt 1 (.v 0) (.v 1)] rfl hk)] at e'
         have h1:=(List.getElem?_eq_some_iff.mp e').1
         have:k - pos.length = 0:=by simp at h1;assumption
         rw [this] at e'
         simp at e';exact absurd e' e
 · intro k h' j e1 e2
   by_cases hk:k < pos.length
   · rw [List.getElem?_append_left hk] at e2
     refine bc fun nG=>?_
     obtain ⟨r,r1,r2,r3⟩:=O.reach k h' j e1 e2
     refine nG ?_
     exact ⟨r,r1,r2,fun q' hq'=>List.mem_append_left _ (r3 q' hq')⟩
   · rw [List.getElem?_append_right (by exact linLe [_,_] 1 (.v 1) (.v 0) [.nlt 1 (.v 0) (.v 1)] rfl hk)] at e2
     have h1:=(List.getElem?_eq_some_iff.mp e2).1
     have hk':k = pos.length:=by simp at h1;exact Nat.le_antisymm (linLe [_,_,_] 1 (.v 1) (.v 2) [.eq 1 (.v 0) (.n 0),.le 1 (.v 1) (.a (.v 0) (.v 2))] rfl h1 (le_sub k pos.length)) (linLe [_,_] 1 (.v 1) (.v 0) [.nlt 1 (.v 0) (.v 1)] rfl hk)
     subst hk'
     rw [hh] at e1
     simp at e1 e2
     subst e1 e2
     exact ⟨q,by unfold turns;exact linLt [_,_,_] 1 (.v 2) (.m 10 (.a (.v 1) (.n 15))) [.le 10 (.v 0) (.a (.v 1) (.n 12)),.lt 1 (.v 2) (.m 10 (.a (.v 0) (.n 1)))] rfl hN q1,hJ,fun q' hq'=>List.mem_append_left _ (q4 q' hq')⟩
theorem layClean_spec {m:Nat} (hm:m∈masks) {hs:List Int} (room:hs.length≤m):(X2 fun owner pos=>A3 (layClean m hs.toArray = some owner) (Owned m hs owner pos) (pos.length = hs.length)):=by
 have gen:∀ (rest:List Int) (owner:Array (Option Nat)) (pos:List Nat),Owned m hs owner pos→hs = hs.take pos.length ++ rest→pos.length≤hs.length→
  (X2 fun owner' pos'=>A3 ((rest.foldl (init:=some (owner,pos.length)) fun acc h=>do
    let (owner,k) ← acc
    let j ← layClean.free m owner (turns m) (bits h % (m + 1)) (bits h)
    pure (owner.setIfInBounds j (some k),k + 1)) = some (owner',pos'.length)) (Owned m hs owner' pos') (pos'.length = hs.length)):=by
  intro rest
  induction rest with
  | nil=>
    intro owner pos O e hl
    refine ⟨owner,pos,rfl,O,?_⟩
    have:=congrArg List.length e
    simp at this;exact Nat.le_antisymm (linLe [_,_] 1 (.v 0) (.v 1) [.le 1 (.v 0) (.v 1)] rfl hl) (linLe [_,_,_] 1 (.v 0) (.v 2) [.eq 1 (.v 0) (.v 1),.le 1 (.v 1) (.v 2)] rfl this (Nat.min_le_left pos.length hs.length))
  | cons h rest ih=>
    intro owner pos O e hl
    have hh:hs[pos.length]? = some h:=by
     refine wat e (wat (List.getElem?_append_right (by simp;exact linLe [_,_] 1 (.v 0) (.v 1) [.le 1 (.v 0) (.v 1)] rfl (Nat.min_le_left pos.length hs.length))) ?_)
     simp [Nat.min_eq_left hl]
    refine bc fun nG=>?_
    obtain ⟨j,hj,O'⟩:=O.step hm hh room
    refine nG ?_
    have hlt:=(List.getElem?_eq_some_iff.mp hh).1
    have e':hs = hs.take (pos ++ [j]).length ++ rest:=by
     have:(pos ++ [j]).length = pos.length + 1:=by simp
     refine wat this (wat List.take_add_one (wat hh ?_))
     simpa using e
    obtain ⟨owner',pos',r1,r2,r3⟩:=ih _ _ O' e' (by simp;exact Nat.succ_le_of_lt ‹_›)
    refine ⟨owner',pos',?_,r2,r3⟩
    show List.foldl _ (Option.bind (some (owner,pos.length)) _) rest = _
    simp only [Option.bind_some]
    refine wat hj ?_
    simp only [List.length_append,List.length_cons,List.length_nil] at r1
    exact r1
 have O0:Owned m hs (Array.replicate (m + 1) none) []:=by
  refine ⟨by simp,by simp,by simp,by simp,fun j hj k=>?_,fun k h j _ e=>by simp at e⟩
  refine wat (Array.getElem?_replicate) ?_
  split<;>simp
 refine bc fun nG=>?_
 obtain ⟨owner,pos,r1,r2,r3⟩:=gen hs _ [] O0 (by simp) (by simp)
 refine nG ?_
 refine ⟨owner,pos,?_,r2,r3⟩
 unfold layClean
 rw [List.foldl_toArray]
 simp only [List.length_nil] at r1
 rw [r1];rfl
open SetTable
theorem filterMap_range_self {α:Type} (l:List α):(List.range l.length).filterMap (l[·]?) = l:=by
 apply List.ext_getElem?
 intro i
 have gen:∀ n,n≤l.length→(List.range n).filterMap (l[·]?) = l.take n:=by
  intro n
  induction n with
  | zero=>intro _;simp
  | succ n ih=>
    intro hn
    have hlt:n < l.length:=by exact Nat.lt_of_succ_le ‹_›
    refine wat List.range_succ (wat List.filterMap_append (wat (ih (by exact Nat.le_of_lt ‹_›)) (wat List.take_add_one ?_)))
    simp [List.getElem?_eq_getElem hlt]
 exact wat (gen _ (Nat.le_refl _)) (wat List.take_length rfl)
theorem filterMap_get {α:Type} {l:List α}:∀ {order:List Nat},(∀ k∈order,k < l.length)→(order.filterMap (l[·]?)).length = order.length∧∀ i:Nat,(order.filterMap (l[·]?))[i]? = (order[i]?).bind (l[·]?)
 | [],_=>⟨rfl,fun i=>by simp⟩
 | k :: order,h=>by
   have hk:=h k List.mem_cons_self
   obtain ⟨h1,h2⟩:=filterMap_get (l:=l) (order:=order) (fun q hq=>h q (List.mem_cons_of_mem _ hq))
   have e:l[k]? = some l[k]:=List.getElem?_eq_getElem hk
   refine ⟨?_,fun i=>?_⟩
   · refine wat List.filterMap_cons (wat e ?_);simp [h1]
   · refine wat List.filterMap_cons (wat e ?_)
     cases i with
     | zero=>simp [e]
     | succ i=>simpa using h2 i
theorem laid_spec {m:Nat} (hm:m∈masks) {hs:List Int} (room:hs.length * 5 < m * 3) (finger moves:Nat) (led plain:Bool):
 (X2 fun t order=>A7 (SetTable.laid m finger moves led plain hs.toArray = some (t,order)) (order.toList.Perm (List.range hs.length)) (t.led = led) (t.plain = plain) (t.mask = m) (t.dummies = #[]) (SInv (order.toList.filterMap (hs[·]?)) t)):=by
 refine bc fun nG=>?_
 obtain ⟨owner,pos,h1,O,hlen⟩:=layClean_spec hm (hs:=hs) (by exact linLe [_,_] 5 (.v 0) (.v 1) [.lt 1 (.r (.v 0) 5) (.r (.v 1) 3)] rfl room)
 refine nG ?_
 generalize hlive:((List.range (m + 1)).filterMap fun j=>(owner.getD j none).map (j,·)) = live
 have hmem:∀ j k,(j,k)∈live↔pos[k]? = some j:=by
  intro j k
  rw [← hlive,List.mem_filterMap]
  constructor
  · rintro ⟨j',hj',e⟩
    have hj'm:j'≤m:=by simpa [Nat.lt_succ_iff] using hj'
    have hlt:j' < owner.size:=by refine wat O.size ?_;exact Nat.lt_succ_of_le ‹_›
    cases e':owner.getD j' none with
    | none=>rw [e'] at e;cases e
    | some k'=>
      rw [e'] at e
      simp only [Option.map_some,Option.some.injEq,Prod.mk.injEq] at e
      obtain ⟨rfl,rfl⟩:=e
      refine (O.owns j' hj'm k').mp ?_
      have:owner.getD j' none = owner[j']:=by simp [Array.getD,hlt]
      exact wat (Array.getElem?_eq_getElem hlt) (wat this.symm (wat e' rfl))
  · intro e
    have hj:j≤m:=O.le j (List.mem_of_getElem? e)
    have hlt:j < owner.size:=by refine wat O.size ?_;exact Nat.lt_succ_of_le ‹_›
    refine ⟨j,by simpa [Nat.lt_succ_iff] using hj,?_⟩
    have e2:=(O.owns j hj k).mpr e
    rw [Array.getElem?_eq_getElem hlt] at e2
    have:owner.getD j none = owner[j]:=by simp [Array.getD,hlt]
    refine wat this (wat (Option.some.inj e2) ?_);rfl
 have hup:(live.map (·.1)).Pairwise (· < ·):=by
  refine wat hlive.symm ?_
  have gen:∀ (l:List Nat),l.Pairwise (· < ·)→((l.filterMap fun j=>(owner.getD j none).map (j,·)).map (·.1)).Pairwise (· < ·):=by
   intro l hl
   have hsub:((l.filterMap fun j=>(owner.getD j none).map (j,·)).map (·.1)).Sublist l:=by
    clear hl
    induction l with
    | nil=>exact .slnil
    | cons j l ih=>
      refine wat List.filterMap_cons ?_
      cases owner.getD j none with
      | none=>exact ih.cons _
      | some k=>exact ih.cons_cons _
   exact hl.sublist hsub
  exact gen _ List.pairwise_lt_range
 have hndk:(live.map (·.2)).Nodup:=by
  have hnd:live.Nodup:=by
   have:=nodup_of_rise hup
   have h2:live.Pairwise fun a b=>a.1≠b.1:=List.pairwise_map.mp this
   exact h2.imp fun h e=>h (by exact wat e rfl)
  have:live.Pairwise fun a b=>a.2≠b.2:=by
   have hp:live.Pairwise fun a b=>a≠b:=hnd
   refine List.Pairwise.imp_of_mem ?_ hp
   intro a b ha hb hne he
   have ea:=(hmem a.1 a.2).mp ha
   have eb:=(hmem b.1 b.2).mp hb
   rw [he,eb] at ea
   exact hne (Prod.ext (Option.some.inj ea).symm he)
  exact List.pairwise_map.mpr this
 have hperm:(live.map (·.2)).Perm (List.range hs.length):=by
  rw [List.perm_ext_iff_of_nodup hndk List.nodup_range]
  intro k
  rw [List.mem_range,List.mem_map]
  constructor
  · rintro ⟨⟨j,k'⟩,hx,rfl⟩
    have:=(List.getElem?_eq_some_iff.mp ((hmem j k').mp hx)).1
    simp only;exact linLt [_,_,_] 1 (.v 2) (.v 1) [.eq 1 (.v 0) (.v 1),.lt 1 (.v 2) (.v 0)] rfl hlen this
  · intro hk
    have hk':k < pos.length:=by exact linLt [_,_,_] 1 (.v 2) (.v 0) [.ge 1 (.v 0) (.v 1),.lt 1 (.v 2) (.v 1)] rfl hlen hk
    exact ⟨(pos[k],k),(hmem _ _).mpr (List.getElem?_eq_getElem hk'),rfl⟩
 refine ⟨{ mask:=m,place:=(live.map (·.1)).toArray,dummies:=#[],finger,led,moves,plain },(live.map (·.2)).toArray,?_,?_,rfl,rfl,rfl,rfl,?_⟩
 · unfold SetTable.laid
   refine wat h1 ?_
   simp only [Option.bind_eq_bind,Option.bind_some,hlive]
   rfl
 · simpa using hperm
 · have hlt:∀ k∈live.map (·.2),k < hs.length:=fun k hk=>by simpa using hperm.subset hk
   obtain ⟨f1,f2⟩:=filterMap_get (l:=hs) hlt
   have hl2:live.length = hs.length:=by simpa using hperm.length_eq
   have ep:((live.map (·.1)).toArray).toList = live.map (·.1):=by simp
   refine ⟨hm,?_,?_,?_,?_,?_,?_,?_,?_⟩
   · simp only [ep];refine wat f1 ?_;simp
   · simp only [ep];exact hup
   · exact List.Pairwise.nil
   · intro j hj
     simp only [ep,List.mem_map] at hj
     refine bc fun nG=>?_
     obtain ⟨⟨j',k⟩,hx,rfl⟩:=hj
     refine nG ?_
     exact O.le _ (List.mem_of_getElem? ((hmem j' k).mp hx))
   · intro j hj;simp at hj
   · intro j _ hj;simp at hj
   · simp only [ep,List.length_map];simp;exact linLt [_,_,_] 1 (.r (.v 2) 5) (.r (.v 1) 3) [.lt 1 (.r (.v 0) 5) (.r (.v 1) 3),.eq 5 (.v 2) (.v 0)] rfl room hl2
   · intro i h j e1 e2
     rw [f2] at e1
     simp only [ep] at e2
     rw [List.getElem?_map] at e1 e2
     cases hq:live[i]? with
     | none=>rw [hq] at e2;cases e2
     | some x=>
       obtain ⟨j',k⟩:=x
       rw [hq] at e1 e2
       simp only [Option.map_some,Option.bind_some,Option.some.injEq] at e1 e2
       subst e2
       refine bc fun nG=>?_
       obtain ⟨q,q1,q2,q3⟩:=O.reach k h j' e1 ((hmem j' k).mp (List.mem_of_getElem? hq))
       refine nG ?_
       refine ⟨q,q1,q2,fun q' hq'=>.inl ?_⟩
       simp only [ep,List.mem_map]
       obtain ⟨k',hk'⟩:=List.mem_iff_getElem?.mp (q3 q' hq')
       exact ⟨(_,k'),(hmem _ _).mpr hk',rfl⟩
noncomputable section
abbrev Pt:=Int×Int
set_option genInjectivity true in
inductive AV where
 | none
 | bool (b:Bool)
 | int (i:Int)
 | str (s:Str)
 | pair (a b:AV)
 | ref (a:Addr)
 deriving DecidableEq
@[reducible] noncomputable def AV.pt (p:Pt):AV:=.pair (.int p.1) (.int p.2)
set_option genInjectivity false
inductive Fld where
 | side | board_points | board | is_empty | colour | points | is_surrounded
 deriving DecidableEq
noncomputable def Fld.name:Fld→Str
 | .side=>Str.ofString "side"
 | .board_points=>Str.ofString "board_points"
 | .board=>Str.ofString "board"
 | .is_empty=>Str.ofString "_is_empty"
 | .colour=>Str.ofString "colour"
 | .points=>Str.ofString "points"
 | .is_surrounded=>Str.ofString "is_surrounded"
inductive AO where
 | list (xs:List AV)
 | rlist (xs:List AV) (g:Obj)
 | dict (es:List (Pt×AV)) (g:Obj)
 | set (xs:List Pt) (g:Obj)
 | inst (C dx:Addr)
 | ns (fs:Fld→Option AV)
abbrev AHeap:=Addr→Option AO
noncomputable def AHeap.set (H:AHeap) (a:Addr) (o:AO):AHeap:=fun b=>if b = a then some o else H b
theorem AHeap.set_self (H:AHeap) (a:Addr) (o:AO):(H.set a o) a = some o:=by simp [AHeap.set]
theorem AHeap.set_ne (H:AHeap) {a b:Addr} (o:AO) (h:b≠a):(H.set a o) b = H b:=by simp [AHeap.set,h]
@[reducible] noncomputable def tup2 (x y:Value):Obj:={ cls:=.type "tuple",data:=.seq #[x,y] }
@[reducible] noncomputable def listO (vs:List Value) (n:Nat):Obj:={ cls:=.type "list",data:=.seq vs.toArray n }
noncomputable def AO.tag:AO→Nat
 | .list .. =>0 | .rlist .. =>1 | .dict .. =>2 | .set .. =>3 | .inst .. =>4 | .ns .. =>5
theorem clash {o o':AO} (h:some o = some o') (ht:(o.tag == o'.tag) = false) {p:Prop}:p:=by
 cases h
 rw [beq_self_eq_true] at ht
 exact Bool.noConfusion ht
theorem no1 {α:Type} {x:α} (h:(none:Option α) = some x) {p:Prop}:p:=by cases h
theorem no2 {α:Type} {x:α} (h:some x = (none:Option α)) {p:Prop}:p:=by cases h
theorem nob {p:Prop} (h:false = true):p:=Bool.noConfusion h
theorem nob' {p:Prop} (h:true = false):p:=Bool.noConfusion h
inductive RV (h:Heap) (H:AHeap):AV→Value→Prop where
 | none:RV h H .none .none
 | bool {b}:RV h H (.bool b) (.bool b)
 | int {i t}:RV h H (.int i) (.int i t)
 | str {s t}:RV h H (.str s) (.str s t)
 | pair {a b:AV} {p:Addr} {x y:Value}:h.get? p = some (tup2 x y)→H p = none→RV h H a x→RV h H b y→RV h H (.pair a b) (.ref p)
 | ref {a}:RV h H (.ref a) (.ref a)
structure Ext (own:Addr→Prop) (h:Heap) (H:AHeap) (h':Heap) (H':AHeap):Prop where
 free:∀ b o,h.get? b = some o→H b = none→¬ own b→H' b = none
 keep:∀ b o,h.get? b = some o→H b = none→¬ own b→(∀ es n,o.data≠.dict es n)→h'.get? b = some o
 slots:∀ b o,h.get? b = some o→H b = none→¬ own b→∃ sl,h'.get? b = some { o with slots:=sl }
 live:∀ b o,h.get? b = some o→¬ own b→∃ o',h'.get? b = some o'
abbrev nobody:Addr→Prop:=fun _=>False
abbrev ExtE:=Ext nobody
theorem Ext.refl (own h H):Ext own h H h H:=⟨fun _ _ _ e _=>e,fun _ _ e _ _ _=>e,fun _ o e _ _=>⟨o.slots,e⟩,fun _ o e _=>⟨o,e⟩⟩
theorem Ext.trans {own h H h₁ H₁ h₂ H₂} (x:Ext own h H h₁ H₁) (y:Ext own h₁ H₁ h₂ H₂):Ext own h H h₂ H₂:=by
 refine ⟨fun b o e n no=>?_,fun b o e n no f=>?_,fun b o e n no=>?_,fun b o e no=>?_⟩
 · obtain ⟨o',e'⟩:=x.live b o e no
   exact y.free b o' e' (x.free b o e n no) no
 · exact y.keep b o (x.keep b o e n no f) (x.free b o e n no) no f
 · obtain ⟨sl,e'⟩:=x.slots b o e n no
   obtain ⟨sl',e''⟩:=y.slots b _ e' (x.free b o e n no) no
   exact ⟨sl',e''⟩
 · obtain ⟨o',e'⟩:=x.live b o e no
   exact y.live b o' e' no
theorem ExtE.own {own h H h' H'} (x:ExtE h H h' H'):Ext own h H h' H':=⟨fun b o e n _=>x.free b o e n id,fun b o e n _=>x.keep b o e n id,fun b o e n _=>x.slots b o e n id,fun b o e _=>x.live b o e id⟩
noncomputable def OwnOk (own:Addr→Prop) (h:Heap):Prop:=∀ b o,own b→h.get? b = some o→∀ x y,o≠tup2 x y
theorem RV.ext {own h H h' H'} (x:Ext own h H h' H') (ok:OwnOk own h) {a:AV} {v:Value} (r:RV h H a v):RV h' H' a v:=by
 induction r with
 | none=>exact .none
 | bool=>exact .bool
 | int=>exact .int
 | str=>exact .str
 | pair e n _ _ ih1 ih2=>exact .pair (x.keep _ _ e n (fun o=>ok _ _ o e _ _ rfl) (fun _ _ q=>nomatch q)) (x.free _ _ e n (fun o=>ok _ _ o e _ _ rfl)) ih1 ih2
 | ref=>exact .ref
theorem OwnOk.nobody {h}:OwnOk nobody h:=fun _ _ f=>f.elim
theorem RV.extE {h H h' H'} (x:ExtE h H h' H') {a:AV} {v:Value} (r:RV h H a v):RV h' H' a v:=r.ext x .nobody
inductive RVs (h:Heap) (H:AHeap):List AV→List Value→Prop where
 | nil:RVs h H [] []
 | cons {a v as vs}:RV h H a v→RVs h H as vs→RVs h H (a :: as) (v :: vs)
theorem RVs.ext {own h H h' H'} (x:Ext own h H h' H') (ok:OwnOk own h) {as:List AV} {vs:List Value} (r:RVs h H as vs):RVs h' H' as vs:=by
 induction r with
 | nil=>exact .nil
 | cons r _ ih=>exact .cons (r.ext x ok) ih
theorem RVs.extE {h H h' H'} (x:ExtE h H h' H') {as:List AV} {vs:List Value} (r:RVs h H as vs):RVs h' H' as vs:=r.ext x .nobody
theorem RV.vnone {h H v} (r:RV h H .none v):v = .none:=by cases r;rfl
theorem RV.vbool {h H v b} (r:RV h H (.bool b) v):v = .bool b:=by cases r;rfl
theorem RV.vint {h H v i} (r:RV h H (.int i) v):∃ t,v = .int i t:=by cases r;exact ⟨_,rfl⟩
theorem RV.vstr {h H v s} (r:RV h H (.str s) v):∃ t,v = .str s t:=by cases r;exact ⟨_,rfl⟩
theorem RV.vref {h H v a} (r:RV h H (.ref a) v):v = .ref a:=by cases r;rfl
theorem RV.vpair {h H v a b} (r:RV h H (.pair a b) v):X3 fun p x y=>A5 (v = .ref p) (h.get? p = some (tup2 x y)) (H p = Option.none) (RV h H a x) (RV h H b y):=by cases r with | pair e n r1 r2=>exact ⟨_,_,_,rfl,e,n,r1,r2⟩
theorem RVs.vnil {h H vs} (r:RVs h H [] vs):vs = []:=by cases r;rfl
theorem RVs.vcons {h H a as vs} (r:RVs h H (a :: as) vs):X2 fun v ws=>A3 (vs = v :: ws) (RV h H a v) (RVs h H as ws):=by cases r with | cons r rs=>exact ⟨_,_,rfl,r,rs⟩
theorem RVs.length {h H as vs} (r:RVs h H as vs):as.length = vs.length:=by
 induction r with
 | nil=>rfl
 | cons _ _ ih=>simp [ih]
theorem RVs.get {h H as vs} (r:RVs h H as vs):∀ {i:Nat} {a:AV},as[i]? = some a→∃ v,vs[i]? = some v∧RV h H a v:=by
 induction r with
 | nil=>intro i a e;simp at e
 | cons r _ ih=>
   intro i a e
   cases i with
   | zero=>simp at e;subst e;exact ⟨_,rfl,r⟩
   | succ i=>simpa using ih (i:=i) (by simpa using e)
theorem RVs.append {h H as vs bs ws} (r:RVs h H as vs) (q:RVs h H bs ws):RVs h H (as ++ bs) (vs ++ ws):=by
 induction r with
 | nil=>exact q
 | cons r _ ih=>exact .cons r ih
theorem RVs.set {h H as vs} (r:RVs h H as vs) {a v} (q:RV h H a v) (i:Nat):RVs h H (as.set i a) (vs.set i v):=by
 induction r generalizing i with
 | nil=>exact .nil
 | cons r rs ih=>
   cases i with
   | zero=>exact .cons q rs
   | succ i=>exact .cons r (ih i)
noncomputable def ptHash (p:Pt):Int:=reduceHash (Builtin.Tuple.tupleHashOf [hashInt p.1,hashInt p.2])
noncomputable def ptEntry (x:Pt×Addr×Value):DictEntry:=⟨ptHash x.1,.ref x.2.1,x.2.2⟩
@[reducible] noncomputable def dictO (xs:List (Pt×Addr×Value)) (n:Nat):Obj:={ cls:=.type "dict",data:=.dict (xs.map ptEntry).toArray n }
@[reducible] noncomputable def setO (es:List (Int×Value)) (n:Nat) (t:SetTable):Obj:={ cls:=.type "set",data:=.set es.toArray n t }
inductive RD (h:Heap) (H:AHeap):List (Pt×AV)→List (Pt×Addr×Value)→Prop where
 | nil:RD h H [] []
 | cons {p:Pt} {a:Addr} {u:AV} {v:Value} {es xs}:RV h H (.pt p) (.ref a)→RV h H u v→RD h H es xs→RD h H ((p,u) :: es) ((p,a,v) :: xs)
theorem RD.ext {own h H h' H'} (x:Ext own h H h' H') (ok:OwnOk own h) {es xs} (r:RD h H es xs):RD h' H' es xs:=by
 induction r with
 | nil=>exact .nil
 | cons r q _ ih=>exact .cons (r.ext x ok) (q.ext x ok) ih
inductive RS (h:Heap) (H:AHeap):List Pt→List (Int×Value)→Prop where
 | nil:RS h H [] []
 | cons {p:Pt} {v:Value} {ps es}:RV h H (.pt p) v→RS h H ps es→RS h H (p :: ps) ((ptHash p,v) :: es)
theorem RS.ext {own h H h' H'} (x:Ext own h H h' H') (ok:OwnOk own h) {es xs} (r:RS h H es xs):RS h' H' es xs:=by
 induction r with
 | nil=>exact .nil
 | cons r _ ih=>exact .cons (r.ext x ok) ih
theorem RS.hashes {h H ps es} (r:RS h H ps es):es.map (·.1) = ps.map ptHash:=by
 induction r with
 | nil=>rfl
 | cons _ _ ih=>simp [ih]
noncomputable def one (b:Bool):Nat:=if b then 1 else 0
noncomputable def cnt (fs:Fld→Option AV):Nat:=one (fs .side).isSome + one (fs .board_points).isSome + one (fs .board).isSome + one (fs .is_empty).isSome + one (fs .colour).isSome + one (fs .points).isSome + one (fs .is_surrounded).isSome
theorem one_le (b:Bool):one b≤1:=by cases b<;>decide
theorem cnt_le (fs:Fld→Option AV):cnt fs≤7:=by
 unfold cnt
 have:=one_le (fs .side).isSome;have:=one_le (fs .board_points).isSome;have:=one_le (fs .board).isSome;have:=one_le (fs .is_empty).isSome
 have:=one_le (fs .colour).isSome;have:=one_le (fs .points).isSome;have:=one_le (fs .is_surrounded).isSome
 lia
noncomputable def RN (h:Heap) (H:AHeap) (fs:Fld→Option AV) (es:List DictEntry):Prop:=
 StrKeys es.toArray∧(∀ f:Fld,match fs f with
  | some u=>∃ v,nsFind es.toArray f.name = some v∧RV h H u v
  | none=>nsFind es.toArray f.name = none)∧(∀ name:Str,(∀ f:Fld,f.name≠name)→nsFind es.toArray name = none)∧es.length≤cnt fs
theorem RN.ext {own h H h' H'} (x:Ext own h H h' H') (ok:OwnOk own h) {fs es} (r:RN h H fs es):RN h' H' fs es:=by
 refine ⟨r.1,fun f=>?_,r.2.2⟩
 have:=r.2.1 f
 cases hq:fs f with
 | none=>rw [hq] at this;exact this
 | some u=>rw [hq] at this;obtain ⟨v,hv,q⟩:=this;exact ⟨v,hv,q.ext x ok⟩
noncomputable def boardC:Addr:=154
noncomputable def groupC:Addr:=60
noncomputable def RO (byText:Bool) (h:Heap) (H:AHeap) (a:Addr):AO→Prop
 | .list xs=>(X2 fun vs n=>h.get? a = some (listO vs n)∧RVs h H xs vs)
 | .rlist xs g=>(X2 fun vs n=>h.get? a = some (listO vs n)∧g = listO vs n∧RVs h H xs vs)
 | .dict es g=>(X2 fun xs n=>h.get? a = some (dictO xs n)∧g = dictO xs n∧RD h H es xs∧(es.map (·.1)).Nodup)
 | .set S g=>(X4 fun es n t ps=>h.get? a = some (setO es n t)∧g = setO es n t∧RS h H ps es∧ps.Perm S∧S.Nodup∧SInv (ps.map ptHash) t∧t.plain = true∧(byText = false→t.led = true))
 | .inst C dx=>(C = boardC∨C = groupC)∧∃ sl,h.get? a = some ⟨.ref C,some dx,.plain,sl⟩
 | .ns fs=>(X2 fun es n=>h.get? a = some (W.dictOf es n)∧RN h H fs es)
theorem RO.ext {byText:Bool} {own h H h' H'} (x:Ext own h H h' H') (ok:OwnOk own h) {a:Addr} {o:AO} (same:h'.get? a = h.get? a) (r:RO byText h H a o):RO byText h' H' a o:=by
 cases o with
 | list xs=>obtain ⟨vs,n,e,r⟩:=r;exact ⟨vs,n,same.trans e,r.ext x ok⟩
 | rlist xs g=>obtain ⟨vs,n,e,eg,r⟩:=r;exact ⟨vs,n,same.trans e,eg,r.ext x ok⟩
 | dict es g=>obtain ⟨xs,n,e,eg,r,q⟩:=r;exact ⟨xs,n,same.trans e,eg,r.ext x ok,q⟩
 | set S g=>obtain ⟨es,n,t,ps,e,eg,r,q⟩:=r;exact ⟨es,n,t,ps,same.trans e,eg,r.ext x ok,q⟩
 | inst C dx=>obtain ⟨hC,sl,e⟩:=r;exact ⟨hC,sl,same.trans e⟩
 | ns fs=>obtain ⟨es,n,e,r⟩:=r;exact ⟨es,n,same.trans e,r.ext x ok⟩
theorem RO.live {byText:Bool} {h H} {a:Addr} {o:AO} (r:RO byText h H a o):∃ ob,h.get? a = some ob:=by
 cases o with
 | list xs=>obtain ⟨vs,n,e,_⟩:=r;exact ⟨_,e⟩
 | rlist xs g=>obtain ⟨vs,n,e,_⟩:=r;exact ⟨_,e⟩
 | dict es g=>obtain ⟨xs,n,e,_⟩:=r;exact ⟨_,e⟩
 | set S g=>obtain ⟨es,n,t,ps,e,_⟩:=r;exact ⟨_,e⟩
 | inst C dx=>obtain ⟨_,sl,e⟩:=r;exact ⟨_,e⟩
 | ns fs=>obtain ⟨es,n,e,_⟩:=r;exact ⟨_,e⟩
structure Inv (byText:Bool) (B:Heap) (os₀:OsState) (s:Shared) (H:AHeap):Prop where
 base:∀ b o,B.get? b = some o→s.heap.get? b = some o∧H b = none
 rep:∀ a o,H a = some o→RO byText s.heap H a o
 gens:s.gens = #[]
 os:s.os = os₀
theorem Inv.fresh {byText B os₀ s H} (I:Inv byText B os₀ s H) {a:Addr} (h:s.heap.get? a = none):H a = none:=by
 cases e:H a with
 | none=>rfl
 | some o=>obtain ⟨ob,q⟩:=(I.rep a o e).live;rw [q] at h;cases h
theorem get?_size (h:Heap):h.get? h.objs.size = none:=by
 cases e:h.get? h.objs.size with
 | none=>rfl
 | some o=>exact absurd (Heap.lt_size e) (Nat.lt_irrefl _)
theorem Inv.freshSize {byText B os₀ s H} (I:Inv byText B os₀ s H):H s.heap.objs.size = none:=I.fresh (get?_size _)
theorem ExtE.add {h:Heap} {H:AHeap} {h':Heap} (a:Addr) (o:AO) (hn:h.get? a = none) (keep:∀ b ob,h.get? b = some ob→h'.get? b = some ob):ExtE h H h' (H.set a o):=
 ⟨fun b ob e n _=>by
   by_cases q:b = a
   · subst q;rw [hn] at e;cases e
   · refine wat (AHeap.set_ne _ _ q) ?_;exact n,
   fun b ob e _ _ _=>keep b ob e,fun b ob e _ _=>⟨ob.slots,keep b ob e⟩,fun b ob e _=>⟨ob,keep b ob e⟩⟩
theorem ExtE.grow {h:Heap} {H:AHeap} {h':Heap} (keep:∀ b ob,h.get? b = some ob→h'.get? b = some ob):ExtE h H h' H:=
 ⟨fun _ _ _ n _=>n,fun b ob e _ _ _=>keep b ob e,fun b ob e _ _=>⟨ob.slots,keep b ob e⟩,fun b ob e _=>⟨ob,keep b ob e⟩⟩
theorem ExtE.put {h:Heap} {H:AHeap} {h':Heap} {a:Addr} {o₀:AO} (o:AO) (hH:H a = some o₀) (sb:Heap.SameBut a h h') (hl:∃ ob,h'.get? a = some ob):ExtE h H h' (H.set a o):=by
 refine ⟨fun b ob e n _=>?_,fun b ob e n _ _=>?_,fun b ob e n _=>?_,fun b ob e _=>?_⟩
 · have q:b≠a:=fun q=>by subst q;rw [hH] at n;cases n
   refine wat (AHeap.set_ne _ _ q) ?_;exact n
 · have q:b≠a:=fun q=>by subst q;rw [hH] at n;cases n
   exact (sb.2 b q).trans e
 · have q:b≠a:=fun q=>by subst q;rw [hH] at n;cases n
   exact ⟨ob.slots,(sb.2 b q).trans e⟩
 · by_cases q:b = a
   · subst q;exact hl
   · exact ⟨ob,(sb.2 b q).trans e⟩
theorem Inv.add {byText B os₀ s H} (I:Inv byText B os₀ s H) {s':Shared} {a:Addr} {o:AO} (hn:s.heap.get? a = none) (keep:∀ b ob,s.heap.get? b = some ob→s'.heap.get? b = some ob)
 (r:RO byText s'.heap (H.set a o) a o) (hg:s'.gens = s.gens) (ho:s'.os = s.os):Inv byText B os₀ s' (H.set a o):=by
 have x:=ExtE.add (H:=H) a o hn keep
 refine ⟨fun b ob e=>?_,fun b ob e=>?_,hg.trans I.gens,ho.trans I.os⟩
 · have e1:=(I.base b ob e).1
   exact ⟨keep b ob e1,x.free b ob e1 (I.base b ob e).2 id⟩
 · by_cases q:b = a
   · subst q;rw [AHeap.set_self] at e;cases e;exact r
   · rw [AHeap.set_ne _ _ q] at e
     obtain ⟨ob',q'⟩:=(I.rep b ob e).live
     exact (I.rep b ob e).ext x .nobody ((keep b ob' q').trans q'.symm)
theorem Inv.grow {byText B os₀ s H} (I:Inv byText B os₀ s H) {s':Shared} (keep:∀ b ob,s.heap.get? b = some ob→s'.heap.get? b = some ob) (hg:s'.gens = s.gens) (ho:s'.os = s.os):
 Inv byText B os₀ s' H:=by
 refine ⟨fun b ob e=>⟨keep b ob (I.base b ob e).1,(I.base b ob e).2⟩,fun b ob e=>?_,hg.trans I.gens,ho.trans I.os⟩
 obtain ⟨ob',q'⟩:=(I.rep b ob e).live
 exact (I.rep b ob e).ext (ExtE.grow keep) .nobody ((keep b ob' q').trans q'.symm)
theorem Inv.put {byText B os₀ s H} (I:Inv byText B os₀ s H) {s':Shared} {a:Addr} {o₀ o:AO} (hH:H a = some o₀) (sb:Heap.SameBut a s.heap s'.heap)
 (r:RO byText s'.heap (H.set a o) a o) (hg:s'.gens = s.gens) (ho:s'.os = s.os):Inv byText B os₀ s' (H.set a o):=by
 have x:=ExtE.put (H:=H) o hH sb r.live
 refine ⟨fun b ob e=>?_,fun b ob e=>?_,hg.trans I.gens,ho.trans I.os⟩
 · have e1:=I.base b ob e
   have q:b≠a:=fun q=>by subst q;rw [hH] at e1;cases e1.2
   exact ⟨(sb.2 b q).trans e1.1,x.free b ob e1.1 e1.2 id⟩
 · by_cases q:b = a
   · subst q;rw [AHeap.set_self] at e;cases e;exact r
   · rw [AHeap.set_ne _ _ q] at e
     exact (I.rep b ob e).ext x .nobody (sb.2 b q)
theorem Inv.toks {byText B os₀ s H} (I:Inv byText B os₀ s H) (t:Nat):Inv byText B os₀ { s with toks:=t } H:=⟨I.base,I.rep,I.gens,I.os⟩
end
set_option genInjectivity false
noncomputable section
inductive Fn where
 | opponent_of | format_vertex | format_vertex_list | move_from_vertex
 | init | make_group | find_surrounded | find_all | is_empty | play | apply_setup | occupied
 | near | breathing | only | moved | rows | stones | ofColour | order | read | tryPlay
 deriving DecidableEq
inductive Bi where
 | len | set | list | str | int | ord
 deriving DecidableEq
inductive Bm where
 | append | insert | add | spop | update | get | dpop | lower | split
 deriving DecidableEq
set_option genCtorIdx false
mutual
inductive E where
 | var (i:Nat)
 | none
 | bool (b:Bool)
 | int (i:Int)
 | str (s:Str)
 | gstr (s:Str)
 | opp (e:E)
 | pair (a b:E)
 | list (es:EL)
 | dict0
 | bin (op:Operator) (a b:E)
 | cmp (a:E) (op:CmpOp) (b:E)
 | andv (a b:E)
 | notv (a:E)
 | ite (t:T) (a b:E)
 | call (f:Fn) (args:EL)
 | meth (f:Fn) (o:E) (args:EL)
 | newBoard (e:E)
 | newGroup
 | bi (b:Bi) (args:EL)
 | bm (b:Bm) (o:E) (args:EL)
 | joinmap (e:E)
 | attr (o:E) (f:Fld)
 | sub (o i:E)
 | sliceTo (o hi:E)
 | sliceFrom (o lo:E)
 | slice (o lo hi:E)
 | comp (elt:E) (it:I) (cond:T) (caps:List Nat)
 | comp2 (elt:E) (i₁ i₂:I) (caps:List Nat)
inductive EL where
 | nil
 | cons (e:E) (es:EL)
inductive T where
 | tt
 | e (e:E)
 | not (t:T)
 | and (ts:TL)
 | or (ts:TL)
 | cmp (a:E) (op:CmpOp) (b:E)
 | chain (a:E) (o₁:CmpOp) (b:E) (o₂:CmpOp) (c:E)
inductive TL where
 | nil
 | cons (t:T) (ts:TL)
inductive I where
 | e (e:E)
 | range (e:E)
 | range3 (a b c:E)
 | enum (e:E)
end
inductive Tgt where
 | one (i:Nat)
 | two (i j:Nat)
mutual
inductive S where
 | asg (i:Nat) (e:E)
 | asgN (is:List Nat) (e:E)
 | sattr (o:E) (f:Fld) (e:E)
 | sitem (o k e:E)
 | ex (e:E)
 | ite (t:T) (a b:SL)
 | loop (tg:Tgt) (it:I) (body:SL)
 | while (t:T) (body:SL)
 | ret (e:E)
 | brk
 | cont
 | raiseVE
 | dead
 | try (body:SL)
 | tryVE (e:E) (z:Str)
inductive SL where
 | nil
 | cons (s:S) (r:SL)
end
inductive AF where
 | next | brk | cont
 | ret (v:AV)
noncomputable def AV.plainN:Nat→AV→Bool
 | _,.none | _,.int _=>true
 | _,.str s=>PyData.strOk s
 | n + 1,.pair a b=>a.plainN n && b.plainN n
 | _,_=>false
@[reducible] noncomputable def AV.plain (a:AV):Bool:=a.plainN 3
inductive TruthR (H:AHeap):AV→Bool→Prop
 | none:TruthR H .none false
 | bool (b:Bool):TruthR H (.bool b) b
 | int (i:Int):TruthR H (.int i) (i != 0)
 | str {z:Str}:z.length≤1000→TruthR H (.str z) (z.length != 0)
 | list {a:Addr} {xs:List AV}:H a = some (.list xs)→xs.length≤1000→TruthR H (.ref a) (!xs.isEmpty)
 | set {a:Addr} {S:List Pt} {g:Obj}:H a = some (.set S g)→TruthR H (.ref a) (!S.isEmpty)
noncomputable def strAt (s:Str) (k:Nat):Str:=⟨#[s.cps.getD k 0]⟩
section
variable (H:AHeap) (Q:AV→AHeap→Prop)
noncomputable def NewR (o:AO):Prop:=∀ a,H a = none→Q (.ref a) (H.set a o)
noncomputable def ListAt (a:Addr) (xs:List AV):Prop:=H a = some (.list xs)∨∃ g,H a = some (.rlist xs g)
inductive BinR:Operator→AV→AV→Prop
 | addI {a b:Int}:Q (.int (a + b)) H→BinR .Add (.int a) (.int b)
 | subI {a b:Int}:Q (.int (a - b)) H→BinR .Sub (.int a) (.int b)
 | mulI {a b:Int}:Builtin.Int.intBits b≤64→Q (.int (a * b)) H→BinR .Mult (.int a) (.int b)
 | divI {a b:Int}:0 < b→b < 2 ^ 32→Q (.int (a / b)) H→BinR .FloorDiv (.int a) (.int b)
 | modI {a b:Int}:0 < b→b < 2 ^ 32→Q (.int (a % b)) H→BinR .Mod (.int a) (.int b)
 | addS {a b:Str}:a.length≤100→b.length≤100→Q (.str (a ++ b)) H→BinR .Add (.str a) (.str b)
 | addL {a b:Addr} {xs ys:List AV}:ListAt H a xs→H b = some (.list ys)→xs.length + ys.length≤1000→NewR H Q (.list (xs ++ ys))→BinR .Add (.ref a) (.ref b)
 | mulL {a:Addr} {x:AV} {n:Int}:H a = some (.list [x])→0≤n→n≤100→NewR H Q (.list (List.replicate n.toNat x))→BinR .Mult (.ref a) (.int n)
noncomputable def dictEq (es fs:List (Pt×AV)):Bool:=es.length == fs.length && es.all fun e=>fs.lookup e.1 == some e.2
inductive EqR:AV→AV→Bool→Prop
 | bool (a b:Bool):EqR (.bool a) (.bool b) (a == b)
 | list {a b:Addr} {xs ys:List AV}:H a = some (.list xs)→H b = some (.list ys)→xs.all AV.plain = true→ys.all AV.plain = true→EqR (.ref a) (.ref b) (decide (xs = ys))
 | dict {a b:Addr} {es fs:List (Pt×AV)} {g g':Obj}:H a = some (.dict es g)→H b = some (.dict fs g')→es.all (fun e=>e.2.plain) = true→fs.all (fun e=>e.2.plain) = true→EqR (.ref a) (.ref b) (dictEq es fs)
 | plain {a b:AV}:a.plain = true→b.plain = true→EqR a b (decide (a = b))
inductive InR:AV→AV→Bool→Prop
 | list {x:AV} {b:Addr} {ys:List AV}:H b = some (.list ys)→x.plain = true→ys.all AV.plain = true→InR x (.ref b) (decide (x∈ys))
 | dict {r c:Int} {b:Addr} {es:List (Pt×AV)} {g:Obj}:H b = some (.dict es g)→InR (.pair (.int r) (.int c)) (.ref b) (es.lookup (r,c)).isSome
 | set {r c:Int} {b:Addr} {S:List Pt} {g:Obj}:H b = some (.set S g)→InR (.pair (.int r) (.int c)) (.ref b) (decide ((r,c)∈S))
inductive CmpR:CmpOp→AV→AV→Bool→Prop
 | is (a:AV):CmpR .Is a .none (decide (a = .none))
 | isNot (a:AV):CmpR .IsNot a .none (!decide (a = .none))
 | in {a b:AV} {r:Bool}:InR H a b r→CmpR .In a b r
 | notIn {a b:AV} {r:Bool}:InR H a b r→CmpR .NotIn a b (!r)
 | eq {a b:AV} {r:Bool}:EqR H a b r→CmpR .Eq a b r
 | ne {a b:AV} {r:Bool}:EqR H a b r→CmpR .NotEq a b (!r)
 | ltI (a b:Int):CmpR .Lt (.int a) (.int b) (decide (a < b))
 | leI (a b:Int):CmpR .LtE (.int a) (.int b) (decide (a≤b))
 | gtI (a b:Int):CmpR .Gt (.int a) (.int b) (decide (a > b))
 | geI (a b:Int):CmpR .GtE (.int a) (.int b) (decide (a ≥ b))
 | leS {a b:Str} {x y:Nat}:a.cps.toList = [x]→b.cps.toList = [y]→CmpR .LtE (.str a) (.str b) (decide (x≤y))
 | gtS {a b:Str} {x y:Nat}:a.cps.toList = [x]→b.cps.toList = [y]→CmpR .Gt (.str a) (.str b) (decide (x > y))
inductive SubR:AV→AV→AV→Prop
 | list {a:Addr} {xs:List AV} {k:Int} {u:AV}:H a = some (.list xs)→0≤k→k≤1000→xs[k.toNat]? = some u→SubR (.ref a) (.int k) u
 | dict {a:Addr} {es:List (Pt×AV)} {g:Obj} {r c:Int} {u:AV}:H a = some (.dict es g)→es.lookup (r,c) = some u→SubR (.ref a) (.pair (.int r) (.int c)) u
 | fst (x y:AV):SubR (.pair x y) (.int 0) x
 | snd (x y:AV):SubR (.pair x y) (.int 1) y
 | str {z:Str} {k:Int}:0≤k→k≤1000→k < z.length→SubR (.str z) (.int k) (.str (strAt z k.toNat))
noncomputable def cut (xs:List AV) (lo:Int) (hi:Option Int):List AV:=(match hi with | some n=>xs.take n.toNat | none=>xs).drop lo.toNat
inductive SliceR:AV→Int→Option Int→Prop
 | list {a:Addr} {xs:List AV} {lo:Int} {hi:Option Int}:0≤lo→lo≤1000→0≤hi.getD 0→ListAt H a xs→xs.length≤1000→NewR H Q (.list (cut xs lo hi))→SliceR (.ref a) lo hi
 | str {z:Str} {lo:Int}:0≤lo→z.length≤100→Q (.str ⟨(z.cps.toList.drop lo.toNat).toArray⟩) H→SliceR (.str z) lo none
inductive BiR:Bi→List AV→Prop
 | lenL {a:Addr} {xs:List AV}:H a = some (.list xs)→xs.length≤1000→Q (.int xs.length) H→BiR .len [.ref a]
 | lenS {a:Addr} {S:List Pt} {g:Obj}:H a = some (.set S g)→Q (.int S.length) H→BiR .len [.ref a]
 | set:(∀ a g,H a = none→Q (.ref a) (H.set a (.set [] g)))→BiR .set []
 | list {a:Addr} {xs:List AV}:H a = some (.list xs)→xs.length≤1000→NewR H Q (.list xs)→BiR .list [.ref a]
 | str {i:Int}:0≤i→i < 100→Q (.str (Str.ofString (toString i))) H→BiR .str [.int i]
 | int {z:Str} {c:Nat}:z.cps.toList = [c]→48≤c→c≤57→Q (.int (c - 48:Nat)) H→BiR .int [.str z]
 | ord {z:Str} {c:Nat}:z.cps.toList = [c]→Q (.int c) H→BiR .ord [.str z]
inductive BmR:Bm→AV→List AV→Prop
 | append {a:Addr} {xs:List AV} {x:AV}:H a = some (.list xs)→xs.length≤1000→Q .none (H.set a (.list (xs ++ [x])))→BmR .append (.ref a) [x]
 | insert {a:Addr} {xs:List AV} {k:Int} {x:AV}:H a = some (.list xs)→0≤k→k≤xs.length→xs.length≤1000→Q .none (H.set a (.list (xs.take k.toNat ++ x :: xs.drop k.toNat)))→BmR .insert (.ref a) [.int k,x]
 | addIn {a:Addr} {S:List Pt} {g:Obj} {r c:Int}:H a = some (.set S g)→(r,c)∈S→Q .none H→BmR .add (.ref a) [.pair (.int r) (.int c)]
 | add {a:Addr} {S:List Pt} {g:Obj} {r c:Int}:H a = some (.set S g)→(r,c)∉S→S.length≤15→(∀ g',Q .none (H.set a (.set (S ++ [(r,c)]) g')))→BmR .add (.ref a) [.pair (.int r) (.int c)]
 | spop {a:Addr} {S:List Pt} {g:Obj}:H a = some (.set S g)→S≠[]→(∀ p∈S,∀ g',Q (.pt p) (H.set a (.set (S.erase p) g')))→BmR .spop (.ref a) []
 | update {a b:Addr} {S U:List Pt} {g g':Obj}:H a = some (.set S g)→H b = some (.set U g')→a≠b→S.length + (U.filter (· ∉S)).length≤16→(∀ g',Q .none (H.set a (.set (S ++ U.filter (· ∉S)) g')))→BmR .update (.ref a) [.ref b]
 | get {a:Addr} {es:List (Pt×AV)} {g:Obj} {r c:Int}:H a = some (.dict es g)→Q ((es.lookup (r,c)).getD .none) H→BmR .get (.ref a) [.pair (.int r) (.int c)]
 | dpop {a:Addr} {es:List (Pt×AV)} {g:Obj} {r c:Int} {v:AV}:H a = some (.dict es g)→es.lookup (r,c) = some v→es.length≤1000→(∀ g',Q v (H.set a (.dict (es.filter fun e=>e.1≠(r,c)) g')))→BmR .dpop (.ref a) [.pair (.int r) (.int c)]
 | lower {z:Str}:z.length≤100→z.cps.all (· < 128) = true→Q (.str ⟨z.cps.map fun c=>if 65≤c∧c≤90 then c + 32 else c⟩) H→BmR .lower (.str z) []
 | split {z d:Str}:z.length≤1000→d.length = 1→(Txt.split z d).length≤1000→NewR H Q (.list ((Txt.split z d).map .str))→BmR .split (.str z) [.str d]
end
set_option genCtorIdx true
inductive It where
 | list (a:Addr) (i:Nat)
 | ints (xs:List Int)
 | enum (a:Addr) (i:Nat)
 | dict (a:Addr) (es:List (Pt×AV)) (g:Obj) (i:Nat)
 | set (a:Addr) (S:List Pt) (g:Obj) (rest:List Pt)
set_option genCtorIdx true
noncomputable def AO.asList:AO→Option (List AV):=fun o=>match o with
 | .list xs=>some xs
 | _=>none
open Classical in
noncomputable def nextA (H:AHeap):It→Option (Option (AV×It))
 | .list a i=>((H a).bind AO.asList).map fun xs=>xs[i]?.map fun x=>(x,.list a (i + 1))
 | .ints xs=>some (xs.head?.map fun x=>(.int x,.ints xs.tail))
 | .enum a i=>((H a).bind AO.asList).map fun xs=>xs[i]?.map fun x=>(.pair (.int i) x,.enum a (i + 1))
 | .dict a es g i=>if H a = some (.dict es g) then some (es[i]?.map fun e=>(.pt e.1,.dict a es g (i + 1))) else none
 | .set a S g rest=>if H a = some (.set S g) then some (rest.head?.map fun p=>(.pt p,.set a S g rest.tail)) else none
theorem as_list {H:AHeap} {a:Addr} {xs:List AV} (h:H a = some (.list xs)):(H a).bind AO.asList = some xs:=by refine wat h ?_;rfl
theorem nextA_list {H:AHeap} {a:Addr} {xs:List AV} {i:Nat} (h:H a = some (.list xs)):nextA H (.list a i) = some (xs[i]?.map fun x=>(x,.list a (i + 1))):=congrArg (Option.map fun xs:List AV=>xs[i]?.map fun x=>(x,It.list a (i + 1))) (as_list h)
theorem nextA_enum {H:AHeap} {a:Addr} {xs:List AV} {i:Nat} (h:H a = some (.list xs)):nextA H (.enum a i) = some (xs[i]?.map fun x=>(.pair (.int i) x,.enum a (i + 1))):=congrArg (Option.map fun xs:List AV=>xs[i]?.map fun x=>(AV.pair (.int i) x,It.enum a (i + 1))) (as_list h)
theorem nextA_dict {H:AHeap} {a:Addr} {es:List (Pt×AV)} {g:Obj} {i:Nat} (h:H a = some (.dict es g)):nextA H (.dict a es g i) = some (es[i]?.map fun e=>(.pt e.1,.dict a es g (i + 1))):=if_pos h
theorem nextA_set {H:AHeap} {a:Addr} {S r:List Pt} {g:Obj} (h:H a = some (.set S g)):nextA H (.set a S g r) = some (r.head?.map fun p=>(.pt p,.set a S g r.tail)):=if_pos h
abbrev Loc:=List (Option AV)
abbrev CallSem:=Fn→List AV→AHeap→(AV→AHeap→Prop)→(AHeap→Prop)→Prop
noncomputable def rangeL (lo hi step:Int):List Int:=(List.range ((hi - lo + step - 1) / step).toNat).map fun (k:Nat)=>lo + step * (k:Int)
inductive IterR (H:AHeap) (K:It→Prop):AV→Prop
 | list {a:Addr} {xs:List AV}:H a = some (.list xs)→K (.list a 0)→IterR H K (.ref a)
 | dict {a:Addr} {es:List (Pt×AV)} {g:Obj}:H a = some (.dict es g)→K (.dict a es g 0)→IterR H K (.ref a)
 | set {a:Addr} {S:List Pt} {g:Obj}:H a = some (.set S g)→(∀ S',S'.Perm S→K (.set a S g S'))→IterR H K (.ref a)
inductive AttrAt (H:AHeap):AV→Addr→(Fld→Option AV)→Prop
 | mk {a C dx:Addr} {fs:Fld→Option AV}:H a = some (.inst C dx)→H dx = some (.ns fs)→AttrAt H (.ref a) dx fs
noncomputable def putD (es:List (Pt×AV)) (p:Pt) (u:AV):List (Pt×AV):=if (es.lookup p).isSome then es.map (fun e=>if e.1 = p then (e.1,u) else e) else es ++ [(p,u)]
inductive ItemR (H:AHeap) (K:AHeap→Prop):AV→AV→AV→Prop
 | list {a:Addr} {xs:List AV} {i:Int} {u:AV}:H a = some (.list xs)→0≤i→i < xs.length→xs.length≤1000→K (H.set a (.list (xs.set i.toNat u)))→ItemR H K (.ref a) (.int i) u
 | dict {a:Addr} {es:List (Pt×AV)} {g:Obj} {r c:Int} {u:AV}:H a = some (.dict es g)→es.length≤1000→(∀ g',K (H.set a (.dict (putD es (r,c) u) g')))→ItemR H K (.ref a) (.pair (.int r) (.int c)) u
inductive UnpackR (H:AHeap):Nat→AV→List AV→Prop
 | pair (x y:AV):UnpackR H 2 (.pair x y) [x,y]
 | list {a:Addr} {xs:List AV} {n:Nat}:H a = some (.list xs)→xs.length = n→UnpackR H n (.ref a) xs
 | set {a:Addr} {p:Pt} {g:Obj}:H a = some (.set [p] g)→UnpackR H 1 (.ref a) [.pt p]
inductive TQ (H:AHeap) (v:AV) (Q:Bool→AHeap→Prop):Prop
 | mk (r:Bool):TruthR H v r→Q r H→TQ H v Q
inductive CQ (H:AHeap) (op:CmpOp) (x y:AV) (Q:Bool→AHeap→Prop):Prop
 | mk (r:Bool):CmpR H op x y r→Q r H→CQ H op x y Q
inductive SubQ (H:AHeap) (x y:AV) (Q:AV→AHeap→Prop):Prop
 | mk (r:AV):SubR H x y r→Q r H→SubQ H x y Q
inductive AttrQ (H:AHeap) (v:AV) (f:Fld) (Q:AV→AHeap→Prop):Prop
 | mk (dx:Addr) (fs:Fld→Option AV) (u:AV):AttrAt H v dx fs→fs f = some u→Q u H→AttrQ H v f Q
inductive UnpQ (H:AHeap) (n:Nat) (v:AV) (Q:List AV→AHeap→Prop):Prop
 | mk (vs:List AV):UnpackR H n v vs→Q vs H→UnpQ H n v Q
inductive SetQ (H:AHeap) (v:AV) (f:Fld) (u:AV) (Q:AHeap→Prop):Prop
 | mk (dx:Addr) (fs:Fld→Option AV):AttrAt H v dx fs→Q (H.set dx (.ns fun g=>if g = f then some u else fs g))→SetQ H v f u Q
noncomputable def turns (emit:AV→List AV→AHeap→(List AV→AHeap→Prop)→Prop):Nat→It→List AV→AHeap→(List AV→AHeap→Prop)→Prop
 | 0,_,_,_,_=>False
 | n + 1,it,acc,H,K=>match nextA H it with
   | none=>False
   | some none=>K acc H
   | some (some (x,it'))=>emit x acc H fun acc' H'=>turns emit n it' acc' H' K
noncomputable def IsBoard (H:AHeap) (v:AV):Prop:=(X3 fun a dx fs=>A3 (v = .ref a) (H a = some (.inst boardC dx)) (H dx = some (.ns fs)))
noncomputable def nox:AHeap→Prop:=fun _=>False
noncomputable def notSetIt:It→Bool
 | .set .. =>false
 | _=>true
noncomputable def kindOk (H:AHeap) (b:Bm) (v:AV):Prop:=match b with
 | .append | .insert=>(X2 fun a xs=>v = .ref a∧H a = some (.list xs))
 | .add | .spop | .update=>(X3 fun a S g=>v = .ref a∧H a = some (.set S g))
 | .get | .dpop=>(X3 fun a es g=>v = .ref a∧H a = some (.dict es g))
 | .lower | .split=>∃ z,v = .str z
mutual
noncomputable def awp (C:CallSem):E→Loc→AHeap→(AV→AHeap→Prop)→(AHeap→Prop)→Prop
 | .var i,ρ,H,Q,_=>∃ v,ρ[i]? = some (some v)∧Q v H
 | .none,_,H,Q,_=>Q .none H
 | .bool b,_,H,Q,_=>Q (.bool b) H
 | .int i,_,H,Q,_=>Q (.int i) H
 | .str s,_,H,Q,_=>Q (.str s) H
 | .gstr s,_,H,Q,_=>Q (.str s) H
 | .opp e,ρ,H,Q,X=>awp C e ρ H (fun v H'=>(v = .str (Str.ofString "b")∧Q (.str (Str.ofString "w")) H')∨(v = .str (Str.ofString "w")∧Q (.str (Str.ofString "b")) H')) X
 | .pair a b,ρ,H,Q,X=>awp C a ρ H (fun x H₁=>awp C b ρ H₁ (fun y H₂=>Q (.pair x y) H₂) X) X
 | .list es,ρ,H,Q,X=>awps C es ρ H (fun xs H'=>∀ a,H' a = none→Q (.ref a) (H'.set a (.list xs))) X
 | .dict0,_,H,Q,_=>∀ a g,H a = none→Q (.ref a) (H.set a (.dict [] g))
 | .bin op a b,ρ,H,Q,X=>awp C a ρ H (fun x H₁=>awp C b ρ H₁ (fun y H₂=>BinR H₂ Q op x y) X) X
 | .cmp a op b,ρ,H,Q,X=>awp C a ρ H (fun x H₁=>awp C b ρ H₁ (fun y H₂=>CQ H₂ op x y (fun r H=>Q (.bool r) H)) X) X
 | .andv a b,ρ,H,Q,X=>awp C a ρ H (fun x H₁=>TQ H₁ x (fun r H₂=>if r then awp C b ρ H₂ Q X else Q x H₂)) X
 | .notv a,ρ,H,Q,X=>awp C a ρ H (fun x H₁=>TQ H₁ x (fun r H₂=>Q (.bool (!r)) H₂)) X
 | .ite t a b,ρ,H,Q,X=>awpT C t ρ H (fun r H₁=>if r then awp C a ρ H₁ Q X else awp C b ρ H₁ Q X) X
 | .call f args,ρ,H,Q,X=>awps C args ρ H (fun vs H₁=>C f vs H₁ Q X) X
 | .meth f o args,ρ,H,Q,X=>awp C o ρ H (fun v H₁=>IsBoard H₁ v∧awps C args ρ H₁ (fun vs H₂=>C f (v :: vs) H₂ Q X) X) X
 | .newBoard e,ρ,H,Q,X=>awp C e ρ H (fun v H₁=>∀ a dx,H₁ a = none→H₁ dx = none→a≠dx→
  C .init [.ref a,v] ((H₁.set dx (.ns fun _=>none)).set a (.inst boardC dx)) (fun r H₂=>r = .none∧Q (.ref a) H₂) X) X
 | .newGroup,_,H,Q,_=>∀ a dx,H a = none→H dx = none→a≠dx→Q (.ref a) ((H.set dx (.ns fun _=>none)).set a (.inst groupC dx))
 | .bi b args,ρ,H,Q,X=>awps C args ρ H (fun vs H₁=>BiR H₁ Q b vs) X
 | .bm b o args,ρ,H,Q,X=>awp C o ρ H (fun v H₁=>kindOk H₁ b v∧awps C args ρ H₁ (fun vs H₂=>BmR H₂ Q b v vs) X) X
 | .joinmap e,ρ,H,Q,X=>awp C e ρ H (fun v H₁=>(X2 fun a xs=>A3 (v = .ref a) (H₁ a = some (.list xs)) (∃ n,turns (fun x acc H' K=>C .format_vertex [x] H' (fun r H''=>acc.length < 100∧(∃ s,r = .str s∧s.length≤10)∧K (acc ++ [r]) H'') nox) n (.list a 0) [] H₁ (fun vs H₂=>
  Q (.str (Txt.join (Str.ofString ",") (vs.filterMap fun | .str s=>some s | _=>none))) H₂)))) X
 | .attr o f,ρ,H,Q,X=>awp C o ρ H (fun v H₁=>AttrQ H₁ v f Q) X
 | .sub o i,ρ,H,Q,X=>awp C o ρ H (fun x H₁=>awp C i ρ H₁ (fun y H₂=>SubQ H₂ x y Q) X) X
 | .sliceTo o hi,ρ,H,Q,X=>awp C o ρ H (fun x H₁=>awp C hi ρ H₁ (fun y H₂=>∃ n,y = .int n∧SliceR H₂ Q x 0 (some n)) X) X
 | .sliceFrom o lo,ρ,H,Q,X=>awp C o ρ H (fun x H₁=>awp C lo ρ H₁ (fun y H₂=>∃ n,y = .int n∧SliceR H₂ Q x n none) X) X
 | .slice o lo hi,ρ,H,Q,X=>awp C o ρ H (fun x H₁=>awp C lo ρ H₁ (fun y H₂=>awp C hi ρ H₂ (fun z H₃=>(X2 fun n m=>A3 (y = .int n) (z = .int m) (SliceR H₃ Q x n (some m)))) X) X) X
 | .comp elt it cond caps,ρ,H,Q,X=>awpI C it ρ H (fun it₀ H₁=>notSetIt it₀ = true∧∃ n,turns (fun x acc H' K=>
  awpT C cond (some x :: caps.map fun i=>(ρ[i]?).join) H' (fun r H₂=>if r then awp C elt (some x :: caps.map fun i=>(ρ[i]?).join) H₂ (fun v H₃=>acc.length < 1000∧K (acc ++ [v]) H₃) nox else K acc H₂) nox) n it₀ [] H₁
  (fun xs H₂=>∀ a,H₂ a = none→Q (.ref a) (H₂.set a (.list xs)))) X
 | .comp2 elt i₁ i₂ caps,ρ,H,Q,X=>awpI C i₁ ρ H (fun it₀ H₁=>notSetIt it₀ = true∧∃ n,turns (fun x acc H' K=>
  awpI C i₂ (some x :: none :: caps.map fun i=>(ρ[i]?).join) H' (fun it₁ H₂=>notSetIt it₁ = true∧∃ m,turns (fun y acc' H'' K'=>
   awp C elt (some x :: some y :: caps.map fun i=>(ρ[i]?).join) H'' (fun v H₃=>acc'.length < 1000∧K' (acc' ++ [v]) H₃) nox) m it₁ acc H₂ K) nox) n it₀ [] H₁
  (fun xs H₂=>∀ a,H₂ a = none→Q (.ref a) (H₂.set a (.list xs)))) X
noncomputable def awps (C:CallSem):EL→Loc→AHeap→(List AV→AHeap→Prop)→(AHeap→Prop)→Prop
 | .nil,_,H,Q,_=>Q [] H
 | .cons e es,ρ,H,Q,X=>awp C e ρ H (fun v H₁=>awps C es ρ H₁ (fun vs H₂=>Q (v :: vs) H₂) X) X
noncomputable def awpT (C:CallSem):T→Loc→AHeap→(Bool→AHeap→Prop)→(AHeap→Prop)→Prop
 | .tt,_,H,Q,_=>Q true H
 | .e e,ρ,H,Q,X=>awp C e ρ H (fun v H₁=>TQ H₁ v Q) X
 | .not t,ρ,H,Q,X=>awpT C t ρ H (fun r H₁=>Q (!r) H₁) X
 | .and ts,ρ,H,Q,X=>awpAll C ts ρ H Q X
 | .or ts,ρ,H,Q,X=>awpAny C ts ρ H Q X
 | .cmp a op b,ρ,H,Q,X=>awp C a ρ H (fun x H₁=>awp C b ρ H₁ (fun y H₂=>CQ H₂ op x y Q) X) X
 | .chain a o₁ b o₂ c,ρ,H,Q,X=>awp C a ρ H (fun x H₁=>awp C b ρ H₁ (fun y H₂=>CQ H₂ o₁ x y (fun r H₃=>if r then awp C c ρ H₃ (fun z H₄=>CQ H₄ o₂ y z Q) X else Q false H₃)) X) X
noncomputable def awpAll (C:CallSem):TL→Loc→AHeap→(Bool→AHeap→Prop)→(AHeap→Prop)→Prop
 | .nil,_,H,Q,_=>Q true H
 | .cons t ts,ρ,H,Q,X=>awpT C t ρ H (fun r H₁=>if r then awpAll C ts ρ H₁ Q X else Q false H₁) X
noncomputable def awpAny (C:CallSem):TL→Loc→AHeap→(Bool→AHeap→Prop)→(AHeap→Prop)→Prop
 | .nil,_,H,Q,_=>Q false H
 | .cons t ts,ρ,H,Q,X=>awpT C t ρ H (fun r H₁=>if r then Q true H₁ else awpAny C ts ρ H₁ Q X) X
noncomputable def awpI (C:CallSem):I→Loc→AHeap→(It→AHeap→Prop)→(AHeap→Prop)→Prop
 | .e e,ρ,H,Q,X=>awp C e ρ H (fun v H₁=>IterR H₁ (fun it=>Q it H₁) v) X
 | .range e,ρ,H,Q,X=>awp C e ρ H (fun v H₁=>(X1 fun n=>A4 (v = .int n) (-1000≤n) (n≤1000) (Q (.ints (rangeL 0 n 1)) H₁))) X
 | .range3 a b c,ρ,H,Q,X=>awp C a ρ H (fun x H₁=>awp C b ρ H₁ (fun y H₂=>awp C c ρ H₂ (fun z H₃=>(X3 fun lo hi st=>A10 (x = .int lo) (y = .int hi) (z = .int st) (0≤lo) (lo≤1000) (0≤hi) (hi≤1000) (1≤st) (st≤1000) (Q (.ints (rangeL lo hi st)) H₃))) X) X) X
 | .enum e,ρ,H,Q,X=>awp C e ρ H (fun v H₁=>(X2 fun a xs=>A3 (v = .ref a) (H₁ a = some (.list xs)) (Q (.enum a 0) H₁))) X
end
noncomputable def bindT:Tgt→AV→Loc→Option Loc
 | .one i,v,ρ=>some (ρ.set i (some v))
 | .two i j,.pair x y,ρ=>some ((ρ.set i (some x)).set j (some y))
 | _,_,_=>none
noncomputable def setAll:List Nat→List AV→Loc→Loc
 | i :: is,v :: vs,ρ=>setAll is vs (ρ.set i (some v))
 | _,_,ρ=>ρ
abbrev SQ:=AF→Loc→AHeap→Prop
noncomputable def loopW (tg:Tgt) (body:Loc→AHeap→SQ→Prop):Nat→It→Loc→AHeap→SQ→Prop
 | 0,_,_,_,_=>False
 | n + 1,it,ρ,H,Q=>match nextA H it with
   | none=>False
   | some none=>Q .next ρ H
   | some (some (x,it'))=>match bindT tg x ρ with
     | none=>False
     | some ρ₁=>body ρ₁ H fun f ρ₂ H₂=>match f with
       | .next=>loopW tg body n it' ρ₂ H₂ Q
       | .cont=>loopW tg body n it' ρ₂ H₂ Q
       | .brk=>Q .next ρ₂ H₂
       | .ret v=>Q (.ret v) ρ₂ H₂
noncomputable def whileW (test:Loc→AHeap→(Bool→AHeap→Prop)→Prop) (body:Loc→AHeap→SQ→Prop):Nat→Loc→AHeap→SQ→Prop
 | 0,_,_,_=>False
 | n + 1,ρ,H,Q=>test ρ H fun r H₁=>if r then body ρ H₁ (fun f ρ₂ H₂=>match f with
     | .next=>whileW test body n ρ₂ H₂ Q
     | .cont=>whileW test body n ρ₂ H₂ Q
     | .brk=>Q .next ρ₂ H₂
     | .ret v=>Q (.ret v) ρ₂ H₂) else Q .next ρ H₁
mutual
noncomputable def swp (C:CallSem):S→Loc→AHeap→SQ→(AHeap→Prop)→Prop
 | .asg i e,ρ,H,Q,X=>awp C e ρ H (fun v H₁=>Q .next (ρ.set i (some v)) H₁) X
 | .asgN is e,ρ,H,Q,X=>awp C e ρ H (fun v H₁=>UnpQ H₁ is.length v (fun vs H₂=>Q .next (setAll is vs ρ) H₂)) X
 | .sattr o f e,ρ,H,Q,X=>awp C e ρ H (fun u H₁=>awp C o ρ H₁ (fun v H₂=>SetQ H₂ v f u (fun H₃=>Q .next ρ H₃)) X) X
 | .sitem o k e,ρ,H,Q,X=>awp C e ρ H (fun u H₁=>awp C o ρ H₁ (fun v H₂=>awp C k ρ H₂ (fun kv H₃=>ItemR H₃ (fun H₄=>Q .next ρ H₄) v kv u) X) X) X
 | .ex e,ρ,H,Q,X=>awp C e ρ H (fun _ H₁=>Q .next ρ H₁) X
 | .ite t a b,ρ,H,Q,X=>awpT C t ρ H (fun r H₁=>if r then swps C a ρ H₁ Q X else swps C b ρ H₁ Q X) X
 | .loop tg it body,ρ,H,Q,X=>awpI C it ρ H (fun it₀ H₁=>∃ n,loopW tg (fun ρ₁ H₂ Q₁=>swps C body ρ₁ H₂ Q₁ nox) n it₀ ρ H₁ Q) X
 | .while t body,ρ,H,Q,_=>∃ n,whileW (fun ρ₁ H₁ Q₁=>awpT C t ρ₁ H₁ Q₁ nox) (fun ρ₁ H₁ Q₁=>swps C body ρ₁ H₁ Q₁ nox) n ρ H Q
 | .ret e,ρ,H,Q,X=>awp C e ρ H (fun v H₁=>Q (.ret v) ρ H₁) X
 | .brk,ρ,H,Q,_=>Q .brk ρ H
 | .cont,ρ,H,Q,_=>Q .cont ρ H
 | .raiseVE,_,H,_,X=>X H
 | .dead,_,_,_,_=>False
 | .try body,ρ,H,Q,_=>swps C body ρ H Q nox
 | .tryVE e z,ρ,H,Q,_=>awp C e ρ H (fun v H₁=>Q (.ret v) ρ H₁) (fun H₁=>Q (.ret (.pair (.str z) .none)) ρ H₁)
noncomputable def swps (C:CallSem):SL→Loc→AHeap→SQ→(AHeap→Prop)→Prop
 | .nil,ρ,H,Q,_=>Q .next ρ H
 | .cons s r,ρ,H,Q,X=>swp C s ρ H (fun f ρ₁ H₁=>match f with
   | .next=>swps C r ρ₁ H₁ Q X
   | f=>Q f ρ₁ H₁) X
end
structure FDef where
 params:Nat
 vars:List Str
 body:SL
noncomputable def bodyWp (C:CallSem) (F:FDef) (args:List AV) (H:AHeap) (Q:AV→AHeap→Prop) (X:AHeap→Prop):Prop:=
 args.length = F.params∧swps C F.body (args.map some ++ List.replicate (F.vars.length - F.params) none) H (fun f _ H'=>match f with
  | .ret v=>Q v H'
  | .next=>Q .none H'
  | _=>False) X
noncomputable def callWp (fns:Fn→FDef):Nat→CallSem
 | 0=>fun _ _ _ _ _=>False
 | n + 1=>fun f args H Q X=>bodyWp (callWp fns n) (fns f) args H Q X
end
noncomputable section
noncomputable def Fn.gname:Fn→Str
 | .opponent_of=>Str.ofString "opponent_of"
 | .format_vertex=>Str.ofString "format_vertex"
 | .format_vertex_list=>Str.ofString "format_vertex_list"
 | .move_from_vertex=>Str.ofString "move_from_vertex"
 | .near=>Str.ofString "_law_near"
 | .breathing=>Str.ofString "_law_breathing"
 | .only=>Str.ofString "_law_only"
 | .moved=>Str.ofString "_law_moved"
 | .rows=>Str.ofString "_law_rows"
 | .stones=>Str.ofString "_law_stones"
 | .ofColour=>Str.ofString "_law_of"
 | .order=>Str.ofString "_law_order"
 | .read=>Str.ofString "_law_read"
 | .tryPlay=>Str.ofString "_law_try"
 | .init=>Str.ofString "__init__"
 | .make_group=>Str.ofString "_make_group"
 | .find_surrounded=>Str.ofString "_find_surrounded_groups"
 | .find_all=>Str.ofString "_find_all_surrounded_groups"
 | .is_empty=>Str.ofString "is_empty"
 | .play=>Str.ofString "play"
 | .apply_setup=>Str.ofString "apply_setup"
 | .occupied=>Str.ofString "list_occupied_points"
noncomputable def Fn.isMeth:Fn→Bool
 | .init | .make_group | .find_surrounded | .find_all | .is_empty | .play | .apply_setup | .occupied=>true
 | _=>false
noncomputable def Fn.addr:Fn→Addr
 | .opponent_of=>29 | .format_vertex=>36 | .format_vertex_list=>43 | .move_from_vertex=>50
 | .init=>76 | .make_group=>90 | .find_surrounded=>104 | .find_all=>111 | .is_empty=>118 | .play=>130 | .apply_setup=>137 | .occupied=>144
 | .near=>163 | .breathing=>168 | .only=>175 | .moved=>180 | .rows=>185 | .stones=>192 | .ofColour=>197 | .order=>204 | .read=>209 | .tryPlay=>216
noncomputable def Bi.name:Bi→Str
 | .len=>Str.ofString "len"
 | .set=>Str.ofString "set"
 | .list=>Str.ofString "list"
 | .str=>Str.ofString "str"
 | .int=>Str.ofString "int"
 | .ord=>Str.ofString "ord"
noncomputable def Bm.name:Bm→Str
 | .append=>Str.ofString "append"
 | .insert=>Str.ofString "insert"
 | .add=>Str.ofString "add"
 | .spop=>Str.ofString "pop"
 | .update=>Str.ofString "update"
 | .get=>Str.ofString "get"
 | .dpop=>Str.ofString "pop"
 | .lower=>Str.ofString "lower"
 | .split=>Str.ofString "split"
noncomputable def isGlob (sc:Scope) (x:Str):Bool:=sc.names.lookup x == some .globalImplicit && x != Str.ofString "__debug__"
noncomputable def isVar (sc:Scope) (vars:List Str) (i:Nat) (x:Str):Bool:=vars[i]? == some x && x != Str.ofString "__debug__"
noncomputable def notCall (ex:Expr):Bool:=ex.ctorIdx != 16
noncomputable def plainTest (ex:Expr):Bool:=!([3,0,5,15]:List Nat).contains ex.ctorIdx
noncomputable def notSlice (ex:Expr):Bool:=ex.ctorIdx != 26
noncomputable def okE (ex:Expr):Bool:=!([22,26,7,4]:List Nat).contains ex.ctorIdx
noncomputable def noSwap (ex:Expr):Bool:=!([8,9,10]:List Nat).contains ex.ctorIdx
noncomputable def capNames (vars:List Str) (caps:List Nat):List Str:=caps.filterMap (vars[·]?)
noncomputable def compOk (sc:Scope) (vars:List Str) (caps:List Nat) (scope:Scope) (tgts:List Str):Bool:=
 scope.kind == .function && scope.names.all (fun nk=>nk.2 != .cell) && scope.names.all (fun nk=>nk.2 != .local || scope.names.lookup nk.1 == some .local) && tgts.all (fun x=>scope.names.lookup x == some .local && x != Str.ofString "__debug__") &&
 caps.all (fun i=>match vars[i]? with | some x=>sc.names.lookup x == some .cell && scope.names.lookup x == some .free && x != Str.ofString "__debug__" | none=>false) &&
 scope.names.all (fun nk=>nk.2 != .free || (capNames vars caps).contains nk.1) && decide (tgts ++ capNames vars caps).Nodup
noncomputable def innerScope (scope:Scope):Scope:={ scope with names:=scope.names.map fun nk=>if nk.2 == .free then (nk.1,.cell) else nk }
noncomputable def colText:Str:=Str.ofString "ABCDEFGHJKLMNOPQRSTUVWXYZ"
noncomputable def notEnumI:I→Bool
 | .enum _=>false
 | _=>true
mutual
noncomputable def TrE (sc:Scope) (vars:List Str):E→Expr→Prop
 | .var i,ex=>(X2 fun x p=>ex = .Name x p∧isVar sc vars i x = true)
 | .none,ex=>(X2 fun k p=>ex = .Constant .none k p)
 | .bool b,ex=>(X2 fun k p=>ex = .Constant (.bool b) k p)
 | .int i,ex=>(X2 fun k p=>ex = .Constant (.int i) k p)
 | .str s,ex=>(X2 fun k p=>ex = .Constant (.str s) k p)
 | .gstr s,ex=>(X2 fun x p=>ex = .Name x p∧(isGlob sc x && x == Str.ofString "column_letters" && s == colText) = true)
 | .opp e,ex=>(X4 fun x p i q=>ex = .Subscript (.Name x p) i q∧(isGlob sc x && x == Str.ofString "_opponents" && notSlice i) = true∧TrE sc vars e i)
 | .pair a b,ex=>(X4 fun x y k p=>ex = .Tuple [x,y] k p∧(okE x && okE y) = true∧TrE sc vars a x∧TrE sc vars b y)
 | .list es,ex=>(X2 fun xs p=>ex = .List xs p∧decide (xs.length < 20) = true∧TrEL sc vars es xs)
 | .dict0,ex=>∃ p,ex = .Dict [] [] p
 | .bin op a b,ex=>(X3 fun x y p=>ex = .BinOp x op y p∧TrE sc vars a x∧TrE sc vars b y)
 | .cmp a op b,ex=>(X3 fun x y p=>ex = .Compare x [op] [y] p∧okE y = true∧TrE sc vars a x∧TrE sc vars b y)
 | .andv a b,ex=>(X3 fun x y p=>ex = .BoolOp .And [x,y] p∧TrE sc vars a x∧TrE sc vars b y)
 | .notv a,ex=>(X2 fun x p=>ex = .UnaryOp .Not x p∧TrE sc vars a x)
 | .ite t a b,ex=>(X4 fun q x y p=>ex = .IfExp q x y p∧TrT sc vars t q∧TrE sc vars a x∧TrE sc vars b y)
 | .call f args,ex=>(X4 fun x p as q=>ex = .Call (.Name x p) as [] q∧(!f.isMeth && isGlob sc x && f.gname == x) = true∧TrEL sc vars args as)
 | .meth f o args,ex=>(X5 fun ov x ap as pos=>ex = .Call (.Attribute ov x ap) as [] pos∧(f.isMeth && f.gname == x && notCall ov && ap.endLine == pos.line && decide (as.length < 20)) = true∧TrE sc vars o ov∧TrEL sc vars args as)
 | .newBoard e,ex=>(X4 fun x p a q=>ex = .Call (.Name x p) [a] [] q∧(isGlob sc x && x == Str.ofString "Board" && okE a) = true∧TrE sc vars e a)
 | .newGroup,ex=>(X3 fun x p q=>ex = .Call (.Name x p) [] [] q∧(isGlob sc x && x == Str.ofString "_Group") = true)
 | .bi b args,ex=>(X4 fun x p as q=>ex = .Call (.Name x p) as [] q∧(isGlob sc x && b.name == x) = true∧TrEL sc vars args as)
 | .bm b o args,ex=>(X5 fun ov x ap as pos=>ex = .Call (.Attribute ov x ap) as [] pos∧(b.name == x && notCall ov && ap.endLine == pos.line && decide (as.length < 20)) = true∧TrE sc vars o ov∧TrEL sc vars args as)
 | .joinmap e,ex=>(X12 fun c k cp x ap mp mpp f fp a cq pos=>ex = .Call (.Attribute (.Constant (.str c) k cp) x ap) [.Call (.Name mp mpp) [.Name f fp,a] [] cq] [] pos∧
  (c == Str.ofString "," && x == Str.ofString "join" && ap.endLine == pos.line && isGlob sc mp && mp == Str.ofString "map" && isGlob sc f && f == Str.ofString "format_vertex" && okE a) = true∧TrE sc vars e a)
 | .attr o f,ex=>(X3 fun ov x p=>ex = .Attribute ov x p∧(f.name == x && notCall ov) = true∧TrE sc vars o ov)
 | .sub o i,ex=>(X3 fun ov iv p=>ex = .Subscript ov iv p∧notSlice iv = true∧TrE sc vars o ov∧TrE sc vars i iv)
 | .sliceTo o hi,ex=>(X4 fun ov h p q=>ex = .Subscript ov (.Slice none (some h) none p) q∧TrE sc vars o ov∧TrE sc vars hi h)
 | .sliceFrom o lo,ex=>(X4 fun ov l p q=>ex = .Subscript ov (.Slice (some l) none none p) q∧TrE sc vars o ov∧TrE sc vars lo l)
 | .slice o lo hi,ex=>(X5 fun ov l h p q=>ex = .Subscript ov (.Slice (some l) (some h) none p) q∧TrE sc vars o ov∧TrE sc vars lo l∧TrE sc vars hi h)
 | .comp elt it cond caps,ex=>(X7 fun ev x xp iv ifs scope p=>ex = .ListComp ev [⟨.Name x xp,iv,ifs,0⟩] scope p∧(compOk sc vars caps scope [x] && notEnumI it) = true∧TrI sc vars it iv∧
  ((cond = .tt∧ifs = [])∨∃ c,ifs = [c]∧TrT (innerScope scope) (x :: capNames vars caps) cond c)∧TrE (innerScope scope) (x :: capNames vars caps) elt ev)
 | .comp2 elt i₁ i₂ caps,ex=>(X9 fun ev x xp iv y yp jv scope p=>ex = .ListComp ev [⟨.Name x xp,iv,[],0⟩,⟨.Name y yp,jv,[],0⟩] scope p∧(compOk sc vars caps scope [x,y] && notEnumI i₁ && notEnumI i₂) = true∧TrI sc vars i₁ iv∧
  TrI (innerScope scope) (x :: y :: capNames vars caps) i₂ jv∧TrE (innerScope scope) (x :: y :: capNames vars caps) elt ev)
noncomputable def TrEL (sc:Scope) (vars:List Str):EL→List Expr→Prop
 | .nil,xs=>xs = []
 | .cons e es,xs=>(X2 fun x r=>xs = x :: r∧okE x = true∧TrE sc vars e x∧TrEL sc vars es r)
noncomputable def TrT (sc:Scope) (vars:List Str):T→Expr→Prop
 | .tt,_=>False
 | .e e,ex=>plainTest ex = true∧TrE sc vars e ex
 | .not t,ex=>(X2 fun x p=>ex = .UnaryOp .Not x p∧TrT sc vars t x)
 | .and ts,ex=>(X2 fun xs p=>ex = .BoolOp .And xs p∧TrTL sc vars ts xs)
 | .or ts,ex=>(X2 fun xs p=>ex = .BoolOp .Or xs p∧TrTL sc vars ts xs)
 | .cmp a op b,ex=>(X3 fun x y p=>ex = .Compare x [op] [y] p∧okE y = true∧TrE sc vars a x∧TrE sc vars b y)
 | .chain a o₁ b o₂ c,ex=>(X4 fun x y z p=>ex = .Compare x [o₁,o₂] [y,z] p∧okE z = true∧TrE sc vars a x∧TrE sc vars b y∧TrE sc vars c z)
noncomputable def TrTL (sc:Scope) (vars:List Str):TL→List Expr→Prop
 | .nil,xs=>xs = []
 | .cons t ts,xs=>(X2 fun x r=>xs = x :: r∧TrT sc vars t x∧TrTL sc vars ts r)
noncomputable def TrI (sc:Scope) (vars:List Str):I→Expr→Prop
 | .e e,ex=>okE ex = true∧TrE sc vars e ex
 | .range e,ex=>(X4 fun x p a q=>ex = .Call (.Name x p) [a] [] q∧(isGlob sc x && x == Str.ofString "range" && okE a) = true∧TrE sc vars e a)
 | .range3 a b c,ex=>(X6 fun w p x y z q=>ex = .Call (.Name w p) [x,y,z] [] q∧(isGlob sc w && w == Str.ofString "range" && okE x && okE y && okE z) = true∧TrE sc vars a x∧TrE sc vars b y∧TrE sc vars c z)
 | .enum e,ex=>(X4 fun x p a q=>ex = .Call (.Name x p) [a] [] q∧(isGlob sc x && x == Str.ofString "enumerate" && okE a) = true∧TrE sc vars e a)
end
abbrev Ck (p:Prop):=Option (PLift p)
noncomputable def ckB (b:Bool):Ck (b = true):=match b with | true=>some ⟨rfl⟩ | false=>none
noncomputable def ckA {p q:Prop}:Ck p→Ck q→Ck (p∧q)
 | some a,some b=>some ⟨⟨a.down,b.down⟩⟩
 | _,_=>none
noncomputable def ckM {p q:Prop} (f:p→q):Ck p→Ck q
 | some a=>some ⟨f a.down⟩
 | none=>none
noncomputable def ckY {p:Prop} (h:p):Ck p:=some ⟨h⟩
@[elab_as_elim]
noncomputable def ckR {α:Type} [DecidableEq α] {P:α→Type} (a b:α) (d:P a) (c:P b):P a:=if h:a = b then h▸c else d
section
variable {α:Expr→Type} (ex:Expr) (d:∀ e,α e)
@[elab_as_elim]
noncomputable def onName (k:∀ x p,α (.Name x p)):α ex:=by cases ex<;>first | exact k _ _ | exact d _
@[elab_as_elim]
noncomputable def onConstant (k:∀ v k p,α (.Constant v k p)):α ex:=by cases ex<;>first | exact k _ _ _ | exact d _
@[elab_as_elim]
noncomputable def onSubscript (k:∀ o i p,α (.Subscript o i p)):α ex:=by cases ex<;>first | exact k _ _ _ | exact d _
@[elab_as_elim]
noncomputable def onTuple (k:∀ xs k p,α (.Tuple xs k p)):α ex:=by cases ex<;>first | exact k _ _ _ | exact d _
@[elab_as_elim]
noncomputable def onList (k:∀ xs p,α (.List xs p)):α ex:=by cases ex<;>first | exact k _ _ | exact d _
@[elab_as_elim]
noncomputable def onDict (k:∀ ks vs p,α (.Dict ks vs p)):α ex:=by cases ex<;>first | exact k _ _ _ | exact d _
@[elab_as_elim]
noncomputable def onBinOp (k:∀ a o b p,α (.BinOp a o b p)):α ex:=by cases ex<;>first | exact k _ _ _ _ | exact d _
@[elab_as_elim]
noncomputable def onCompare (k:∀ a os bs p,α (.Compare a os bs p)):α ex:=by cases ex<;>first | exact k _ _ _ _ | exact d _
@[elab_as_elim]
noncomputable def onBoolOp (k:∀ o xs p,α (.BoolOp o xs p)):α ex:=by cases ex<;>first | exact k _ _ _ | exact d _
@[elab_as_elim]
noncomputable def onUnaryOp (k:∀ o x p,α (.UnaryOp o x p)):α ex:=by cases ex<;>first | exact k _ _ _ | exact d _
@[elab_as_elim]
noncomputable def onIfExp (k:∀ q a b p,α (.IfExp q a b p)):α ex:=by cases ex<;>first | exact k _ _ _ _ | exact d _
@[elab_as_elim]
noncomputable def onCall (k:∀ f as ks p,α (.Call f as ks p)):α ex:=by cases ex<;>first | exact k _ _ _ _ | exact d _
@[elab_as_elim]
noncomputable def onAttribute (k:∀ o x p,α (.Attribute o x p)):α ex:=by cases ex<;>first | exact k _ _ _ | exact d _
@[elab_as_elim]
noncomputable def onSlice (k:∀ l h t p,α (.Slice l h t p)):α ex:=by cases ex<;>first | exact k _ _ _ _ | exact d _
@[elab_as_elim]
noncomputable def onListComp (k:∀ e gs sc p,α (.ListComp e gs sc p)):α ex:=by cases ex<;>first | exact k _ _ _ _ | exact d _
@[elab_as_elim]
noncomputable def onCallN (k:∀ x p as q,α (.Call (.Name x p) as [] q)):α ex:=by
 cases ex with
 | Call f as ks q=>cases f with
   | Name x p=>cases ks with
     | nil=>exact k x p as q
     | cons _ _=>exact d _
   | _=>exact d _
 | _=>exact d _
@[elab_as_elim]
noncomputable def onCallA (k:∀ o x p as q,α (.Call (.Attribute o x p) as [] q)):α ex:=by
 cases ex with
 | Call f as ks q=>cases f with
   | Attribute o x p=>cases ks with
     | nil=>exact k o x p as q
     | cons _ _=>exact d _
   | _=>exact d _
 | _=>exact d _
end
section
variable {α:Stmt→Type} (st:Stmt) (d:∀ e,α e)
@[elab_as_elim]
noncomputable def stReturn (k:∀ v p,α (.Return v p)):α st:=by cases st<;>first | exact k _ _ | exact d _
@[elab_as_elim]
noncomputable def stAssign (k:∀ ts v p,α (.Assign ts v p)):α st:=by cases st<;>first | exact k _ _ _ | exact d _
@[elab_as_elim]
noncomputable def stFor (k:∀ t i b e p,α (.For t i b e p)):α st:=by cases st<;>first | exact k _ _ _ _ _ | exact d _
@[elab_as_elim]
noncomputable def stWhile (k:∀ q b e p,α (.While q b e p)):α st:=by cases st<;>first | exact k _ _ _ _ | exact d _
@[elab_as_elim]
noncomputable def stIf (k:∀ q a b p,α (.If q a b p)):α st:=by cases st<;>first | exact k _ _ _ _ | exact d _
@[elab_as_elim]
noncomputable def stRaise (k:∀ x c p,α (.Raise x c p)):α st:=by cases st<;>first | exact k _ _ _ | exact d _
@[elab_as_elim]
noncomputable def stTry (k:∀ b hs e f p,α (.Try b hs e f p)):α st:=by cases st<;>first | exact k _ _ _ _ _ | exact d _
@[elab_as_elim]
noncomputable def stExpr (k:∀ v p,α (.Expr v p)):α st:=by cases st<;>first | exact k _ _ | exact d _
@[elab_as_elim]
noncomputable def stBreak (k:∀ p,α (.Break p)):α st:=by cases st<;>first | exact k _ | exact d _
@[elab_as_elim]
noncomputable def stContinue (k:∀ p,α (.Continue p)):α st:=by cases st<;>first | exact k _ | exact d _
end
section
variable {β:Type} {α:List β→Type} (l:List β) (d:∀ e,α e)
@[elab_as_elim]
noncomputable def onNil (k:α []):α l:=match l with
 | []=>k
 | _ :: _=>d _
@[elab_as_elim]
noncomputable def onCons (k:∀ x r,α (x :: r)):α l:=match l with
 | []=>d _
 | x :: r=>k x r
@[elab_as_elim]
noncomputable def on1 (k:∀ x,α [x]):α l:=match l with
 | [x]=>k x
 | l=>d l
@[elab_as_elim]
noncomputable def on2 (k:∀ x y,α [x,y]):α l:=match l with
 | [x,y]=>k x y
 | l=>d l
@[elab_as_elim]
noncomputable def on3 (k:∀ x y z,α [x,y,z]):α l:=match l with
 | [x,y,z]=>k x y z
 | l=>d l
end
section
variable {β:Type} {α:Option β→Type} (l:Option β) (d:∀ e,α e)
@[elab_as_elim]
noncomputable def onNone (k:α none):α l:=match l with
 | none=>k
 | some _=>d _
@[elab_as_elim]
noncomputable def onSome (k:∀ x,α (some x)):α l:=match l with
 | none=>d _
 | some x=>k x
end
@[elab_as_elim]
noncomputable def onCo {α:Comprehension→Type} (c:Comprehension) (d:∀ e,α e) (k:∀ x p iv ifs,α ⟨.Name x p,iv,ifs,0⟩):α c:=by
 cases c with
 | mk t iv ifs n=>exact onName t (fun _=>d _) fun x p=>ckR n 0 (d _) (k x p iv ifs)
@[elab_as_elim]
noncomputable def onStr {α:Const→Type} (c:Const) (d:∀ e,α e) (k:∀ z,α (.str z)):α c:=by cases c<;>first | exact k _ | exact d _
noncomputable def CompForm (e:E):Prop:=(X4 fun elt it cond caps=>e = .comp elt it cond caps)∨(X4 fun elt i₁ i₂ caps=>e = .comp2 elt i₁ i₂ caps)
noncomputable def ckForm (e:E):Ck (CompForm e):=by cases e<;>first | exact ckY (.inl ⟨_,_,_,_,rfl⟩) | exact ckY (.inr ⟨_,_,_,_,rfl⟩) | exact none
noncomputable def ckOr {p q:Prop}:Ck p→Ck q→Ck (p∨q)
 | some a,_=>some ⟨.inl a.down⟩
 | _,some b=>some ⟨.inr b.down⟩
 | _,_=>none
noncomputable def ckTT (t:T):Ck (t = .tt):=by cases t<;>first | exact ckY rfl | exact none
mutual
noncomputable def ckE (sc:Scope) (vars:List Str):(e:E)→(ex:Expr)→Ck (TrE sc vars e ex)
 | .var i,ex=>onName ex (fun _=>none) fun x p=>ckM (fun h=>⟨x,p,rfl,h⟩) (ckB (isVar sc vars i x))
 | .none,ex=>onConstant ex (fun _=>none) fun v k p=>ckR v .none none (ckY ⟨k,p,rfl⟩)
 | .bool b,ex=>onConstant ex (fun _=>none) fun v k p=>ckR v (.bool b) none (ckY ⟨k,p,rfl⟩)
 | .int i,ex=>onConstant ex (fun _=>none) fun v k p=>ckR v (.int i) none (ckY ⟨k,p,rfl⟩)
 | .str s,ex=>onConstant ex (fun _=>none) fun v k p=>ckR v (.str s) none (ckY ⟨k,p,rfl⟩)
 | .gstr s,ex=>onName ex (fun _=>none) fun x p=>ckM (fun h=>⟨x,p,rfl,h⟩) (ckB _)
 | .opp e,ex=>onSubscript ex (fun _=>none) fun o i q=>onName o (fun _=>none) fun x p=>ckM (fun h=>⟨x,p,i,q,rfl,h⟩) (ckA (ckB _) (ckE sc vars e i))
 | .pair a b,ex=>onTuple ex (fun _=>none) fun xs k p=>on2 xs (fun _=>none) fun x y=>ckM (fun h=>⟨x,y,k,p,rfl,h⟩) (ckA (ckB _) (ckA (ckE sc vars a x) (ckE sc vars b y)))
 | .list es,ex=>onList ex (fun _=>none) fun xs p=>ckM (fun h=>⟨xs,p,rfl,h⟩) (ckA (ckB _) (ckEL sc vars es xs))
 | .dict0,ex=>onDict ex (fun _=>none) fun ks vs p=>onNil ks (fun _=>none) (onNil vs (fun _=>none) (ckY ⟨p,rfl⟩))
 | .bin op a b,ex=>onBinOp ex (fun _=>none) fun x o y p=>ckR o op none (ckM (fun h=>⟨x,y,p,rfl,h⟩) (ckA (ckE sc vars a x) (ckE sc vars b y)))
 | .cmp a op b,ex=>onCompare ex (fun _=>none) fun x os ys p=>on1 os (fun _=>none) fun o=>on1 ys (fun _=>none) fun y=>ckR o op none (ckM (fun h=>⟨x,y,p,rfl,h⟩) (ckA (ckB _) (ckA (ckE sc vars a x) (ckE sc vars b y))))
 | .andv a b,ex=>onBoolOp ex (fun _=>none) fun o xs p=>ckR o .And none (on2 xs (fun _=>none) fun x y=>ckM (fun h=>⟨x,y,p,rfl,h⟩) (ckA (ckE sc vars a x) (ckE sc vars b y)))
 | .notv a,ex=>onUnaryOp ex (fun _=>none) fun o x p=>ckR o .Not none (ckM (fun h=>⟨x,p,rfl,h⟩) (ckE sc vars a x))
 | .ite t a b,ex=>onIfExp ex (fun _=>none) fun q x y p=>ckM (fun h=>⟨q,x,y,p,rfl,h⟩) (ckA (ckT sc vars t q) (ckA (ckE sc vars a x) (ckE sc vars b y)))
 | .call f args,ex=>onCallN ex (fun _=>none) fun x p as q=>ckM (fun h=>⟨x,p,as,q,rfl,h⟩) (ckA (ckB _) (ckEL sc vars args as))
 | .meth f o args,ex=>onCallA ex (fun _=>none) fun ov x ap as pos=>ckM (fun h=>⟨ov,x,ap,as,pos,rfl,h⟩) (ckA (ckB _) (ckA (ckE sc vars o ov) (ckEL sc vars args as)))
 | .newBoard e,ex=>onCallN ex (fun _=>none) fun x p as q=>on1 as (fun _=>none) fun a=>ckM (fun h=>⟨x,p,a,q,rfl,h⟩) (ckA (ckB _) (ckE sc vars e a))
 | .newGroup,ex=>onCallN ex (fun _=>none) fun x p as q=>onNil as (fun _=>none) (ckM (fun h=>⟨x,p,q,rfl,h⟩) (ckB _))
 | .bi b args,ex=>onCallN ex (fun _=>none) fun x p as q=>ckM (fun h=>⟨x,p,as,q,rfl,h⟩) (ckA (ckB _) (ckEL sc vars args as))
 | .bm b o args,ex=>onCallA ex (fun _=>none) fun ov x ap as pos=>ckM (fun h=>⟨ov,x,ap,as,pos,rfl,h⟩) (ckA (ckB _) (ckA (ckE sc vars o ov) (ckEL sc vars args as)))
 | .joinmap e,ex=>onCallA ex (fun _=>none) fun ov x ap as pos=>onConstant ov (fun _=>none) fun v k cp=>onStr v (fun _=>none) fun c=>on1 as (fun _=>none) fun m=>onCallN m (fun _=>none) fun mp mpp bs cq=>on2 bs (fun _=>none) fun g a=>onName g (fun _=>none) fun f fp=>ckM (fun h=>⟨c,k,cp,x,ap,mp,mpp,f,fp,a,cq,pos,rfl,h⟩) (ckA (ckB _) (ckE sc vars e a))
 | .attr o f,ex=>onAttribute ex (fun _=>none) fun ov x p=>ckM (fun h=>⟨ov,x,p,rfl,h⟩) (ckA (ckB _) (ckE sc vars o ov))
 | .sub o i,ex=>onSubscript ex (fun _=>none) fun ov iv p=>ckM (fun h=>⟨ov,iv,p,rfl,h⟩) (ckA (ckB _) (ckA (ckE sc vars o ov) (ckE sc vars i iv)))
 | .sliceTo o hi,ex=>onSubscript ex (fun _=>none) fun ov sl q=>onSlice sl (fun _=>none) fun l h t p=>onNone l (fun _=>none) (onSome h (fun _=>none) fun h=>onNone t (fun _=>none) (ckM (fun k=>⟨ov,h,p,q,rfl,k⟩) (ckA (ckE sc vars o ov) (ckE sc vars hi h))))
 | .sliceFrom o lo,ex=>onSubscript ex (fun _=>none) fun ov sl q=>onSlice sl (fun _=>none) fun l h t p=>onSome l (fun _=>none) fun l=>onNone h (fun _=>none) (onNone t (fun _=>none) (ckM (fun k=>⟨ov,l,p,q,rfl,k⟩) (ckA (ckE sc vars o ov) (ckE sc vars lo l))))
 | .slice o lo hi,ex=>onSubscript ex (fun _=>none) fun ov sl q=>onSlice sl (fun _=>none) fun l h t p=>onSome l (fun _=>none) fun l=>onSome h (fun _=>none) fun h=>onNone t (fun _=>none) (ckM (fun k=>⟨ov,l,h,p,q,rfl,k⟩) (ckA (ckE sc vars o ov) (ckA (ckE sc vars lo l) (ckE sc vars hi h))))
 | .comp elt it cond caps,ex=>onListComp ex (fun _=>none) fun ev gs scope p=>on1 gs (fun _=>none) fun g=>onCo g (fun _=>none) fun x xp iv ifs=>ckM (fun h=>⟨ev,x,xp,iv,ifs,scope,p,rfl,h⟩) (ckA (ckB _) (ckA (ckI sc vars it iv) (ckA
  (ckOr (ckA (ckTT cond) (onNil ifs (fun _=>none) (ckY rfl))) (on1 ifs (fun _=>none) fun c=>ckM (fun h=>⟨c,rfl,h⟩) (ckT (innerScope scope) (x :: capNames vars caps) cond c))) (ckE (innerScope scope) (x :: capNames vars caps) elt ev))))
 | .comp2 elt i₁ i₂ caps,ex=>onListComp ex (fun _=>none) fun ev gs scope p=>on2 gs (fun _=>none) fun g g'=>onCo g (fun _=>none) fun x xp iv ifs=>onNil ifs (fun _=>none) (onCo g' (fun _=>none) fun y yp jv ifs=>onNil ifs (fun _=>none) (ckM (fun h=>⟨ev,x,xp,iv,y,yp,jv,scope,p,rfl,h⟩) (ckA (ckB _) (ckA (ckI sc vars i₁ iv) (ckA (ckI (innerScope scope) (x :: y :: capNames vars caps) i₂ jv) (ckE (innerScope scope) (x :: y :: capNames vars caps) elt ev))))))
noncomputable def ckEL (sc:Scope) (vars:List Str):(es:EL)→(xs:List Expr)→Ck (TrEL sc vars es xs)
 | .nil,xs=>onNil xs (fun _=>none) (ckY rfl)
 | .cons e es,xs=>onCons xs (fun _=>none) fun x r=>ckM (fun h=>⟨x,r,rfl,h⟩) (ckA (ckB _) (ckA (ckE sc vars e x) (ckEL sc vars es r)))
noncomputable def ckT (sc:Scope) (vars:List Str):(t:T)→(ex:Expr)→Ck (TrT sc vars t ex)
 | .tt,_=>none
 | .e e,ex=>ckA (ckB _) (ckE sc vars e ex)
 | .not t,ex=>onUnaryOp ex (fun _=>none) fun o x p=>ckR o .Not none (ckM (fun h=>⟨x,p,rfl,h⟩) (ckT sc vars t x))
 | .and ts,ex=>onBoolOp ex (fun _=>none) fun o xs p=>ckR o .And none (ckM (fun h=>⟨xs,p,rfl,h⟩) (ckTL sc vars ts xs))
 | .or ts,ex=>onBoolOp ex (fun _=>none) fun o xs p=>ckR o .Or none (ckM (fun h=>⟨xs,p,rfl,h⟩) (ckTL sc vars ts xs))
 | .cmp a op b,ex=>onCompare ex (fun _=>none) fun x os ys p=>on1 os (fun _=>none) fun o=>on1 ys (fun _=>none) fun y=>ckR o op none (ckM (fun h=>⟨x,y,p,rfl,h⟩) (ckA (ckB _) (ckA (ckE sc vars a x) (ckE sc vars b y))))
 | .chain a o₁ b o₂ c,ex=>onCompare ex (fun _=>none) fun x os ys p=>on2 os (fun _=>none) fun o o'=>on2 ys (fun _=>none) fun y z=>ckR o o₁ none (ckR o' o₂ none (ckM (fun h=>⟨x,y,z,p,rfl,h⟩) (ckA (ckB _) (ckA (ckE sc vars a x) (ckA (ckE sc vars b y) (ckE sc vars c z))))))
noncomputable def ckTL (sc:Scope) (vars:List Str):(ts:TL)→(xs:List Expr)→Ck (TrTL sc vars ts xs)
 | .nil,xs=>onNil xs (fun _=>none) (ckY rfl)
 | .cons t ts,xs=>onCons xs (fun _=>none) fun x r=>ckM (fun h=>⟨x,r,rfl,h⟩) (ckA (ckT sc vars t x) (ckTL sc vars ts r))
noncomputable def ckI (sc:Scope) (vars:List Str):(it:I)→(ex:Expr)→Ck (TrI sc vars it ex)
 | .e e,ex=>ckA (ckB _) (ckE sc vars e ex)
 | .range e,ex=>onCallN ex (fun _=>none) fun x p as q=>on1 as (fun _=>none) fun a=>ckM (fun h=>⟨x,p,a,q,rfl,h⟩) (ckA (ckB _) (ckE sc vars e a))
 | .range3 a b c,ex=>onCallN ex (fun _=>none) fun w p as q=>on3 as (fun _=>none) fun x y z=>ckM (fun h=>⟨w,p,x,y,z,q,rfl,h⟩) (ckA (ckB _) (ckA (ckE sc vars a x) (ckA (ckE sc vars b y) (ckE sc vars c z))))
 | .enum e,ex=>onCallN ex (fun _=>none) fun x p as q=>on1 as (fun _=>none) fun a=>ckM (fun h=>⟨x,p,a,q,rfl,h⟩) (ckA (ckB _) (ckE sc vars e a))
end
noncomputable def IsTgt (sc:Scope) (vars:List Str) (i:Nat) (t:Expr):Prop:=X2 fun x p=>A2 (t = .Name x p) ((isVar sc vars i x && (sc.names.lookup x == some .local || sc.names.lookup x == some .cell)) = true)
noncomputable def ckTgt (sc:Scope) (vars:List Str) (i:Nat) (t:Expr):Ck (IsTgt sc vars i t):=onName t (fun _=>none) fun x p=>ckM (fun h=>⟨x,p,rfl,h⟩) (ckB _)
noncomputable def IsTgts (sc:Scope) (vars:List Str):List Nat→List Expr→Prop
 | [],ts=>ts = []
 | i :: is,ts=>X2 fun e es=>A3 (ts = e :: es) (IsTgt sc vars i e) (IsTgts sc vars is es)
noncomputable def ckTgts (sc:Scope) (vars:List Str):(is:List Nat)→(ts:List Expr)→Ck (IsTgts sc vars is ts)
 | [],ts=>onNil ts (fun _=>none) (ckY rfl)
 | i :: is,ts=>onCons ts (fun _=>none) fun e es=>ckM (fun h=>⟨e,es,rfl,h.1,h.2⟩) (ckA (ckTgt sc vars i e) (ckTgts sc vars is es))
noncomputable def elts (ex:Expr):Option (List Expr):=by
 cases ex with
 | Tuple es k p=>exact some es
 | _=>exact none
noncomputable def notTuple (ex:Expr):Bool:=match elts ex with
 | none=>true
 | some es=>!(es.all (constantsAlone 8))
noncomputable def isCallE (ex:Expr):Bool:=ex.ctorIdx == 16
noncomputable def RetNone (z:Str) (st:Stmt):Prop:=X7 fun k1 p1 k2 p2 tk tp rp=>st = .Return (some (.Tuple [.Constant (.str z) k1 p1,.Constant .none k2 p2] tk tp)) rp
noncomputable def ckRet (z:Str) (st:Stmt):Ck (RetNone z st):=stReturn st (fun _=>none) fun v rp=>onSome v (fun _=>none) fun v=>onTuple v (fun _=>none) fun xs tk tp=>on2 xs (fun _=>none) fun a b=>onConstant a (fun _=>none) fun c k1 p1=>ckR c (.str z) none (onConstant b (fun _=>none) fun c k2 p2=>ckR c .none none (ckY ⟨k1,p1,k2,p2,tk,tp,rp,rfl⟩))
noncomputable def TrG (sc:Scope) (vars:List Str) (it:I):Tgt→Expr→Prop
 | .one i,t=>IsTgt sc vars i t∧notEnumI it = true
 | .two i j,t=>(X4 fun x y k p=>t = .Tuple [x,y] k p∧(i != j) = true∧IsTgts sc vars [i,j] [x,y])
mutual
noncomputable def TrS (sc:Scope) (vars:List Str):S→Stmt→Prop
 | .asg i e,st=>(X3 fun t v p=>st = .Assign [t] v p∧IsTgt sc vars i t∧(noSwap v = true∨CompForm e)∧TrE sc vars e v)
 | .asgN is e,st=>(X5 fun ts k tp v p=>st = .Assign [.Tuple ts k tp] v p∧IsTgts sc vars is ts∧(decide is.Nodup && notTuple v && noSwap v) = true∧TrE sc vars e v)
 | .sattr o f e,st=>(X5 fun ov x q v p=>st = .Assign [.Attribute ov x q] v p∧(f.name == x) = true∧TrE sc vars o ov∧TrE sc vars e v)
 | .sitem o k e,st=>(X5 fun ov kv q v p=>st = .Assign [.Subscript ov kv q] v p∧notSlice kv = true∧TrE sc vars o ov∧TrE sc vars k kv∧TrE sc vars e v)
 | .ex e,st=>(X2 fun v p=>st = .Expr v p∧isCallE v = true∧TrE sc vars e v)
 | .ite t a b,st=>(X4 fun q x y p=>st = .If q x y p∧TrT sc vars t q∧TrSL sc vars a x∧TrSL sc vars b y)
 | .loop tg it body,st=>(X4 fun t iv b p=>st = .For t iv b [] p∧TrG sc vars it tg t∧TrI sc vars it iv∧TrSL sc vars body b)
 | .while t body,st=>(X3 fun q b p=>st = .While q b [] p∧TrT sc vars t q∧TrSL sc vars body b)
 | .ret e,st=>(X2 fun v p=>st = .Return (some v) p∧TrE sc vars e v)
 | .brk,st=>∃ p,st = .Break p
 | .cont,st=>∃ p,st = .Continue p
 | .raiseVE,st=>(X3 fun x q p=>st = .Raise (some (.Name x q)) none p∧(isGlob sc x && x == Str.ofString "ValueError") = true)
 | .dead,_=>True
 | .try body,st=>(X3 fun b hs p=>st = .Try b hs [] [] p∧TrSL sc vars body b)
 | .tryVE e z,st=>(X7 fun v vp x q hh hp p=>st = .Try [.Return (some v) vp] [.ExceptHandler (some (.Name x q)) none [hh] hp] [] [] p∧(isGlob sc x && x == Str.ofString "ValueError") = true∧RetNone z hh∧TrE sc vars e v)
noncomputable def TrSL (sc:Scope) (vars:List Str):SL→List Stmt→Prop
 | .nil,xs=>xs = []
 | .cons s r,xs=>(X2 fun x q=>xs = x :: q∧TrS sc vars s x∧TrSL sc vars r q)
end
noncomputable def ckG (sc:Scope) (vars:List Str) (it:I):(tg:Tgt)→(t:Expr)→Ck (TrG sc vars it tg t)
 | .one i,t=>ckA (ckTgt sc vars i t) (ckB _)
 | .two i j,t=>onTuple t (fun _=>none) fun xs k p=>on2 xs (fun _=>none) fun x y=>ckM (fun h=>⟨x,y,k,p,rfl,h⟩) (ckA (ckB _) (ckTgts sc vars [i,j] [x,y]))
mutual
noncomputable def ckS (sc:Scope) (vars:List Str):(s:S)→(st:Stmt)→Ck (TrS sc vars s st)
 | .asg i e,st=>stAssign st (fun _=>none) fun ts v p=>on1 ts (fun _=>none) fun t=>ckM (fun h=>⟨t,v,p,rfl,h⟩) (ckA (ckTgt sc vars i t) (ckA (ckOr (ckB _) (ckForm e)) (ckE sc vars e v)))
 | .asgN is e,st=>stAssign st (fun _=>none) fun ts v p=>on1 ts (fun _=>none) fun t=>onTuple t (fun _=>none) fun ts k tp=>ckM (fun h=>⟨ts,k,tp,v,p,rfl,h⟩) (ckA (ckTgts sc vars is ts) (ckA (ckB _) (ckE sc vars e v)))
 | .sattr o f e,st=>stAssign st (fun _=>none) fun ts v p=>on1 ts (fun _=>none) fun t=>onAttribute t (fun _=>none) fun ov x q=>ckM (fun h=>⟨ov,x,q,v,p,rfl,h⟩) (ckA (ckB _) (ckA (ckE sc vars o ov) (ckE sc vars e v)))
 | .sitem o k e,st=>stAssign st (fun _=>none) fun ts v p=>on1 ts (fun _=>none) fun t=>onSubscript t (fun _=>none) fun ov kv q=>ckM (fun h=>⟨ov,kv,q,v,p,rfl,h⟩) (ckA (ckB _) (ckA (ckE sc vars o ov) (ckA (ckE sc vars k kv) (ckE sc vars e v))))
 | .ex e,st=>stExpr st (fun _=>none) fun v p=>ckM (fun h=>⟨v,p,rfl,h⟩) (ckA (ckB _) (ckE sc vars e v))
 | .ite t a b,st=>stIf st (fun _=>none) fun q x y p=>ckM (fun h=>⟨q,x,y,p,rfl,h⟩) (ckA (ckT sc vars t q) (ckA (ckSL sc vars a x) (ckSL sc vars b y)))
 | .loop tg it body,st=>stFor st (fun _=>none) fun t iv b e p=>onNil e (fun _=>none) (ckM (fun h=>⟨t,iv,b,p,rfl,h⟩) (ckA (ckG sc vars it tg t) (ckA (ckI sc vars it iv) (ckSL sc vars body b))))
 | .while t body,st=>stWhile st (fun _=>none) fun q b e p=>onNil e (fun _=>none) (ckM (fun h=>⟨q,b,p,rfl,h⟩) (ckA (ckT sc vars t q) (ckSL sc vars body b)))
 | .ret e,st=>stReturn st (fun _=>none) fun v p=>onSome v (fun _=>none) fun v=>ckM (fun h=>⟨v,p,rfl,h⟩) (ckE sc vars e v)
 | .brk,st=>stBreak st (fun _=>none) fun p=>ckY ⟨p,rfl⟩
 | .cont,st=>stContinue st (fun _=>none) fun p=>ckY ⟨p,rfl⟩
 | .raiseVE,st=>stRaise st (fun _=>none) fun x c p=>onSome x (fun _=>none) fun x=>onNone c (fun _=>none) (onName x (fun _=>none) fun x q=>ckM (fun h=>⟨x,q,p,rfl,h⟩) (ckB _))
 | .dead,_=>ckY trivial
 | .try body,st=>stTry st (fun _=>none) fun b hs e f p=>onNil e (fun _=>none) (onNil f (fun _=>none) (ckM (fun h=>⟨b,hs,p,rfl,h⟩) (ckSL sc vars body b)))
 | .tryVE e z,st=>stTry st (fun _=>none) fun b hs el f p=>onNil el (fun _=>none) (onNil f (fun _=>none) (on1 b (fun _=>none) fun r=>stReturn r (fun _=>none) fun v vp=>onSome v (fun _=>none) fun v=>on1 hs (fun _=>none) fun h=>match h with
  | .ExceptHandler ty nm bd hp=>onSome ty (fun _=>none) fun ty=>onName ty (fun _=>none) fun x q=>onNone nm (fun _=>none) (on1 bd (fun _=>none) fun hh=>ckM (fun k=>⟨v,vp,x,q,hh,hp,p,rfl,k⟩) (ckA (ckB _) (ckA (ckRet z hh) (ckE sc vars e v))))))
noncomputable def ckSL (sc:Scope) (vars:List Str):(s:SL)→(xs:List Stmt)→Ck (TrSL sc vars s xs)
 | .nil,xs=>onNil xs (fun _=>none) (ckY rfl)
 | .cons s r,xs=>onCons xs (fun _=>none) fun x q=>ckM (fun h=>⟨x,q,rfl,h⟩) (ckA (ckS sc vars s x) (ckSL sc vars r q))
end
noncomputable def fdOk (F:FDef) (fd:FuncData):Bool:=
 (match fd.body with | .stmts b=>(ckSL fd.scope F.vars F.body b).isSome | _=>false) &&
 fd.params.posonlyargs.isEmpty && fd.params.vararg.isNone && fd.params.kwonlyargs.isEmpty && fd.params.kwarg.isNone && fd.params.defaults.isEmpty &&
 (fd.params.args.map (·.arg) == F.vars.take F.params) && decide (F.params≤F.vars.length) && decide F.vars.Nodup &&
 F.vars.all (fun x=>fd.scope.names.lookup x == some .local || fd.scope.names.lookup x == some .cell) &&
 fd.scope.names.all (fun nk=>nk.2 != .cell || F.vars.contains nk.1) &&
 (fd.scope.kind == .function) && !fd.scope.isCoroutine && !fd.scope.isGenerator && fd.closure.isEmpty && (fd.defaults == .none) && (fd.kwdefaults == .none) &&
 (fd.globals == mainGlobals) && (fd.builtins == builtinsNs)
end
noncomputable def F_opponent_of:FDef:=⟨1,[Str.ofString "colour"],
 (.cons (.try (.cons (.ret (.opp (.var 0))) .nil)) .nil)⟩
noncomputable def F_format_vertex:FDef:=⟨1,[Str.ofString "move",Str.ofString "row",Str.ofString "col"],
 (.cons (.ite (.cmp (.var 0) .Is .none) (.cons (.ret (.str (Str.ofString "pass"))) .nil) .nil) (.cons (.asgN [1,2] (.var 0)) (.cons (.ite (.or (.cons (.not (.chain (.int 0) .LtE (.var 1) .Lt (.int 25))) (.cons (.not (.chain (.int 0) .LtE (.var 2) .Lt (.int 25))) .nil))) (.cons .dead .nil) .nil) (.cons (.ret (.bin .Add (.sub (.gstr (Str.ofString "ABCDEFGHJKLMNOPQRSTUVWXYZ")) (.var 2)) (.bi .str (.cons (.bin .Add (.var 1) (.int 1)) .nil)))) .nil))))⟩
noncomputable def F_format_vertex_list:FDef:=⟨1,[Str.ofString "moves"],
 (.cons (.ret (.joinmap (.var 0))) .nil)⟩
noncomputable def F_move_from_vertex:FDef:=⟨2,[Str.ofString "vertex",Str.ofString "board_size",Str.ofString "s",Str.ofString "col_c",Str.ofString "col",Str.ofString "row"],
 (.cons (.ite (.not (.chain (.int 0) .Lt (.var 1) .LtE (.int 25))) (.cons .dead .nil) .nil) (.cons (.try (.cons (.asg 2 (.bm .lower (.var 0) .nil)) .nil)) (.cons (.ite (.cmp (.var 2) .Eq (.str (Str.ofString "pass"))) (.cons (.ret .none) .nil) .nil) (.cons (.try (.cons (.asg 3 (.sub (.var 2) (.int 0))) (.cons (.ite (.or (.cons (.not (.chain (.str (Str.ofString "a")) .LtE (.var 3) .LtE (.str (Str.ofString "z")))) (.cons (.cmp (.var 3) .Eq (.str (Str.ofString "i"))) .nil))) (.cons .dead .nil) .nil) (.cons (.ite (.cmp (.var 3) .Gt (.str (Str.ofString "i"))) (.cons (.asg 4 (.bin .Sub (.bi .ord (.cons (.var 3) .nil)) (.bi .ord (.cons (.str (Str.ofString "b")) .nil)))) .nil) (.cons (.asg 4 (.bin .Sub (.bi .ord (.cons (.var 3) .nil)) (.bi .ord (.cons (.str (Str.ofString "a")) .nil)))) .nil)) (.cons (.asg 5 (.bin .Sub (.bi .int (.cons (.sliceFrom (.var 2) (.int 1)) .nil)) (.int 1))) (.cons (.ite (.cmp (.var 5) .Lt (.int 0)) (.cons .dead .nil) .nil) .nil)))))) (.cons (.ite (.not (.and (.cons (.cmp (.var 4) .Lt (.var 1)) (.cons (.cmp (.var 5) .Lt (.var 1)) .nil)))) (.cons .dead .nil) .nil) (.cons (.ret (.pair (.var 5) (.var 4))) .nil))))))⟩
noncomputable def F_init:FDef:=⟨2,[Str.ofString "self",Str.ofString "side",Str.ofString "row"],
 (.cons (.sattr (.var 0) .side (.var 1)) (.cons (.ite (.cmp (.var 1) .Lt (.int 2)) (.cons .dead .nil) .nil) (.cons (.sattr (.var 0) .board_points (.comp2 (.pair (.var 0) (.var 1)) (.range (.var 1)) (.range (.var 2)) [1])) (.cons (.sattr (.var 0) .board (.list .nil)) (.cons (.loop (.one 2) (.range (.var 1)) (.cons (.ex (.bm .append (.attr (.var 0) .board) (.cons (.bin .Mult (.list (.cons .none .nil)) (.var 1)) .nil))) .nil)) (.cons (.sattr (.var 0) .is_empty (.bool true)) .nil))))))⟩
noncomputable def F_make_group:FDef:=⟨4,[Str.ofString "self",Str.ofString "row",Str.ofString "col",Str.ofString "colour",Str.ofString "points",Str.ofString "is_surrounded",Str.ofString "to_handle",Str.ofString "point",Str.ofString "r",Str.ofString "c",Str.ofString "neighbour",Str.ofString "r1",Str.ofString "c1",Str.ofString "neigh_colour",Str.ofString "group"],
 (.cons (.asg 4 (.bi .set .nil)) (.cons (.asg 5 (.bool true)) (.cons (.asg 6 (.bi .set .nil)) (.cons (.ex (.bm .add (.var 6) (.cons (.pair (.var 1) (.var 2)) .nil))) (.cons (.while (.e (.var 6)) (.cons (.asg 7 (.bm .spop (.var 6) .nil)) (.cons (.ex (.bm .add (.var 4) (.cons (.var 7) .nil))) (.cons (.asgN [8,9] (.var 7)) (.cons (.loop (.one 10) (.e (.list (.cons (.pair (.bin .Sub (.var 8) (.int 1)) (.var 9)) (.cons (.pair (.bin .Add (.var 8) (.int 1)) (.var 9)) (.cons (.pair (.var 8) (.bin .Sub (.var 9) (.int 1))) (.cons (.pair (.var 8) (.bin .Add (.var 9) (.int 1))) .nil)))))) (.cons (.asgN [11,12] (.var 10)) (.cons (.ite (.not (.and (.cons (.chain (.int 0) .LtE (.var 11) .Lt (.attr (.var 0) .side)) (.cons (.chain (.int 0) .LtE (.var 12) .Lt (.attr (.var 0) .side)) .nil)))) (.cons .cont .nil) .nil) (.cons (.asg 13 (.sub (.sub (.attr (.var 0) .board) (.var 11)) (.var 12))) (.cons (.ite (.cmp (.var 13) .Is .none) (.cons (.asg 5 (.bool false)) .nil) (.cons (.ite (.cmp (.var 13) .Eq (.var 3)) (.cons (.ite (.cmp (.var 10) .NotIn (.var 4)) (.cons (.ex (.bm .add (.var 6) (.cons (.var 10) .nil))) .nil) .nil) .nil) .nil) .nil)) .nil))))) .nil))))) (.cons (.asg 14 .newGroup) (.cons (.sattr (.var 14) .colour (.var 3)) (.cons (.sattr (.var 14) .points (.var 4)) (.cons (.sattr (.var 14) .is_surrounded (.var 5)) (.cons (.ret (.var 14)) .nil))))))))))⟩
noncomputable def F_find_surrounded:FDef:=⟨3,[Str.ofString "self",Str.ofString "r",Str.ofString "c",Str.ofString "surrounded",Str.ofString "handled",Str.ofString "row",Str.ofString "col",Str.ofString "colour",Str.ofString "point",Str.ofString "group"],
 (.cons (.asg 3 (.list .nil)) (.cons (.asg 4 (.bi .set .nil)) (.cons (.loop (.two 5 6) (.e (.list (.cons (.pair (.var 1) (.var 2)) (.cons (.pair (.bin .Sub (.var 1) (.int 1)) (.var 2)) (.cons (.pair (.bin .Add (.var 1) (.int 1)) (.var 2)) (.cons (.pair (.var 1) (.bin .Sub (.var 2) (.int 1))) (.cons (.pair (.var 1) (.bin .Add (.var 2) (.int 1))) .nil))))))) (.cons (.ite (.not (.and (.cons (.chain (.int 0) .LtE (.var 5) .Lt (.attr (.var 0) .side)) (.cons (.chain (.int 0) .LtE (.var 6) .Lt (.attr (.var 0) .side)) .nil)))) (.cons .cont .nil) .nil) (.cons (.asg 7 (.sub (.sub (.attr (.var 0) .board) (.var 5)) (.var 6))) (.cons (.ite (.cmp (.var 7) .Is .none) (.cons .cont .nil) .nil) (.cons (.asg 8 (.pair (.var 5) (.var 6))) (.cons (.ite (.cmp (.var 8) .In (.var 4)) (.cons .cont .nil) .nil) (.cons (.asg 9 (.meth .make_group (.var 0) (.cons (.var 5) (.cons (.var 6) (.cons (.var 7) .nil))))) (.cons (.ite (.e (.attr (.var 9) .is_surrounded)) (.cons (.ex (.bm .append (.var 3) (.cons (.var 9) .nil))) .nil) .nil) (.cons (.ex (.bm .update (.var 4) (.cons (.attr (.var 9) .points) .nil))) .nil))))))))) (.cons (.ret (.var 3)) .nil))))⟩
noncomputable def F_find_all:FDef:=⟨1,[Str.ofString "self",Str.ofString "surrounded",Str.ofString "handled",Str.ofString "row",Str.ofString "col",Str.ofString "colour",Str.ofString "point",Str.ofString "group"],
 (.cons (.asg 1 (.list .nil)) (.cons (.asg 2 (.bi .set .nil)) (.cons (.loop (.two 3 4) (.e (.attr (.var 0) .board_points)) (.cons (.asg 5 (.sub (.sub (.attr (.var 0) .board) (.var 3)) (.var 4))) (.cons (.ite (.cmp (.var 5) .Is .none) (.cons .cont .nil) .nil) (.cons (.asg 6 (.pair (.var 3) (.var 4))) (.cons (.ite (.cmp (.var 6) .In (.var 2)) (.cons .cont .nil) .nil) (.cons (.asg 7 (.meth .make_group (.var 0) (.cons (.var 3) (.cons (.var 4) (.cons (.var 5) .nil))))) (.cons (.ite (.e (.attr (.var 7) .is_surrounded)) (.cons (.ex (.bm .append (.var 1) (.cons (.var 7) .nil))) .nil) .nil) (.cons (.ex (.bm .update (.var 2) (.cons (.attr (.var 7) .points) .nil))) .nil)))))))) (.cons (.ret (.var 1)) .nil))))⟩
noncomputable def F_is_empty:FDef:=⟨1,[Str.ofString "self"],
 (.cons (.ret (.attr (.var 0) .is_empty)) .nil)⟩
noncomputable def F_play:FDef:=⟨4,[Str.ofString "self",Str.ofString "row",Str.ofString "col",Str.ofString "colour",Str.ofString "opponent",Str.ofString "surrounded",Str.ofString "simple_ko_point",Str.ofString "to_capture",Str.ofString "self_capture",Str.ofString "group",Str.ofString "r",Str.ofString "c"],
 (.cons (.ite (.or (.cons (.cmp (.var 1) .Lt (.int 0)) (.cons (.cmp (.var 2) .Lt (.int 0)) .nil))) (.cons .dead .nil) .nil) (.cons (.asg 4 (.call .opponent_of (.cons (.var 3) .nil))) (.cons (.ite (.cmp (.sub (.sub (.attr (.var 0) .board) (.var 1)) (.var 2)) .IsNot .none) (.cons .raiseVE .nil) .nil) (.cons (.sitem (.sub (.attr (.var 0) .board) (.var 1)) (.var 2) (.var 3)) (.cons (.sattr (.var 0) .is_empty (.bool false)) (.cons (.asg 5 (.meth .find_surrounded (.var 0) (.cons (.var 1) (.cons (.var 2) .nil)))) (.cons (.asg 6 .none) (.cons (.ite (.e (.var 5)) (.cons (.ite (.cmp (.bi .len (.cons (.var 5) .nil)) .Eq (.int 1)) (.cons (.asg 7 (.var 5)) (.cons (.ite (.cmp (.bi .len (.cons (.attr (.sub (.var 7) (.int 0)) .points) .nil)) .Eq (.bin .Mult (.attr (.var 0) .side) (.attr (.var 0) .side))) (.cons (.sattr (.var 0) .is_empty (.bool true)) .nil) .nil) .nil)) (.cons (.asg 7 (.comp (.var 0) (.e (.var 5)) (.cmp (.attr (.var 0) .colour) .Eq (.var 1)) [4])) (.cons (.ite (.and (.cons (.cmp (.bi .len (.cons (.var 7) .nil)) .Eq (.int 1)) (.cons (.cmp (.bi .len (.cons (.attr (.sub (.var 7) (.int 0)) .points) .nil)) .Eq (.int 1)) .nil))) (.cons (.asg 8 (.comp (.var 0) (.e (.var 5)) (.cmp (.attr (.var 0) .colour) .Eq (.var 1)) [3])) (.cons (.ite (.cmp (.bi .len (.cons (.attr (.sub (.var 8) (.int 0)) .points) .nil)) .Eq (.int 1)) (.cons (.asgN [6] (.attr (.sub (.var 7) (.int 0)) .points)) .nil) .nil) .nil)) .nil) .nil))) (.cons (.loop (.one 9) (.e (.var 7)) (.cons (.loop (.two 10 11) (.e (.attr (.var 9) .points)) (.cons (.sitem (.sub (.attr (.var 0) .board) (.var 10)) (.var 11) .none) .nil)) .nil)) .nil)) .nil) (.cons (.ret (.var 6)) .nil)))))))))⟩
noncomputable def F_apply_setup:FDef:=⟨4,[Str.ofString "self",Str.ofString "black_points",Str.ofString "white_points",Str.ofString "empty_points",Str.ofString "row",Str.ofString "col",Str.ofString "captured",Str.ofString "group"],
 (.cons (.loop (.two 4 5) (.e (.bin .Add (.bin .Add (.bi .list (.cons (.var 1) .nil)) (.bi .list (.cons (.var 2) .nil))) (.bi .list (.cons (.var 3) .nil)))) (.cons (.ite (.or (.cons (.cmp (.var 4) .Lt (.int 0)) (.cons (.cmp (.var 5) .Lt (.int 0)) (.cons (.cmp (.var 4) .GtE (.attr (.var 0) .side)) (.cons (.cmp (.var 5) .GtE (.attr (.var 0) .side)) .nil))))) (.cons .dead .nil) .nil) .nil)) (.cons (.loop (.two 4 5) (.e (.var 1)) (.cons (.sitem (.sub (.attr (.var 0) .board) (.var 4)) (.var 5) (.str (Str.ofString "b"))) .nil)) (.cons (.loop (.two 4 5) (.e (.var 2)) (.cons (.sitem (.sub (.attr (.var 0) .board) (.var 4)) (.var 5) (.str (Str.ofString "w"))) .nil)) (.cons (.loop (.two 4 5) (.e (.var 3)) (.cons (.sitem (.sub (.attr (.var 0) .board) (.var 4)) (.var 5) .none) .nil)) (.cons (.asg 6 (.meth .find_all (.var 0) .nil)) (.cons (.loop (.one 7) (.e (.var 6)) (.cons (.loop (.two 4 5) (.e (.attr (.var 7) .points)) (.cons (.sitem (.sub (.attr (.var 0) .board) (.var 4)) (.var 5) .none) .nil)) .nil)) (.cons (.sattr (.var 0) .is_empty (.bool true)) (.cons (.loop (.two 4 5) (.e (.attr (.var 0) .board_points)) (.cons (.ite (.cmp (.sub (.sub (.attr (.var 0) .board) (.var 4)) (.var 5)) .IsNot .none) (.cons (.sattr (.var 0) .is_empty (.bool false)) (.cons .brk .nil)) .nil) .nil)) (.cons (.ret (.notv (.var 6))) .nil)))))))))⟩
noncomputable def F_occupied:FDef:=⟨1,[Str.ofString "self",Str.ofString "result",Str.ofString "row",Str.ofString "col",Str.ofString "colour"],
 (.cons (.asg 1 (.list .nil)) (.cons (.loop (.two 2 3) (.e (.attr (.var 0) .board_points)) (.cons (.asg 4 (.sub (.sub (.attr (.var 0) .board) (.var 2)) (.var 3))) (.cons (.ite (.cmp (.var 4) .IsNot .none) (.cons (.ex (.bm .append (.var 1) (.cons (.pair (.var 4) (.pair (.var 2) (.var 3))) .nil))) .nil) .nil) .nil))) (.cons (.ret (.var 1)) .nil)))⟩
noncomputable def F_near:FDef:=⟨2,[Str.ofString "point",Str.ofString "side",Str.ofString "row",Str.ofString "col",Str.ofString "around"],
 (.cons (.asgN [2,3] (.var 0)) (.cons (.asg 4 (.list (.cons (.pair (.bin .Sub (.var 2) (.int 1)) (.var 3)) (.cons (.pair (.bin .Add (.var 2) (.int 1)) (.var 3)) (.cons (.pair (.var 2) (.bin .Sub (.var 3) (.int 1))) (.cons (.pair (.var 2) (.bin .Add (.var 3) (.int 1))) .nil)))))) (.cons (.ret (.comp (.var 0) (.e (.var 4)) (.and (.cons (.chain (.int 0) .LtE (.sub (.var 0) (.int 0)) .Lt (.var 1)) (.cons (.chain (.int 0) .LtE (.sub (.var 0) (.int 1)) .Lt (.var 1)) .nil))) [1])) .nil)))⟩
noncomputable def F_breathing:FDef:=⟨2,[Str.ofString "stones",Str.ofString "side",Str.ofString "living",Str.ofString "point",Str.ofString "one"],
 (.cons (.asg 2 (.comp (.var 0) (.e (.var 0)) (.e (.comp (.var 0) (.e (.call .near (.cons (.var 0) (.cons (.var 1) .nil)))) (.cmp (.var 0) .NotIn (.var 1)) [2])) [1,0])) (.cons (.loop (.one 3) (.e (.var 2)) (.cons (.loop (.one 4) (.e (.call .near (.cons (.var 3) (.cons (.var 1) .nil)))) (.cons (.ite (.and (.cons (.cmp (.var 4) .In (.var 0)) (.cons (.cmp (.sub (.var 0) (.var 4)) .Eq (.sub (.var 0) (.var 3))) (.cons (.cmp (.var 4) .NotIn (.var 2)) .nil)))) (.cons (.ex (.bm .append (.var 2) (.cons (.var 4) .nil))) .nil) .nil) .nil)) .nil)) (.cons (.ret (.var 2)) .nil)))⟩
noncomputable def F_only:FDef:=⟨2,[Str.ofString "stones",Str.ofString "kept",Str.ofString "left",Str.ofString "point"],
 (.cons (.asg 2 .dict0) (.cons (.loop (.one 3) (.e (.var 0)) (.cons (.ite (.cmp (.var 3) .In (.var 1)) (.cons (.sitem (.var 2) (.var 3) (.sub (.var 0) (.var 3))) .nil) .nil) .nil)) (.cons (.ret (.var 2)) .nil)))⟩
noncomputable def F_moved:FDef:=⟨4,[Str.ofString "stones",Str.ofString "side",Str.ofString "point",Str.ofString "colour",Str.ofString "after",Str.ofString "living",Str.ofString "foes"],
 (.cons (.asg 4 (.call .only (.cons (.var 0) (.cons (.var 0) .nil)))) (.cons (.sitem (.var 4) (.var 2) (.var 3)) (.cons (.asg 5 (.call .breathing (.cons (.var 4) (.cons (.var 1) .nil)))) (.cons (.asg 6 (.comp (.var 0) (.e (.var 4)) (.and (.cons (.cmp (.sub (.var 1) (.var 0)) .NotEq (.var 2)) (.cons (.cmp (.var 0) .NotIn (.var 3)) .nil))) [4,3,5])) (.cons (.ite (.e (.var 6)) (.cons (.ret (.call .only (.cons (.var 4) (.cons (.comp (.var 0) (.e (.var 4)) (.cmp (.var 0) .NotIn (.var 1)) [6]) .nil)))) .nil) .nil) (.cons (.ret (.call .only (.cons (.var 4) (.cons (.var 5) .nil)))) .nil))))))⟩
noncomputable def F_rows:FDef:=⟨2,[Str.ofString "stones",Str.ofString "points"],
 (.cons (.ret (.comp (.pair (.sub (.var 1) (.var 0)) (.var 0)) (.e (.var 1)) (.cmp (.var 0) .In (.var 1)) [0])) .nil)⟩
noncomputable def F_stones:FDef:=⟨2,[Str.ofString "number",Str.ofString "points",Str.ofString "stones",Str.ofString "point"],
 (.cons (.asg 2 .dict0) (.cons (.asg 0 (.bin .Mod (.bin .Mult (.bin .Add (.var 0) (.int 1)) (.int 29004926)) (.int 43046721))) (.cons (.loop (.one 3) (.e (.var 1)) (.cons (.ite (.e (.bin .Mod (.var 0) (.int 3))) (.cons (.sitem (.var 2) (.var 3) (.sub (.str (Str.ofString "bw")) (.bin .Sub (.bin .Mod (.var 0) (.int 3)) (.int 1)))) .nil) .nil) (.cons (.asg 0 (.bin .FloorDiv (.var 0) (.int 3))) .nil))) (.cons (.ret (.var 2)) .nil))))⟩
noncomputable def F_ofColour:FDef:=⟨3,[Str.ofString "stones",Str.ofString "points",Str.ofString "colour"],
 (.cons (.ret (.comp (.var 0) (.e (.var 1)) (.cmp (.bm .get (.var 1) (.cons (.var 0) .nil)) .Eq (.var 2)) [0,2])) .nil)⟩
noncomputable def F_order:FDef:=⟨2,[Str.ofString "things",Str.ofString "numbers",Str.ofString "order",Str.ofString "index",Str.ofString "thing"],
 (.cons (.asg 2 (.list .nil)) (.cons (.loop (.two 3 4) (.enum (.var 0)) (.cons (.ex (.bm .insert (.var 2) (.cons (.bin .Mod (.sub (.var 1) (.var 3)) (.bin .Add (.var 3) (.int 1))) (.cons (.var 4) .nil)))) .nil)) (.cons (.ret (.var 2)) .nil)))⟩
noncomputable def F_read:FDef:=⟨2,[Str.ofString "text",Str.ofString "side"],
 (.cons (.ret (.ite (.e (.var 0)) (.comp (.call .move_from_vertex (.cons (.var 0) (.cons (.var 1) .nil))) (.e (.bm .split (.var 0) (.cons (.str (Str.ofString ",")) .nil))) .tt [1]) (.list .nil))) .nil)⟩
noncomputable def F_tryPlay:FDef:=⟨3,[Str.ofString "board",Str.ofString "point",Str.ofString "colour"],
 (.cons (.tryVE (.pair (.str (Str.ofString "told")) (.meth .play (.var 0) (.cons (.sub (.var 1) (.int 0)) (.cons (.sub (.var 1) (.int 1)) (.cons (.var 2) .nil))))) (Str.ofString "refused")) .nil)⟩
noncomputable def P1 (rest:SL):SL:=(.cons (.asgN [1,2,3,4,5] (.sliceTo (.bin .Add (.var 0) (.list (.cons (.int 0) (.cons (.int 0) (.cons (.int 0) (.cons (.int 0) (.cons (.int 0) .nil))))))) (.int 5))) (.cons (.asg 6 (.bin .Add (.slice (.var 0) (.int 5) (.int 37)) (.bin .Mult (.list (.cons (.int 0) .nil)) (.int 32)))) (.cons (.asg 7 (.bin .Sub (.int 4) (.bin .Mod (.var 1) (.int 3)))) (.cons (.asg 8 (.comp2 (.pair (.var 0) (.var 1)) (.range (.var 7)) (.range (.var 2)) [7])) (.cons (.asg 9 (.call .stones (.cons (.var 2) (.cons (.var 8) .nil)))) (.cons (.asg 10 (.call .only (.cons (.var 9) (.cons (.call .breathing (.cons (.var 9) (.cons (.var 7) .nil))) .nil)))) (.cons (.asg 11 (.newBoard (.var 7))) (.cons (.ite (.cmp (.meth .apply_setup (.var 11) (.cons (.call .ofColour (.cons (.var 9) (.cons (.var 8) (.cons (.str (Str.ofString "b")) .nil)))) (.cons (.call .ofColour (.cons (.var 9) (.cons (.var 8) (.cons (.str (Str.ofString "w")) .nil)))) (.cons (.list .nil) .nil)))) .NotEq (.cmp (.var 10) .Eq (.var 9))) (.cons (.ret (.bool false)) .nil) .nil) rest))))))))
noncomputable def P2 (rest:SL):SL:=(.cons (.asg 12 (.comp (.pair (.sub (.var 1) (.var 0)) (.call .format_vertex (.cons (.var 0) .nil))) (.e (.call .order (.cons (.comp (.var 0) (.e (.var 8)) (.cmp (.var 0) .In (.var 1)) [10]) (.cons (.var 6) .nil)))) .tt [10])) (.cons (.asg 13 (.bin .Mod (.bin .Mult (.bin .Add (.bin .FloorDiv (.var 1) (.int 3)) (.int 1)) (.int 40503)) (.int 65536))) (.cons (.asg 14 (.newBoard (.var 7))) (.cons (.asg 15 .dict0) rest))))
noncomputable def LB3:SL:=(.cons (.asg 18 (.call .move_from_vertex (.cons (.var 17) (.cons (.var 7) .nil)))) (.cons (.ite (.cmp (.bin .Mod (.var 13) (.int 2)) .Eq (.int 1)) (.cons (.asg 19 (.cmp (.call .tryPlay (.cons (.var 14) (.cons (.var 18) (.cons (.var 16) .nil)))) .Eq (.pair (.str (Str.ofString "told")) .none))) .nil) (.cons (.ite (.cmp (.var 16) .Eq (.str (Str.ofString "b"))) (.cons (.asg 19 (.meth .apply_setup (.var 14) (.cons (.list (.cons (.var 18) .nil)) (.cons (.list .nil) (.cons (.list .nil) .nil))))) .nil) (.cons (.asg 19 (.meth .apply_setup (.var 14) (.cons (.list .nil) (.cons (.list (.cons (.var 18) .nil)) (.cons (.list .nil) .nil))))) .nil)) .nil)) (.cons (.asg 13 (.bin .FloorDiv (.var 13) (.int 2))) (.cons (.sitem (.var 15) (.var 18) (.var 16)) (.cons (.ite (.or (.cons (.not (.e (.var 19))) (.cons (.cmp (.meth .occupied (.var 14) .nil) .NotEq (.call .rows (.cons (.var 15) (.cons (.var 8) .nil)))) (.cons (.e (.meth .is_empty (.var 14) .nil)) .nil)))) (.cons (.ret (.bool false)) .nil) .nil) .nil)))))
noncomputable def P3 (rest:SL):SL:=(.cons (.loop (.two 16 17) (.e (.var 12)) LB3) rest)
noncomputable def P4 (rest:SL):SL:=(.cons (.ite (.or (.cons (.cmp (.meth .occupied (.var 11) .nil) .NotEq (.meth .occupied (.var 14) .nil)) (.cons (.cmp (.var 15) .NotEq (.var 10)) .nil))) (.cons (.ret (.bool false)) .nil) .nil) (.cons (.asgN [18,16] (.pair (.sub (.var 8) (.bin .Mod (.var 4) (.bi .len (.cons (.var 8) .nil)))) (.sub (.str (Str.ofString "bw")) (.bin .Mod (.bin .FloorDiv (.var 4) (.bi .len (.cons (.var 8) .nil))) (.int 2))))) (.cons (.asg 20 (.call .tryPlay (.cons (.var 14) (.cons (.var 18) (.cons (.var 16) .nil))))) (.cons (.ite (.cmp (.cmp (.sub (.var 20) (.int 0)) .Eq (.str (Str.ofString "refused"))) .NotEq (.cmp (.var 18) .In (.var 10))) (.cons (.ret (.bool false)) .nil) .nil) (.cons (.ite (.cmp (.var 18) .NotIn (.var 10)) (.cons (.asg 10 (.call .moved (.cons (.var 10) (.cons (.var 7) (.cons (.var 18) (.cons (.var 16) .nil)))))) .nil) .nil) (.cons (.ite (.cmp (.meth .occupied (.var 14) .nil) .NotEq (.call .rows (.cons (.var 10) (.cons (.var 8) .nil)))) (.cons (.ret (.bool false)) .nil) .nil) rest))))))
noncomputable def P5 (rest:SL):SL:=(.cons (.asg 21 (.call .read (.cons (.call .format_vertex_list (.cons (.call .ofColour (.cons (.var 10) (.cons (.var 8) (.cons (.str (Str.ofString "b")) .nil)))) .nil)) (.cons (.var 7) .nil)))) (.cons (.asg 22 (.call .read (.cons (.call .format_vertex_list (.cons (.call .ofColour (.cons (.var 10) (.cons (.var 8) (.cons (.str (Str.ofString "w")) .nil)))) .nil)) (.cons (.var 7) .nil)))) (.cons (.asg 23 (.comp (.var 0) (.e (.var 8)) (.cmp (.var 0) .NotIn (.var 1)) [10])) (.cons (.asg 24 (.newBoard (.var 7))) (.cons (.asg 25 (.call .stones (.cons (.var 3) (.cons (.var 8) .nil)))) (.cons (.ex (.meth .apply_setup (.var 24) (.cons (.call .ofColour (.cons (.var 25) (.cons (.var 8) (.cons (.str (Str.ofString "b")) .nil)))) (.cons (.call .ofColour (.cons (.var 25) (.cons (.var 8) (.cons (.str (Str.ofString "w")) .nil)))) (.cons (.list .nil) .nil))))) (.cons (.ite (.not (.e (.meth .apply_setup (.var 24) (.cons (.var 21) (.cons (.var 22) (.cons (.var 23) .nil)))))) (.cons (.ret (.bool false)) .nil) .nil) (.cons (.ite (.or (.cons (.cmp (.meth .occupied (.var 24) .nil) .NotEq (.meth .occupied (.var 14) .nil)) (.cons (.cmp (.meth .is_empty (.var 24) .nil) .NotEq (.meth .is_empty (.var 14) .nil)) .nil))) (.cons (.ret (.bool false)) .nil) .nil) rest))))))))
noncomputable def P6 (rest:SL):SL:=(.cons (.asgN [18,16] (.pair (.sub (.var 8) (.bin .Mod (.var 5) (.bi .len (.cons (.var 8) .nil)))) (.sub (.str (Str.ofString "bw")) (.bin .Mod (.bin .FloorDiv (.var 5) (.bi .len (.cons (.var 8) .nil))) (.int 2))))) (.cons (.asg 20 (.call .tryPlay (.cons (.var 24) (.cons (.var 18) (.cons (.var 16) .nil))))) (.cons (.ite (.or (.cons (.cmp (.var 20) .NotEq (.call .tryPlay (.cons (.var 14) (.cons (.var 18) (.cons (.var 16) .nil))))) (.cons (.cmp (.cmp (.sub (.var 20) (.int 0)) .Eq (.str (Str.ofString "refused"))) .NotEq (.cmp (.var 18) .In (.var 10))) .nil))) (.cons (.ret (.bool false)) .nil) .nil) (.cons (.ite (.cmp (.var 18) .NotIn (.var 10)) (.cons (.asg 10 (.call .moved (.cons (.var 10) (.cons (.var 7) (.cons (.var 18) (.cons (.var 16) .nil)))))) .nil) .nil) (.cons (.asg 26 (.call .rows (.cons (.var 10) (.cons (.var 8) .nil)))) (.cons (.ite (.or (.cons (.cmp (.meth .occupied (.var 24) .nil) .NotEq (.var 26)) (.cons (.cmp (.meth .occupied (.var 14) .nil) .NotEq (.var 26)) .nil))) (.cons (.ret (.bool false)) .nil) .nil) rest))))))
noncomputable def LB7:SL:=(.cons (.asg 19 (.meth .apply_setup (.var 24) (.cons (.list .nil) (.cons (.list .nil) (.cons (.call .read (.cons (.call .format_vertex_list (.cons (.slice (.var 27) (.var 28) (.bin .Add (.var 28) (.int 2))) .nil)) (.cons (.var 7) .nil))) .nil))))) (.cons (.loop (.one 18) (.e (.slice (.var 27) (.var 28) (.bin .Add (.var 28) (.int 2)))) (.cons (.ex (.bm .dpop (.var 10) (.cons (.var 18) .nil))) .nil)) (.cons (.ite (.or (.cons (.not (.e (.var 19))) (.cons (.cmp (.meth .occupied (.var 24) .nil) .NotEq (.call .rows (.cons (.var 10) (.cons (.var 8) .nil)))) (.cons (.cmp (.meth .is_empty (.var 24) .nil) .NotEq (.cmp (.var 10) .Eq .dict0)) .nil)))) (.cons (.ret (.bool false)) .nil) .nil) .nil)))
noncomputable def P7 (rest:SL):SL:=(.cons (.asg 27 (.call .order (.cons (.comp (.var 0) (.e (.var 8)) (.cmp (.var 0) .In (.var 1)) [10]) (.cons (.sliceFrom (.var 6) (.int 16)) .nil)))) (.cons (.loop (.one 28) (.range3 (.int 0) (.bi .len (.cons (.var 27) .nil)) (.int 2)) LB7) (.cons (.ret (.andv (.cmp (.meth .occupied (.var 14) .nil) .Eq (.var 26)) (.meth .is_empty (.var 24) .nil))) rest)))
noncomputable def F_law:FDef:=⟨1,[Str.ofString "script",Str.ofString "head",Str.ofString "cells",Str.ofString "other",Str.ofString "first",Str.ofString "second",Str.ofString "spare",Str.ofString "side",Str.ofString "points",Str.ofString "raw",Str.ofString "stones",Str.ofString "shown",Str.ofString "record",Str.ofString "ways",Str.ofString "held",Str.ofString "there",Str.ofString "colour",Str.ofString "text",Str.ofString "point",Str.ofString "good",Str.ofString "came",Str.ofString "black",Str.ofString "white",Str.ofString "bare",Str.ofString "page",Str.ofString "lying",Str.ofString "rows",Str.ofString "going",Str.ofString "index"],
 P1 (P2 (P3 (P4 (P5 (P6 (P7 .nil))))))⟩
noncomputable def fns:Fn→FDef
 | .opponent_of=>F_opponent_of
 | .format_vertex=>F_format_vertex
 | .format_vertex_list=>F_format_vertex_list
 | .move_from_vertex=>F_move_from_vertex
 | .init=>F_init
 | .make_group=>F_make_group
 | .find_surrounded=>F_find_surrounded
 | .find_all=>F_find_all
 | .is_empty=>F_is_empty
 | .play=>F_play
 | .apply_setup=>F_apply_setup
 | .occupied=>F_occupied
 | .near=>F_near
 | .breathing=>F_breathing
 | .only=>F_only
 | .moved=>F_moved
 | .rows=>F_rows
 | .stones=>F_stones
 | .ofColour=>F_ofColour
 | .order=>F_order
 | .read=>F_read
 | .tryPlay=>F_tryPlay
structure EnvR (h:Heap) (H:AHeap) (sc:Scope) (vars:List Str) (env:Env) (ρ:Loc):Prop where
 scope:env.scope = sc
 kind:sc.kind = .function
 glob:env.globals = mainGlobals
 built:env.builtins = builtinsNs
 nodup:vars.Nodup
 len:ρ.length = vars.length
 kinds:∀ x∈vars,sc.names.lookup x = some .local∨(sc.names.lookup x = some .cell∧∃ c,env.cells.lookup x = some c)
 cells:∀ x c,env.cells.lookup x = some c→H c = none∧∃ v,h.IsCell c v
 apart:∀ x y c,env.cells.lookup x = some c→env.cells.lookup y = some c→x = y
 frame:H env.locals = none
 look:∃ m,h.Ns env.locals m∧∀ (i:Nat) (x:Str) (av:AV),vars[i]? = some x→ρ[i]? = some (some av)→
  (sc.names.lookup x = some .local→∃ v,m x = some v∧RV h H av v)∧
  (sc.names.lookup x = some .cell→∀ c,env.cells.lookup x = some c→∃ v,h.IsCell c (some v)∧RV h H av v)
noncomputable def own (env:Env) (b:Addr):Prop:=b = env.locals∨∃ x,env.cells.lookup x = some b
theorem ns_slots {h h':Heap} {a:Addr} {m:Str→Option Value} (n:h.Ns a m) (k:∀ o,h.get? a = some o→∃ sl,h'.get? a = some { o with slots:=sl }):h'.Ns a m:=by
 refine bc fun nG=>?_
 obtain ⟨o,es,ep,ho,hd,r⟩:=n
 refine nG ?_
 obtain ⟨sl,e⟩:=k o ho
 exact ⟨_,es,ep,e,hd,r⟩
theorem cell_slots {h h':Heap} {a:Addr} {v:Option Value} (n:h.IsCell a v) (k:∀ o,h.get? a = some o→∃ sl,h'.get? a = some { o with slots:=sl }):h'.IsCell a v:=by
 obtain ⟨o,ho,hd⟩:=n
 obtain ⟨sl,e⟩:=k o ho
 exact ⟨_,e,hd⟩
theorem EnvR.ownOk {h H sc vars env ρ} (R:EnvR h H sc vars env ρ):OwnOk (own env) h:=by
 rintro b o (rfl | ⟨x,e⟩) hb x1 y1 hd
 · refine bc fun nG=>?_
   obtain ⟨m,⟨o',es,ep,ho,hd',_⟩,_⟩:=R.look
   refine nG ?_
   rw [ho] at hb;obtain rfl:=Option.some.inj hb;rw [hd] at hd';cases hd'
 · obtain ⟨_,v,o',ho,hd'⟩:=R.cells x b e
   rw [ho] at hb;obtain rfl:=Option.some.inj hb;rw [hd] at hd';cases hd'
theorem EnvR.ext {h H sc vars env ρ h' H'} (R:EnvR h H sc vars env ρ) (x:ExtE h H h' H'):EnvR h' H' sc vars env ρ:=by
 refine bc fun nG=>?_
 obtain ⟨m,hn,hl⟩:=R.look
 refine nG ?_
 have hns:h'.Ns env.locals m:=ns_slots hn fun o e=>x.slots _ o e R.frame id
 have hcell:∀ y c v,env.cells.lookup y = some c→h.IsCell c v→h'.IsCell c v:=fun y c v e k=>cell_slots k fun o q=>x.slots _ o q (R.cells y c e).1 id
 refine ⟨R.scope,R.kind,R.glob,R.built,R.nodup,R.len,R.kinds,fun y c e=>?_,R.apart,?_,m,hns,fun i y av hv hr=>⟨fun k=>?_,fun k c e=>?_⟩⟩
 · obtain ⟨n,v,k⟩:=R.cells y c e
   obtain ⟨o,ho,_⟩:=id k
   exact ⟨x.free _ o ho n id,v,hcell y c v e k⟩
 · refine bc fun nG=>?_
   obtain ⟨o,es,ep,ho,_⟩:=hn
   refine nG ?_
   exact x.free _ o ho R.frame id
 · obtain ⟨v,e,r⟩:=(hl i y av hv hr).1 k
   exact ⟨v,e,r.extE x⟩
 · obtain ⟨v,q,r⟩:=(hl i y av hv hr).2 k c e
   exact ⟨v,hcell y c _ e q,r.extE x⟩
theorem lookup_inj {vars:List Str} (hn:vars.Nodup) {i j:Nat} {x:Str} (h1:vars[i]? = some x) (h2:vars[j]? = some x):i = j:=
 (List.getElem?_inj (List.getElem?_eq_some_iff.mp h1).1 hn).mp (h1.trans h2.symm)
theorem Ext.ofOwn {env:Env} {h h':Heap} {H:AHeap} {a:Addr} (ha:own env a) (sb:Heap.SameBut a h h') (hl:∃ o,h'.get? a = some o):Ext (own env) h H h' H:=
 ⟨fun _ _ _ n _=>n,
   fun b o e _ no _=>(sb.2 b fun q=>no (q▸ha)).trans e,
   fun b o e _ no=>⟨o.slots,(sb.2 b fun q=>no (q▸ha)).trans e⟩,
   fun b o e _=>by
    by_cases q:b = a
    · subst q;exact hl
    · exact ⟨o,(sb.2 b q).trans e⟩⟩
theorem Inv.ofOwn {byText B os₀ s H} (I:Inv byText B os₀ s H) {sc vars env ρ} (R:EnvR s.heap H sc vars env ρ) (hB:∀ b,own env b→B.get? b = none) {s':Shared} {a:Addr} (ha:own env a) (sb:Heap.SameBut a s.heap s'.heap)
 (hl:∃ o,s'.heap.get? a = some o) (hg:s'.gens = s.gens) (ho:s'.os = s.os):Inv byText B os₀ s' H:=by
 have x:=Ext.ofOwn (H:=H) ha sb hl
 have hHa:H a = none:=by
  rcases ha with rfl | ⟨y,e⟩
  · exact R.frame
  · exact (R.cells y a e).1
 refine ⟨fun b o e=>⟨(sb.2 b fun q=>?_).trans (I.base b o e).1,(I.base b o e).2⟩,fun b o e=>?_,hg.trans I.gens,ho.trans I.os⟩
 · rw [q,hB a ha] at e;cases e
 · exact (I.rep b o e).ext x R.ownOk (sb.2 b fun q=>by rw [q,hHa] at e;cases e)
section
variable {prog:Program} {w:World} {B:Heap} {os₀:OsState}
structure Cx (B:Heap) (A:Around) (h:Heap) (H:AHeap):Prop where
 handled:A.handled = none
 frames:∃ l,A.frames = some l∧∀ env∈l,env.scope.kind≠.module∧(X4 fun L o es n=>A5 (env.frame = some L) (B.get? L = none) (H L = none) (h.get? L = some o) (o.data = .dict es n))
theorem Cx.ext {A h H h' H'} (c:Cx B A h H) (x:ExtE h H h' H'):Cx B A h' H':=by
 obtain ⟨l,hf,hl⟩:=c.frames
 refine ⟨c.handled,l,hf,fun env he=>?_⟩
 refine bc fun nG=>?_
 obtain ⟨k,L,o,es,n,e1,e2,e3,e4,e5⟩:=hl env he
 refine nG ?_
 refine bc fun nG=>?_
 obtain ⟨sl,q⟩:=x.slots L o e4 e3 id
 refine nG ?_
 exact ⟨k,L,_,es,n,e1,e2,x.free L o e4 e3 id,q,e5⟩
noncomputable def Room (n:Nat) (A:Around):Prop:=A.depth + 3 * n + 20 < recursionLimit∧A.units + 40 * n + 300 < cLine
noncomputable def RoomF (n:Nat) (A:Around):Prop:=A.depth + 3 * n + 22 < recursionLimit∧A.units + 40 * n + 310 < cLine
theorem RoomF.room {n A} (h:RoomF n A):Room n A:=⟨by have:=h.1;exact linLt [_,_,_] 1 (.a (.a (.v 0) (.m 3 (.v 1))) (.n 20)) (.v 2) [.lt 1 (.a (.a (.v 0) (.m 3 (.v 1))) (.n 22)) (.v 2)] rfl this,by have:=h.2;exact linLt [_,_,_] 1 (.a (.a (.v 0) (.m 40 (.v 1))) (.n 300)) (.v 2) [.lt 1 (.a (.a (.v 0) (.m 40 (.v 1))) (.n 310)) (.v 2)] rfl this⟩
theorem RoomF.entered {n:Nat} {A:Around} (h:Room (n + 1) A) (env:Env):RoomF n (A.deeper env):=
 ⟨by have:=h.1;show A.depth + 1 + 3 * n + 22 < _;exact linLt [_,_,_] 1 (.a (.a (.a (.v 0) (.n 1)) (.m 3 (.v 1))) (.n 22)) (.v 2) [.lt 1 (.a (.a (.v 0) (.m 3 (.a (.v 1) (.n 1)))) (.n 20)) (.v 2)] rfl this,by have:=h.2;show A.units + 3 + 40 * n + 310 < _;exact linLt [_,_,_] 1 (.a (.a (.a (.v 0) (.n 3)) (.m 40 (.v 1))) (.n 310)) (.v 2) [.lt 1 (.a (.a (.v 0) (.m 40 (.a (.v 1) (.n 1)))) (.n 300)) (.v 2)] rfl this⟩
inductive ExOk (w:World) (A:Around) (h:Heap) (e:Value) (s':Shared) (H':AHeap):Prop
 | mk (l:List Env) (ev:Addr) (base:Heap) (a0:Value):A.frames = some l→e = .ref ev→Heap.FlyingW base l ev (.type "ValueError") a0 s'.heap→(∀ b o,h.get? b = some o→b∉l.filterMap (·.frame)→∃ o',base.get? b = some o')→(∀ a o,H' a = some o→RO (w.params.followText "set-order") base H' a o)→ExOk w A h e s' H'
theorem ExOk.of {A A':Around} {h:Heap} {e:Value} {s':Shared} {H':AHeap} (x:ExOk w A' h e s' H') (hf:A'.frames = A.frames):ExOk w A h e s' H':=by
 obtain ⟨l,ev,base,a0,h1,h2,h4,h5,h6⟩:=x
 exact ⟨l,ev,base,a0,hf.symm.trans h1,h2,h4,h5,h6⟩
theorem ExOk.mono {A h h₁ e s' H'} (x:ExOk w A h₁ e s' H') (k:∀ b o,h.get? b = some o→∃ o',h₁.get? b = some o'):ExOk w A h e s' H':=by
 obtain ⟨l,ev,base,a0,h1,h2,h4,h5,h6⟩:=x
 exact ⟨l,ev,base,a0,h1,h2,h4,fun b o q nb=>let ⟨o',z⟩:=k b o q;h5 b o' z nb,h6⟩
variable (prog w B os₀) in
abbrev INV (s:Shared) (H:AHeap):Prop:=Inv (w.params.followText "set-order") B os₀ s H
inductive OkE {α:Type} (w:World) (B:Heap) (os₀:OsState) (h:Heap) (H:AHeap) (R:α→Shared→AHeap→Prop) (a:α) (s':Shared):Prop
 | mk (H':AHeap):INV w B os₀ s' H'→ExtE h H s'.heap H'→R a s' H'→OkE w B os₀ h H R a s'
inductive XE (w:World) (B:Heap) (os₀:OsState) (A:Around) (h:Heap) (H:AHeap) (X:AHeap→Prop) (e:Value) (s':Shared):Prop
 | mk (H':AHeap):INV w B os₀ s' H'→ExtE h H s'.heap H'→ExOk w A h e s' H'→X H'→XE w B os₀ A h H X e s'
variable (prog w B os₀) in
noncomputable def WpE {α:Type} (A:Around) (t:Sem α) (s:Shared) (H:AHeap) (R:α→Shared→AHeap→Prop) (X:AHeap→Prop):Prop:=
 wpAny (model prog w) A t (OkE w B os₀ s.heap H R)
  (XE w B os₀ A s.heap H X) s
theorem WpE.mono {α:Type} {A:Around} {m:Sem α} {s:Shared} {H:AHeap} {R R':α→Shared→AHeap→Prop} {X:AHeap→Prop}
 (h:WpE prog w B os₀ A m s H R X) (k:∀ a s' H',INV w B os₀ s' H'→ExtE s.heap H s'.heap H'→R a s' H'→R' a s' H'):WpE prog w B os₀ A m s H R' X:=
 wpAny_mono h (fun a s' ⟨H',i,x,r⟩=>⟨H',i,x,k a s' H' i x r⟩) fun _ _ q=>q
theorem WpE.pure {α:Type} {A:Around} {a:α} {s:Shared} {H:AHeap} {R:α→Shared→AHeap→Prop} {X:AHeap→Prop} (i:INV w B os₀ s H) (r:R a s H):WpE prog w B os₀ A (pure a) s H R X:=
 wpAny_pure ⟨H,i,Ext.refl _ _ _,r⟩
end
section
variable {prog:Program} {w:World} {B:Heap} {os₀:OsState} {A:Around} {s:Shared} {H:AHeap}
inductive RQ (Q:AV→AHeap→Prop) (v:Value) (s':Shared) (H':AHeap):Prop
 | mk (av:AV):RV s'.heap H' av v→Q av H'→RQ Q v s' H'
theorem push_keeps (h:Heap) (o:Obj):∀ b ob,h.get? b = some ob→(h.push o).get? b = some ob:=fun _ _ e=>Heap.get?_push_of_some o e
theorem addList {byText:Bool} (i:Inv byText B os₀ s H) {xs:List AV} {vs:List Value} (r:RVs s.heap H xs vs) (tk:Nat):
 Inv byText B os₀ { s with heap:=s.heap.push (listO vs 0),toks:=tk } (H.set s.heap.objs.size (.list xs))∧ExtE s.heap H (s.heap.push (listO vs 0)) (H.set s.heap.objs.size (.list xs)):=by
 have x:ExtE s.heap H (s.heap.push (listO vs 0)) (H.set s.heap.objs.size (.list xs)):=ExtE.add _ _ (get?_size _) (push_keeps _ _)
 exact ⟨i.add (get?_size _) (push_keeps _ _) ⟨vs,0,Heap.get?_push_size _ rfl,r.extE x⟩ rfl rfl,x⟩
theorem addTup {byText:Bool} (i:Inv byText B os₀ s H) {a b:AV} {x y:Value} (r:RV s.heap H a x) (r':RV s.heap H b y) (tk:Nat):
 Inv byText B os₀ { s with heap:=s.heap.push (tup2 x y),toks:=tk } H∧ExtE s.heap H (s.heap.push (tup2 x y)) H∧RV (s.heap.push (tup2 x y)) H (.pair a b) (.ref s.heap.objs.size):=by
 have e:ExtE s.heap H (s.heap.push (tup2 x y)) H:=ExtE.grow (push_keeps _ _)
 exact ⟨i.grow (push_keeps _ _) rfl rfl,e,.pair (Heap.get?_push_size _ rfl) i.freshSize (r.extE e) (r'.extE e)⟩
theorem isList_of {xs:List AV} {a:Addr} {byText:Bool} (i:Inv byText B os₀ s H) (h:H a = some (.list xs)):(X2 fun vs n=>s.heap.get? a = some (listO vs n)∧RVs s.heap H xs vs):=i.rep a _ h
theorem listAt_of {xs:List AV} {a:Addr} {byText:Bool} (i:Inv byText B os₀ s H) (h:ListAt H a xs):(X2 fun vs n=>s.heap.get? a = some (listO vs n)∧RVs s.heap H xs vs):=by
 rcases h with h | ⟨g,h⟩
 · exact i.rep a _ h
 · obtain ⟨vs,n,e,_,r⟩:=i.rep a _ h;exact ⟨vs,n,e,r⟩
theorem listO_isList {h:Heap} {a:Addr} {vs:List Value} {n:Nat} (e:h.get? a = some (listO vs n)):h.IsList a vs.toArray:=⟨_,e,rfl,n,rfl⟩
theorem add_lists' {l b:Addr} {vs ws:List Value} {Q:Value→Shared→Prop} {E:Value→Shared→Prop} (hl:s.heap.IsList l vs.toArray) (hb:s.heap.IsList b ws.toArray)
 (h:Q (.ref s.heap.objs.size) { s with heap:=s.heap.push (listO (vs ++ ws) 0) }) (hsz:vs.length + ws.length≤sizeLine):
 wpAny (model prog w) A (binaryOp .Add (.ref l) (.ref b)) Q E s:=by
 refine bc fun nG=>?_
 obtain ⟨⟨cls,dd,data,sl⟩,ho,hc,n,hd⟩:=id hl
 refine nG ?_
 refine bc fun nG=>?_
 obtain ⟨⟨cls2,dd2,data2,sl2⟩,ho2,hc2,n2,hd2⟩:=id hb
 refine nG ?_
 simp only at hc hd hc2 hd2
 subst hc hd hc2 hd2
 have e:vs.toArray ++ ws.toArray = (vs ++ ws).toArray:=by simp
 refine concat_meets ⟨_,ho,rfl⟩ ⟨_,ho2,rfl⟩ noFill_list_add seq_list_add PySem.F.slot_list_add PySem.F.entry_list_add (PySem.F.args_list_add_2 _ _) (list_addW l b vs.toArray ws.toArray n n2 dd dd2 sl sl2 (by simpa using hsz)) ⟨ho,ho2,?_⟩
 refine wat e ?_
 exact h
theorem mul_list' {l:Addr} {vs:List Value} {k:Nat} {x:Int} {u:Tok} {Q:Value→Shared→Prop} {E:Value→Shared→Prop} (hl:s.heap.get? l = some (listO vs k))
 (hlo:-(2 ^ 63:Int)≤x) (hhi:x < 2 ^ 63) (hsz:vs.length * x.toNat≤2 ^ 24)
 (h:Q (.ref s.heap.objs.size) { s with heap:=s.heap.push { cls:=.type "list",data:=.seq (List.foldl (fun x1 x2=>x1 ++ x2) #[] (List.replicate (if vs.toArray.isEmpty = true then 0 else x.toNat) vs.toArray)) } }):
 wpAny (model prog w) A (binaryOp .Mult (.ref l) (.int x u)) Q E s:=
 wpAny_binaryOp_repeat_ref (T:="list") (U:="int") (by decide) ⟨_,hl,rfl⟩ (fun s'=>typeIs_int s' x u) noFill_list_mul PySem.F.fills_int_mul PySem.F.slot_int_rmul repeat_list PySem.F.slot_int_index.lookup
  (call_meets PySem.F.slot_int_rmul (typeIs_int s x u) PySem.F.entry_int_rmul (PySem.F.args_int_rmul_2 _ _) (int___rmul___int_list x u l vs.toArray k)
    ⟨hl,rfl,⟨_,hl,rfl⟩,call_meets PySem.F.slot_list_mul ⟨_,hl,rfl⟩ PySem.F.entry_list_mul (PySem.F.args_list_mul_2 _ _)
      (AutoListH.list___mul___list_int_3 l vs.toArray k x u (by simp [Builtin.List.listFitsIndex];lia) (by simp;exact linLe [_] 1 (.v 0) (.n 1152921504606846975) [.le 1 (.v 0) (.n (2 ^ 24))] rfl hsz) (by simp [Builtin.List.listTooLong,sizeLine];exact linLe [_] 1 (.v 0) (.n 16777216) [.le 1 (.v 0) (.n (2 ^ 24))] rfl hsz))
      ⟨hl,h⟩⟩)
theorem RVs.replicate {h:Heap} {a:AV} {v:Value} (r:RV h H a v):∀ n,RVs h H (List.replicate n a) (List.replicate n v)
 | 0=>.nil
 | n + 1=>.cons r (RVs.replicate r n)
theorem size1000:1000≤sizeLine:=by refine wat sizeLine_eq ?_;decide
set_option tactic.hygienic true in
theorem wp_bin {op:Operator} {x y:Value} {a b:AV} {Q:AV→AHeap→Prop} {X:AHeap→Prop} (i:INV w B os₀ s H) (r:RV s.heap H a x) (r':RV s.heap H b y)
 (h:BinR H Q op a b):WpE prog w B os₀ A (binaryOp op x y) s H (RQ Q) X:=by
 cases h with
 | addI h=>obtain ⟨_,rfl⟩:=r.vint;obtain ⟨_,rfl⟩:=r'.vint;exact PyProof.Rows.add_int ⟨H,i.toks _,Ext.refl _ _ _,_,.int,h⟩
 | subI h=>obtain ⟨_,rfl⟩:=r.vint;obtain ⟨_,rfl⟩:=r'.vint;exact PyProof.Rows.sub_int ⟨H,i.toks _,Ext.refl _ _ _,_,.int,h⟩
 | mulI hb h=>obtain ⟨_,rfl⟩:=r.vint;obtain ⟨_,rfl⟩:=r'.vint;exact PyProof.Rows.mul_int ⟨H,i.toks _,Ext.refl _ _ _,_,.int,h⟩ (IntMulOk.of_right hb)
 | @divI a b h0 h1 h=>
   obtain ⟨_,rfl⟩:=r.vint;obtain ⟨_,rfl⟩:=r'.vint
   have e:a.fdiv b = a / b:=Int.fdiv_eq_ediv_of_nonneg _ (by omega)
   refine AutoIntOps.floordiv_1 (by simp;omega) ?_ (by refine wat e ?_;exact ⟨H,i.toks _,Ext.refl _ _ _,_,.int,h⟩)
   have hlog:b.natAbs.log2 < 64:=by
    have:b.natAbs < 2 ^ 32:=by omega
    have:=Nat.log2_lt (n:=b.natAbs) (k:=32) (by omega)
    lia
   simp only [Builtin.divisionGoesByPylong,Bool.and_eq_true,decide_eq_true_eq,not_and]
   intro h1
   exfalso
   split at h1<;>lia
 | @modI a b h0 h1 h=>
   obtain ⟨_,rfl⟩:=r.vint;obtain ⟨_,rfl⟩:=r'.vint
   have e:a.fmod b = a % b:=Int.fmod_eq_emod_of_nonneg _ (by omega)
   exact mod_int' (by omega) (by refine wat e ?_;exact ⟨H,i.toks _,Ext.refl _ _ _,_,.int,h⟩)
 | addS h0 h1 h=>
   obtain ⟨_,rfl⟩:=r.vstr;obtain ⟨_,rfl⟩:=r'.vstr
   exact PyProof.Rows.add_str (fun t' tk=>⟨H,i.toks _,Ext.refl _ _ _,_,.str,h⟩) (by have:=size1000;exact linLe [_,_,_] 1 (.a (.v 0) (.v 1)) (.v 2) [.le 1 (.v 0) (.n 100),.le 1 (.v 1) (.n 100),.le 1 (.n 1000) (.v 2)] rfl h0 h1 this)
 | addL ha hb hl h=>
   obtain rfl:=r.vref;obtain rfl:=r'.vref
   obtain ⟨vs,n1,e1,rw1⟩:=listAt_of i ha
   obtain ⟨ws,n2,e2,rw2⟩:=isList_of i hb
   obtain ⟨i',x⟩:=addList i (rw1.append rw2) s.toks
   have l1:=rw1.length
   have l2:=rw2.length
   exact add_lists' (listO_isList e1) (listO_isList e2) ⟨_,i',x,_,.ref,h _ i.freshSize⟩ (by have:=size1000;exact linLe [_,_,_,_,_] 1 (.a (.v 2) (.v 3)) (.v 4) [.le 1 (.a (.v 0) (.v 1)) (.n 1000),.ge 1 (.v 0) (.v 2),.ge 1 (.v 1) (.v 3),.le 1 (.n 1000) (.v 4)] rfl hl l1 l2 this)
 | @mulL a u n ha h0 h1 h=>
   obtain rfl:=r.vref;obtain ⟨_,rfl⟩:=r'.vint
   obtain ⟨vs,n1,e1,rw1⟩:=isList_of i ha
   obtain ⟨_,_,rfl,q,rest⟩:=rw1.vcons
   obtain rfl:=rest.vnil
   rename_i v
   obtain ⟨i',x⟩:=addList i (RVs.replicate q n.toNat) s.toks
   refine mul_list' e1 (by lia) (by lia) (by show 1 * n.toNat≤2 ^ 24;lia) ?_
   have e:List.foldl (fun x1 x2=>x1 ++ x2) #[] (List.replicate (if [v].toArray.isEmpty = true then 0 else n.toNat) [v].toArray) = (List.replicate n.toNat v).toArray:=by
    rw [listMul_foldl_if];congr 1;simp
   refine wat e ?_
   exact ⟨_,i',x,_,.ref,h _ i.freshSize⟩
end
section
variable {prog:Program} {w:World} {B:Heap} {os₀:OsState} {A:Around} {s:Shared} {H:AHeap}
noncomputable def AV.data:AV→PyData
 | .none=>.none
 | .bool b=>.bool b
 | .int i=>.int i
 | .str s=>.str s
 | .pair a b=>.tuple [a.data,b.data]
 | .ref _=>.none
theorem data_inj:∀ (n:Nat) (a b:AV),a.plainN n = true→b.plainN n = true→PyData.eqv a.data b.data = decide (a = b):=by
 intro n a
 induction a generalizing n with
 | none=>intro b h1 h2;cases b<;>cases n<;>simp_all [AV.plainN,AV.data,PyData.eqv]
 | bool x=>intro b h1 h2;cases n<;>simp [AV.plainN] at h1
 | int x=>intro b h1 h2;cases b<;>cases n<;>simp_all [AV.plainN,AV.data,PyData.eqv]<;>exact (by rw [Bool.eq_iff_iff];simp)
 | str x=>intro b h1 h2;cases b<;>cases n<;>simp_all [AV.plainN,AV.data,PyData.eqv]<;>exact (by rw [Bool.eq_iff_iff];simp)
 | ref x=>intro b h1 h2;cases n<;>simp [AV.plainN] at h1
 | pair x y ih1 ih2=>
   intro b h1 h2
   cases n with
   | zero=>simp [AV.plainN] at h1
   | succ n=>
     simp only [AV.plainN,Bool.and_eq_true] at h1
     cases b with
     | pair x' y'=>
       simp only [AV.plainN,Bool.and_eq_true] at h2
       simp only [AV.data,PyData.eqv,PyData.eqvAll]
       refine wat (ih1 n x' h1.1 h2.1) (wat (ih2 n y' h1.2 h2.2) ?_)
       rw [Bool.eq_iff_iff];simp
     | _=>simp_all [AV.plainN,AV.data,PyData.eqv]
theorem plain_canLay:∀ (n:Nat) (a:AV),a.plainN n = true→a.data.canLay0 = true:=by
 intro n a
 induction a generalizing n with
 | none=>intro _;rfl
 | bool x=>intro _;rfl
 | int x=>intro _;rfl
 | str x=>intro h;cases n<;>simpa [AV.plainN,AV.data,PyData.canLay0] using h
 | ref x=>intro _;rfl
 | pair x y ih1 ih2=>
   intro h
   cases n with
   | zero=>simp [AV.plainN] at h
   | succ n=>
     simp only [AV.plainN,Bool.and_eq_true] at h
     simp [AV.data,PyData.canLay0,PyData.canLayAll0,ih1 n h.1,ih2 n h.2]
theorem plain_depth:∀ (n:Nat) (a:AV),a.plainN n = true→a.data.depth≤n:=by
 intro n a
 induction a generalizing n with
 | none=>intro _;simp [AV.data,PyData.depth]
 | bool x=>intro _;simp [AV.data,PyData.depth]
 | int x=>intro _;simp [AV.data,PyData.depth]
 | str x=>intro h;simp [AV.data,PyData.depth]
 | ref x=>intro _;simp [AV.data,PyData.depth]
 | pair x y ih1 ih2=>
   intro h
   cases n with
   | zero=>simp [AV.plainN] at h
   | succ n=>
     simp only [AV.plainN,Bool.and_eq_true] at h
     have:=ih1 n h.1;have:=ih2 n h.2
     simp only [AV.data,PyData.depth,PyData.depthAll];lia
theorem plain_reads {h:Heap} {a:AV} {v:Value} (r:RV h H a v):∀ n,a.plainN n = true→∃ as,Reads h v a.data as:=by
 induction r with
 | none=>intro n _;exact ⟨_,.none⟩
 | bool=>intro n _;exact ⟨_,.bool _⟩
 | int=>intro n _;exact ⟨_,.int _ _⟩
 | str=>intro n _;exact ⟨_,.str _ _⟩
 | pair e k r1 r2 ih1 ih2=>
   intro n hp
   cases n with
   | zero=>simp [AV.plainN] at hp
   | succ n=>
     simp only [AV.plainN,Bool.and_eq_true] at hp
     obtain ⟨as,h1⟩:=ih1 n hp.1
     obtain ⟨bs,h2⟩:=ih2 n hp.2
     exact ⟨_,.tuple e rfl rfl (.cons h1 (.cons h2 .nil))⟩
 | ref=>intro n hp;cases n<;>simp [AV.plainN] at hp
theorem plains_reads {h:Heap} {xs:List AV} {vs:List Value} (r:RVs h H xs vs):xs.all AV.plain = true→∃ as,ReadsAll h vs (xs.map AV.data) as:=by
 induction r with
 | nil=>intro _;exact ⟨_,.nil⟩
 | cons r _ ih=>
   intro hp
   simp only [List.all_cons,Bool.and_eq_true] at hp
   obtain ⟨as,h1⟩:=plain_reads r 3 hp.1
   obtain ⟨bs,h2⟩:=ih hp.2
   exact ⟨_,.cons h1 h2⟩
theorem plains_canLay:∀ {xs:List AV},xs.all AV.plain = true→PyData.canLayAll0 (xs.map AV.data) = true
 | [],_=>rfl
 | x :: xs,h=>by
   simp only [List.all_cons,Bool.and_eq_true] at h
   simp [PyData.canLayAll0,plain_canLay 3 x h.1,plains_canLay h.2]
theorem plains_depth:∀ {xs:List AV},xs.all AV.plain = true→PyData.depthAll (xs.map AV.data)≤3
 | [],_=>by simp [PyData.depthAll]
 | x :: xs,h=>by
   simp only [List.all_cons,Bool.and_eq_true] at h
   have:=plain_depth 3 x h.1;have:=plains_depth h.2
   simp only [List.map_cons,PyData.depthAll];lia
theorem plains_inj:∀ {xs ys:List AV},xs.all AV.plain = true→ys.all AV.plain = true→PyData.eqvAll (xs.map AV.data) (ys.map AV.data) = decide (xs = ys)
 | [],[],_,_=>by simp [PyData.eqvAll]
 | [],y :: ys,_,_=>by simp [PyData.eqvAll]
 | x :: xs,[],_,_=>by simp [PyData.eqvAll]
 | x :: xs,y :: ys,h1,h2=>by
   simp only [List.all_cons,Bool.and_eq_true] at h1 h2
   simp only [List.map_cons,PyData.eqvAll]
   rw [data_inj 3 x y h1.1 h2.1,plains_inj h1.2 h2.2,Bool.eq_iff_iff];simp
theorem plains_any {x:AV}:∀ {ys:List AV},x.plain = true→ys.all AV.plain = true→((ys.map AV.data).any fun y=>PyData.eqv y x.data) = decide (x∈ys)
 | [],_,_=>by simp
 | y :: ys,h1,h2=>by
   simp only [List.all_cons,Bool.and_eq_true] at h2
   simp only [List.map_cons,List.any_cons]
   rw [plains_any h1 h2.2,data_inj 3 y x h2.1 h1,Bool.eq_iff_iff]
   simp only [Bool.or_eq_true,decide_eq_true_eq,List.mem_cons]
   exact ⟨fun q=>q.imp Eq.symm id,fun q=>q.imp Eq.symm id⟩
theorem wp_eq_data {neg:Bool} {x y:Value} {da db:PyData} {as bs:List Addr} {Q:Value→Shared→Prop} {E:Value→Shared→Prop} (ra:Reads s.heap x da as) (rb:Reads s.heap y db bs) (ha:da.canLay0 = true) (hb:db.canLay0 = true)
 (hd:da.depth≤5) (hu:A.units + 10 < cLine) (h:Q (.bool (PyData.eqv da db ^^ neg)) s):wpAny (model prog w) A (compareOp (if neg then .NotEq else .Eq) x y) Q E s:=by
 have hu':A.units + min da.depth db.depth < cLine:=by exact linLt [_,_,_,_] 1 (.a (.v 1) (.v 3)) (.v 2) [.le 1 (.v 0) (.n 5),.lt 1 (.a (.v 1) (.n 10)) (.v 2),.le 1 (.v 3) (.v 0)] rfl hd hu (Nat.min_le_left da.depth db.depth)
 cases neg with
 | false=>exact SeqAt.compareEq_reads ra rb ha hb hu' (by simpa using h)
 | true=>exact SeqAt.compareNe_reads ra rb ha hb hu' (by simpa using h)
theorem wp_in_list {neg:Bool} {x:Value} {a:AV} {b:Addr} {ys:List AV} {Q:Value→Shared→Prop} {E:Value→Shared→Prop} (i:INV w B os₀ s H) (r:RV s.heap H a x) (hb:H b = some (.list ys))
 (hp:a.plain = true) (hq:ys.all AV.plain = true) (hu:A.units + 10 < cLine) (h:Q (.bool (decide (a∈ys) ^^ neg)) s):wpAny (model prog w) A (compareOp (if neg then .NotIn else .In) x (.ref b)) Q E s:=by
 obtain ⟨vs,n,e,rv⟩:=isList_of i hb
 obtain ⟨as,ra⟩:=plain_reads r 3 hp
 obtain ⟨bs,rb⟩:=plains_reads rv hq
 have hd:=plains_depth hq
 have hu':A.units + 1 + min (PyData.depthAll (ys.map AV.data)) a.data.depth < cLine:=by exact linLt [_,_,_,_] 1 (.a (.a (.v 0) (.n 1)) (.v 3)) (.v 1) [.lt 1 (.a (.v 0) (.n 10)) (.v 1),.le 1 (.v 2) (.n 3),.le 1 (.v 3) (.v 2)] rfl hu hd (Nat.min_le_left (PyData.depthAll (List.map AV.data ys)) a.data.depth)
 have hl:Reads s.heap (.ref b) (.list (ys.map AV.data)) (b :: bs):=.list e rfl rfl (by simpa using rb)
 rw [← plains_any hp hq] at h
 cases neg with
 | false=>exact SeqAt.in_list_reads hl ra (plains_canLay hq) (plain_canLay 3 a hp) hu' (by simpa using h)
 | true=>exact SeqAt.notIn_list_reads hl ra (plains_canLay hq) (plain_canLay 3 a hp) hu' (by simpa using h)
theorem le_one {x y:Nat}:(!decide ([y] < [x])) = decide (x≤y):=by
 have e:([y] < [x]) = (y < x):=by simp [List.cons_lt_cons_iff]
 simp only [e]
 rw [Bool.eq_iff_iff];simp
theorem gt_one {x y:Nat}:decide ([y] < [x]) = decide (x > y):=by
 have e:([y] < [x]) = (y < x):=by simp [List.cons_lt_cons_iff]
 simp only [e,gt_iff_lt]
end
section
variable {prog:Program} {w:World} {B:Heap} {os₀:OsState} {A:Around} {s:Shared} {H:AHeap}
noncomputable def hk (prog:Program) (w:World):HeapKind prog w (List Int):=tupleKind (intKind prog w)
@[reducible] noncomputable def key (p:Pt):List Int:=[p.1,p.2]
theorem key_inj {p q:Pt}:key p = key q↔p = q:=by
 obtain ⟨a,b⟩:=p;obtain ⟨c,d⟩:=q;simp
noncomputable def kx (xs:List (Pt×Addr×Value)):List (List Int×Addr×Value):=xs.map fun x=>(key x.1,x.2)
theorem isKey {h:Heap} {p:Pt} {a:Addr} (r:RV h H (.pt p) (.ref a)):(hk prog w).is h (key p) a:=by
 cases r with
 | pair e n r1 r2=>
   obtain ⟨_,rfl⟩:=r1.vint;obtain ⟨_,rfl⟩:=r2.vint
   exact ⟨_,_,_,e,rfl,rfl,.cons (by simp [intKind,Value.isInt]) (.cons (by simp [intKind,Value.isInt]) .nil)⟩
theorem RD.look {h:Heap} {es xs} (r:RD h H es xs) (p:Pt):match es.lookup p with
 | some u=>(X2 fun a v=>A2 (atKey (kx xs) (key p) = some (a,v)) (RV h H u v))
 | none=>atKey (kx xs) (key p) = none:=by
 induction r with
 | nil=>simp [kx,atKey]
 | @cons q a u v es xs r1 r2 _ ih=>
   by_cases e:p = q
   · subst e
     simp only [List.lookup_cons,beq_self_eq_true]
     exact ⟨a,v,by simp [kx,atKey],r2⟩
   · have e1:(p == q) = false:=by simpa using e
     have e2:¬ key q = key p:=fun q'=>e (key_inj.mp q').symm
     simp only [List.lookup_cons,e1]
     have e3:atKey (kx ((q,a,v) :: xs)) (key p) = atKey (kx xs) (key p):=by
      have:decide (key q = key p) = false:=by simpa using e2
      simp only [kx,atKey,List.map_cons,List.find?_cons,this]
     refine wat e3 ?_;exact ih
theorem RD.keys {h:Heap} {es xs} (r:RD h H es xs):(kx xs).map (·.1) = (es.map (·.1)).map key:=by
 induction r with
 | nil=>rfl
 | cons _ _ _ ih=>simp [kx] at ih ⊢; exact ih
theorem RD.length {h:Heap} {es xs} (r:RD h H es xs):es.length = xs.length:=by
 induction r with
 | nil=>rfl
 | cons _ _ _ ih=>simp [ih]
theorem nodup_key {ps:List Pt} (h:ps.Nodup):(ps.map key).Nodup:=by
 induction ps with
 | nil=>exact List.nodup_nil
 | cons p ps ih=>
   simp only [List.map_cons,List.nodup_cons,List.mem_map] at h ⊢
   exact ⟨fun ⟨q,hq,e⟩=>h.1 (key_inj.mp e▸hq),ih h.2⟩
theorem kx_entries (xs:List (Pt×Addr×Value)):(kx xs).map (entryOfKey (hk prog w)) = xs.map ptEntry:=by
 induction xs with
 | nil=>rfl
 | cons x xs ih=>simp only [kx,List.map_cons] at ih ⊢; refine wat ih ?_;rfl
theorem dictOfH {d:Addr} {es xs} {n:Nat} {h:Heap} (e:h.get? d = some (dictO xs n)) (r:RD h H es xs) (hn:(es.map (·.1)).Nodup):h.DictOfH (hk prog w) d (kx xs):=by
 refine ⟨_,_,_,e,⟨rfl,rfl,rfl⟩,rfl,by rw [kx_entries],?_,by rw [r.keys];exact nodup_key hn⟩
 clear e hn
 induction r with
 | nil=>intro x hx;simp [kx] at hx
 | cons r1 _ _ ih=>
   intro x hx
   simp only [kx,List.map_cons,List.mem_cons] at hx
   rcases hx with rfl | hx
   · exact isKey r1
   · exact ih x hx
theorem of_dictOfH {d:Addr} {xs} {h:Heap} (e:h.DictOfH (hk prog w) d (kx xs)):∃ n,h.get? d = some (dictO xs n):=by
 refine bc fun nG=>?_
 obtain ⟨⟨c,dd,dt,sl⟩,es,n,ho,⟨h1,h2,h3⟩,hd,he,_⟩:=e
 refine nG ?_
 simp only at h1 h2 h3 hd
 subst h1 h2 h3 hd
 rw [kx_entries] at he
 refine ⟨n,ho.trans ?_⟩
 have:es = (xs.map ptEntry).toArray:=by exact wat he.symm rfl
 exact wat this rfl
structure DictAt (prog:Program) (w:World) (h:Heap) (H:AHeap) (d:Addr) (es:List (Pt×AV)):Prop where
 ok:(X2 fun xs n=>A3 (h.get? d = some (dictO xs n)) (RD h H es xs) ((es.map (·.1)).Nodup))
theorem notSys {byText:Bool} (i:Inv byText B os₀ s H) (hs:∃ o,B.get? sysModules = some o) {d:Addr} {o:AO} (h:H d = some o):(d == sysModules) = false:=by
 cases e:d == sysModules with
 | false=>rfl
 | true=>
   rw [beq_iff_eq] at e
   obtain ⟨ob,hb⟩:=hs
   have:=(i.base _ _ hb).2
   rw [← e,h] at this;exact no2 this
theorem contains_heap {K:Type} [DecidableEq K] {knd:HeapKind prog w K} {d a:Addr} {k:K} {xs:List (K×Addr×Value)} {Q:Bool→Shared→Prop} {E:Value→Shared→Prop} (hu:knd.room A.in1) (hkey:knd.is s.heap k a) (hd:(d == sysModules) = false) (hm:s.heap.DictOfH knd d xs)
 (h:Q (atKey xs k).isSome { s with toks:=s.toks + knd.draws k }):wpAny (model prog w) A (contains (.ref d) (.ref a)) Q E s:=by
 unfold contains
 try with_reducible refine wpAny_holding ?_
 refine wpAny_bind (wpAny_specialOf hm.typeIs slot_dict_contains.lookup ?_)
 refine wpAny_bind (wpAny_callSpecialUnlessNone?_slot (name:=Str.ofString "__contains__") hm.typeIs slot_dict_contains
  (wpAny_call_entry slot_dict_contains hm.typeIs entry_dict_contains ?_ (args_dict_contains _ _)))
 show wpAny _ _ (dictGet d (.ref a) >>= _) _ _ s
 refine wpAny_bind (wpAny_dictGet_heap hu hkey hm ?_)
 cases hf:atKey xs k with
 | some p=>
   rw [hf] at h
   exact wpAny_pure ⟨_,rfl,wpAny_truthy_bool h⟩
 | none=>
   rw [hf] at h
   exact wpAny_bind (wpAny_pendingKey_other hd (wpAny_pure ⟨_,rfl,wpAny_truthy_bool h⟩))
theorem pt_ref {h:Heap} {a b:AV} {x:Value} (r:RV h H (.pair a b) x):∃ p,x = .ref p:=by obtain ⟨_,_,_,rfl,_,_,_,_⟩:=r.vpair;exact ⟨_,rfl⟩
theorem look_some {h:Heap} {es xs} (rd:RD h H es xs) (p:Pt):(atKey (kx xs) (key p)).isSome = (es.lookup p).isSome:=by
 have:=rd.look p
 cases q:es.lookup p with
 | none=>rw [q] at this;simp [this]
 | some u=>rw [q] at this;obtain ⟨a,v,q',_⟩:=this;simp [q']
theorem wp_in_dict {neg:Bool} {x:Value} {p:Pt} {d:Addr} {es:List (Pt×AV)} {g:Obj} {Q:Value→Shared→Prop} {E:Value→Shared→Prop} (i:INV w B os₀ s H) (hs:∃ o,B.get? sysModules = some o) (r:RV s.heap H (.pt p) x) (hd:H d = some (.dict es g))
 (hu:A.units + 10 < cLine) (h:∀ t,Q (.bool ((es.lookup p).isSome ^^ neg)) { s with toks:=t }):wpAny (model prog w) A (compareOp (if neg then .NotIn else .In) x (.ref d)) Q E s:=by
 refine bc fun nG=>?_
 obtain ⟨xs,n,e,eg,rd,hn⟩:=i.rep d _ hd
 refine nG ?_
 obtain ⟨a,rfl⟩:=pt_ref r
 cases neg with
 | false=>
   exact wpAny_bind (contains_heap (knd:=hk prog w) (tupleKind_room_in1 (by exact linLt [_,_] 1 (.a (.v 0) (.n 1)) (.v 1) [.lt 1 (.a (.v 0) (.n 10)) (.v 1)] rfl hu)) (isKey r) (notSys i hs hd) (dictOfH e rd hn) (wpAny_pure (by rw [look_some rd];simpa using h _)))
 | true=>
   exact wpAny_bind (contains_heap (knd:=hk prog w) (tupleKind_room_in1 (by exact linLt [_,_] 1 (.a (.v 0) (.n 1)) (.v 1) [.lt 1 (.a (.v 0) (.n 10)) (.v 1)] rfl hu)) (isKey r) (notSys i hs hd) (dictOfH e rd hn) (wpAny_pure (by rw [look_some rd];simpa using h _)))
theorem wp_getItem_dict {x:Value} {p:Pt} {d:Addr} {es:List (Pt×AV)} {g:Obj} {u:AV} {Q:AV→AHeap→Prop} {X:AHeap→Prop} (i:INV w B os₀ s H) (r:RV s.heap H (.pt p) x) (hd:H d = some (.dict es g))
 (hu:A.units + 10 < cLine) (hl:es.lookup p = some u) (h:Q u H):WpE prog w B os₀ A (getItem (.ref d) x) s H (RQ Q) X:=by
 refine bc fun nG=>?_
 obtain ⟨xs,n,e,eg,rd,hn⟩:=i.rep d _ hd
 refine nG ?_
 obtain ⟨a,rfl⟩:=pt_ref r
 have q:=rd.look p
 rw [hl] at q
 obtain ⟨b,v,q1,q2⟩:=q
 exact wpAny_getItem_heap (knd:=hk prog w) (tupleKind_room_in1 (by exact linLt [_,_] 1 (.a (.v 0) (.n 1)) (.v 1) [.lt 1 (.a (.v 0) (.n 10)) (.v 1)] rfl hu)) (isKey r) (dictOfH e rd hn) q1 ⟨H,i.toks _,Ext.refl _ _ _,u,q2,h⟩
noncomputable def dput (es:List (Pt×AV)) (p:Pt) (u:AV):List (Pt×AV):=if (es.lookup p).isSome then es.map (fun e=>if e.1 = p then (e.1,u) else e) else es ++ [(p,u)]
noncomputable def xput (xs:List (Pt×Addr×Value)) (p:Pt) (v:Value):List (Pt×Addr×Value):=xs.map fun x=>if x.1 = p then (x.1,x.2.1,v) else x
theorem lookup_none {es:List (Pt×AV)} {p:Pt} (h:es.lookup p = none):p∉es.map (·.1):=by
 induction es with
 | nil=>simp
 | cons e es ih=>
   obtain ⟨q,u⟩:=e
   by_cases k:p = q
   · subst k;simp at h
   · have k':(p == q) = false:=by simpa using k
     simp only [List.lookup_cons,k'] at h
     simp only [List.map_cons,List.mem_cons,not_or]
     exact ⟨k,ih h⟩
theorem dput_keys (es:List (Pt×AV)) (p:Pt) (u:AV):(dput es p u).map (·.1) = if (es.lookup p).isSome then es.map (·.1) else es.map (·.1) ++ [p]:=by
 unfold dput
 split
 · refine wat List.map_map ?_;congr 1;funext e;simp only [Function.comp_apply];split<;>rfl
 · simp
theorem RD.append {h:Heap} {es fs xs ys} (r:RD h H es xs) (q:RD h H fs ys):RD h H (es ++ fs) (xs ++ ys):=by
 induction r with
 | nil=>exact q
 | cons a b _ ih=>exact .cons a b ih
theorem RD.put {h:Heap} {es xs} (r:RD h H es xs) {p:Pt} {u:AV} {v:Value} (q:RV h H u v):RD h H (es.map (fun e=>if e.1 = p then (e.1,u) else e)) (xput xs p v):=by
 induction r with
 | nil=>exact .nil
 | @cons p' a u' v' es xs r1 r2 _ ih=>
   simp only [List.map_cons,xput] at ih ⊢
   by_cases k:p' = p
   · refine wat (if_pos k) (wat (if_pos k) ?_);exact .cons r1 q ih
   · refine wat (if_neg k) (wat (if_neg k) ?_);exact .cons r1 r2 ih
theorem kx_put (xs:List (Pt×Addr×Value)) (p:Pt) (v:Value):(kx xs).map (putAt (key p) v) = kx (xput xs p v):=by
 simp only [kx,xput,List.map_map]
 congr 1;funext x
 simp only [Function.comp_apply,putAt]
 by_cases k:x.1 = p
 · rw [if_pos k,if_pos (by rw [k])]
 · exact wat (if_neg k) (wat (if_neg (fun q=>k (key_inj.mp q))) rfl)
set_option tactic.hygienic true in
theorem wp_setItem_dict {x y:Value} {p:Pt} {d:Addr} {es:List (Pt×AV)} {g:Obj} {u:AV} {X:AHeap→Prop} {R:Unit→Shared→AHeap→Prop} (i:INV w B os₀ s H) (r:RV s.heap H (.pt p) x) (r':RV s.heap H u y) (hd:H d = some (.dict es g))
 (hu:A.units + 10 < cLine) (hsz:es.length≤1000) (h:∀ s' g',INV w B os₀ s' (H.set d (.dict (dput es p u) g'))→ExtE s.heap H s'.heap (H.set d (.dict (dput es p u) g'))→R () s' (H.set d (.dict (dput es p u) g'))):
 WpE prog w B os₀ A (setItem (.ref d) x y) s H R X:=by
 refine bc fun nG=>?_
 obtain ⟨xs,n,e,eg,rd,hn⟩:=i.rep d _ hd
 refine nG ?_
 obtain ⟨a,rfl⟩:=pt_ref r
 have hlen:=rd.length
 refine wpAny_setItem_heap (knd:=hk prog w) (tupleKind_room_in1 (by exact linLt [_,_] 1 (.a (.v 0) (.n 1)) (.v 1) [.lt 1 (.a (.v 0) (.n 10)) (.v 1)] rfl hu)) (isKey r) (dictOfH e rd hn) (fun h' hm sb=>?_) (by have:=size1000;simp only [kx,List.length_map];exact linLe [_,_,_] 1 (.v 1) (.v 2) [.le 1 (.v 0) (.n 1000),.ge 1 (.v 0) (.v 1),.le 1 (.n 1000) (.v 2)] rfl hsz hlen this)
 have key1:∃ xs',storedH (kx xs) (key p) a y = kx xs'∧∀ h'' H',RD h'' H' es xs→RV h'' H' (.pt p) (.ref a)→RV h'' H' u y→RD h'' H' (dput es p u) xs':=by
  unfold storedH dput
  rw [look_some rd]
  split
  · exact ⟨_,kx_put xs p y,fun h'' H' q1 q2 q3=>q1.put q3⟩
  · exact ⟨xs ++ [(p,a,y)],by simp [kx],fun h'' H' q1 q2 q3=>q1.append (.cons q2 q3 .nil)⟩
 refine bc fun nG=>?_
 obtain ⟨xs',k1,k2⟩:=key1
 refine nG ?_
 rw [k1] at hm
 obtain ⟨m,hg⟩:=of_dictOfH hm
 have x:=ExtE.put (H:=H) (h:=s.heap) (h':=h') (.dict (dput es p u) (dictO xs' m)) hd sb ⟨_,hg⟩
 have hn':((dput es p u).map (·.1)).Nodup:=by
  rw [dput_keys]
  split
  · exact hn
  · rename_i hq
    have hq':es.lookup p = none:=Option.not_isSome_iff_eq_none.mp hq
    rw [List.nodup_append]
    exact ⟨hn,by simp,fun a ha b hb e'=>lookup_none hq' (by simp at hb;rw [← hb,← e'];exact ha)⟩
 have iv:INV w B os₀ { s with heap:=h',toks:=s.toks + (hk prog w).draws (key p) } (H.set d (.dict (dput es p u) (dictO xs' m))):=
  i.put (s':={ s with heap:=h',toks:=s.toks + (hk prog w).draws (key p) }) hd sb ⟨xs',m,hg,rfl,k2 _ _ (rd.ext x .nobody) (r.extE x) (r'.extE x),hn'⟩ rfl rfl
 exact ⟨_,iv,x,h _ _ iv x⟩
theorem meets_get (d a:Addr) (p:Pt) (hs:(d == sysModules) = false) {es:List (Pt×AV)} {xs n} (e:s.heap.get? d = some (dictO xs n)) (rd:RD s.heap H es xs) (hn:(es.map (·.1)).Nodup) (r:RV s.heap H (.pt p) (.ref a)) (hu:A.units + 10 < cLine) {Q:Value→Shared→Prop} {E:Value→Shared→Prop}
 (h:∀ v t,RV s.heap H ((es.lookup p).getD .none) v→Q v { s with toks:=t }):wpAny (model prog w) A (call (.builtin "dict.get") [.ref d,.ref a]) Q E s:=by
 have hm:s.heap.DictOfH (hk prog w) d (kx xs):=dictOfH e rd hn
 refine wpAny_call_entry PySem.F.slot_dict_get hm.typeIs PySem.F.entry_dict_get ?_ (PySem.F.args_dict_get_2 _ _)
 show wpAny _ _ (dictGet d (.ref a) >>= _) _ _ s
 refine wpAny_bind (wpAny_dictGet_heap (knd:=hk prog w) (tupleKind_room_in1 (by exact linLt [_,_] 1 (.a (.v 0) (.n 1)) (.v 1) [.lt 1 (.a (.v 0) (.n 10)) (.v 1)] rfl hu)) (isKey r) hm ?_)
 have q:=rd.look p
 cases hl:es.lookup p with
 | some u=>
   rw [hl] at q
   refine bc fun nG=>?_
   obtain ⟨b,v,q1,q2⟩:=q
   refine nG ?_
   refine wat q1 ?_
   exact wpAny_pure ⟨v,rfl,h v _ (by refine wat hl ?_;exact q2)⟩
 | none=>
   rw [hl] at q
   refine wat q ?_
   exact wpAny_bind (wpAny_missed_other hs (wpAny_pure ⟨.none,rfl,h _ _ (by refine wat hl ?_;exact .none)⟩))
theorem eraseIdx_map' {α β:Type} (f:α→β):∀ (xs:List α) (j:Nat),(xs.map f).eraseIdx j = (xs.eraseIdx j).map f
 | [],_=>rfl
 | x :: xs,0=>rfl
 | x :: xs,j + 1=>by simp [eraseIdx_map' f xs j]
theorem RD.erase {h:Heap} {es xs} (r:RD h H es xs) {p:Pt} (hn:(es.map (·.1)).Nodup) {j:Nat} {q:Addr×Value} (hj:(kx xs)[j]? = some (key p,q)):RD h H (es.filter fun e=>e.1≠p) (xs.eraseIdx j):=by
 induction r generalizing j with
 | nil=>simp [kx] at hj
 | @cons p' a u' v' es xs r1 r2 r3 ih=>
   simp only [List.map_cons,List.nodup_cons] at hn
   cases j with
   | zero=>
     simp only [kx,List.map_cons,List.getElem?_cons_zero,Option.some.injEq,Prod.mk.injEq] at hj
     have hp:p' = p:=key_inj.mp hj.1
     subst hp
     have:(es.filter fun e=>e.1≠p') = es:=List.filter_eq_self.mpr (fun e he=>by
      simp only [ne_eq,decide_not,Bool.not_eq_eq_eq_not,Bool.not_true,decide_eq_false_iff_not]
      exact fun q'=>hn.1 (q'▸List.mem_map_of_mem he))
     refine wat (List.filter_cons_of_neg (by simp)) (wat this ?_)
     exact r3
   | succ j=>
     have hj':(kx xs)[j]? = some (key p,q):=by simpa [kx] using hj
     have hne:p'≠p:=by
      rintro rfl
      have:key p'∈(kx xs).map (·.1):=List.mem_map.mpr ⟨_,List.mem_of_getElem? hj',rfl⟩
      rw [r3.keys,List.mem_map] at this
      obtain ⟨q',h1,h2⟩:=this
      exact hn.1 (key_inj.mp h2▸h1)
     refine wat (List.filter_cons_of_pos (by simpa using hne)) ?_
     exact .cons r1 r2 (ih hn.2 hj')
theorem wp_pop_dict {d a:Addr} {p:Pt} {es:List (Pt×AV)} {g:Obj} {u:AV} {Q:AV→AHeap→Prop} {X:AHeap→Prop} (i:INV w B os₀ s H) (r:RV s.heap H (.pt p) (.ref a)) (hd:H d = some (.dict es g)) (hl:es.lookup p = some u) (hsz:es.length≤1000)
 (hu:A.units + 10 < cLine) (h:∀ g',Q u (H.set d (.dict (es.filter fun e=>e.1≠p) g'))):WpE prog w B os₀ A (call (.builtin "dict.pop") [.ref d,.ref a]) s H (RQ Q) X:=by
 refine bc fun nG=>?_
 obtain ⟨xs,n,e,eg,rd,hn⟩:=i.rep d _ hd
 refine nG ?_
 have hlen:=rd.length
 have hm:s.heap.DictOfH (hk prog w) d (kx xs):=dictOfH e rd hn
 refine wpAny_call_entry PySem.F.slot_dict_pop hm.typeIs PySem.F.entry_dict_pop ?_ (PySem.F.args_dict_pop_2 _ _)
 refine wpAny_bind ?_
 refine wpAny_bind (wpAny_notOrdered_dict hm.typeIs ?_)
 refine wpAny_pure ?_
 have q:=rd.look p
 rw [hl] at q
 obtain ⟨b,v,q1,q2⟩:=q
 refine wpAny_bind (wpAny_dictEntries e rfl ?_)
 refine wpAny_bind (wpAny_pure ?_)
 have hne:((xs.map ptEntry).toArray.isEmpty) = false:=by
  cases xs with
  | nil=>simp [kx,atKey] at q1
  | cons _ _=>simp
 refine wat hne ?_
 refine bc fun nG=>?_
 obtain ⟨o,es',ep,ho,hc,hdd,he,his,hnn⟩:=id hm
 refine nG ?_
 refine wpAny_bind ?_
 refine wpAny_holding (wpAny_bind ((hk prog w).pyHash (tupleKind_room_in1 (by exact linLt [_,_] 1 (.a (.v 0) (.n 1)) (.v 1) [.lt 1 (.a (.v 0) (.n 10)) (.v 1)] rfl hu)) (isKey r) (wpAny_bind (wpAny_dictFind_heap (s:={ s with toks:=s.toks + (hk prog w).draws (key p) }) (tupleKind_room_in1 (by exact linLt [_,_] 1 (.a (.v 0) (.n 1)) (.v 1) [.lt 1 (.a (.v 0) (.n 10)) (.v 1)] rfl hu)) (isKey r) ho hdd he his hnn ?_ ?_))))
 · intro hno
   rw [atKey_none_of_get hno] at q1;exact no1 q1
 · intro j pv hj
   have hat:=atKey_of_get hnn hj
   rw [q1] at hat
   obtain rfl:=Option.some.inj hat
   refine wpAny_bind (wpAny_dictEntries (s:={ s with toks:=s.toks + (hk prog w).draws (key p) }) ho hdd ?_)
   refine wat (entry_at he j) (wat hj ?_)
   refine wpAny_bind (wpAny_updateDictKeysTo (s:={ s with toks:=s.toks + (hk prog w).draws (key p) }) ho hdd ?_ ?_)
   · refine wpAny_pure ?_
     refine wpAny_bind (wpAny_letGo (wpAny_pure ⟨v,rfl,?_⟩))
     have hoe:o = dictO xs n:=by rw [e] at ho;exact (Option.some.inj ho).symm
     subst hoe
     have hes:es' = (xs.map ptEntry).toArray:=by simp at hdd;exact hdd.1.symm
     have sb:Heap.SameBut d s.heap (s.heap.update d (Obj.mapDictKeys fun x=>x.eraseIdxIfInBounds j)):=Heap.SameBut.update ..
     have hg:(s.heap.update d (Obj.mapDictKeys fun x=>x.eraseIdxIfInBounds j)).get? d = some (dictO (xs.eraseIdx j) (n + 1)):=by
      have:=Heap.get?_update_self (a:=d) (h:=s.heap) (Obj.mapDictKeys fun x=>x.eraseIdxIfInBounds j) e (Obj.isFreed_of_dict (Obj.data_mapDictKeys rfl _))
      refine wat this ?_
      have hjl:j < xs.length:=by
       have:=(List.getElem?_eq_some_iff.mp hj).1
       simpa [kx] using this
      have e2:((xs.map ptEntry).toArray.eraseIdxIfInBounds j) = ((xs.eraseIdx j).map ptEntry).toArray:=by
       apply Array.ext'
       refine wat Array.toList_eraseIdxIfInBounds ?_
       exact eraseIdx_map' ptEntry xs j
      simp only [Obj.mapDictKeys,e2]
     have x:=ExtE.put (H:=H) (h:=s.heap) (.dict (es.filter fun e=>e.1≠p) (dictO (xs.eraseIdx j) (n + 1))) hd sb ⟨_,hg⟩
     have rd':=rd.erase hn hj
     have hn':((es.filter fun e=>e.1≠p).map (·.1)).Nodup:=hn.sublist (List.filter_sublist.map _)
     refine ⟨_,i.put (s':={ s with heap:=_,toks:=_ }) (o:=.dict (es.filter fun e=>e.1≠p) (dictO (xs.eraseIdx j) (n + 1))) hd sb ⟨xs.eraseIdx j,n + 1,hg,rfl,rd'.ext x .nobody,hn'⟩ rfl rfl,x,u,q2.extE x,h _⟩
   · have h1:=size_of_entries he
     have h2:(kx xs).length = xs.length:=by simp [kx]
     have h3:=size1000
     have h4:(es'.eraseIdxIfInBounds j).size≤es'.size:=by
      refine wat (Array.length_toList).symm (wat Array.toList_eraseIdxIfInBounds (wat (Array.length_toList).symm ?_))
      exact List.length_eraseIdx_le ..
     exact linLe [_,_,_,_,_,_] 1 (.v 5) (.a (.v 4) (.n 1)) [.le 1 (.v 0) (.n 1000),.ge 1 (.v 0) (.v 1),.eq 1 (.v 2) (.v 3),.eq 1 (.v 3) (.v 1),.le 1 (.n 1000) (.v 4),.le 1 (.v 5) (.v 2)] (by kernel_rfl) hsz hlen h1 h2 h3 h4
theorem lookup_mem {es:List (Pt×AV)} {p:Pt} {u:AV} (h:es.lookup p = some u):(p,u)∈es:=by
 induction es with
 | nil=>simp at h
 | cons e es ih=>
   obtain ⟨q,v⟩:=e
   by_cases k:p = q
   · subst k;simp at h;subst h;exact List.mem_cons_self
   · have k':(p == q) = false:=by simpa using k
     simp only [List.lookup_cons,k'] at h
     exact List.mem_cons_of_mem _ (ih h)
theorem RD.at {h:Heap} {es xs} (r:RD h H es xs):∀ {j:Nat},j < es.length→(X4 fun p c u v=>A4 (es[j]? = some (p,u)) (xs[j]? = some (p,c,v)) (RV h H (.pt p) (.ref c)) (RV h H u v)):=by
 induction r with
 | nil=>intro j hj;simp at hj
 | @cons p c u v es xs r1 r2 _ ih=>
   intro j hj
   cases j with
   | zero=>exact ⟨p,c,u,v,by simp,by simp,r1,r2⟩
   | succ j=>simpa using ih (j:=j) (by simpa using hj)
theorem room_here {A:Around} (hu:A.units + 10 < cLine):(hk prog w).room A:=by show A.units < cLine;exact linLt [_,_] 1 (.v 0) (.v 1) [.lt 1 (.a (.v 0) (.n 10)) (.v 1)] rfl hu
theorem eqBool_plain {a b:AV} {x y:Value} {Q:Bool→Shared→Prop} {E:Value→Shared→Prop} (r:RV s.heap H a x) (r':RV s.heap H b y) (pa:a.plain = true) (pb:b.plain = true) (hu:A.units + 10 < cLine) (h:Q (decide (a = b)) s):
 wpAny (model prog w) A (eqBool x y) Q E s:=by
 obtain ⟨as,ra⟩:=plain_reads r 3 pa
 obtain ⟨bs,rb⟩:=plain_reads r' 3 pb
 have d1:=plain_depth 3 a pa
 refine SeqAt.eqAt_reads a.data b.data A s x y as bs ra rb (plain_canLay 3 a pa) (plain_canLay 3 b pb) (by exact linLt [_,_,_,_] 1 (.a (.v 0) (.v 3)) (.v 1) [.lt 1 (.a (.v 0) (.n 10)) (.v 1),.le 1 (.v 2) (.n 3),.le 1 (.v 3) (.v 2)] rfl hu d1 (Nat.min_le_left a.data.depth b.data.depth)) prog w E Q ?_
 refine wat (data_inj 3 a b pa pb) ?_;exact h
theorem find_pt {b c:Addr} {p:Pt} {fs:List (Pt×AV)} {ys n} {Q:Option Nat→Shared→Prop} {E:Value→Shared→Prop} (hob:s.heap.get? b = some (dictO ys n)) (rb:RD s.heap H fs ys) (hnb:(fs.map (·.1)).Nodup) (r:RV s.heap H (.pt p) (.ref c)) (hu:A.units + 10 < cLine)
 (h1:fs.lookup p = none→Q none s) (h2:∀ j d u v,fs.lookup p = some u→ys[j]? = some (p,d,v)→RV s.heap H u v→Q (some j) s):wpAny (model prog w) A (dictFind b (.ref c) (ptHash p)) Q E s:=by
 have dB:s.heap.DictOfH (hk prog w) b (kx ys):=dictOfH hob rb hnb
 refine bc fun nG=>?_
 obtain ⟨o,es,ep,ho,_,hd,he,his,hn⟩:=id dB
 refine nG ?_
 have hq:=rb.look p
 refine wpAny_dictFind_heap (knd:=hk prog w) (k:=key p) (room_here hu) (isKey r) ho hd he his hn ?_ ?_
 · intro hno
   cases e:fs.lookup p with
   | none=>exact h1 e
   | some u=>rw [e] at hq;obtain ⟨a,v,q1,_⟩:=hq;rw [atKey_none_of_get hno] at q1;exact no1 q1
 · intro j q hj
   cases e:fs.lookup p with
   | none=>rw [e] at hq;rw [atKey_of_get hn hj] at hq;exact no2 hq
   | some u=>
     rw [e] at hq
     obtain ⟨a,v,q1,q2⟩:=hq
     rw [atKey_of_get hn hj] at q1
     obtain rfl:=Option.some.inj q1
     refine h2 j a u v e ?_ q2
     simp only [kx,List.getElem?_map] at hj
     cases e':ys[j]? with
     | none=>rw [e'] at hj;exact no1 hj
     | some z=>
       rw [e'] at hj
       simp only [Option.map_some,Option.some.injEq,Prod.mk.injEq] at hj
       have:=key_inj.mp hj.1
       obtain ⟨z1,z2⟩:=z
       simp only at hj this
       exact wat this (wat hj.2 rfl)
theorem samePairs_pt {nm:String} {a b:Addr} {es fs:List (Pt×AV)} {g g':Obj} {Q:Bool→Shared→Prop} {E:Value→Shared→Prop} (i:INV w B os₀ s H) (hs:∃ o,B.get? sysModules = some o) (ha:H a = some (.dict es g)) (hb:H b = some (.dict fs g'))
 (pa:es.all (fun e=>e.2.plain) = true) (pb:fs.all (fun e=>e.2.plain) = true) (hu:A.units + 10 < cLine) (h:Q (dictEq es fs) s):wpAny (model prog w) A (Builtin.Dict.samePairs nm a b) Q E s:=by
 obtain ⟨xs,n,hoa,_,ra,hna⟩:=i.rep a _ ha
 obtain ⟨ys,n',hob,_,rb,hnb⟩:=i.rep b _ hb
 have la:=ra.length
 have lb:=rb.length
 have dB:s.heap.DictOfH (hk prog w) b (kx ys):=dictOfH hob rb hnb
 obtain ⟨ob,es',ep',hob',_,hdb,heb,hisb,hnb'⟩:=id dB
 unfold Builtin.Dict.samePairs Builtin.Dict.showsAll
 rw [if_neg (by rw [notSys i hs ha];exact Bool.false_ne_true),if_neg (by rw [notSys i hs hb];exact Bool.false_ne_true)]
 refine wpAny_bind (wpAny_pure (wpAny_bind (wpAny_pure ?_)))
 refine wpAny_bind (wpAny_dictEntries hoa rfl ?_)
 refine wpAny_bind (wpAny_dictEntries hob rfl ?_)
 have sza:(xs.map ptEntry).toArray.size = es.length:=by simp [la]
 have szb:(ys.map ptEntry).toArray.size = fs.length:=by simp [lb]
 refine wat sza (wat szb ?_)
 unfold dictEq at h
 by_cases hsz:es.length = fs.length
 case neg=>
  refine wif_pos (by simpa using hsz) ?_
  have hbf:(es.length == fs.length) = false:=by simpa using hsz
  rw [hbf,Bool.false_and] at h
  exact wpAny_bind (wpAny_rule (wpAny_pure h))
 case pos=>
  have hbt:(es.length == fs.length) = true:=by simpa using hsz
  rw [hbt,Bool.true_and] at h
  refine wif_neg (by refine wat hsz ?_;simp) ?_
  refine wpAny_bind (wpAny_dictEpoch hoa rfl ?_)
  refine wpAny_bind ?_
  rw [Std.Legacy.Range.forIn_eq_forIn_range']
  refine wpAny_forIn_list _
   (fun rest q s'=>s' = s∧q = (none,())∧(X1 fun j=>A3 (rest = List.range' j (es.length - j)) (j≤es.length) ((es.all fun e=>fs.lookup e.1 == some e.2) = ((es.drop j).all fun e=>fs.lookup e.1 == some e.2))))
   _ ?_ ?_ _ _ ⟨rfl,rfl,0,by simp,Nat.zero_le _,by simp⟩
  · rintro x rest q s' ⟨rfl,rfl,j,hr,hj,hpre⟩
    have hlt:j < es.length:=by
     rcases Nat.lt_or_ge j es.length with h | h
     · exact h
     · rw [Nat.sub_eq_zero_of_le h] at hr;simp at hr
    obtain ⟨rfl,hrest⟩:x = j∧rest = List.range' (j + 1) (es.length - (j + 1)):=by
     have e:es.length - j = (es.length - (j + 1)) + 1:=by exact sub_one_add ‹_›
     rw [e,List.range'_succ] at hr
     injection hr with h1 h2
     exact ⟨h1,h2⟩
    refine wpAny_bind (wpAny_dictEntries hoa rfl ?_)
    refine bc fun nG=>?_
    obtain ⟨p,c,u,v,hes,hxs,r1,r2⟩:=ra.at hlt
    refine nG ?_
    have hent:((xs.map ptEntry).toArray)[x]? = some (ptEntry (p,c,v)):=by simp [hxs]
    refine wat hent ?_
    have hdrop:es.drop x = (p,u) :: es.drop (x + 1):=by
     have:=List.getElem?_eq_some_iff.mp hes
     obtain ⟨h1,h2⟩:=this
     exact wat (List.drop_eq_getElem_cons h1) (wat h2 rfl)
    rw [hdrop] at hpre
    have pu:u.plain = true:=List.all_eq_true.mp pa (p,u) (List.mem_of_getElem? hes)
    refine wpAny_bind (wpAny_holding (wpAny_bind (find_pt hob rb hnb r1 hu (fun hno=>?_) fun j d u' v' hl hy r'=>?_)))
    · refine wpAny_pure ?_
      simp only [List.all_cons,hno] at hpre
      have:(es.all fun e=>List.lookup e.1 fs == some e.2) = false:=by refine wat hpre ?_;rfl
      rw [this] at h
      show wpAny _ _ (if (!false) = true then _ else _) _ _ _
      exact wpAny_pure (wpAny_pure h)
    · refine wpAny_bind (wpAny_dictEntries hob rfl ?_)
      have hent':((ys.map ptEntry).toArray)[j]? = some (ptEntry (p,d,v')):=by simp [hy]
      refine wat hent' ?_
      have pu':u'.plain = true:=by
       have:(p,u')∈fs:=lookup_mem hl
       exact List.all_eq_true.mp pb (p,u') this
      refine wpAny_holding (eqBool_plain r2 r' pu pu' hu ?_)
      simp only [List.all_cons,hl] at hpre
      by_cases heq:u = u'
      · subst heq
        have e1:((some u == some u:Bool)) = true:=by simp
        rw [e1,Bool.true_and] at hpre
        have e2:decide (u = u) = true:=by simp
        refine wat e2 ?_
        show wpAny _ _ (if (!true) = true then _ else _) _ _ _
        refine wpAny_bind (wpAny_dictEpoch hoa rfl ?_)
        refine wif_neg (by simp) ?_
        exact wpAny_pure ⟨rfl,rfl,x + 1,hrest,hlt,hpre⟩
      · have e1:((some u' == some u:Bool)) = false:=by
         simp only [beq_eq_false_iff_ne,ne_eq,Option.some.injEq];exact fun q=>heq q.symm
        rw [e1,Bool.false_and] at hpre
        have e2:decide (u = u') = false:=by simpa using heq
        rw [hpre] at h
        refine wat e2 ?_
        show wpAny _ _ (if (!false) = true then _ else _) _ _ _
        exact wpAny_pure (wpAny_pure h)
  · rintro q s' ⟨rfl,rfl,j,hr,hj,hpre⟩
    have hin:j = es.length:=by
     rcases Nat.lt_or_ge j es.length with h | h
     · have e:es.length - j = (es.length - (j + 1)) + 1:=by exact sub_one_add ‹_›
       rw [e,List.range'_succ] at hr;exact nomatch hr
     · exact Nat.le_antisymm hj h
    refine wpAny_pure ?_
    rw [hin,List.drop_length] at hpre
    rw [hpre] at h
    exact h
end
section
variable {prog:Program} {w:World} {B:Heap} {os₀:OsState} {A:Around} {s:Shared} {H:AHeap}
theorem wp_eq_dict {neg:Bool} {a b:Addr} {es fs:List (Pt×AV)} {g g':Obj} {Q:Value→Shared→Prop} {E:Value→Shared→Prop} (i:INV w B os₀ s H) (hs:∃ o,B.get? sysModules = some o) (ha:H a = some (.dict es g)) (hb:H b = some (.dict fs g'))
 (pa:es.all (fun e=>e.2.plain) = true) (pb:fs.all (fun e=>e.2.plain) = true) (hu:A.units + 20 < cLine) (h:Q (.bool (dictEq es fs ^^ neg)) s):wpAny (model prog w) A (compareOp (if neg then .NotEq else .Eq) (.ref a) (.ref b)) Q E s:=by
 refine bc fun nG=>?_
 obtain ⟨xs,n,hoa,_,ra,hna⟩:=i.rep a _ ha
 refine nG ?_
 obtain ⟨ys,n',hob,_,rb,hnb⟩:=i.rep b _ hb
 have ta:s.TypeIs (.ref a) "dict":=⟨_,hoa,rfl⟩
 have tb:s.TypeIs (.ref b) "dict":=⟨_,hob,rfl⟩
 cases neg with
 | false=>
   refine wpAny_richCompare_same_room (op:=.Eq) ta tb PySem.F.slot_dict_eq (wpAny_call_entry PySem.F.slot_dict_eq ta PySem.F.entry_dict_eq ?_ (PySem.F.args_dict_eq_2 _ _)) (by exact linLt [_,_] 1 (.v 0) (.v 1) [.lt 1 (.a (.v 0) (.n 20)) (.v 1)] rfl hu)
   refine wpAny_bind ?_
   refine wpAny_bind (wpAny_notOrdered_dict ta ?_)
   refine wpAny_pure ?_
   refine wpAny_bind (wpAny_isInstance (T:="dict") tb PySem.F.sub_dict_dict ?_)
   refine wpAny_bind (wpAny_pure (wpAny_bind (wpAny_pure ?_)))
   refine wpAny_bind (samePairs_pt (A:=A.in1) i hs ha hb pa pb (by show A.units + 1 + 10 < cLine;exact linLt [_,_] 1 (.a (.a (.v 0) (.n 1)) (.n 10)) (.v 1) [.lt 1 (.a (.v 0) (.n 20)) (.v 1)] rfl hu) ?_)
   exact wpAny_pure ⟨_,rfl,⟨(fun x=>nomatch x),by simpa using h⟩⟩
 | true=>
   refine wpAny_richCompare_same_room (op:=.NotEq) ta tb PySem.F.slot_dict_ne (wpAny_call_entry PySem.F.slot_dict_ne ta PySem.F.entry_dict_ne ?_ (PySem.F.args_dict_ne_2 _ _)) (by exact linLt [_,_] 1 (.v 0) (.v 1) [.lt 1 (.a (.v 0) (.n 20)) (.v 1)] rfl hu)
   refine wpAny_bind ?_
   refine wpAny_bind (wpAny_notOrdered_dict ta ?_)
   refine wpAny_pure ?_
   refine wpAny_bind (wpAny_isInstance (T:="dict") tb PySem.F.sub_dict_dict ?_)
   refine wpAny_bind (wpAny_pure (wpAny_bind (wpAny_pure ?_)))
   refine wpAny_bind (samePairs_pt (A:=A.in1) i hs ha hb pa pb (by show A.units + 1 + 10 < cLine;exact linLt [_,_] 1 (.a (.a (.v 0) (.n 1)) (.n 10)) (.v 1) [.lt 1 (.a (.v 0) (.n 20)) (.v 1)] rfl hu) ?_)
   exact wpAny_pure ⟨_,rfl,⟨(fun x=>nomatch x),by simpa using h⟩⟩
theorem subscripted_plain {slice:Expr} (h:notSlice slice = true) (o i:Value):subscripted slice false o i = operate [o,i] (getItem o i):=by
 cases slice<;>first | rfl | exact nob h
theorem wp_sub {value slice:Expr} {x y:Value} {a b u:AV} {Q:AV→AHeap→Prop} {X:AHeap→Prop} (hn:notSlice slice = true) (i:INV w B os₀ s H) (r:RV s.heap H a x) (r':RV s.heap H b y) (hu:A.units + 20 < cLine)
 (h:SubR H a b u) (q:Q u H):WpE prog w B os₀ A (subscriptTail value slice x y) s H (RQ Q) X:=by
 cases h with
 | list ha h0 h1 h=>
   obtain rfl:=r.vref;obtain ⟨_,rfl⟩:=r'.vint
   obtain ⟨vs,n,e,rv⟩:=isList_of i ha
   obtain ⟨v,hv,rv'⟩:=rv.get h
   refine tail_any (T:="list") ⟨_,e,rfl⟩ slot_list_getitem.lookup ?_ (subscripted_plain hn _ _)
   exact wpAny_getItem_list (listO_isList e) h0 (by omega) (by simpa using hv) ⟨H,i,Ext.refl _ _ _,u,rv',q⟩
 | dict hd h=>
   obtain rfl:=r.vref
   obtain ⟨xs,n,e,_,rd,hnd⟩:=i.rep _ _ hd
   obtain ⟨ad,rfl⟩:=pt_ref r'
   refine tail_any (T:="dict") ⟨_,e,rfl⟩ slot_dict_getitem.lookup ?_ (subscripted_plain hn _ _)
   exact wp_getItem_dict (p:=(_,_)) i r' hd (by exact linLt [_,_] 1 (.a (.v 0) (.n 10)) (.v 1) [.lt 1 (.a (.v 0) (.n 20)) (.v 1)] rfl hu) h q
 | fst _ _=>
   obtain ⟨_,rfl⟩:=r'.vint
   obtain ⟨_,_,_,rfl,e,n,r1,r2⟩:=r.vpair
   exact tail_any (T:="tuple") ⟨_,e,rfl⟩ slot_tuple_getitem.lookup (PyProof.Rows.getItem_tuple ⟨_,e,rfl,_,rfl⟩ (by decide) (by decide) (j:=0) rfl rfl ⟨H,i,Ext.refl _ _ _,_,r1,q⟩) (subscripted_plain hn _ _)
 | snd _ _=>
   obtain ⟨_,rfl⟩:=r'.vint
   obtain ⟨_,_,_,rfl,e,n,r1,r2⟩:=r.vpair
   exact tail_any (T:="tuple") ⟨_,e,rfl⟩ slot_tuple_getitem.lookup (PyProof.Rows.getItem_tuple ⟨_,e,rfl,_,rfl⟩ (by decide) (by decide) (j:=1) rfl rfl ⟨H,i,Ext.refl _ _ _,_,r2,q⟩) (subscripted_plain hn _ _)
 | @str z k h0 h1 h2=>
   obtain ⟨_,rfl⟩:=r.vstr;obtain ⟨_,rfl⟩:=r'.vint
   have hl:z.length = z.cps.size:=rfl
   have hlen:k.toNat < z.cps.size:=by omega
   have hsi:seqIndex? k z.length = some k.toNat:=by
    unfold seqIndex?
    refine wat (if_neg (show ¬ k < 0 by omega)) ?_
    first | (refine wat (if_pos (by omega)) ?_) | (simp;omega)
   refine tail_any (T:="str") (typeIs_str s _ _) PySem.F.slot_str_getitem.lookup ?_ (subscripted_plain hn _ _)
   refine PyProof.Rows.getItem_str (c:=z.cps.getD k.toNat 0) ?_ ?_ ⟨H,i.toks _,Ext.refl _ _ _,_,.str,q⟩
   · simp;omega
   · refine wat hsi ?_
     simp [Array.getD,hlen]
theorem pick_eq (vs:List Value) (a:Int) (hi:Option Int) (h0:0≤a) (h1:0≤hi.getD 0):
 (slicePick vs.toArray (some a) hi none) = ((match hi with | some n=>vs.take n.toNat | none=>vs).drop a.toNat).toArray:=by
 obtain ⟨m,rfl⟩:∃ m:Nat,a = m:=⟨a.toNat,by omega⟩
 have key:∀ b:Nat,((vs.drop (min m vs.length)).take (b - min m vs.length)) = (vs.take b).drop m:=by
  intro b
  apply List.ext_getElem?
  intro j
  simp only [List.getElem?_take,List.getElem?_drop]
  by_cases hm:m≤vs.length
  · refine wat (Nat.min_eq_left hm) ?_
    by_cases hj:j < b - m
    · exact wat (if_pos hj) (wat (if_pos (by omega)) rfl)
    · exact wat (if_neg hj) (wat (if_neg (by exact Nat.not_lt_of_ge (linLe [_,_,_,_] 1 (.v 2) (.a (.v 3) (.v 0)) [.nlt 1 (.v 0) (.v 1),.le 1 (.v 2) (.a (.v 1) (.v 3))] rfl hj (le_sub b m)))) rfl)
  · refine wat (Nat.min_eq_right (by exact linLe [_,_] 1 (.v 1) (.v 0) [.nle 1 (.v 0) (.v 1)] rfl hm)) ?_
    have e1:vs[vs.length + j]? = none:=by simp
    have e2:vs[m + j]? = none:=by simp;exact linLe [_,_,_] 1 (.v 1) (.a (.v 0) (.v 2)) [.nle 1 (.v 0) (.v 1)] rfl hm
    refine wat e1 (wat e2 ?_);simp
 have gen:∀ b:Nat,b≤vs.length→(sliceBounds (some (m:Int)) hi none vs.toArray.size = (((min m vs.length:Nat):Int),(b:Int),1))→slicePick vs.toArray (some (m:Int)) hi none = ((vs.take b).drop m).toArray:=by
  intro b hb e
  unfold slicePick
  refine wat e ?_
  simp only [sliceRange_one,pick_run]
  exact wat (key b) rfl
 cases hi with
 | none=>
   rw [gen vs.length (Nat.le_refl _) ?_,List.take_length]
   · simp
   · simp only [sliceBounds,Option.getD_none,List.size_toArray]
     have h1:¬ ((m:Int) < 0):=by omega
     simp only [h1,if_false,show (1:Int) > 0 by decide,if_true]
     congr 1;omega
 | some n=>
   obtain ⟨k,rfl⟩:∃ k:Nat,n = k:=⟨n.toNat,by simp at h1;omega⟩
   rw [gen (min k vs.length) (Nat.min_le_right _ _) ?_]
   · simp only [Int.toNat_natCast]
     congr 2
     rw [List.take_eq_take_iff];exact Nat.le_antisymm (linLe [_,_] 1 (.v 0) (.v 1) [.le 1 (.v 0) (.v 1)] rfl (Nat.min_le_left (min k vs.length) vs.length)) (linLe [_,_] 1 (.v 1) (.v 0) [.ge 1 (.v 0) (.v 1)] rfl (Nat.min_eq_left (linLe [_,_] 1 (.v 0) (.v 1) [.le 1 (.v 0) (.v 1)] rfl (Nat.min_le_right k vs.length))))
   · simp only [sliceBounds,Option.getD_none,List.size_toArray]
     have h1:¬ ((m:Int) < 0):=by lia
     have h2:¬ ((k:Int) < 0):=by lia
     simp only [h1,h2,if_false,show (1:Int) > 0 by decide,if_true]
     congr 1
     · omega
     · congr 1;omega
theorem RVs.take {h:Heap} {xs vs} (r:RVs h H xs vs):∀ n,RVs h H (xs.take n) (vs.take n):=by
 induction r with
 | nil=>intro n;simp;exact .nil
 | cons a _ ih=>intro n;cases n with
   | zero=>exact .nil
   | succ n=>exact .cons a (ih n)
theorem RVs.drop {h:Heap} {xs vs} (r:RVs h H xs vs):∀ n,RVs h H (xs.drop n) (vs.drop n):=by
 induction r with
 | nil=>intro n;simp;exact .nil
 | cons a r ih=>intro n;cases n with
   | zero=>exact .cons a r
   | succ n=>exact ih n
theorem wp_slice_list {l sl:Addr} {xs:List AV} {vs:List Value} {vl vu:Value} {lo hi:Option Int} {Q:AV→AHeap→Prop} {X:AHeap→Prop} (i:INV w B os₀ s H) (hl:s.heap.IsList l vs.toArray) (rv:RVs s.heap H xs vs)
 (hs:s.heap.IsSliceOf sl vl vu .none) (pl:IsPart vl lo) (pu:IsPart vu hi) (hlo:0≤lo.getD 0) (hhi:0≤hi.getD 0) (hsz:xs.length≤1000)
 (q:∀ a,H a = none→Q (.ref a) (H.set a (.list ((match hi with | some n=>xs.take n.toNat | none=>xs).drop (lo.getD 0).toNat)))):WpE prog w B os₀ A (getItem (.ref l) (.ref sl)) s H (RQ Q) X:=by
 have hsz':vs.toArray.size≤sizeLine:=by have:=rv.length;have:=size1000;simp;omega
 have hp:slicePick vs.toArray lo hi none = ((match hi with | some n=>vs.take n.toNat | none=>vs).drop (lo.getD 0).toNat).toArray:=by
  cases lo with
  | some a=>exact pick_eq vs a hi hlo hhi
  | none=>
    have e1:slicePick vs.toArray none hi none = slicePick vs.toArray (some 0) hi none:=by
     have:max (0:Int) (min 0 (vs.length:Int)) = 0:=by omega
     simp [slicePick,sliceBounds,this]
    exact pick_eq vs 0 hi (by omega) hhi
 have rr:RVs s.heap H ((match hi with | some n=>xs.take n.toNat | none=>xs).drop (lo.getD 0).toNat) ((match hi with | some n=>vs.take n.toNat | none=>vs).drop (lo.getD 0).toNat):=by
  cases hi with
  | none=>exact rv.drop _
  | some n=>exact (rv.take _).drop _
 obtain ⟨i',x⟩:=addList i rr s.toks
 refine wpAny_getItem_list_slice hl hs pl pu .none (by decide) ?_ hsz'
 refine wat hp ?_
 exact ⟨_,i',x,_,.ref,q _ i.freshSize⟩
end
section
variable {prog:Program} {w:World} {B:Heap} {os₀:OsState} {A:Around} {s:Shared} {H:AHeap}
theorem wp_len_list {a:Addr} {xs:List AV} {Q:AV→AHeap→Prop} {X:AHeap→Prop} (i:INV w B os₀ s H) (ha:H a = some (.list xs)) (hsz:xs.length≤1000) (q:Q (.int xs.length) H):WpE prog w B os₀ A (call (.builtin "len") [.ref a]) s H (RQ Q) X:=by
 obtain ⟨vs,n,e,rv⟩:=isList_of i ha
 have hl:=rv.length
 refine Calls.call_function_entry kind_len plain_len entry_len (args_len1 _) (wpAny_len_body_list (listO_isList e) (by simp;omega) ?_)
 refine ⟨H,i.toks _,Ext.refl _ _ _,.int xs.length,?_,q⟩
 refine wat hl ?_;simpa using RV.int (h:=s.heap) (H:=H)
theorem wp_list_list {a:Addr} {xs:List AV} {Q:AV→AHeap→Prop} {X:AHeap→Prop} (i:INV w B os₀ s H) (ha:H a = some (.list xs)) (hsz:xs.length≤1000) (q:∀ b,H b = none→Q (.ref b) (H.set b (.list xs))):
 WpE prog w B os₀ A (call (.type "list") [.ref a]) s H (RQ Q) X:=by
 obtain ⟨vs,n,e,rv⟩:=isList_of i ha
 have hl:=rv.length
 refine call_list_seq a (.inl rfl) e rfl rfl (fun h' c' keep hg=>?_) (by have:=size1000;simp;omega)
 have x:ExtE s.heap H h' (H.set s.heap.objs.size (.list xs)):=ExtE.add _ _ (get?_size _) keep
 exact ⟨_,i.add (s':={ s with heap:=h' }) (o:=.list xs) (get?_size _) keep ⟨vs,c',hg,rv.extE x⟩ rfl rfl,x,_,.ref,q _ i.freshSize⟩
theorem wp_str_int {n:Int} {t:Tok} {Q:AV→AHeap→Prop} {X:AHeap→Prop} (i:INV w B os₀ s H) (h0:0≤n) (h1:n < 100) (q:Q (.str (Str.ofString (toString n))) H):WpE prog w B os₀ A (call (.type "str") [.int n t]) s H (RQ Q) X:=by
 refine P.str_of_int ?_ ⟨H,i.toks _,Ext.refl _ _ _,_,.str,q⟩
 have:=(Nat.log2_lt (n:=n.natAbs) (k:=32))
 by_cases hz:n.natAbs = 0
 · refine wat hz ?_;decide
 · have:=(this hz).mpr (by omega);exact Nat.lt_of_lt_of_le ‹_› (by decide)
theorem one_cps {z:Str} {c:Nat} (h:z.cps.toList = [c]):z = ⟨#[c]⟩:=by
 obtain ⟨⟨l⟩⟩:=z
 simp at h;subst h;rfl
theorem digit_text:∀ c,48≤c→c≤57→PySem.intText? ⟨#[c]⟩ = some ((c - 48:Nat):Int):=by
 intro c h1 h2
 have:c = 48∨c = 49∨c = 50∨c = 51∨c = 52∨c = 53∨c = 54∨c = 55∨c = 56∨c = 57:=by lia
 rcases this with h | h | h | h | h | h | h | h | h | h<;>subst h<;>decide +kernel
theorem wp_int_str {z:Str} {c:Nat} {t:Tok} {Q:AV→AHeap→Prop} {X:AHeap→Prop} (i:INV w B os₀ s H) (hz:z.cps.toList = [c]) (h0:48≤c) (h1:c≤57) (q:Q (.int (c - 48:Nat)) H):WpE prog w B os₀ A (call (.type "int") [.str z t]) s H (RQ Q) X:=by
 refine wat (one_cps hz) ?_
 exact KIN.call_text (digit_text c h0 h1) (by show 1≤640;exact Nat.le_add_left _ _) ⟨H,i.toks _,Ext.refl _ _ _,_,.int,q⟩
theorem wp_ord_str {z:Str} {c:Nat} {t:Tok} {Q:AV→AHeap→Prop} {X:AHeap→Prop} (i:INV w B os₀ s H) (hz:z.cps.toList = [c]) (q:Q (.int c) H):WpE prog w B os₀ A (call (.builtin "ord") [.str z t]) s H (RQ Q) X:=by
 refine wat (one_cps hz) ?_
 exact P.ord_of_char ⟨H,i.toks _,Ext.refl _ _ _,_,.int,q⟩
theorem putList {a:Addr} {xs ys:List AV} {ws:List Value} {m:Nat} (i:INV w B os₀ s H) (ha:H a = some (.list xs)) {h':Heap} (sb:Heap.SameBut a s.heap h') (hg:h'.get? a = some (listO ws m)) (r:RVs s.heap H ys ws) (tk:Nat):
 INV w B os₀ { s with heap:=h',toks:=tk } (H.set a (.list ys))∧ExtE s.heap H h' (H.set a (.list ys)):=by
 have x:=ExtE.put (H:=H) (h:=s.heap) (h':=h') (.list ys) ha sb ⟨_,hg⟩
 exact ⟨i.put (s':={ s with heap:=h',toks:=tk }) ha sb ⟨ws,m,hg,r.extE x⟩ rfl rfl,x⟩
theorem mapSeq_list (f:Array Value→Array Value) (vs:List Value) (n:Nat):∃ m,Obj.mapSeq f (listO vs n) = listO (f vs.toArray).toList m:=by
 obtain ⟨m,hm⟩:=Obj.data_mapSeq (o:=listO vs n) rfl f
 refine ⟨m,?_⟩
 have:Obj.mapSeq f (listO vs n) = { (listO vs n) with data:=(Obj.mapSeq f (listO vs n)).data }:=rfl
 exact wat this (wat hm rfl)
theorem update_list {a:Addr} {f:Array Value→Array Value} {vs:List Value} {n:Nat} {h:Heap} (e:h.get? a = some (listO vs n)):∃ m,(h.update a (Obj.mapSeq f)).get? a = some (listO (f vs.toArray).toList m):=by
 obtain ⟨m,hm⟩:=mapSeq_list f vs n
 obtain ⟨m',hd⟩:=Obj.data_mapSeq (o:=listO vs n) rfl f
 exact ⟨m,by exact wat (Heap.get?_update_self _ e (Obj.isFreed_of_seq hd)) (wat hm rfl)⟩
theorem wp_append {a:Addr} {xs:List AV} {u:AV} {y:Value} {Q:AV→AHeap→Prop} {X:AHeap→Prop} (i:INV w B os₀ s H) (ha:H a = some (.list xs)) (r:RV s.heap H u y) (hsz:xs.length≤1000) (q:Q .none (H.set a (.list (xs ++ [u])))):
 WpE prog w B os₀ A (call (.builtin "list.append") [.ref a,y]) s H (RQ Q) X:=by
 refine bc fun nG=>?_
 obtain ⟨vs,n,e,rv⟩:=isList_of i ha
 refine nG ?_
 have hl:=rv.length
 refine bc fun nG=>?_
 obtain ⟨m,hg⟩:=update_list (f:=fun x=>x.push y) e
 refine nG ?_
 have e2:(vs.toArray.push y).toList = vs ++ [y]:=by simp
 simp only [e2] at hg
 obtain ⟨i',x⟩:=putList i ha (Heap.SameBut.update ..) hg (rv.append (.cons r .nil)) s.toks
 exact call_meets PySem.F.slot_list_append ⟨_,e,rfl⟩ PySem.F.entry_list_append (PySem.F.args_list_append_2 _ _) (AutoListH.list_append_list_val_0 a vs.toArray n y (by have:=size1000;simp;omega))
  ⟨e,_,i',x,_,.none,q⟩
theorem wp_insert {a:Addr} {xs:List AV} {u:AV} {y:Value} {k:Int} {t:Tok} {Q:AV→AHeap→Prop} {X:AHeap→Prop} (i:INV w B os₀ s H) (ha:H a = some (.list xs)) (r:RV s.heap H u y) (h0:0≤k) (h1:k≤xs.length) (hsz:xs.length≤1000) (q:Q .none (H.set a (.list (xs.take k.toNat ++ u :: xs.drop k.toNat)))):
 WpE prog w B os₀ A (call (.builtin "list.insert") [.ref a,.int k t,y]) s H (RQ Q) X:=by
 obtain ⟨vs,n,e,rv⟩:=isList_of i ha
 have hl:=rv.length
 obtain ⟨m,hg⟩:=update_list (f:=fun xs=>have k':=if k < 0 then (k + ((xs.size:Nat):Int)).toNat else min k.toNat xs.size;(xs.extract 0 k').push y ++ xs.extract k') e
 have hk:(if k < 0 then (k + ((vs.toArray.size:Nat):Int)).toNat else min k.toNat vs.toArray.size) = k.toNat:=by
  refine wat (if_neg (by lia)) ?_;simp;lia
 have e2:((fun xs:Array Value=>have k':=if k < 0 then (k + ((xs.size:Nat):Int)).toNat else min k.toNat xs.size;(xs.extract 0 k').push y ++ xs.extract k') vs.toArray).toList = vs.take k.toNat ++ y :: vs.drop k.toNat:=by
  simp only [hk]
  simp
  exact List.take_of_length_le (by simp)
 rw [e2] at hg
 obtain ⟨i',x⟩:=putList i ha (Heap.SameBut.update ..) hg ((rv.take k.toNat).append (.cons r (rv.drop k.toNat))) s.toks
 exact call_meets PySem.F.slot_list_insert ⟨_,e,rfl⟩ PySem.F.entry_list_insert (PySem.F.args_list_insert_3 _ _ _) (AutoListH.list_insert_list_int_val_1 a vs.toArray n k t y (by simp [Builtin.List.listFitsIndex];lia) (by have:=size1000;simp;lia))
  ⟨e,_,i',x,_,.none,q⟩
theorem wp_setItem_list {a:Addr} {xs:List AV} {u:AV} {y:Value} {k:Int} {t:Tok} {X:AHeap→Prop} {R:Unit→Shared→AHeap→Prop} (i:INV w B os₀ s H) (ha:H a = some (.list xs)) (r:RV s.heap H u y) (h0:0≤k) (h1:k < xs.length) (hsz:xs.length≤1000)
 (h:∀ s',INV w B os₀ s' (H.set a (.list (xs.set k.toNat u)))→ExtE s.heap H s'.heap (H.set a (.list (xs.set k.toNat u)))→R () s' (H.set a (.list (xs.set k.toNat u)))):WpE prog w B os₀ A (setItem (.ref a) (.int k t) y) s H R X:=by
 obtain ⟨vs,n,e,rv⟩:=isList_of i ha
 have hl:=rv.length
 have hT:s.TypeIs (.ref a) "list":=⟨_,e,rfl⟩
 unfold WpE setItem
 try with_reducible refine wpAny_holding ?_
 first | refine wpAny_bind (wpAny_pure ?_) | skip
 refine wpAny_bind (wpAny_sequenceKey hT (by decide) ?_)
 refine wpAny_bind (wpAny_callSpecial?_slot (name:=Str.ofString "__setitem__") hT slot_list_setitem
  (wpAny_call_entry slot_list_setitem hT entry_list_setitem ?_ (args_list_setitem _ _ _)))
 show wpAny _ _ (Builtin.List.listSubscript? (.int k t) >>= _) _ _ s
 refine wpAny_bind (wpAny_listSubscript_int (fitsIndex_of h0 (by lia)) ?_)
 obtain ⟨j,rfl⟩:=Int.eq_ofNat_of_zero_le h0
 have hj:j < vs.toArray.size:=by simp;lia
 have hx':vs.toArray[j]? = some vs.toArray[j]:=Array.getElem?_eq_getElem hj
 refine wpAny_bind (wpAny_bind (wpAny_seqItemAt e rfl (wpAny_pure ?_)))
 refine wat hx' ?_
 refine wpAny_bind (wpAny_setSeqItemAt e rfl ?_)
 obtain ⟨m,hg⟩:=update_list (f:=fun x=>x.setIfInBounds j y) e
 have e2:(vs.toArray.setIfInBounds j y).toList = vs.set j y:=by simp
 simp only [e2] at hg
 obtain ⟨i',x⟩:=putList i ha (Heap.SameBut.update ..) hg (rv.set r j) s.toks
 first
  | exact wpAny_bind (wpAny_pure (wpAny_pure ⟨.none,rfl,wpAny_pure ⟨_,i',x,h _ i' x⟩⟩))
  | exact wpAny_pure ⟨.none,rfl,wpAny_pure ⟨_,i',x,h _ i' x⟩⟩
theorem strs_rvs {h:Heap}:∀ (l:List (Str×Tok)),RVs h H ((l.map (·.1)).map .str) (strValues l)
 | []=>.nil
 | _ :: r=>.cons .str (strs_rvs r)
theorem wp_lower {z:Str} {t:Tok} {Q:AV→AHeap→Prop} {X:AHeap→Prop} (i:INV w B os₀ s H) (hsz:z.length≤100) (ha:z.cps.all (· < 128) = true) (q:Q (.str ⟨z.cps.map fun c=>if 65≤c∧c≤90 then c + 32 else c⟩) H):
 WpE prog w B os₀ A (call (.builtin "str.lower") [.str z t]) s H (RQ Q) X:=by
 have hA:∀ c∈z.cps.toList,c < 128:=by
  intro c hc
  have:=Array.all_eq_true_iff_forall_mem.mp ha c (by simpa using hc)
  simpa using this
 have e:Txt.lower z = ⟨z.cps.map fun c=>if 65≤c∧c≤90 then c + 32 else c⟩:=by
  refine wat (lower_ascii hA) ?_
  rfl
 refine SC.lower ?_ ?_
 · refine wat e ?_
   have:=size1000
   have h2:(⟨z.cps.map fun c=>if 65≤c∧c≤90 then c + 32 else c⟩:Str).length = z.length:=by show (z.cps.map _).size = z.cps.size;simp
   simp only [Builtin.Str.tooLong,decide_eq_false_iff_not];lia
 · refine wat e ?_;exact ⟨H,i.toks _,Ext.refl _ _ _,_,.str,q⟩
theorem wp_split {z d:Str} {t u:Tok} {Q:AV→AHeap→Prop} {X:AHeap→Prop} (i:INV w B os₀ s H) (hsz:z.length≤1000) (hd:d.length = 1) (hn:(Txt.split z d).length≤1000) (q:∀ a,H a = none→Q (.ref a) (H.set a (.list ((Txt.split z d).map .str)))):
 WpE prog w B os₀ A (call (.builtin "str.split") [.str z t,.str d u]) s H (RQ Q) X:=by
 have hs:=size1000
 have hy:(d.length == 0) = false:=by refine wat hd ?_;rfl
 have fin:∀ (l:List (Str×Tok)) (tk:Nat),l.map (·.1) = Txt.split z d→OkE w B os₀ s.heap H (RQ Q) (.ref s.heap.objs.size) { s with heap:=s.heap.push { cls:=.type "list",data:=.seq (strValues l).toArray },toks:=tk }:=by
  intro l tk hl
  have r:=strs_rvs (H:=H) (h:=s.heap) l
  rw [hl] at r
  obtain ⟨i',x⟩:=addList i r tk
  exact ⟨_,i',x,_,.ref,q _ i.freshSize⟩
 cases h1:(decide (z.length < d.length) || decide (Builtin.Str.strKind z < Builtin.Str.strKind d))
 · cases hf:(Builtin.Str.occurrences z d 0 z.length (z.length + 1)).isEmpty
   · have e1:Txt.split z d = Builtin.Str.partsBetween z (Builtin.Str.occurrences z d 0 z.length (z.length + 1)) d.length:=(if_neg (ne_true_of_eq_false h1)).trans (if_neg (ne_true_of_eq_false hf))
     refine call_meets PySem.F.slot_str_split (typeIs_str _ _ _) PySem.F.entry_str_split (PySem.F.args_str_split_2 _ _) (meets_str_split_sep z d t u h1 hy hf (by exact Nat.le_trans ‹_› (by decide)) (by refine wat e1.symm ?_;exact Nat.le_trans ‹_› (by decide))) ?_
     rw [strsFrom_eq]
     exact fin _ _ ((numbered_texts _ _).trans e1.symm)
   · exact call_meets PySem.F.slot_str_split (typeIs_str _ _ _) PySem.F.entry_str_split (PySem.F.args_str_split_2 _ _) (meets_str_split_not_found z d t u h1 hy hf) (fin [(z,t)] s.toks ((if_neg (ne_true_of_eq_false h1)).trans (if_pos hf)).symm)
 · exact call_meets PySem.F.slot_str_split (typeIs_str _ _ _) PySem.F.entry_str_split (PySem.F.args_str_split_2 _ _) (meets_str_split_cannot_occur z d t u h1) (fin [(z,t)] s.toks (if_pos h1).symm)
end
noncomputable def attrOkK (K:Frag) (C:Addr) (name:Str):Bool:=plainGet K C name && hasDictIn K C && (findIn K (.ref C) name == some none) && (findIn K (.ref C) (Str.ofString "__setattr__") == some (some (.builtin "object.__setattr__"))) && plainOver K C
noncomputable def biNames:List Str:=[Str.ofString "len",Str.ofString "set",Str.ofString "list",Str.ofString "str",Str.ofString "int",Str.ofString "ord",Str.ofString "range",Str.ofString "enumerate",Str.ofString "map",Str.ofString "ValueError"]
structure Base (K:Frag) (mg mb:Str→Option Value) (B:Heap):Prop where
 kin:K.In B
 g:B.Ns mainGlobals mg
 b:B.Ns builtinsNs mb
 bi:∀ x,x≠Str.ofString "__name__"→mb x = bootBuiltins x
 lim:B.NoLimit
 sysm:∃ o,B.get? sysModules = some o
 noB:∀ x∈biNames,mg x = none
 fnG:∀ f:Fn,f.isMeth = false→mg f.gname = some (.ref f.addr)
 fn:∀ f:Fn,(X2 fun o fd=>A5 (B.get? f.addr = some o) (o.cls = .type "function") (o.data = .func fd) (fdOk (fns f) fd = true) (B.CodeRec fd.code fd.qualname))
 col:∃ t,mg (Str.ofString "column_letters") = some (.str colText t)
 meth:∀ f:Fn,f.isMeth = true→findIn K (.ref boardC) f.gname = some (some (.ref f.addr))∧typeIn K (.ref f.addr) = some (.type "function")∧plainGet K boardC f.gname = true
 cls:mg (Str.ofString "Board") = some (.ref boardC)∧mg (Str.ofString "_Group") = some (.ref groupC)∧makesIn K boardC = true∧makesIn K groupC = true∧findIn K (.ref groupC) (Str.ofString "__init__") = some (some (.builtin "object.__init__"))∧keepIn K (.ref boardC) = true∧keepIn K (.ref groupC) = true
 attrs:∀ C (f:Fld),C = boardC∨C = groupC→attrOkK K C f.name = true
section
variable {prog:Program} {w:World} {B:Heap} {os₀:OsState} {A:Around} {s:Shared} {H:AHeap} {K:Frag} {mg mb:Str→Option Value}
variable {sc:Scope} {vars:List Str} {env:Env} {ρ:Loc}
theorem Inv.keeps {byText:Bool} (i:Inv byText B os₀ s H):∀ b o,B.get? b = some o→s.heap.get? b = some o:=fun b o e=>(i.base b o e).1
theorem isVar_spec {i:Nat} {x:Str} (h:isVar sc vars i x = true):vars[i]? = some x∧(x == Str.ofString "__debug__") = false:=by
 unfold isVar at h
 rw [Bool.and_eq_true,beq_iff_eq,bne_iff_ne] at h
 exact ⟨h.1,beq_eq_false_iff_ne.mpr h.2⟩
theorem wp_var {i:Nat} {x:Str} {pos:Pos} {av:AV} {Q:AV→AHeap→Prop} {X:AHeap→Prop} (I:INV w B os₀ s H) (R:EnvR s.heap H sc vars env ρ) (hv:isVar sc vars i x = true) (hr:ρ[i]? = some (some av)) (q:Q av H):
 WpE prog w B os₀ A (eval (.Name x pos) env) s H (RQ Q) X:=by
 refine bc fun nG=>?_
 obtain ⟨h1,h2⟩:=isVar_spec hv
 refine nG ?_
 obtain ⟨m,hm,hl⟩:=R.look
 have hk:env.scope.kind = .function:=by refine wat R.scope ?_;exact R.kind
 have hl:=hl i x av h1 hr
 refine wpAny_Name ?_ h2
 rcases R.kinds x (List.mem_of_getElem? h1) with e | ⟨e,c,ec⟩
 · refine bc fun nG=>?_
   obtain ⟨v,e1,e2⟩:=hl.1 e
   refine nG ?_
   exact wpAny_loadName_local hk (by unfold Env.kindOf;refine wat R.scope ?_;exact e) hm e1 ⟨H,I,Ext.refl _ _ _,av,e2,q⟩
 · obtain ⟨v,e1,e2⟩:=hl.2 e c ec
   exact wpAny_loadName_cell hk (by unfold Env.kindOf;refine wat R.scope ?_;exact e) ec e1 ⟨H,I,Ext.refl _ _ _,av,e2,q⟩
theorem isGlob_spec {x:Str} (h:isGlob sc x = true):sc.names.lookup x = some .globalImplicit∧(x == Str.ofString "__debug__") = false:=by
 unfold isGlob at h
 rw [Bool.and_eq_true,beq_iff_eq,bne_iff_ne] at h
 exact ⟨h.1,beq_eq_false_iff_ne.mpr h.2⟩
theorem wp_glob {x:Str} {pos:Pos} {v:Value} {Q:Value→Shared→Prop} {E:Value→Shared→Prop} (bs:Base K mg mb B) (I:INV w B os₀ s H) (R:EnvR s.heap H sc vars env ρ) (hg:isGlob sc x = true) (hv:mg x = some v) (q:Q v s):
 wpAny (model prog w) A (eval (.Name x pos) env) Q E s:=by
 obtain ⟨h1,h2⟩:=isGlob_spec hg
 exact Calls.Name_function_global (by refine wat R.scope ?_;exact R.kind) (by unfold Env.kindOf;refine wat R.scope ?_;exact h1) (Calls.loadGlobal_global (by refine wat R.glob ?_;exact bs.g.keeps I.keeps) hv q) h2
theorem wp_builtin {x:Str} {pos:Pos} {v:Value} {Q:Value→Shared→Prop} {E:Value→Shared→Prop} (bs:Base K mg mb B) (I:INV w B os₀ s H) (R:EnvR s.heap H sc vars env ρ) (hg:isGlob sc x = true) (hm:mg x = none) (hn:x≠Str.ofString "__name__")
 (hv:bootBuiltins x = some v) (q:Q v s):wpAny (model prog w) A (eval (.Name x pos) env) Q E s:=by
 obtain ⟨h1,h2⟩:=isGlob_spec hg
 exact Calls.Name_function_global (by refine wat R.scope ?_;exact R.kind) (by unfold Env.kindOf;refine wat R.scope ?_;exact h1) (Calls.loadGlobal_builtin (by refine wat R.glob ?_;exact bs.g.keeps I.keeps) hm (by refine wat R.built ?_;exact bs.b.keeps I.keeps) ((bs.bi x hn).trans hv) q) h2
theorem set_look {ρ:Loc} {i j:Nat} {w:Option AV} {u:AV} (hu:(ρ.set i w)[j]? = some (some u)):(j = i∧w = some u)∨(j≠i∧ρ[j]? = some (some u)):=by
 rw [List.getElem?_set] at hu
 by_cases e:i = j
 · subst e
   rw [if_pos rfl] at hu
   split at hu
   · exact .inl ⟨rfl,Option.some.inj hu⟩
   · exact no1 hu
 · exact .inr ⟨Ne.symm e,by rwa [if_neg e] at hu⟩
theorem ns_same {h:Heap} {a:Addr} {m m':Str→Option Value} (x:h.Ns a m) (y:h.Ns a m'):m = m':=by
 obtain ⟨o,es,ep,ho,hd,_,hf⟩:=x
 obtain ⟨o',es',ep',ho',hd',_,hf'⟩:=y
 rw [ho] at ho';obtain rfl:=Option.some.inj ho';rw [hd] at hd';cases hd'
 funext n;rw [← hf,← hf']
theorem ns_cell {h:Heap} {a c:Addr} {m:Str→Option Value} {v:Option Value} (x:h.Ns a m) (y:h.IsCell c v):c≠a:=fun e=>by
 obtain ⟨o',es,ep,ho',hd',_⟩:=x
 obtain ⟨o,ho,hd⟩:=y
 rw [e,ho'] at ho;obtain rfl:=Option.some.inj ho;rw [hd'] at hd;cases hd
theorem EnvR.set {h h':Heap} (R:EnvR h H sc vars env ρ) {i:Nat} {x:Str} {av:AV} {v:Value} (hx:vars[i]? = some x) (rv:RV h H av v)
 (ha:(X1 fun a=>A3 (own env a) (Heap.SameBut a h h') (((sc.names.lookup x = some .local∧a = env.locals∧∃ m,h.Ns env.locals m∧h'.Ns env.locals (fun y=>if y = x then some v else m y))∨
   (sc.names.lookup x = some .cell∧env.cells.lookup x = some a∧h'.IsCell a (some v)))))):EnvR h' H sc vars env (ρ.set i (some av))∧Ext (own env) h H h' H:=by
 obtain ⟨a,oa,sb,hcase⟩:=ha
 have hil:i < vars.length:=(List.getElem?_eq_some_iff.mp hx).1
 have hlive:∃ o,h'.get? a = some o:=by
  rcases hcase with ⟨_,rfl,m,_,o,_,_,ho,_⟩ | ⟨_,_,o,ho,_⟩
  · exact ⟨o,ho⟩
  · exact ⟨o,ho⟩
 have ex:Ext (own env) h H h' H:=Ext.ofOwn oa sb hlive
 refine ⟨?_,ex⟩
 have hrv:∀ {u:AV} {y:Value},RV h H u y→RV h' H u y:=fun r=>r.ext ex R.ownOk
 obtain ⟨m0,hm0,hl0⟩:=R.look
 have notLocals:∀ y c,env.cells.lookup y = some c→c≠env.locals:=fun y c hc=>ns_cell hm0 (R.cells y c hc).2.choose_spec
 refine ⟨R.scope,R.kind,R.glob,R.built,R.nodup,by refine wat List.length_set ?_;exact R.len,R.kinds,fun y c hc=>?_,R.apart,R.frame,?_⟩
 · refine ⟨(R.cells y c hc).1,?_⟩
   by_cases e:c = a
   · subst e
     rcases hcase with ⟨_,e,_⟩ | ⟨_,_,h3⟩
     · exact absurd e (notLocals y c hc)
     · exact ⟨_,h3⟩
   · obtain ⟨_,v',o,ho,hd⟩:=R.cells y c hc
     exact ⟨v',o,(sb.2 c e).trans ho,hd⟩
 · rcases hcase with ⟨kl,rfl,m,hm,hm'⟩ | ⟨kc,hc,hcell⟩
   · have hmm:m = m0:=ns_same hm hm0
     subst hmm
     refine ⟨_,hm',fun j y u hy hu=>?_⟩
     rcases set_look hu with ⟨rfl,e⟩ | ⟨e,huj⟩
     · obtain rfl:=Option.some.inj e
       rw [hx] at hy;obtain rfl:=Option.some.inj hy
       exact ⟨fun _=>⟨v,by simp,hrv rv⟩,fun k=>by rw [kl] at k;cases k⟩
     · have hyx:y≠x:=fun q=>e (lookup_inj R.nodup (q▸hy) hx)
       refine ⟨fun k=>?_,fun k c hc=>?_⟩
       · refine bc fun nG=>?_
         obtain ⟨v',e1,e2⟩:=(hl0 j y u hy huj).1 k
         refine nG ?_
         exact ⟨v',by simp [hyx,e1],hrv e2⟩
       · refine bc fun nG=>?_
         obtain ⟨v',⟨o,ho,hd⟩,e2⟩:=(hl0 j y u hy huj).2 k c hc
         refine nG ?_
         exact ⟨v',⟨o,(sb.2 c (notLocals y c hc)).trans ho,hd⟩,hrv e2⟩
   · refine ⟨m0,hm0.sameBut sb (fun q=>notLocals x a hc q.symm),fun j y u hy hu=>?_⟩
     rcases set_look hu with ⟨rfl,e⟩ | ⟨e,huj⟩
     · obtain rfl:=Option.some.inj e
       rw [hx] at hy;obtain rfl:=Option.some.inj hy
       refine ⟨fun k=>(by rw [kc] at k;cases k),fun _ c hc'=>?_⟩
       rw [hc] at hc';obtain rfl:=Option.some.inj hc'
       exact ⟨v,hcell,hrv rv⟩
     · have hyx:y≠x:=fun q=>e (lookup_inj R.nodup (q▸hy) hx)
       refine ⟨fun k=>?_,fun k c hc'=>?_⟩
       · refine bc fun nG=>?_
         obtain ⟨v',e1,e2⟩:=(hl0 j y u hy huj).1 k
         refine nG ?_
         exact ⟨v',e1,hrv e2⟩
       · refine bc fun nG=>?_
         obtain ⟨v',⟨o,ho,hd⟩,e2⟩:=(hl0 j y u hy huj).2 k c hc'
         refine nG ?_
         have hca:c≠a:=fun q=>hyx (R.apart y x a (q▸hc') hc)
         exact ⟨v',⟨o,(sb.2 c hca).trans ho,hd⟩,hrv e2⟩
theorem wp_store {i:Nat} {x:Str} {av:AV} {v:Value} {Q:Unit→Shared→Prop} {E:Value→Shared→Prop} (hB:∀ b,own env b→B.get? b = none) (I:INV w B os₀ s H) (R:EnvR s.heap H sc vars env ρ) (hx:vars[i]? = some x) (rv:RV s.heap H av v)
 (q:∀ s',INV w B os₀ s' H→EnvR s'.heap H sc vars env (ρ.set i (some av))→Ext (own env) s.heap H s'.heap H→Q () s'):wpAny (model prog w) A (storeName env x v) Q E s:=by
 have hk:env.scope.kind = .function:=by refine wat R.scope ?_;exact R.kind
 rcases R.kinds x (List.mem_of_getElem? hx) with e | ⟨e,c,ec⟩
 · obtain ⟨m,hm,_⟩:=id R.look
   refine wpAny_storeName_local (by unfold Env.kindOf;refine wat R.scope ?_;exact e) hm (fun h' hns sb=>?_) (by refine wat hk ?_;rfl)
   obtain ⟨R',ex⟩:=R.set (h':=h') hx rv ⟨env.locals,.inl rfl,sb,.inl ⟨e,rfl,m,hm,hns⟩⟩
   have hl:∃ o,h'.get? env.locals = some o:=by obtain ⟨o,_,_,ho,_⟩:=id hns;exact ⟨o,ho⟩
   exact q _ (Inv.ofOwn I R hB (s':={ s with heap:=h',toks:=s.toks + 1 }) (.inl rfl) sb hl rfl rfl) R' ex
 · obtain ⟨_,v0,hc⟩:=R.cells x c ec
   refine wpAny_storeName_cell hk (by unfold Env.kindOf;refine wat R.scope ?_;exact e) ec hc (fun h' hcell sb=>?_)
   obtain ⟨R',ex⟩:=R.set (h':=h') hx rv ⟨c,.inr ⟨x,ec⟩,sb,.inr ⟨e,ec,hcell⟩⟩
   have hl:∃ o,h'.get? c = some o:=by obtain ⟨o,ho,_⟩:=id hcell;exact ⟨o,ho⟩
   exact q _ (Inv.ofOwn I R hB (s':={ s with heap:=h' }) (.inr ⟨x,ec⟩) sb hl rfl rfl) R' ex
end
open SetTable (slot probeStart)
structure SetAt (byText:Bool) (h:Heap) (H:AHeap) (a:Addr) (ps:List Pt) (es:List (Int×Value)) (n:Nat) (t:SetTable):Prop where
 get:h.get? a = some (setO es n t)
 rs:RS h H ps es
 nodup:ps.Nodup
 inv:SInv (ps.map ptHash) t
 plain:t.plain = true
 led:byText = false→t.led = true
theorem RS.at {h:Heap} {H:AHeap} {ps es} (r:RS h H ps es):∀ {i:Nat} {p:Pt},ps[i]? = some p→∃ c,es[i]? = some (ptHash p,.ref c)∧RV h H (.pt p) (.ref c):=by
 induction r with
 | nil=>intro i p e;simp at e
 | @cons p v ps es r _ ih=>
   intro i q e
   cases i with
   | zero=>
     simp only [List.getElem?_cons_zero,Option.some.injEq] at e
     subst e
     obtain ⟨c,rfl⟩:=pt_ref r
     exact ⟨c,rfl,r⟩
   | succ i=>simpa using ih (by simpa using e)
theorem RS.length {h:Heap} {H:AHeap} {ps es} (r:RS h H ps es):ps.length = es.length:=by
 have:=congrArg List.length r.hashes;simpa using this.symm
theorem SetAt.fits {byText h H a ps es n t} (x:SetAt byText h H a ps es n t):t.fits es.toArray.size = true:=by
 have h1:=x.inv.size
 have h2:=x.rs.length
 have h3:=x.inv.room
 unfold SetTable.fits SetTable.fill
 have e:es.toArray.size = es.length:=by simp
 simp only [List.length_map,Array.length_toList] at h1 h3
 rw [e,Bool.and_eq_true,beq_iff_eq,decide_eq_true_eq]
 exact ⟨by exact Nat.le_antisymm (linLe [_,_,_] 1 (.v 2) (.v 1) [.eq 1 (.v 0) (.v 1),.eq 1 (.v 2) (.v 0)] rfl h2 h1) (linLe [_,_,_] 1 (.v 1) (.v 2) [.ge 1 (.v 0) (.v 1),.ge 1 (.v 2) (.v 0)] rfl h2 h1),by exact linLe [_,_,_] 5 (.a (.v 0) (.v 1)) (.v 2) [.lt 1 (.r (.a (.v 0) (.v 1)) 5) (.r (.v 2) 3)] rfl h3⟩
theorem masks_odd:∀ m∈masks,(m % 2 == 0) = false:=by decide
theorem masks_le:∀ m∈masks,m≤127:=by decide
theorem runEnd_le {m i:Nat} (hi:i≤m):i≤SetTable.runEnd m i∧SetTable.runEnd m i≤m:=by unfold SetTable.runEnd;split<;>lia
theorem path_j_le (m:Nat) (h:Int):∀ k,(path m h k).j≤m∧(path m h k).j + (path m h k).more≤m∧(path m h k).i≤m:=by
 intro k
 induction k with
 | zero=>
   have h0:SetTable.bits h % (m + 1)≤m:=Nat.lt_succ_iff.mp (Nat.mod_lt _ (by exact linLt [_] 1 (.n 0) (.a (.v 0) (.n 1)) [] rfl))
   have:=runEnd_le h0
   show SetTable.bits h % (m + 1)≤m∧SetTable.bits h % (m + 1) + (SetTable.runEnd m (SetTable.bits h % (m + 1)) - SetTable.bits h % (m + 1))≤m∧SetTable.bits h % (m + 1)≤m
   exact ⟨linLe [_,_] 1 (.v 0) (.v 1) [.le 1 (.v 0) (.v 1)] rfl h0,linLe [_,_,_,_] 1 (.a (.v 3) (.v 2)) (.v 1) [.le 1 (.v 0) (.v 1),.eq 1 (.a (.v 2) (.v 3)) (.v 0)] rfl this.2 (Nat.sub_add_cancel (linLe [_,_] 1 (.v 0) (.v 1) [.le 1 (.v 0) (.v 1)] rfl this.1)),linLe [_,_] 1 (.v 0) (.v 1) [.le 1 (.v 0) (.v 1)] rfl h0⟩
 | succ k ih=>
   have:path m h (k + 1) = advM m (path m h k):=rfl
   refine wat this ?_
   unfold advM
   split
   · simp only;lia
   · have h0:(SetTable.leap m (path m h k).i (path m h k).perturb).1≤m:=Nat.lt_succ_iff.mp (Nat.mod_lt _ (by exact linLt [_] 1 (.n 0) (.a (.v 0) (.n 1)) [] rfl))
     have:=runEnd_le h0
     simp only;exact ⟨linLe [_,_] 1 (.v 0) (.v 1) [.le 1 (.v 0) (.v 1)] rfl h0,linLe [_,_,_,_] 1 (.a (.v 3) (.v 2)) (.v 1) [.le 1 (.v 0) (.v 1),.eq 1 (.a (.v 2) (.v 3)) (.v 0)] rfl this.2 (Nat.sub_add_cancel (linLe [_,_] 1 (.v 0) (.v 1) [.le 1 (.v 0) (.v 1)] rfl this.1)),linLe [_,_] 1 (.v 0) (.v 1) [.le 1 (.v 0) (.v 1)] rfl h0⟩
section
variable {prog:Program} {w:World} {B:Heap} {os₀:OsState} {A:Around} {s:Shared} {H:AHeap}
theorem ofAClass_pt {p:Pt} {c:Addr} {Q:Bool→Shared→Prop} {E:Value→Shared→Prop} (r:RV s.heap H (.pt p) (.ref c)) (h:Q false s):wpAny (model prog w) A (ofAClassStatement 8 (.ref c)) Q E s:=by
 cases r with
 | pair e n r1 r2=>
   obtain ⟨_,rfl⟩:=r1.vint;obtain ⟨_,rfl⟩:=r2.vint
   unfold ofAClassStatement
   refine wpAny_bind (wpAny_typeOf_ref e ?_)
   refine wpAny_bind ?_
   refine wpAny_pure ?_
   refine wpAny_bind (wpAny_seqItems e rfl ?_)
   refine wpAny_bind ?_
   refine wpAny_pure (wpAny_pure h)
theorem seen_pts {p:Pt} {c:Addr} {Q:Bool→Shared→Prop} {E:Value→Shared→Prop} (r:RV s.heap H (.pt p) (.ref c)) {vs:List Value} (hv:∀ v∈vs,∃ q:Pt,RV s.heap H (.pt q) v) (h:Q false s):
 wpAny (model prog w) A (searchCouldBeSeen (.ref c) vs) Q E s:=by
 refine wpAny_bind (wpAny_forIn_list _ (fun rest b s'=>s' = s∧b = (none,())∧∀ v∈rest,∃ q:Pt,RV s.heap H (.pt q) v) _ ?_ ?_ vs _ ⟨rfl,rfl,hv⟩)
 · rintro v rest b s' ⟨rfl,rfl,hv⟩
   obtain ⟨q,rq⟩:=hv v List.mem_cons_self
   obtain ⟨d,rfl⟩:=pt_ref rq
   have hrest:∀ v∈rest,∃ q:Pt,RV s'.heap H (.pt q) v:=fun v h=>hv v (List.mem_cons_of_mem _ h)
   have quiet:∀ {q:Pt} {d:Addr} {Q:Bool→Shared→Prop} {E},RV s'.heap H (.pt q) (.ref d)→Q true s'→wpAny (model prog w) A (eqIsQuiet 8 (.ref d)) Q E s':=fun {q d Q E} rq hq=>wpAny_eqIsQuiet_tuple (knd:=intKind prog w) (isKey (prog:=prog) (w:=w) rq) hq
   simp only
   split
   · exact wpAny_pure ⟨rfl,rfl,hrest⟩
   · refine wpAny_bind (quiet r ?_)
     refine wpAny_bind (quiet rq ?_)
     refine wpAny_bind (ofAClass_pt r ?_)
     refine wpAny_bind (ofAClass_pt rq ?_)
     exact wpAny_pure ⟨rfl,rfl,hrest⟩
 · rintro b s' ⟨rfl,rfl,_⟩
   exact wpAny_pure h
theorem wp_seen {β:Type} {M:Model} {A:Around} {E:Value→Shared→Prop} {s:Shared} {c:Prop} [Decidable c] {m:Sem Bool} {u r:Sem β} {Q:β→Shared→Prop} (h:∀ {Q':Bool→Shared→Prop},Q' false s→wpAny M A m Q' E s) (k:wpAny M A r Q E s):
 wpAny M A (if c then (m >>= fun b=>if b = true then u else r) else r) Q E s:=by
 by_cases e:c
 · exact wif_pos e (wpAny_bind (h (wif_neg Bool.false_ne_true k)))
 · exact wif_neg e k
theorem search_cand {byText:Bool} {a:Addr} {ps es n t} (x:SetAt byText s.heap H a ps es n t) {k v:Value} {h hy:Int} {adding b:Bool} {fuel j i:Nat} {stand:Option SetTable.Probe} {next:SetTable.Probe} {Q:SetFound→Shared→Prop} {E:Value→Shared→Prop}
 (hodd:t.gaveWay = false) (hp:t.probe (fun i=>(es.toArray[i]?.map (·.1)).getD 0) h (stand.getD (t.probeStart h)) = some (.candidate j i next))
 (seen:∀ {Q':Bool→Shared→Prop},Q' false s→wpAny (model prog w) A (searchCouldBeSeen k ((es.toArray.filter (·.1 == h)).toList.map (·.2))) Q' E s)
 (he:es.toArray[i]? = some (hy,v)) (heq:∀ {Q':Bool→Shared→Prop},Q' b s→wpAny (model prog w) A (eqBool v k) Q' E s)
 (hsm:t.sameMemory t.moves t.mask = some true) (hsl:t.slot j = .live i) (hv:∀ {Q':Bool→Shared→Prop},Q' true s→wpAny (model prog w) A (isSame v v) Q' E s)
 (q1:b = true→Q (.there (if adding then none else some i)) s) (q2:b = false→wpAny (model prog w) A (setSearchFrom a k h adding fuel (some next)) Q E s):
 wpAny (model prog w) A (setSearchFrom a k h adding (fuel + 1) stand) Q E s:=by
 refine wpAny_bind (wpAny_setState_of x.get rfl x.fits ?_)
 refine wif_neg (hodd▸Bool.false_ne_true) ?_
 show wpAny _ _ (match t.probe (fun i=>(es.toArray[i]?.map (·.1)).getD 0) h _ with | some met=>_ | _=>_) Q E s
 refine wat hp ?_
 refine wp_seen seen ?_
 refine wat he ?_
 refine wpAny_bind (wpAny_holding (heq ?_))
 refine wpAny_bind (wpAny_setState_of x.get rfl x.fits ?_)
 by_cases e:(adding && b) = true
 · refine wif_pos e (wpAny_pure ?_)
   rw [Bool.and_eq_true] at e
   have:=q1 e.2
   rw [e.1] at this
   exact this
 · refine wif_neg e ?_
   refine wat hsm ?_
   refine wat hsl ?_
   show wpAny _ _ (match es.toArray[i]? with | some (_,y)=>_ | none=>_) Q E s
   refine wat he ?_
   refine wpAny_bind (hv (wpAny_bind (wpAny_pure ?_)))
   cases b with
   | false=>exact q2 rfl
   | true=>
     cases adding with
     | true=>exact absurd rfl e
     | false=>exact wpAny_pure (q1 rfl)
theorem search_free {byText:Bool} {a:Addr} {ps es n t} (x:SetAt byText s.heap H a ps es n t) {k:Value} {h:Int} {adding:Bool} {fuel j:Nat} {d:Option Nat} {stand:Option SetTable.Probe} {Q:SetFound→Shared→Prop} {E:Value→Shared→Prop}
 (hodd:t.gaveWay = false) (hp:t.probe (fun i=>(es.toArray[i]?.map (·.1)).getD 0) h (stand.getD (t.probeStart h)) = some (.empty j d))
 (q0:d = none→Q (.free j false) s) (q1:∀ y,d = some y→t.slot y = .dummy∧Q (.free y true) s):wpAny (model prog w) A (setSearchFrom a k h adding (fuel + 1) stand) Q E s:=by
 refine wpAny_bind (wpAny_setState_of x.get rfl x.fits ?_)
 refine wif_neg (hodd▸Bool.false_ne_true) ?_
 show wpAny _ _ (match t.probe (fun i=>(es.toArray[i]?.map (·.1)).getD 0) h _ with | some met=>_ | _=>_) Q E s
 refine wat hp ?_
 cases d with
 | none=>exact wpAny_pure (q0 rfl)
 | some y=>
   obtain ⟨e,q⟩:=q1 y rfl
   refine wif_neg ?_ (wpAny_pure q)
   rw [e,bne_self_eq_false,Bool.and_false]
   exact Bool.false_ne_true
theorem search_spec {byText:Bool} {a c:Addr} {ps es n t} (x:SetAt byText s.heap H a ps es n t) {p:Pt} (r:RV s.heap H (.pt p) (.ref c)) (hu:A.units + 10 < cLine) {adding:Bool} {Q:SetFound→Shared→Prop} {E:Value→Shared→Prop}
 (hin:∀ i:Nat,ps[i]? = some p→Q (.there (if adding then none else some i)) s)
 (hout:p∉ps→∀ j wd,Spot t (ptHash p) j→(wd = true↔j∈t.dummies.toList)→Q (.free j wd) s) (k0:Nat) (hk0:k0≤10 * (t.mask + 12)) (hf0:¬ taken t (path t.mask (ptHash p) k0).j):
 ∀ (fuel k:Nat) (d:Option Nat) (stand:Option SetTable.Probe),stand.getD (t.probeStart (ptHash p)) = { path t.mask (ptHash p) k with dummy:=d }→k≤k0→k0 - k < fuel→(∀ q < k,taken t (path t.mask (ptHash p) q).j)→
   (∀ q < k,∀ i:Nat,t.place.toList[i]? = some (path t.mask (ptHash p) q).j→ps[i]?≠some p)→DumOk t (ptHash p) d k→wpAny (model prog w) A (setSearchFrom a (.ref c) (ptHash p) adding fuel stand) Q E s
 | 0,k,d,stand,_,_,hfu,_,_,_=>by exact absurd ‹_› (Nat.not_lt_zero _)
 | fuel + 1,k,d,stand,hst,hk,hfu,htk,hno,hdm=>by
   have hI:=x.inv
   have hlen:=x.rs.length
   have hodd:t.gaveWay = false:=masks_odd _ hI.mask
   have hgo:=go_spec hI (ptHash p) (fun i=>(es.toArray[i]?.map (·.1)).getD 0) (fun i y e=>by
    rw [List.getElem?_map] at e
    cases e':ps[i]? with
    | none=>rw [e'] at e;exact no1 e
    | some q=>
      rw [e'] at e
      obtain ⟨c',h1,_⟩:=x.rs.at e'
      dsimp only [Option.map_some,Option.some.injEq] at e
      simp [h1,e]) (10 * SetTable.turns t.mask) k d ⟨k0,hk,by unfold SetTable.turns;exact linLt [_,_,_] 1 (.v 0) (.a (.v 2) (.m 10 (.a (.v 1) (.n 15)))) [.le 1 (.v 0) (.m 10 (.a (.v 1) (.n 12)))] rfl hk0,hf0⟩ hdm
   obtain ⟨k',d',a1,a2,a3,a4,a5⟩:=hgo
   have hk':k'≤k0:=by
    rcases Nat.lt_or_ge k0 k' with h | h
    · exact absurd (a4 k0 hk h).1 hf0
    · exact h
   have htk':∀ q < k',taken t (path t.mask (ptHash p) q).j:=fun q hq=>by
    rcases Nat.lt_or_ge q k with h | h
    · exact htk q h
    · exact (a4 q h hq).1
   have hno':∀ q < k',∀ i:Nat,t.place.toList[i]? = some (path t.mask (ptHash p) q).j→ps[i]?≠some p:=fun q hq i hi e=>by
    rcases Nat.lt_or_ge q k with h | h
    · exact hno q h i hi e
    · exact (a4 q h hq).2 i hi (by refine wat (List.getElem?_map) (wat e ?_);rfl)
   rcases a5 with ⟨e1,e2⟩ | ⟨i,e1,e2,e3⟩
   · have hp:SetTable.probe t (fun i=>(es.toArray[i]?.map (·.1)).getD 0) (ptHash p) { path t.mask (ptHash p) k with dummy:=d } = some (.empty (path t.mask (ptHash p) k').j d'):=e2
     have hnin:p∉ps:=fun hin'=>by
      obtain ⟨i,hi⟩:=List.mem_iff_getElem?.mp hin'
      have hil:i < t.place.toList.length:=by rw [hI.size,List.length_map];exact (List.getElem?_eq_some_iff.mp hi).1
      have hj:=List.getElem?_eq_getElem hil
      obtain ⟨q,q1,q2,q3⟩:=hI.reach i (ptHash p) _ (by refine wat (List.getElem?_map) (wat hi ?_);rfl) hj
      rcases Nat.lt_trichotomy q k' with h | h | h
      · exact hno' q h i (by refine wat q2 ?_;exact hj) hi
      · subst h;exact e1 (.inl (q2▸List.getElem_mem _))
      · exact e1 (q3 k' h)
     refine search_free x hodd (by refine wat hst ?_;exact hp) (fun z=>?_) fun dd z=>?_
     · exact hout hnin _ _ ⟨(path_j_le _ _ _).1,fun h=>e1 (.inl h),k',by unfold SetTable.turns;exact linLt [_,_,_] 1 (.v 2) (.m 10 (.a (.v 1) (.n 15))) [.le 1 (.v 0) (.m 10 (.a (.v 1) (.n 12))),.le 1 (.v 2) (.v 0)] rfl hk0 hk',rfl,htk'⟩ ⟨fun h=>nob h,fun h=>absurd (Or.inr h) e1⟩
     · obtain ⟨b1,q,b2,b3⟩:=a3 dd z
       exact ⟨slot_dummy hI.up hI.upD (fun h=>hI.apart dd h b1) b1,hout hnin _ _ ⟨hI.leD dd b1,fun h=>hI.apart dd h b1,q,by unfold SetTable.turns;exact linLt [_,_,_,_] 1 (.v 3) (.m 10 (.a (.v 1) (.n 15))) [.le 1 (.v 0) (.m 10 (.a (.v 1) (.n 12))),.le 1 (.v 2) (.v 0),.lt 1 (.v 3) (.v 2)] rfl hk0 hk' b2,b3,fun q' hq'=>htk' q' (Nat.lt_trans hq' b2)⟩ ⟨fun _=>b1,fun _=>rfl⟩⟩
   · have hp:SetTable.probe t (fun i=>(es.toArray[i]?.map (·.1)).getD 0) (ptHash p) { path t.mask (ptHash p) k with dummy:=d } = some (.candidate (path t.mask (ptHash p) k').j i { path t.mask (ptHash p) (k' + 1) with dummy:=d' }):=e3
     have hpi:∃ q,ps[i]? = some q:=by
      rw [List.getElem?_map] at e2
      cases e':ps[i]? with
      | none=>rw [e'] at e2;exact no1 e2
      | some q=>exact ⟨q,rfl⟩
     obtain ⟨q,hq⟩:=hpi
     obtain ⟨cq,hes,rq⟩:=x.rs.at hq
     have hes':es.toArray[i]? = some (ptHash q,.ref cq):=by simpa using hes
     have hk'0:k'≠k0:=fun e=>hf0 (e▸.inl (List.mem_of_getElem? e1))
     have hvs:∀ v∈(es.toArray.filter (·.1 == ptHash p)).toList.map (·.2),∃ q:Pt,RV s.heap H (.pt q) v:=by
      intro v hv
      obtain ⟨y,hy,rfl⟩:=List.mem_map.mp hv
      have hy':y∈es:=by
       have:=Array.mem_filter.mp (Array.mem_toList_iff.mp hy)
       simpa using this.1
      obtain ⟨j,hj⟩:=List.mem_iff_getElem?.mp hy'
      have hjl:j < ps.length:=by refine wat hlen ?_;exact (List.getElem?_eq_some_iff.mp hj).1
      obtain ⟨c',h1,h2⟩:=x.rs.at (List.getElem?_eq_getElem hjl)
      rw [hj] at h1
      obtain rfl:=Option.some.inj h1
      exact ⟨_,h2⟩
     have hsm:t.sameMemory t.moves t.mask = some true:=by unfold SetTable.sameMemory;simp
     have hsl:t.slot (path t.mask (ptHash p) k').j = .live i:=slot_live hI.up e1
     have again:q≠p→wpAny (model prog w) A (setSearchFrom a (.ref c) (ptHash p) adding fuel (some { path t.mask (ptHash p) (k' + 1) with dummy:=d' })) Q E s:=fun hne=>by
      refine search_spec x r hu hin hout k0 hk0 hf0 fuel (k' + 1) d' _ rfl (by lia) (by lia) (fun q' hq'=>?_) (fun q' hq' i' hi'=>?_) (fun y hy=>?_)
      · rcases Nat.lt_or_eq_of_le (Nat.lt_succ_iff.mp hq') with h | h
        · exact htk' q' h
        · subst h;exact .inl (List.mem_of_getElem? e1)
      · rcases Nat.lt_or_eq_of_le (Nat.lt_succ_iff.mp hq') with h | h
        · exact hno' q' h i' hi'
        · subst h
          have:i' = i:=by exact wat (below_at hI.up hi').symm (wat (below_at hI.up e1).symm rfl)
          refine wat this (wat hq ?_);simpa using hne
      · refine bc fun nG=>?_
        obtain ⟨b1,q',b2,b3⟩:=a3 y hy
        refine nG ?_
        exact ⟨b1,q',by exact linLt [_,_] 1 (.v 0) (.a (.v 1) (.n 1)) [.lt 1 (.v 0) (.v 1)] rfl b2,b3⟩
     refine search_cand (b:=decide (AV.pt q = AV.pt p)) x hodd (by refine wat hst ?_;exact hp) (fun h=>seen_pts r hvs h) hes' (fun h=>eqBool_plain rq r rfl rfl hu h) hsm hsl (fun h=>wpAny_isSame_ref_self h) (fun z=>?_) fun z=>?_
     · have e:=of_decide_eq_true z
       exact hin i (by refine wat hq ?_;exact congrArg some (Prod.ext (AV.int.inj (AV.pair.inj e).1) (AV.int.inj (AV.pair.inj e).2)))
     · exact again fun e=>of_decide_eq_false z (congrArg AV.pt e)
theorem search_start {byText:Bool} {a c:Addr} {ps es n t} (x:SetAt byText s.heap H a ps es n t) {p:Pt} (r:RV s.heap H (.pt p) (.ref c)) (hu:A.units + 10 < cLine) {adding:Bool} {Q:SetFound→Shared→Prop} {E:Value→Shared→Prop}
 (hin:∀ i:Nat,ps[i]? = some p→Q (.there (if adding then none else some i)) s)
 (hout:p∉ps→∀ j wd,Spot t (ptHash p) j→(wd = true↔j∈t.dummies.toList)→Q (.free j wd) s):wpAny (model prog w) A (setSearch a (.ref c) (ptHash p) adding) Q E s:=by
 obtain ⟨k0,h1,h2⟩:=x.inv.free_path (ptHash p)
 have:=masks_le _ x.inv.mask
 exact search_spec x r hu hin hout k0 h1 h2 100000 0 none none rfl (Nat.zero_le _) (by exact linLt [_,_,_] 1 (.v 2) (.n 100000) [.le 1 (.v 0) (.m 10 (.a (.v 1) (.n 12))),.le 10 (.v 1) (.n 127),.le 1 (.v 2) (.v 0)] rfl h1 this (Nat.sub_le k0 0)) (fun _ h=>by exact absurd ‹_› (Nat.not_lt_zero _)) (fun _ h=>by exact absurd ‹_› (Nat.not_lt_zero _)) (fun _ h=>by exact no1 h)
theorem find_pt_set {byText:Bool} {a c:Addr} {ps es n t} (x:SetAt byText s.heap H a ps es n t) {p:Pt} (r:RV s.heap H (.pt p) (.ref c)) (hu:A.units + 10 < cLine) {Q:Option Nat→Shared→Prop} {E:Value→Shared→Prop}
 (hin:∀ i:Nat,ps[i]? = some p→Q (some i) s) (hout:p∉ps→Q none s):wpAny (model prog w) A (setFind a (.ref c) (ptHash p)) Q E s:=by
 refine wpAny_bind (wpAny_setState_of x.get rfl x.fits ?_)
 refine wpAny_bind (search_start x r hu (fun i hi=>?_) fun h j wd _ _=>?_)
 · exact wpAny_pure (by simpa using hin i hi)
 · exact wpAny_pure (hout h)
theorem contains_set {byText:Bool} {a c:Addr} {ps es n t} (x:SetAt byText s.heap H a ps es n t) {p:Pt} (r:RV s.heap H (.pt p) (.ref c)) (hu:A.units + 20 < cLine) {Q:Bool→Shared→Prop} {E:Value→Shared→Prop}
 (h:∀ tk,Q (decide (p∈ps)) { s with toks:=tk }):wpAny (model prog w) A (setContains a (.ref c)) Q E s:=by
 refine wpAny_holding (wpAny_bind ((hk prog w).pyHash (room_here (by exact linLt [_,_] 1 (.a (.v 0) (.n 10)) (.v 1) [.lt 1 (.a (.v 0) (.n 20)) (.v 1)] rfl hu)) (isKey r) ?_))
 refine wpAny_bind (find_pt_set (A:=A) (s:={ s with toks:=s.toks + (hk prog w).draws (key p) }) x r (by exact linLt [_,_] 1 (.a (.v 0) (.n 10)) (.v 1) [.lt 1 (.a (.v 0) (.n 20)) (.v 1)] rfl hu) (fun i hi=>wpAny_pure ?_) fun hn=>wpAny_pure ?_)
 · have:decide (p∈ps) = true:=by simpa using List.mem_of_getElem? hi
   have h':=h (s.toks + (hk prog w).draws (key p))
   rw [this] at h';exact h'
 · have:decide (p∈ps) = false:=by simpa using hn
   have h':=h (s.toks + (hk prog w).draws (key p))
   rw [this] at h';exact h'
end
theorem wpAny_choose {M:Model} {A:Around} {E:Value→Shared→Prop} {s:Shared} {src:Source} {n:Nat} {Q:Nat→Shared→Prop} (hn:n≠0) (h:∀ i < n,Q i { s with drawn:=s.drawn.bump src }):wpAny M A (choose src n) Q E s:=by
 intro Γ p hA
 exact ⟨hn,h _ (Nat.mod_lt _ (Nat.pos_of_ne_zero hn))⟩
theorem sizes_ok:∀ n≤64,SetTable.sizeAbove n - 1∈masks∧n≤SetTable.sizeAbove n - 1∧SetTable.sizeAbove n≤128:=by decide +kernel
section
variable {prog:Program} {w:World} {B:Heap} {os₀:OsState} {A:Around} {s:Shared} {H:AHeap}
theorem RS.reorder {h:Heap} {ps es} (r:RS h H ps es):∀ {order:List Nat},(∀ k∈order,k < ps.length)→RS h H (order.filterMap (ps[·]?)) (order.filterMap (es[·]?))
 | [],_=>.nil
 | k :: order,hlt=>by
   have hk:=hlt k List.mem_cons_self
   refine bc fun nG=>?_
   obtain ⟨c,e,rv⟩:=r.at (List.getElem?_eq_getElem hk)
   refine nG ?_
   refine wat List.filterMap_cons (wat List.filterMap_cons (wat (List.getElem?_eq_getElem hk) (wat e ?_)))
   exact .cons rv (r.reorder fun q hq=>hlt q (List.mem_cons_of_mem _ hq))
theorem putSet_get {h:Heap} {a:Addr} {es:List (Int×Value)} {n:Nat} {t:SetTable} (e:h.get? a = some (setO es n t)) (es':List (Int×Value)) (t':SetTable):(h.update a (Obj.putSet es'.toArray t')).get? a = some (setO es' (n + 1) t'):=by
 refine wat (Heap.get?_update_self _ e (by rfl)) ?_
 rfl
theorem laid_pts {m:Nat} (hm:m∈masks) {h:Heap} {ps es} (r:RS h H ps es) (room:ps.length * 5 < m * 3) (finger moves:Nat) (led plain:Bool):
 (X3 fun t order ps'=>A9 (SetTable.laid m finger moves led plain (es.toArray.map (·.1)) = some (t,order)) (ps'.Perm ps) (RS h H ps' (order.filterMap (es.toArray[·]?)).toList) ((order.filterMap (es.toArray[·]?)).size = es.length) (t.led = led) (t.plain = plain) (t.mask = m) (t.dummies = #[]) (SInv (ps'.map ptHash) t)):=by
 have hl:=r.length
 have eh:es.toArray.map (·.1) = (ps.map ptHash).toArray:=by refine wat (r.hashes).symm ?_;simp
 refine bc fun nG=>?_
 obtain ⟨t,order,h1,h2,h3,h4,h5,h5d,h6⟩:=laid_spec hm (hs:=ps.map ptHash) (by simpa using room) finger moves led plain
 refine nG ?_
 rw [List.length_map] at h2
 have hlt:∀ k∈order.toList,k < ps.length:=fun k hk=>by simpa using h2.subset hk
 have eo:(order.filterMap (es.toArray[·]?)).toList = order.toList.filterMap (es[·]?):=by simp
 have em:(order.toList.filterMap (ps[·]?)).map ptHash = order.toList.filterMap ((ps.map ptHash)[·]?):=by
  refine wat List.map_filterMap ?_;congr 1;funext k;simp
 refine ⟨t,order,order.toList.filterMap (ps[·]?),by refine wat eh ?_;exact h1,?_,by refine wat eo ?_;exact r.reorder hlt,?_,h3,h4,h5,h5d,by refine wat em ?_;exact h6⟩
 · have:=h2.filterMap (ps[·]?)
   rwa [filterMap_range_self] at this
 · rw [← Array.length_toList,eo,(filterMap_get (l:=es) (fun k hk=>by rw [← hl];exact hlt k hk)).1,h2.length_eq];simp [hl]
theorem wp_relay {a:Addr} {ps es n t wanted} {h:Heap} (hg:s.heap.get? a = some (setO es n t)) (hr:RS h H ps es) (hf:t.fits es.toArray.size = true) (hw:wanted≤64) (room:ps.length * 5 < (SetTable.sizeAbove wanted - 1) * 3) {Q:Unit→Shared→Prop} {E:Value→Shared→Prop}
 (q:∀ ps' es' t',ps'.Perm ps→RS h H ps' es'→SInv (ps'.map ptHash) t'→t'.led = t.led→t'.plain = t.plain→t'.mask = SetTable.sizeAbove wanted - 1→t'.dummies = #[]→Q () { s with heap:=s.heap.update a (Obj.putSet es'.toArray t') }):wpAny (model prog w) A (setRelay a wanted) Q E s:=by
 refine bc fun nG=>?_
 obtain ⟨m1,m2,m3⟩:=sizes_ok wanted hw
 refine nG ?_
 refine bc fun nG=>?_
 obtain ⟨t',order,ps',h1,h2,h3,h4,h5,h6,h7,h7d,h8⟩:=laid_pts m1 hr room t.finger (t.movedTo (SetTable.sizeAbove wanted - 1)) t.led t.plain
 refine nG ?_
 refine wpAny_bind (wpAny_setState_of hg rfl hf ?_)
 have hsz:¬ SetTable.sizeAbove wanted > sizeLine:=by have:=size1000;exact Nat.not_lt_of_ge (linLe [_,_] 1 (.v 0) (.v 1) [.le 1 (.v 0) (.n 128),.le 1 (.n 1000) (.v 1)] rfl m3 this)
 simp only [hsz,if_false]
 have e:t.relaid (es.toArray.map (·.1)) wanted = some (t',order):=h1
 refine wat e ?_
 refine wpAny_bind ?_
 show wpAny _ _ (if ((order.filterMap (es.toArray[·]?)).size != es.toArray.size) = true then _ else pure (order.filterMap (es.toArray[·]?),t')) _ _ _
 refine wif_neg (by refine wat h4 ?_;simp) ?_
 refine wpAny_pure ?_
 have hle:(order.filterMap (es.toArray[·]?)).size≤sizeLine:=by
  refine wat h4 ?_;have:=size1000;have:=hr.length;exact linLe [_,_,_,_,_] 5 (.v 4) (.v 2) [.lt 1 (.r (.v 0) 5) (.r (.v 1) 3),.nlt 3 (.v 2) (.v 3),.ge 5 (.v 0) (.v 4),.le 3 (.v 1) (.v 3)] (by kernel_rfl) room hsz this (Nat.sub_le (SetTable.sizeAbove wanted) 1)
 refine wpAny_storeSet_of hg rfl ?_ hle
 have:=q ps' (order.filterMap (es.toArray[·]?)).toList t' h2 h3 h8 h5 h6 h7 h7d
 exact this
theorem hash_by_value {p:Pt} {c:Addr} {Q:Bool→Shared→Prop} {E:Value→Shared→Prop} (r:RV s.heap H (.pt p) (.ref c)) (h:Q true s):wpAny (model prog w) A (hashByValue 8 (.ref c)) Q E s:=by
 cases r with
 | pair e n r1 r2=>
   obtain ⟨_,rfl⟩:=r1.vint;obtain ⟨_,rfl⟩:=r2.vint
   refine wpAny_bind (wpAny_specialOf (T:="tuple") ⟨_,e,rfl⟩ PySem.F.slot_tuple_hash.lookup ?_)
   refine wpAny_bind (wpAny_seqItems e rfl ?_)
   exact wpAny_bind (wpAny_pure (wpAny_pure h))
theorem insertAt_toList {α:Type} (es:List α) (p:Nat) (x:α):SetTable.insertAt es.toArray p x = (es.take p ++ x :: es.drop p).toArray:=by
 apply Array.ext';rw [insertAt_list]
theorem RS.insert {h:Heap} {ps es} (r:RS h H ps es) {p:Pt} {v:Value} (q:RV h H (.pt p) v):∀ i:Nat,RS h H (ps.take i ++ p :: ps.drop i) (es.take i ++ (ptHash p,v) :: es.drop i):=by
 induction r with
 | nil=>intro i;simp;exact .cons q .nil
 | cons a _ ih=>
   intro i
   cases i with
   | zero=>exact .cons q (.cons a ‹_›)
   | succ i=>simpa using .cons a (ih i)
theorem perm_insert {α:Type} (l:List α) (x:α) (i:Nat):(l.take i ++ x :: l.drop i).Perm (l ++ [x]):=by
 have h1:(l.take i ++ x :: l.drop i).Perm (x :: (l.take i ++ l.drop i)):=List.perm_middle
 rw [List.take_append_drop] at h1
 exact h1.trans (List.perm_append_singleton x l).symm
theorem wp_addH {byText:Bool} {a c:Addr} {ps es n t} (x:SetAt byText s.heap H a ps es n t) {p:Pt} (r:RV s.heap H (.pt p) (.ref c)) (hu:A.units + 10 < cLine) (hsz:p∉ps→ps.length≤15) {Q:Bool→Shared→Prop} {E:Value→Shared→Prop}
 (hin:p∈ps→Q false s)
 (hout:p∉ps→∀ ps' es' n' t' h',ps'.Perm (ps ++ [p])→RS s.heap H ps' es'→SInv (ps'.map ptHash) t'→t'.plain = true→(byText = false→t'.led = true)→h'.get? a = some (setO es' n' t')→Heap.SameBut a s.heap h'→Q true { s with heap:=h' }):
 wpAny (model prog w) A (setAddHashed a (.ref c) (ptHash p)) Q E s:=by
 have hI:=x.inv
 have hlen:=x.rs.length
 have hplen:t.place.toList.length = ps.length:=by rw [hI.size,List.length_map]
 refine wpAny_holding (wpAny_bind (wpAny_setState_of x.get rfl x.fits ?_))
 refine wpAny_bind (search_start x r hu (fun i hi=>?_) fun hn j wd sp hwd=>?_)
 · exact wpAny_pure (hin (List.mem_of_getElem? hi))
 · have h15:=hsz hn
   have hroom:=hI.room
   obtain ⟨f1,f2⟩:=put_fill hI.upD j
   have hm7:7≤t.mask∧t.mask≤127:=by have:=hI.mask;revert this;simp only [masks,List.mem_cons,List.not_mem_nil,or_false];lia
   refine wpAny_bind (wpAny_setState_of x.get rfl x.fits ?_)
   simp only
   have hpl:(t.put j).1.plain = true:=x.plain
   refine wat hpl ?_
   refine wpAny_bind (hash_by_value r ?_)
   simp only [if_true]
   rw [insertAt_toList]
   have esz:es.toArray.size = es.length:=by simp
   refine wpAny_bind (wpAny_storeSet_of x.get rfl ?_ (by
    have:=size1000
    simp only [List.size_toArray,List.length_append,List.length_cons,List.length_take,List.length_drop];exact linLe [_,_,_,_,_] 1 (.a (.v 3) (.a (.v 4) (.n 1))) (.v 2) [.ge 2 (.v 0) (.v 1),.le 2 (.v 0) (.n 15),.le 1 (.n 1000) (.v 2),.le 1 (.v 3) (.v 1),.le 1 (.v 4) (.v 1)] (by kernel_rfl) hlen h15 this (Nat.min_le_right ((t.put j).snd) es.length) (Nat.sub_le es.length ((t.put j).snd))))
   have hg:=putSet_get x.get (es.take (t.put j).2 ++ (ptHash p,.ref c) :: es.drop (t.put j).2) (t.put j).1
   have sb:Heap.SameBut a s.heap _:=Heap.SameBut.update s.heap a (Obj.putSet (es.take (t.put j).2 ++ (ptHash p,.ref c) :: es.drop (t.put j).2).toArray (t.put j).1)
   have rs':=x.rs.insert r (t.put j).2
   have hperm:=perm_insert ps p (t.put j).2
   have hled:byText = false→(t.put j).1.led = true:=x.led
   have hmap:(ps.take (t.put j).2 ++ p :: ps.drop (t.put j).2).map ptHash = (ps.map ptHash).take (t.put j).2 ++ ptHash p :: (ps.map ptHash).drop (t.put j).2:=by
    exact wat List.map_append (wat List.map_cons (wat List.map_take (wat List.map_drop rfl)))
   have fillE:(t.put j).1.fill = (t.put j).1.place.toList.length + (t.put j).1.dummies.toList.length:=by unfold SetTable.fill;simp
   cases wd with
   | true=>
     have hd:=hwd.mp rfl
     rw [if_pos hd] at f2
     have hpos:0 < t.dummies.toList.length:=List.length_pos_of_mem hd
     refine wpAny_pure (hout hn _ _ _ _ _ hperm rs' ?_ hpl hled hg sb)
     refine wat hmap ?_
     exact hI.put sp (by exact linLt [_,_,_,_,_,_] 1 (.r (.a (.v 3) (.v 4)) 5) (.r (.v 2) 3) [.lt 1 (.r (.a (.v 0) (.v 1)) 5) (.r (.v 2) 3),.eq 5 (.v 3) (.a (.v 0) (.n 1)),.eq 5 (.v 4) (.v 5),.eq 5 (.a (.v 5) (.n 1)) (.v 1)] (by kernel_rfl) hroom f1 f2 (Nat.sub_add_cancel (linLe [_] 1 (.n 1) (.v 0) [.lt 1 (.n 0) (.v 0)] rfl hpos)))
   | false=>
     have hd:j∉t.dummies.toList:=fun h=>by have:=hwd.mpr h;exact nob this
     rw [if_neg hd] at f2
     simp only [Bool.not_false,Bool.true_and]
     by_cases hfull:(t.put j).1.tooFull = true
     · refine wif_pos hfull ?_
       have hfit:(t.put j).1.fits (es.take (t.put j).2 ++ (ptHash p,Value.ref c) :: es.drop (t.put j).2).toArray.size = true:=by
        unfold SetTable.fits
        rw [Bool.and_eq_true,beq_iff_eq,decide_eq_true_eq,fillE]
        have:(t.put j).1.mask = t.mask:=rfl
        refine ⟨?_,by exact linLe [_,_,_,_,_,_] 5 (.a (.v 3) (.v 4)) (.v 5) [.lt 1 (.r (.a (.v 0) (.v 1)) 5) (.r (.v 2) 3),.eq 5 (.v 3) (.a (.v 0) (.n 1)),.eq 5 (.v 4) (.v 1),.le 2 (.n 7) (.v 2),.ge 5 (.v 5) (.v 2)] (by kernel_rfl) hroom f1 f2 hm7.1 this⟩
        refine wat (Array.length_toList).symm (wat f1 ?_)
        simp only [List.size_toArray,List.length_append,List.length_cons,List.length_take,List.length_drop];omega
       have hlen':(ps.take (t.put j).2 ++ p :: ps.drop (t.put j).2).length = ps.length + 1:=by simpa using hperm.length_eq
       have hgrown:SetTable.grown (es.toArray.size + 1) = (ps.length + 1) * 4:=by unfold SetTable.grown;refine wat (if_neg (by simp;exact linLe [_,_] 1 (.v 1) (.n 49999) [.ge 1 (.v 0) (.v 1),.le 1 (.v 0) (.n 15)] rfl hlen h15)) ?_;simp;exact Nat.le_antisymm (linLe [_,_] 1 (.r (.a (.v 1) (.n 1)) 4) (.r (.a (.v 0) (.n 1)) 4) [.ge 4 (.v 0) (.v 1)] rfl hlen) (linLe [_,_] 1 (.r (.a (.v 0) (.n 1)) 4) (.r (.a (.v 1) (.n 1)) 4) [.eq 4 (.v 0) (.v 1)] rfl hlen)
       refine bc fun nG=>?_
       obtain ⟨z1,z2,z3⟩:=sizes_ok ((ps.length + 1) * 4) (by exact linLe [_] 1 (.r (.a (.v 0) (.n 1)) 4) (.n 64) [.le 4 (.v 0) (.n 15)] rfl h15)
       refine nG ?_
       refine wat hgrown ?_
       refine wpAny_bind (wp_relay (h:=s.heap) (H:=H) (s:={ s with heap:=_ }) hg rs' hfit (by exact linLe [_] 1 (.r (.a (.v 0) (.n 1)) 4) (.n 64) [.le 4 (.v 0) (.n 15)] rfl h15) (by refine wat hlen' ?_;exact linLt [_,_] 1 (.r (.a (.v 0) (.n 1)) 5) (.r (.v 1) 3) [.le 3 (.r (.a (.v 0) (.n 1)) 4) (.v 1)] rfl z2) fun ps' es' t' e1 e2 e3 e4 e5 _ _=>wpAny_pure ?_)
       exact hout hn ps' es' _ t' _ (e1.trans hperm) e2 e3 (e5.trans hpl) (fun h=>e4.trans (hled h)) (putSet_get hg es' t') (sb.trans (Heap.SameBut.update ..))
     · refine wif_neg hfull ?_
       have hnf:(t.put j).1.fill * 5 < (t.put j).1.mask * 3:=by
        unfold SetTable.tooFull at hfull
        simpa using hfull
       refine wpAny_pure (hout hn _ _ _ _ _ hperm rs' ?_ hpl hled hg sb)
       refine wat hmap ?_
       exact hI.put sp (by refine wat fillE.symm ?_;exact hnf)
end
theorem eraseIdx_perm {α:Type}:∀ (l:List α) (i:Nat) (h:i < l.length),(l[i] :: l.eraseIdx i).Perm l
 | x :: l,0,_=>.refl _
 | x :: l,i + 1,h=>by
   have:=eraseIdx_perm l i (by simpa using h)
   exact (List.Perm.swap _ _ _).trans (this.cons x)
theorem pick_go_perm {α:Type} (next:Nat→Nat):∀ (fuel k:Nat) (left:List α) (out:Array α),left.length≤fuel→(pickOrder.go next fuel k left out).toList.Perm (out.toList ++ left)
 | 0,k,left,out,h=>by
   have:left = []:=List.length_eq_zero_iff.mp (Nat.le_zero.mp h)
   subst this
   unfold pickOrder.go;simp
 | fuel + 1,k,left,out,h=>by
   unfold pickOrder.go
   cases e:left[next k % left.length]? with
   | none=>
     cases left with
     | nil=>simp
     | cons x l=>
       have hlt:next k % (x :: l).length < (x :: l).length:=Nat.mod_lt _ (by simp)
       rw [List.getElem?_eq_getElem hlt] at e;exact no2 e
   | some x=>
     obtain ⟨hlt,ex⟩:=List.getElem?_eq_some_iff.mp e
     refine (pick_go_perm next fuel (k + 1) _ _ (by refine wat List.length_eraseIdx (wat (if_pos hlt) ?_);exact linLe [_,_,_] 1 (.v 2) (.v 1) [.le 1 (.v 0) (.a (.v 1) (.n 1)),.eq 1 (.a (.v 2) (.n 1)) (.v 0)] rfl h (Nat.sub_add_cancel (linLe [_,_] 1 (.n 1) (.v 1) [.lt 1 (.v 0) (.v 1)] rfl hlt)))).trans ?_
     rw [Array.toList_push,List.append_assoc]
     refine List.Perm.append_left _ ?_
     have:left.Perm (x :: left.eraseIdx (next k % left.length)):=by
      refine wat ex.symm ?_;exact (eraseIdx_perm left _ hlt).symm
     exact this.symm
theorem pick_perm {α:Type} (next:Nat→Nat) (xs:Array α):(pickOrder next xs).toList.Perm xs.toList:=by
 have:=pick_go_perm next xs.size 0 xs.toList #[] (by simp)
 unfold pickOrder
 simpa using this
section
variable {prog:Program} {w:World} {B:Heap} {os₀:OsState} {A:Around} {s:Shared} {H:AHeap}
theorem setAt_of {byText:Bool} {a:Addr} {S:List Pt} {g:Obj} (i:Inv byText B os₀ s H) (ha:H a = some (.set S g)):(X4 fun ps es n t=>A3 (SetAt byText s.heap H a ps es n t) (ps.Perm S) (S.Nodup)):=by
 refine bc fun nG=>?_
 obtain ⟨es,n,t,ps,e,_,r,hp,hn,hI,hpl,hl⟩:=i.rep a _ ha
 refine nG ?_
 exact ⟨ps,es,n,t,⟨e,r,hp.nodup_iff.mpr hn,hI,hpl,hl⟩,hp,hn⟩
theorem putSetI {a:Addr} {S S' ps':List Pt} {g:Obj} {es' n' t'} (i:INV w B os₀ s H) (ha:H a = some (.set S g)) {s':Shared} (sb:Heap.SameBut a s.heap s'.heap) (hg:s'.heap.get? a = some (setO es' n' t')) (rs:RS s.heap H ps' es') (hp:ps'.Perm S') (hn:S'.Nodup)
 (hI:SInv (ps'.map ptHash) t') (hpl:t'.plain = true) (hl:w.params.followText "set-order" = false→t'.led = true) (h1:s'.gens = s.gens) (h2:s'.os = s.os):INV w B os₀ s' (H.set a (.set S' (setO es' n' t')))∧ExtE s.heap H s'.heap (H.set a (.set S' (setO es' n' t'))):=by
 have x:=ExtE.put (H:=H) (h:=s.heap) (h':=s'.heap) (.set S' (setO es' n' t')) ha sb ⟨_,hg⟩
 exact ⟨i.put ha sb ⟨es',n',t',ps',hg,rfl,rs.ext x .nobody,hp,hn,hI,hpl,hl⟩ h1 h2,x⟩
theorem nodup_snoc {S:List Pt} {p:Pt} (h:S.Nodup) (hn:p∉S):(S ++ [p]).Nodup:=by
 rw [List.nodup_append]
 exact ⟨h,by simp,fun a ha b hb e=>hn (by simp at hb;rw [← hb,← e];exact ha)⟩
theorem wp_add {a c:Addr} {p:Pt} {S:List Pt} {g:Obj} {Q:AV→AHeap→Prop} {X:AHeap→Prop} (i:INV w B os₀ s H) (ha:H a = some (.set S g)) (r:RV s.heap H (.pt p) (.ref c)) (hu:A.units + 20 < cLine) (hsz:p∉S→S.length≤15)
 (h1:p∈S→Q .none H) (h2:p∉S→∀ g',Q .none (H.set a (.set (S ++ [p]) g'))):WpE prog w B os₀ A (call (.builtin "set.add") [.ref a,.ref c]) s H (RQ Q) X:=by
 refine bc fun nG=>?_
 obtain ⟨ps,es,n,t,x,hp,hn⟩:=setAt_of i ha
 refine nG ?_
 have hT:s.TypeIs (.ref a) "set":=⟨_,x.get,rfl⟩
 refine wpAny_call_entry PySem.F.slot_set_add hT PySem.F.entry_set_add ?_ (PySem.F.args_set_add_2 _ _)
 show wpAny _ _ (setAdd a (.ref c) >>= _) _ _ s
 refine wpAny_bind (wpAny_holding (wpAny_bind ((hk prog w).pyHash (tupleKind_room_in1 (by exact linLt [_,_] 1 (.a (.v 0) (.n 1)) (.v 1) [.lt 1 (.a (.v 0) (.n 20)) (.v 1)] rfl hu)) (isKey r) ?_)))
 refine wp_addH (A:=A.in1) (s:={ s with toks:=s.toks + (hk prog w).draws (key p) }) x r (by show A.units + 1 + 10 < cLine;exact linLt [_,_] 1 (.a (.a (.v 0) (.n 1)) (.n 10)) (.v 1) [.lt 1 (.a (.v 0) (.n 20)) (.v 1)] rfl hu) (fun hnp=>by refine wat hp.length_eq ?_;exact hsz (fun q=>hnp (hp.mem_iff.mpr q))) (fun hin=>?_) fun hout ps' es' n' t' h' e1 e2 e3 e4 e5 e6 e7=>?_
 · exact wpAny_pure ⟨_,rfl,H,i.toks _,Ext.refl _ _ _,_,.none,h1 (hp.mem_iff.mp hin)⟩
 · have hnS:p∉S:=fun q=>hout (hp.mem_iff.mpr q)
   obtain ⟨i',ex⟩:=putSetI (s':={ s with heap:=h',toks:=s.toks + (hk prog w).draws (key p) }) i ha e7 e6 e2 (e1.trans (hp.append_right [p])) (nodup_snoc hn hnS) e3 e4 e5 rfl rfl
   exact wpAny_pure ⟨_,rfl,_,i',ex,_,.none,h2 hnS _⟩
theorem eraseAt_toList {α:Type} (es:List α) (i:Nat):SetTable.eraseAt es.toArray i = (es.eraseIdx i).toArray:=by
 apply Array.ext';rw [eraseAt_list]
theorem RS.eraseIdx {h:Heap} {ps es} (r:RS h H ps es):∀ i:Nat,RS h H (ps.eraseIdx i) (es.eraseIdx i):=by
 induction r with
 | nil=>intro i;exact .nil
 | cons a r ih=>
   intro i
   cases i with
   | zero=>exact r
   | succ i=>exact .cons a (ih i)
set_option tactic.hygienic true in
theorem wp_spop {a:Addr} {S:List Pt} {g:Obj} {Q:AV→AHeap→Prop} {X:AHeap→Prop} (i:INV w B os₀ s H) (ha:H a = some (.set S g)) (hne:S≠[]) (h:∀ p∈S,∀ g',Q (.pt p) (H.set a (.set (S.erase p) g'))):
 WpE prog w B os₀ A (call (.builtin "set.pop") [.ref a]) s H (RQ Q) X:=by
 obtain ⟨ps,es,n,t,x,hp,hn⟩:=setAt_of i ha
 have hT:s.TypeIs (.ref a) "set":=⟨_,x.get,rfl⟩
 have hlen:=x.rs.length
 have hpos:0 < ps.length:=by refine wat hp.length_eq ?_;exact List.length_pos_iff.mpr hne
 have hplen:t.place.toList.length = ps.length:=by rw [x.inv.size,List.length_map]
 refine wpAny_call_entry PySem.F.slot_set_pop hT PySem.F.entry_set_pop ?_ (PySem.F.args_set_pop_1 _)
 show wpAny _ _ (setPop a >>= _) _ _ s
 refine wpAny_bind (wpAny_bind (wpAny_setState_of x.get rfl x.fits ?_))
 have hemp:t.place.isEmpty = false:=by
  rw [Array.isEmpty_eq_false_iff];intro e;rw [e] at hplen;simp at hplen;exact linF [_] [.lt 1 (.n 0) (.v 0),.ge 1 (.n 0) (.v 0)] rfl hpos hplen
 have hpp:∃ k,t.popPlace = some k∧k < ps.length:=by
  unfold SetTable.popPlace
  refine wat hemp ?_
  rw [Array.length_toList] at hplen
  refine ⟨_,rfl,?_⟩
  split
  · omega
  · exact linLt [_] 1 (.n 0) (.v 0) [.lt 1 (.n 0) (.v 0)] rfl hpos
 refine bc fun nG=>?_
 obtain ⟨k,hk1,hk2⟩:=hpp
 refine nG ?_
 simp only [hk1]
 have tail:∀ (i':Nat) (s₁:Shared),i' < ps.length→s₁.heap = s.heap→s₁.gens = s.gens→s₁.os = s.os→∀ {Q':Option Value→Shared→Prop} {E'},(∀ c p s₂ H',RV s₂.heap H' (.pt p) (.ref c)→INV w B os₀ s₂ H'→ExtE s.heap H s₂.heap H'→p∈S→(∃ g',H' = H.set a (.set (S.erase p) g'))→Q' (some (.ref c)) s₂)→
  wpAny (model prog w) A.in1 (do
   let some (_,x):=es.toArray[i']? | unsupported "internal:set.pop"
   storeSet a (SetTable.eraseAt es.toArray i') (t.popped i')
   return some x) Q' E' s₁:=by
  intro i' s₁ hi' e1 e2 e3 Q' E' hQ
  refine bc fun nG=>?_
  obtain ⟨c,ec,rc⟩:=x.rs.at (List.getElem?_eq_getElem hi')
  refine nG ?_
  have ec':es.toArray[i']? = some (ptHash ps[i'],.ref c):=by simpa using ec
  rw [ec',eraseAt_toList]
  have hgs:s₁.heap.get? a = some (setO es n t):=by rw [e1];exact x.get
  refine wpAny_bind (wpAny_storeSet_of hgs rfl ?_ (by
   have:=size1000
   have:=masks_le _ x.inv.mask
   have:=x.inv.room
   simp only [List.size_toArray,List.length_eraseIdx]
   split<;>omega))
  refine wpAny_pure ?_
  have hmem:ps[i']∈S:=hp.mem_iff.mp (List.getElem_mem hi')
  have hper:(ps.eraseIdx i').Perm (S.erase ps[i']):=by
   have h1:=eraseIdx_perm ps i' hi'
   have h2:(ps[i'] :: ps.erase ps[i']).Perm ps:=(List.perm_cons_erase (List.getElem_mem hi')).symm
   exact ((List.perm_cons _).mp (h1.trans h2.symm)).trans (hp.erase _)
  have hm':(ps.eraseIdx i').map ptHash = (ps.map ptHash).eraseIdx i':=(eraseIdx_map' ptHash ps i').symm
  obtain ⟨i2,ex⟩:=putSetI (s':={ s₁ with heap:=s₁.heap.update a (Obj.putSet (es.eraseIdx i').toArray (t.popped i')) }) i ha (by refine wat e1.symm ?_;exact Heap.SameBut.update ..) (putSet_get hgs _ _) (x.rs.eraseIdx i') hper (hn.erase _)
   (by refine wat hm' ?_;exact x.inv.popped (by simpa using hi')) (by
     have:(t.popped i').plain = t.plain:=by unfold SetTable.popped SetTable.drop;split<;>rfl
     refine wat this ?_;exact x.plain) (fun hb=>by
     have:(t.popped i').led = t.led:=by unfold SetTable.popped SetTable.drop;split<;>rfl
     refine wat this ?_;exact x.led hb) e2 e3
  exact hQ c ps[i'] _ _ (rc.extE ex) i2 ex hmem ⟨_,rfl⟩
 have fin:∀ (c:Addr) (p:Pt) (s₂:Shared) (H':AHeap),RV s₂.heap H' (.pt p) (.ref c)→INV w B os₀ s₂ H'→ExtE s.heap H s₂.heap H'→p∈S→(∃ g',H' = H.set a (.set (S.erase p) g'))→OkE w B os₀ s.heap H (RQ Q) (.ref c) s₂:=
  fun c p s₂ H' q1 q2 q3 q4 ⟨g',q5⟩=>⟨H',q2,q3,_,q1,q5▸h p q4 g'⟩
 refine wpAny_bind (wpAny_bind (wpAny_askSetting (wpAny_pure ?_)))
 split
 · refine wpAny_bind (wpAny_choose (by refine wat List.size_toArray ?_;exact Nat.ne_of_gt (linLt [_,_,_] 1 (.n 0) (.v 1) [.eq 1 (.v 0) (.v 1),.lt 1 (.v 2) (.v 0)] rfl hlen hk2)) fun i' hi'=>?_)
   refine tail i' { s with drawn:=s.drawn.bump Source.order } (by rw [List.size_toArray] at hi';exact linLt [_,_,_] 1 (.v 2) (.v 0) [.ge 1 (.v 0) (.v 1),.lt 1 (.v 2) (.v 1)] rfl hlen hi') rfl rfl rfl fun c p s₂ H' q1 q2 q3 q4 q5=>?_
   exact wpAny_pure ⟨_,rfl,fin c p s₂ H' q1 q2 q3 q4 q5⟩
 · rename_i hcond
   have hb:w.params.followText "set-order" = false:=by
    cases hq:w.params.followText "set-order" with
    | false=>rfl
    | true=>exact absurd (by simp only [Bool.or_eq_true];exact .inl hq) hcond
   refine wpAny_bind ?_
   show wpAny _ _ (if (!t.led && decide (es.toArray.size > 1)) = true then _ else pure ()) _ _ _
   refine wat (x.led hb) ?_
   refine wpAny_pure (wpAny_bind (wpAny_pure ?_))
   refine tail k _ hk2 rfl rfl rfl fun c p s₂ H' q1 q2 q3 q4 q5=>?_
   exact wpAny_pure ⟨_,rfl,fin c p s₂ H' q1 q2 q3 q4 q5⟩
end
set_option tactic.hygienic true in
theorem AHeap.set_same {H:AHeap} {a:Addr} {o:AO} (h:H a = some o):H.set a o = H:=by
 funext b;unfold AHeap.set;split
 · rename_i e;exact wat e (wat h rfl)
 · rfl
theorem AHeap.set_set (H:AHeap) (a:Addr) (o o':AO):(H.set a o).set a o' = H.set a o':=by
 funext b;unfold AHeap.set;split<;>rfl
section
variable {prog:Program} {w:World} {B:Heap} {os₀:OsState} {A:Around} {s:Shared} {H:AHeap}
theorem fill_eq (t:SetTable):t.fill = t.place.toList.length + t.dummies.toList.length:=by unfold SetTable.fill;simp
theorem wp_roomFor {a:Addr} {S:List Pt} {g:Obj} {more:Nat} {Q:Unit→Shared→Prop} {E:Value→Shared→Prop} (i:INV w B os₀ s H) (ha:H a = some (.set S g)) (h1:0 < more) (h2:S.length + more≤32)
 (q:∀ s' ps es n t H',(∃ g',H' = H.set a (.set S g'))→INV w B os₀ s' H'→ExtE s.heap H s'.heap H'→SetAt (w.params.followText "set-order") s'.heap H' a ps es n t→ps.Perm S→(t.fill + more) * 5 < t.mask * 3→Heap.SameBut a s.heap s'.heap→Q () s'):wpAny (model prog w) A (setRoomFor a more) Q E s:=by
 obtain ⟨ps,es,n,t,x,hp,hn⟩:=setAt_of i ha
 have hl:=hp.length_eq
 have hplen:t.place.toList.length = ps.length:=by rw [x.inv.size,List.length_map]
 refine wpAny_bind (wpAny_setState_of x.get rfl x.fits ?_)
 unfold SetTable.roomFor
 by_cases hf:(t.fill + more) * 5 ≥ t.mask * 3
 · refine wat (if_pos hf) ?_
   simp only
   have esz:t.place.size = ps.length:=by refine wat (Array.length_toList).symm ?_;exact hplen
   obtain ⟨z1,z2,z3⟩:=sizes_ok ((t.place.size + more) * 2) (by exact linLe [_,_,_,_] 1 (.r (.a (.v 3) (.v 1)) 2) (.n 64) [.le 2 (.a (.v 0) (.v 1)) (.n 32),.eq 2 (.v 2) (.v 0),.eq 2 (.v 3) (.v 2)] rfl h2 hl esz)
   refine wp_relay (h:=s.heap) (H:=H) x.get x.rs x.fits (by exact linLe [_,_,_,_] 1 (.r (.a (.v 3) (.v 1)) 2) (.n 64) [.le 2 (.a (.v 0) (.v 1)) (.n 32),.eq 2 (.v 2) (.v 0),.eq 2 (.v 3) (.v 2)] rfl h2 hl esz) (by exact linLt [_,_,_,_] 1 (.r (.v 2) 5) (.r (.v 3) 3) [.lt 6 (.n 0) (.v 0),.ge 5 (.v 1) (.v 2),.le 3 (.r (.a (.v 1) (.v 0)) 2) (.v 3)] rfl h1 esz z2) fun ps' es' t' e1 e2 e3 e4 e5 e6 e7=>?_
   have hg':=putSet_get x.get es' t'
   have sb:Heap.SameBut a s.heap (s.heap.update a (Obj.putSet es'.toArray t')):=Heap.SameBut.update ..
   have hl':w.params.followText "set-order" = false→t'.led = true:=fun hb=>e4.trans (x.led hb)
   obtain ⟨i',ex⟩:=putSetI (S':=S) (s':={ s with heap:=s.heap.update a (Obj.putSet es'.toArray t') }) i ha sb hg' e2 (e1.trans hp) hn e3 (e5.trans x.plain) hl' rfl rfl
   refine q _ ps' es' _ t' _ ⟨_,rfl⟩ i' ex ⟨hg',e2.ext ex .nobody,(e1.trans hp).nodup_iff.mpr hn,e3,e5.trans x.plain,hl'⟩ (e1.trans hp) ?_ sb
   have hpl':t'.place.toList.length = ps'.length:=by rw [e3.size,List.length_map]
   have hpl2:=e1.length_eq
   rw [fill_eq,hpl',e7,e6]
   show (ps'.length + 0 + more) * 5 < _
   exact linLt [_,_,_,_,_] 1 (.r (.a (.a (.v 4) (.n 0)) (.v 0)) 5) (.r (.v 3) 3) [.lt 1 (.n 0) (.v 0),.ge 5 (.v 1) (.v 2),.le 3 (.r (.a (.v 1) (.v 0)) 2) (.v 3),.eq 5 (.v 4) (.v 2)] (by kernel_rfl) h1 esz z2 hpl2
 · refine wat (if_neg hf) ?_
   exact wpAny_pure (q s ps es n t H ⟨g,(AHeap.set_same ha).symm⟩ i (Ext.refl _ _ _) x hp (by exact linLt [_,_,_] 1 (.r (.a (.v 1) (.v 2)) 5) (.r (.v 0) 3) [.nle 1 (.r (.v 0) 3) (.r (.a (.v 1) (.v 2)) 5)] rfl hf) (Heap.SameBut.refl ..))
theorem Inv.permSet {a:Addr} {S S':List Pt} {g:Obj} (i:INV w B os₀ s H) (ha:H a = some (.set S g)) (hp:S.Perm S'):∃ g',INV w B os₀ s (H.set a (.set S' g'))∧ExtE s.heap H s.heap (H.set a (.set S' g')):=by
 refine bc fun nG=>?_
 obtain ⟨ps,es,n,t,x,hp',hn⟩:=setAt_of i ha
 refine nG ?_
 exact ⟨_,putSetI i ha (Heap.SameBut.refl ..) x.get x.rs (hp'.trans hp) (hp.nodup_iff.mp hn) x.inv x.plain x.led rfl rfl⟩
theorem RS.permL {h:Heap}:∀ {ps es},RS h H ps es→∀ l:List (Int×Value),es.Perm l→∃ ps',ps'.Perm ps∧RS h H ps' l:=by
 intro ps es r l hp
 induction hp generalizing ps with
 | nil=>cases r;exact ⟨[],.refl _,.nil⟩
 | cons y _ ih=>
   cases r with
   | cons a r=>
     obtain ⟨ps',p1,p2⟩:=ih r
     exact ⟨_ :: ps',p1.cons _,.cons a p2⟩
 | swap y z l=>
   cases r with
   | cons a r=>cases r with
     | cons b r=>exact ⟨_ :: _ :: _,.swap _ _ _,.cons b (.cons a r)⟩
 | trans _ _ ih1 ih2=>
   refine bc fun nG=>?_
   obtain ⟨ps1,p1,p2⟩:=ih1 r
   refine nG ?_
   obtain ⟨ps2,p3,p4⟩:=ih2 p2
   exact ⟨ps2,p3.trans p1,p4⟩
theorem wp_walk {a:Addr} {ps es n t} (x:SetAt (w.params.followText "set-order") s.heap H a ps es n t) {Q:Array (Int×Value)→Shared→Prop} {E:Value→Shared→Prop} (q:∀ ps' es',ps'.Perm ps→RS s.heap H ps' es'→Q es'.toArray s):wpAny (model prog w) A (setWalk a) Q E s:=by
 refine wpAny_bind (wpAny_setState_of x.get rfl x.fits ?_)
 refine wpAny_bind (wpAny_bind (wpAny_askSetting (wpAny_pure ?_)))
 cases hb:w.params.followText "set-order" with
 | true=>
   show wpAny _ _ (if w.params.followText "set-order" = true then _ else _) _ _ _
   refine wat hb (wat (if_pos rfl) ?_)
   refine wpAny_bind (wpAny_askSetting ?_)
   dsimp only
   have hperm:=pick_perm (w.params.setOrder a n) es.toArray
   obtain ⟨ps',p1,p2⟩:=x.rs.permL _ (by simpa using hperm.symm)
   have:=q ps' _ p1 p2
   exact wpAny_pure this
 | false=>
   show wpAny _ _ (if w.params.followText "set-order" = true then _ else _) _ _ _
   refine wat hb (wat (if_neg (by decide)) ?_)
   have hd:(!t.plain && decide (es.toArray.size > 1)) = false:=by refine wat x.plain ?_;rfl
   show wpAny _ _ (if (!t.plain && decide (es.toArray.size > 1)) = true then _ else _) _ _ _
   refine wat hd (wat (if_neg (by decide)) ?_)
   refine wpAny_bind ?_
   show wpAny _ _ (if (!t.led && decide (es.toArray.size > 1)) = true then _ else pure ()) _ _ _
   refine wat (x.led hb) ?_
   exact wpAny_pure (wpAny_pure (q ps es (.refl _) x.rs))
theorem wp_walkUnseen {a:Addr} {others:List Addr} {f:Option Addr} {ps es n t} (x:SetAt (w.params.followText "set-order") s.heap H a ps es n t) {Q:Array (Int×Value)→Shared→Prop} {E:Value→Shared→Prop} (q:∀ ps' es',ps'.Perm ps→RS s.heap H ps' es'→Q es'.toArray s):
 wpAny (model prog w) A (setWalkUnseen a others f) Q E s:=by
 refine wpAny_bind (wpAny_setState_of x.get rfl x.fits ?_)
 refine wpAny_bind ?_
 refine wpAny_bind (wpAny_askSetting (wpAny_pure ?_))
 rw [if_pos]
 · exact wp_walk x q
 · have:(w.params.followText "set-order" || t.led && t.plain) = true:=by
    rw [x.plain,Bool.and_true]
    cases hb:w.params.followText "set-order" with
    | true=>rfl
    | false=>rw [x.led hb];rfl
   show (w.params.followText "set-order" || t.led && t.plain || decide (es.toArray.size≤1)) = true
   refine wat this ?_;rfl
end
section
variable {prog:Program} {w:World} {B:Heap} {os₀:OsState} {A:Around} {s:Shared} {H:AHeap}
theorem union_perm {S U U':List Pt} (h:U'.Perm U):(S ++ U'.filter (· ∉S)).Perm (S ++ U.filter (· ∉S)):=(h.filter _).append_left S
theorem union_step {S done:List Pt} {q:Pt}:q∈S ++ done.filter (· ∉S)→S ++ (done ++ [q]).filter (· ∉S) = S ++ done.filter (· ∉S)∨(q∉S∧q∈done):=by
 intro h
 by_cases hq:q∈S
 · left;rw [List.filter_append];simp [hq]
 · rw [List.mem_append,List.mem_filter] at h
   rcases h with h | h
   · exact absurd h hq
   · exact .inr ⟨hq,h.1⟩
theorem wp_merge {id:String} {a b:Addr} {S U:List Pt} {g g':Obj} {Q:Unit→Shared→Prop} {E:Value→Shared→Prop} (i:INV w B os₀ s H) (ha:H a = some (.set S g)) (hb:H b = some (.set U g')) (hab:a≠b) (hsz:S.length + (U.filter (· ∉S)).length≤16) (hu:A.units + 10 < cLine)
 (q:∀ s' g₁,INV w B os₀ s' (H.set a (.set (S ++ U.filter (· ∉S)) g₁))→ExtE s.heap H s'.heap (H.set a (.set (S ++ U.filter (· ∉S)) g₁))→Q () s'):wpAny (model prog w) A (Builtin.Frozenset.merge id a b) Q E s:=by
 refine bc fun nG=>?_
 obtain ⟨pb,eb,nb,tb,xb,hpb,hnU⟩:=setAt_of i hb
 refine nG ?_
 have hnS:S.Nodup:=by obtain ⟨_,_,_,_,_,_,h⟩:=setAt_of i ha;exact h
 have hlb:=xb.rs.length
 have hUle:U.length≤16:=by
  have:∀ x∈U,x∈S ++ U.filter (· ∉S):=fun x hx=>by
   rw [List.mem_append,List.mem_filter]
   by_cases h:x∈S
   · exact .inl h
   · exact .inr ⟨hx,by simpa using h⟩
  have:=length_le_of_subset hnU this
  rw [List.length_append] at this;exact Nat.le_trans ‹_› ‹_›
 refine wpAny_bind (wpAny_bind (wpAny_setState_of xb.get rfl xb.fits (wpAny_pure ?_)))
 dsimp only
 unfold setMerge
 have habf:(a == b) = false:=beq_eq_false_iff_ne.mpr hab
 refine wif_neg (by refine wat habf ?_;decide) ?_
 refine wpAny_bind (wpAny_setState_of xb.get rfl xb.fits ?_)
 dsimp only
 by_cases he:eb.toArray.isEmpty = true
 · refine wif_pos he ?_
   have hUnil:U = []:=by
    have:eb = []:=by simpa using he
    have h0:pb.length = 0:=by refine wat hlb (wat this ?_);rfl
    have:=hpb.length_eq
    exact List.length_eq_zero_iff.mp (by exact Nat.le_antisymm (linLe [_,_] 1 (.v 1) (.n 0) [.eq 1 (.v 0) (.n 0),.ge 1 (.v 0) (.v 1)] rfl h0 this) (linLe [_] 1 (.n 0) (.v 0) [] rfl))
   subst hUnil
   simp only [List.filter_nil,List.append_nil] at q
   have e:=AHeap.set_same ha
   have q:=q s g
   rw [e] at q
   exact wpAny_pure (q i (Ext.refl _ _ _))
 · refine wif_neg he ?_
   have hpos:0 < eb.length:=by
    cases eb with
    | nil=>exact absurd rfl he
    | cons _ _=>simp
   have hUlen:U.length = eb.length:=by refine wat hlb.symm ?_;exact hpb.length_eq.symm
   refine wpAny_bind (wp_roomFor i ha (by simpa using hpos) (by simp;exact linLe [_,_,_,_] 1 (.a (.v 0) (.v 3)) (.n 32) [.le 1 (.a (.v 0) (.v 1)) (.n 16),.le 1 (.v 2) (.n 16),.ge 1 (.v 2) (.v 3)] rfl hsz hUle hUlen) fun s₁ ps es n t H₀ hH₀ i₁ x₁ at₁ hp₁ hroom sb₁=>?_)
   obtain ⟨g₀,hH₀⟩:=hH₀
   have ha₀:H₀ a = some (.set S g₀):=by refine wat hH₀ ?_;exact AHeap.set_self ..
   have hb₀:H₀ b = some (.set U g'):=by refine wat hH₀ (wat (AHeap.set_ne _ _ (Ne.symm hab)) ?_);exact hb
   have set₀:∀ o,H₀.set a o = H.set a o:=fun o=>by rw [hH₀,AHeap.set_set]
   have hgb:s₁.heap.get? b = some (setO eb nb tb):=(sb₁.2 b (Ne.symm hab)).trans xb.get
   have xb₁:SetAt (w.params.followText "set-order") s₁.heap H₀ b pb eb nb tb:=⟨hgb,xb.rs.ext x₁ .nobody,xb.nodup,xb.inv,xb.plain,xb.led⟩
   refine wpAny_bind (wpAny_setState_of at₁.get rfl at₁.fits ?_)
   have hpl₁:t.place.toList.length = ps.length:=by rw [at₁.inv.size,List.length_map]
   have whole:t.fill = 0→∀ {es':List (Int×Value)} {t':SetTable} {ps':List Pt},ps'.Perm U→RS s₁.heap H₀ ps' es'→SInv (ps'.map ptHash) t'→t'.plain = true→(w.params.followText "set-order" = false→t'.led = true)→es'.length≤16→
    wpAny (model prog w) A (storeSet a es'.toArray t') Q E s₁:=by
    intro hf es' t' ps' h1 h2 h3 h4 h5 h6
    refine wpAny_storeSet_of at₁.get rfl ?_ (by have:=size1000;simp;exact Nat.le_trans ‹_› (by decide))
    have hS:S = []:=by
     rw [fill_eq,hpl₁] at hf
     have:=hp₁.length_eq
     exact List.length_eq_zero_iff.mp (by exact Nat.le_antisymm (linLe [_,_,_] 1 (.v 2) (.n 0) [.eq 1 (.a (.v 0) (.v 1)) (.n 0),.ge 1 (.v 0) (.v 2)] rfl hf this) (linLe [_] 1 (.n 0) (.v 0) [] rfl))
    subst hS
    have hfu:U.filter (· ∉([]:List Pt)) = U:=List.filter_eq_self.mpr (by simp)
    rw [List.nil_append,hfu] at q
    obtain ⟨i₂,x₂⟩:=putSetI (S':=U) (s':={ s₁ with heap:=s₁.heap.update a (Obj.putSet es'.toArray t') }) i₁ ha₀ (Heap.SameBut.update ..) (putSet_get at₁.get es' t') h2 h1 hnU h3 h4 h5 rfl rfl
    rw [set₀] at i₂ x₂
    exact q _ _ i₂ (Ext.trans x₁ x₂)
   unfold SetTable.road
   by_cases hf:(t.fill != 0) = true
   · refine wat (if_pos hf) ?_
     refine wpAny_bind (wp_walkUnseen xb₁ fun pw ew hpw rsw=>?_)
     have hUw:pw.Perm U:=hpw.trans hpb
     have hnw:pw.Nodup:=hUw.nodup_iff.mpr hnU
     refine wpAny_bind (wpAny_forIn_array' _ (fun rest _ s'=>(X4 fun done left H' g₁=>A6 (pw = done ++ left) (RS s₁.heap H₀ left rest) (H' = H.set a (.set (S ++ done.filter (· ∉S)) g₁)) (INV w B os₀ s' H') (ExtE s₁.heap H₀ s'.heap H') (s'.heap.get? b = some (setO eb nb tb)))) _ ?_ ?_ ew.toArray _ ?_)
     · rintro ⟨hh,v⟩ rest u s' ⟨done,left,H',g₁,e1,e2,e3,e4,e5,e6⟩
       cases e2 with
       | @cons p _ left _ rv rrest=>
         obtain ⟨c,rfl⟩:=pt_ref rv
         have ha':H' a = some (.set (S ++ done.filter (· ∉S)) g₁):=by refine wat e3 ?_;exact AHeap.set_self ..
         have hb':H' b = some (.set U g'):=by refine wat e3 (wat (AHeap.set_ne _ _ (Ne.symm hab)) ?_);exact hb
         refine bc fun nG=>?_
         obtain ⟨pa,ea,na,ta,xa,hpa,hna⟩:=setAt_of e4 ha'
         refine nG ?_
         have rv':RV s'.heap H' (.pt p) (.ref c):=rv.extE e5
         have hpdone:p∉done:=by
          rw [e1] at hnw
          rw [List.nodup_append] at hnw
          exact fun h=>hnw.2.2 p h p List.mem_cons_self rfl
         have chk:∀ {s'':Shared} {Q':ForInStep Unit→Shared→Prop} {E'},s''.heap.get? b = some (setO eb nb tb)→Q' (.yield ()) s''→wpAny (model prog w) A (do
          Builtin.Frozenset.unchanged id b nb
          let __x ← setState b
          if (__x.2.1 != nb) = true then unsupported "set.changed-during-merge"
          pure (ForInStep.yield ())) Q' E' s'':=by
          intro s'' Q' E' hg hQ
          refine wpAny_bind (wpAny_bind (wpAny_bind (wpAny_setState_of hg rfl xb.fits (wpAny_pure ?_))))
          dsimp only
          refine wif_neg (by simp) ?_
          refine wpAny_pure (wpAny_bind (wpAny_setState_of hg rfl xb.fits ?_))
          dsimp only
          refine wif_neg (by simp) ?_
          exact wpAny_pure hQ
         have hadd:p∉pa→pa.length≤15:=by
          intro hnp
          have hnp':p∉S ++ done.filter (· ∉S):=fun h=>hnp (hpa.mem_iff.mpr h)
          have hpS:p∉S:=fun h=>hnp' (List.mem_append_left _ h)
          have hsub:((done ++ [p]).filter (· ∉S)).length≤(U.filter (· ∉S)).length:=by
           have h1:((done ++ p :: left).filter (· ∉S)).length = (U.filter (· ∉S)).length:=by refine wat e1.symm ?_;exact (hUw.filter _).length_eq
           have e9:done ++ p :: left = (done ++ [p]) ++ left:=by simp
           have h2:((done ++ [p] ++ left).filter (· ∉S)).length = ((done ++ [p]).filter (· ∉S)).length + (left.filter (· ∉S)).length:=by
            exact wat (List.filter_append (done ++ [p]) left) (wat List.length_append rfl)
           rw [e9] at h1;exact linLe [_,_,_,_] 1 (.v 2) (.v 1) [.eq 1 (.v 0) (.v 1),.ge 1 (.v 0) (.a (.v 2) (.v 3))] rfl h1 h2
          rw [List.filter_append,List.length_append] at hsub
          have:([p].filter (· ∉S)).length = 1:=by simp [hpS]
          have:=hpa.length_eq
          rw [List.length_append] at this
          omega
         refine wpAny_bind (wpAny_holding (wp_addH xa rv' hu hadd (fun hin=>?_) fun hout ps' es' n' t' h' f1 f2 f3 f4 f5 f6 f7=>?_))
         · have hmem:=hpa.mem_iff.mp hin
           have heq:S ++ (done ++ [p]).filter (· ∉S) = S ++ done.filter (· ∉S):=by
            rcases union_step hmem with h | ⟨_,h⟩
            · exact h
            · exact absurd h hpdone
           refine chk e6 ?_
           exact ⟨done ++ [p],left,H',g₁,by refine wat e1 ?_;simp,rrest,by refine wat heq ?_;exact e3,e4,e5,e6⟩
         · have hnp':p∉S ++ done.filter (· ∉S):=fun h=>hout (hpa.mem_iff.mpr h)
           have hpS:p∉S:=fun h=>hnp' (List.mem_append_left _ h)
           have heq:S ++ (done ++ [p]).filter (· ∉S) = S ++ done.filter (· ∉S) ++ [p]:=by
            rw [List.filter_append,List.append_assoc];simp [hpS]
           obtain ⟨i₂,x₂⟩:=putSetI (S':=S ++ done.filter (· ∉S) ++ [p]) (s':={ s' with heap:=h' }) e4 ha' f7 f6 f2 (f1.trans (hpa.append_right [p])) (nodup_snoc hna hnp') f3 f4 f5 rfl rfl
           have hb2:h'.get? b = some (setO eb nb tb):=(f7.2 b (Ne.symm hab)).trans e6
           refine chk (s'':={ s' with heap:=h' }) hb2 ?_
           refine ⟨done ++ [p],left,_,setO es' n' t',by refine wat e1 ?_;simp,rrest,?_,i₂,Ext.trans e5 x₂,hb2⟩
           rw [heq,e3,AHeap.set_set]
     · rintro u s' ⟨done,left,H',g₁,e1,e2,e3,e4,e5,e6⟩
       cases e2
       rw [List.append_nil] at e1
       subst e1
       have ha':H' a = some (.set (S ++ pw.filter (· ∉S)) g₁):=by refine wat e3 ?_;exact AHeap.set_self ..
       obtain ⟨g₂,i₂,x₂⟩:=Inv.permSet e4 ha' (union_perm hUw)
       have e7:H'.set a (.set (S ++ U.filter (· ∉S)) g₂) = H.set a (.set (S ++ U.filter (· ∉S)) g₂):=by rw [e3,AHeap.set_set]
       rw [e7] at i₂ x₂
       exact wpAny_pure (q _ _ i₂ (Ext.trans x₁ (Ext.trans e5 x₂)))
     · refine ⟨[],pw,H₀,g₀,rfl,rsw,?_,i₁,Ext.refl _ _ _,hgb⟩
       simp only [List.filter_nil,List.append_nil]
       exact hH₀
   · refine wat (if_neg hf) ?_
     have hf0:t.fill = 0:=by simpa using hf
     by_cases hsl:(t.mask == tb.mask && tb.dummies.isEmpty) = true
     · refine wat (if_pos hsl) ?_
       refine whole hf0 hpb xb₁.rs (SInv.same xb.inv rfl rfl rfl) ?_ (fun h=>?_) (by exact linLe [_,_] 1 (.v 1) (.n 16) [.le 1 (.v 0) (.n 16),.ge 1 (.v 0) (.v 1)] rfl hUle hUlen)
       · show (t.plain && tb.plain) = true
         refine wat at₁.plain (wat xb.plain ?_);rfl
       · show (t.led && tb.led) = true
         refine wat (at₁.led h) (wat (xb.led h) ?_);rfl
     · refine wat (if_neg hsl) ?_
       dsimp only
       have hroom':pb.length * 5 < t.mask * 3:=by refine wat hlb ?_;rw [hf0] at hroom;simpa using hroom
       refine bc fun nG=>?_
       obtain ⟨t',order,ps',h1,h2,h3,h4,h5,h6,h7,h8,h9⟩:=laid_pts at₁.inv.mask xb₁.rs hroom' t.finger t.moves (t.led && tb.led) (t.plain && tb.plain)
       refine nG ?_
       refine wat h1 ?_
       refine wpAny_bind ?_
       show wpAny _ _ (if ((order.filterMap (eb.toArray[·]?)).size != eb.toArray.size) = true then _ else pure (order.filterMap (eb.toArray[·]?),t')) _ _ _
       refine wif_neg (by refine wat h4 ?_;simp) ?_
       refine wpAny_pure ?_
       have:=whole hf0 (es':=(order.filterMap (eb.toArray[·]?)).toList) (t':=t') (h2.trans hpb) h3 h9 (by refine wat h6 (wat at₁.plain (wat xb.plain ?_));rfl) (fun h=>by refine wat h5 (wat (at₁.led h) (wat (xb.led h) ?_));rfl) (by refine wat Array.length_toList (wat h4 ?_);exact linLe [_,_] 1 (.v 1) (.n 16) [.le 1 (.v 0) (.n 16),.ge 1 (.v 0) (.v 1)] rfl hUle hUlen)
       exact this
end
theorem noBool_set:typeLookup (.type "set") (Str.ofString "__bool__") = pure none:=by rw [typeLookup_type,builtinLookup_eq_fast];kernel_rfl
section
variable {prog:Program} {w:World} {B:Heap} {os₀:OsState} {A:Around} {s:Shared} {H:AHeap}
theorem wp_update {a b:Addr} {S U:List Pt} {g g':Obj} {Q:AV→AHeap→Prop} {X:AHeap→Prop} (i:INV w B os₀ s H) (ha:H a = some (.set S g)) (hb:H b = some (.set U g')) (hab:a≠b) (hsz:S.length + (U.filter (· ∉S)).length≤16) (hu:A.units + 20 < cLine)
 (q:∀ g₁,Q .none (H.set a (.set (S ++ U.filter (· ∉S)) g₁))):WpE prog w B os₀ A (call (.builtin "set.update") [.ref a,.ref b]) s H (RQ Q) X:=by
 refine bc fun nG=>?_
 obtain ⟨pa,ea,na,ta,xa,hpa,_⟩:=setAt_of i ha
 refine nG ?_
 refine bc fun nG=>?_
 obtain ⟨pb,eb,nb,tb,xb,hpb,_⟩:=setAt_of i hb
 refine nG ?_
 have hT:s.TypeIs (.ref a) "set":=⟨_,xa.get,rfl⟩
 have hTb:s.TypeIs (.ref b) "set":=⟨_,xb.get,rfl⟩
 refine wpAny_call_entry PySem.F.slot_set_update hT PySem.F.entry_set_update ?_ (PySem.F.args_set_update_2 _ _)
 show wpAny _ _ (Builtin.Frozenset.manyOthers "update" _ >>= _) _ _ s
 refine wpAny_bind (wpAny_bind (wpAny_pure ?_))
 refine wpAny_pure ?_
 refine wpAny_bind ?_
 simp only [List.forIn_cons,List.forIn_nil]
 refine wpAny_bind ?_
 refine wpAny_bind (wpAny_bind ?_)
 refine wpAny_bind (wpAny_isInstance (T:="set") hTb PySem.F.sub_set_set ?_)
 refine wpAny_pure ?_
 refine wpAny_bind (wpAny_pure ?_)
 refine wp_merge (A:=A.in1) i ha hb hab hsz (by show A.units + 1 + 10 < cLine;exact linLt [_,_] 1 (.a (.a (.v 0) (.n 1)) (.n 10)) (.v 1) [.lt 1 (.a (.v 0) (.n 20)) (.v 1)] rfl hu) fun s' g₁ i' x'=>?_
 exact wpAny_pure (wpAny_pure (wpAny_pure ⟨_,rfl,_,i',x',_,.none,q g₁⟩))
theorem wp_len_set {a:Addr} {S:List Pt} {g:Obj} {Q:AV→AHeap→Prop} {X:AHeap→Prop} (i:INV w B os₀ s H) (ha:H a = some (.set S g)) (q:Q (.int S.length) H):WpE prog w B os₀ A (call (.builtin "len") [.ref a]) s H (RQ Q) X:=by
 obtain ⟨pa,ea,na,ta,xa,hpa,_⟩:=setAt_of i ha
 have hl:ea.toArray.size = S.length:=by refine wat List.size_toArray (wat (xa.rs.length).symm ?_);exact hpa.length_eq
 have hb:=xa.inv.room
 have hm:=masks_le _ xa.inv.mask
 have hsz:=xa.inv.size
 have hpl:=hpa.length_eq
 rw [List.length_map] at hsz
 refine Calls.call_function_entry kind_len plain_len entry_len (args_len1 _) (wpAny_len_body_set xa.get ⟨rfl,rfl,rfl⟩ rfl xa.fits (by omega) ?_)
 refine wat hl ?_
 exact ⟨H,i.toks _,Ext.refl _ _ _,_,.int,q⟩
theorem newSet_inv (i:INV w B os₀ s H):INV w B os₀ { s with heap:=s.heap.push (setO [] 0 (.fresh 0 0 (!w.params.followText "set-order"))) } (H.set s.heap.objs.size (.set [] (setO [] 0 (.fresh 0 0 (!w.params.followText "set-order")))))∧
 ExtE s.heap H (s.heap.push (setO [] 0 (.fresh 0 0 (!w.params.followText "set-order")))) (H.set s.heap.objs.size (.set [] (setO [] 0 (.fresh 0 0 (!w.params.followText "set-order"))))):=by
 have hg:(s.heap.push (setO [] 0 (.fresh 0 0 (!w.params.followText "set-order")))).get? s.heap.objs.size = some (setO [] 0 (.fresh 0 0 (!w.params.followText "set-order"))):=Heap.get?_push_size _ rfl
 have x:ExtE s.heap H (s.heap.push (setO [] 0 (.fresh 0 0 (!w.params.followText "set-order")))) (H.set s.heap.objs.size (.set [] (setO [] 0 (.fresh 0 0 (!w.params.followText "set-order"))))):=ExtE.add _ _ (get?_size _) (push_keeps _ _)
 have hI:SInv ([].map ptHash) (SetTable.fresh 0 0 (!w.params.followText "set-order")):=
  ⟨by show 7∈masks;decide,rfl,List.Pairwise.nil,List.Pairwise.nil,fun j h=>(by cases h),fun j h=>(by cases h),fun j h=>(by cases h),by show (0 + 0) * 5 < 7 * 3;decide,fun i h j e=>(by simp at e)⟩
 refine ⟨i.add (s':={ s with heap:=s.heap.push (setO [] 0 (.fresh 0 0 (!w.params.followText "set-order"))) }) (o:=.set [] (setO [] 0 (.fresh 0 0 (!w.params.followText "set-order")))) (get?_size _) (push_keeps _ _) ⟨[],0,_,[],hg,rfl,.nil,.refl _,List.nodup_nil,hI,rfl,fun hb=>?_⟩ rfl rfl,x⟩
 show (!w.params.followText "set-order") = true
 refine wat hb ?_;rfl
theorem truthy_set {a:Addr} {S:List Pt} {g:Obj} {Q:Bool→Shared→Prop} {E:Value→Shared→Prop} (i:INV w B os₀ s H) (ha:H a = some (.set S g)) (h:Q (!S.isEmpty) { s with toks:=s.toks + 1 + 1 }):wpAny (model prog w) A (truthy (.ref a)) Q E s:=by
 obtain ⟨pa,ea,na,ta,xa,hpa,_⟩:=setAt_of i ha
 have hl:ea.toArray.size = S.length:=by refine wat List.size_toArray (wat (xa.rs.length).symm ?_);exact hpa.length_eq
 have hb:=xa.inv.room
 have hm:=masks_le _ xa.inv.mask
 have hsz:=xa.inv.size
 have hpl:=hpa.length_eq
 rw [List.length_map] at hsz
 have hT:s.TypeIs (.ref a) "set":=⟨_,xa.get,rfl⟩
 have hne:((S.length:Int) != 0) = !S.isEmpty:=by
  cases S with
  | nil=>rfl
  | cons _ _=>simp;omega
 have key:wpAny (model prog w) A (runValue (.builtin "len" ⟨[.ref a],[]⟩)) (fun r s'=>r = .int S.length (s.toks + 1)∧Q (!S.isEmpty) s') E s:=by
  refine wpAny_runValue (codeAny_builtin entry_len ?_)
  exact wpAny_mono (wpAny_len_body_set (Q:=fun r s'=>r = .int S.length (s.toks + 1)∧Q (!S.isEmpty) s') xa.get ⟨rfl,rfl,rfl⟩ rfl xa.fits (by omega) ⟨by exact wat hl rfl,h⟩)
   (fun fin s' h'=>by obtain ⟨r,rfl,hq⟩:=h';exact hq) fun _ _ e=>e
 first
  | refine wpAny_bind (wpAny_callSpecial?_none (name:=Str.ofString "__bool__") hT noBool_set ?_)
  | refine wpAny_bind (wpAny_pure (wpAny_bind (wpAny_callSpecial?_none (name:=Str.ofString "__bool__") hT noBool_set ?_)))
 first
  | refine wpAny_bind (wpAny_specialOf (name:=Str.ofString "__len__") hT PySem.F.slot_set_len.lookup ?_)
  | refine wpAny_bind (wpAny_pure (wpAny_bind (wpAny_specialOf (name:=Str.ofString "__len__") hT PySem.F.slot_set_len.lookup ?_)))
 first
  | exact wpAny_bind (wpAny_mono key (fun r s' h'=>by obtain ⟨rfl,hq⟩:=h';exact wpAny_pure (hne▸hq)) fun _ _ e=>e)
  | exact wpAny_bind (wpAny_pure (wpAny_bind (wpAny_mono key (fun r s' h'=>by obtain ⟨rfl,hq⟩:=h';exact wpAny_pure (hne▸hq)) fun _ _ e=>e)))
theorem wp_truth {av:AV} {v:Value} {r:Bool} {Q:Bool→Shared→Prop} {E:Value→Shared→Prop} (i:INV w B os₀ s H) (rv:RV s.heap H av v) (h:TruthR H av r) (q:∀ tk,Q r { s with toks:=tk }):wpAny (model prog w) A (truthy v) Q E s:=by
 cases h with
 | none=>obtain rfl:=rv.vnone;exact wpAny_pure (q s.toks)
 | bool=>obtain rfl:=rv.vbool;exact wpAny_truthy_bool (q s.toks)
 | int=>obtain ⟨_,rfl⟩:=rv.vint;exact P.truthy_int (q s.toks)
 | @str z hz=>
   obtain ⟨_,rfl⟩:=rv.vstr
   refine P.truthy_str (fun h=>by omega) ?_
   have:((z.length:Int) != 0) = (z.length != 0):=by
    rw [Bool.eq_iff_iff];simp
   refine wat this ?_
   exact q _
 | @list a xs ha hz=>
   obtain rfl:=rv.vref
   obtain ⟨vs,n,e,rvs⟩:=isList_of i ha
   have hl:=rvs.length
   refine wpAny_truthy_list (listO_isList e) (by simp;omega) ?_
   have:(!vs.toArray.isEmpty) = !xs.isEmpty:=by
    cases xs with
    | nil=>obtain rfl:=rvs.vnil;rfl
    | cons _ _=>obtain ⟨_,_,rfl,_,_⟩:=rvs.vcons;simp
   refine wat this ?_
   exact q _
 | set ha=>obtain rfl:=rv.vref;exact truthy_set i ha (q _)
end
theorem entry_alias {id id':String} {b:Builtin} (h1:entriesT.find (code id) = none) (h2:id.cutAt '#' = [id])
 (h3:PySem.W.S.canonicalZ (String.map (fun c=>if (c.isAlphanum || c == '_' || c == '.') = true then c else '_') id) ++ "" = id') (h4:entriesT.find (code id') = some b):entryFor table id = some b:=
 entryFor_alias ((fastTable_eq_tree id).trans h1) h2 (PySem.W.S.canonicalZ_eq▸h3) ((fastTable_eq_tree id').trans h4)
theorem entry_set_iter:entryFor table "set.__iter__" = some Builtin.«frozenset.__iter__»:=
 entry_alias (id':="frozenset.__iter__") (by kernel_rfl) rfl (by decide +kernel) (by kernel_rfl)
theorem slot_set_iterator_next:Slot "set_iterator" (Str.ofString "__next__") "set_iterator.__next__":=
 .of (owner:="set_iterator") (n:="__next__") (by rw [typeLookup_type,builtinLookup_eq_fast];kernel_rfl) (by decide +kernel) (by decide +kernel) (by decide +kernel)
  (by first | exact .inl (by decide +kernel) | exact .inr (by decide +kernel)) (by rw [isSubtype_type];kernel_rfl)
theorem entry_set_iterator_next:entryFor table "set_iterator.__next__" = some Builtin.«set_iterator.__next__»:=entryFor_of_tree (by kernel_rfl)
theorem args_set_iterator_next_1 (a:Value):argsOk "set_iterator.__next__" ⟨[a],[]⟩:=by
 unfold argsOk;refine wat (signature?_of (id:="set_iterator.__next__") (n:=['_','_','t','x','e','n','_','_']) (o:=['r','o','t','a','r','e','t','i','_','t','e','s']) (by kernel_rfl) (show Manifest.owners.lookup (String.ofList (['r','o','t','a','r','e','t','i','_','t','e','s']:List Char).reverse) = some Manifest.sig_set_iterator by kernel_rfl)) ?_;kernel_rfl
section
variable {prog:Program} {w:World} {B:Heap} {os₀:OsState} {A:Around} {s:Shared} {H:AHeap} {E:Value→Shared→Prop}
theorem iter_dict {d:Addr} {xs:List (Pt×Addr×Value)} {n:Nat} {Q:Value→Shared→Prop} (hd:(d == sysModules) = false) (ho:s.heap.get? d = some (dictO xs n))
 (hQ:Q (.ref s.heap.objs.size) { s with heap:=s.heap.push { cls:=.type "dict_keyiterator",data:=.fields #[.ref d,.int 0 0,.int xs.length 0,.int n 0] } }):
 wpAny (model prog w) A (pyIter (.ref d)) Q E s:=by
 have hT:s.TypeIs (.ref d) "dict":=⟨_,ho,rfl⟩
 refine wpAny_pyIter_slot hT PySem.F.slot_dict_iter (wpAny_call_entry PySem.F.slot_dict_iter hT PySem.F.entry_dict_iter ?_ (PySem.F.args_dict_iter_1 _))
 refine wpAny_bind ?_
 refine wpAny_bind (wpAny_notOrdered_dict hT ?_)
 show wpAny _ _ (pure (Value.ref d)) _ _ s
 refine wpAny_pure ?_
 show wpAny _ _ (Builtin.Dict.showsAll d >>= _) _ _ s
 unfold Builtin.Dict.showsAll
 refine wifb_neg (by refine wat hd ?_;exact Bool.false_ne_true) ?_
 refine wpAny_bind (wpAny_pure ?_)
 refine wpAny_bind (wpAny_dictEntries ho rfl ?_)
 refine wpAny_bind (wpAny_dictEpoch ho rfl ?_)
 refine wpAny_bind (wpAny_newObj_type (wpAny_pure ⟨_,rfl,"dict_keyiterator",_,⟨_,Heap.get?_push_size _ rfl,rfl⟩,PySem.F.slot_dict_keyiterator_next.lookup,?_⟩))
 simpa [rawInt] using hQ
theorem next_dict {it d:Addr} {i n:Nat} {xs:List (Pt×Addr×Value)} {Q:Option Value→Shared→Prop} (hh:A.handled = none) (hit:s.heap.IsKeyIter it d i xs.length n) (hod:s.heap.get? d = some (dictO xs n))
 (h1:∀ p c v h',xs[i]? = some (p,c,v)→h'.IsKeyIter it d (i + 1) xs.length n→Heap.SameBut it s.heap h'→Q (some (.ref c)) { s with heap:=h' })
 (h2:xs[i]? = none→∀ h',Heap.ExtBut it s.heap h'→Q none { s with heap:=h' }):wpAny (model prog w) A (pyNext (.ref it)) Q E s:=by
 refine bc fun nG=>?_
 obtain ⟨o,ho,hc,hd⟩:=id hit
 refine nG ?_
 refine wpAny_bind (wpAny_attempt (wpAny_callSpecial?_slot (name:=Str.ofString "__next__") hit.typeIs PySem.F.slot_dict_keyiterator_next
  (wpAny_call_entry PySem.F.slot_dict_keyiterator_next hit.typeIs PySem.F.entry_dict_keyiterator_next ?_ (PySem.F.args_dict_keyiterator_next_1 _))))
 refine wpAny_bind (wpAny_pure ?_)
 refine wpAny_bind ?_
 refine wpAny_bind ?_
 first | refine wpAny_bind (wpAny_typeNameOfWhole_keyiter hit.typeIs (wpAny_pure ?_)) | refine wpAny_bind (wpAny_typeNameOf_keyiter hit.typeIs (wpAny_pure ?_))
 refine wpAny_bind (wpAny_fieldsOf ho hd ?_)
 have hown:Builtin.Dict_items.ownsTuple "dict_keyiterator" = false:=by decide
 show wpAny _ _ (if (Value.ref d == Value.none) = true then _ else _) _ _ s
 refine wpAny_bind (wpAny_pure ?_)
 refine wpAny_bind (wpAny_dictEntries hod rfl ?_)
 have hsz:(xs.map ptEntry).toArray.size = xs.length:=by simp
 refine wif_neg (by refine wat hsz ?_;simp) ?_
 refine wpAny_bind (wpAny_pure ?_)
 refine wpAny_bind (wpAny_dictEpoch hod rfl ?_)
 refine wif_neg (by simp) ?_
 refine wpAny_pure ?_
 by_cases hlt:i < xs.length
 · have hx:xs[i]? = some xs[i]:=List.getElem?_eq_getElem hlt
   have hent:((xs.map ptEntry).toArray)[i]? = some (ptEntry xs[i]):=by simp [hx]
   simp only [show ¬ ((i:Int) < 0) from by omega,if_false,Int.toNat_natCast,hent]
   refine wpAny_bind ?_
   first | refine wpAny_bind (wpAny_typeNameOfWhole_keyiter hit.typeIs (wpAny_pure ?_)) | refine wpAny_bind (wpAny_typeNameOf_keyiter hit.typeIs (wpAny_pure ?_))
   refine wpAny_bind (wpAny_isOneOf_keyiter hit.typeIs ?_)
   show wpAny _ _ (setField (.ref it) 1 (rawInt ((i:Int) + 1)) >>= _) _ _ s
   refine wpAny_bind (wpAny_setField ho hd (by simp) ?_)
   have hit':(s.heap.update it (Obj.mapFields (·.setIfInBounds 1 (rawInt ((i:Int) + 1))))).IsKeyIter it d (i + 1) xs.length n:=
    ⟨_,Heap.get?_update_self _ ho (Obj.isFreed_of_fields (Obj.data_mapFields hd _)),(Obj.cls_mapFields ..).trans hc,by rw [Obj.data_mapFields hd];simp [rawInt]⟩
   refine wpAny_bind (wpAny_holding ?_)
   refine wpAny_bind (wpAny_isOneOf_keyiter (s:={ s with heap:=s.heap.update it (Obj.mapFields (·.setIfInBounds 1 (rawInt ((i:Int) + 1)))) }) hit'.typeIs ?_)
   exact wpAny_pure (wpAny_pure ⟨_,rfl,wpAny_pure (h1 xs[i].1 xs[i].2.1 xs[i].2.2 _ hx hit' (Heap.SameBut.update ..))⟩)
 · have hx:xs[i]? = none:=List.getElem?_eq_none (by exact linLe [_,_] 1 (.v 1) (.v 0) [.nlt 1 (.v 0) (.v 1)] rfl hlt)
   have hent:((xs.map ptEntry).toArray)[i]? = none:=by simp;exact linLe [_,_] 1 (.v 1) (.v 0) [.nlt 1 (.v 0) (.v 1)] rfl hlt
   simp only [show ¬ ((i:Int) < 0) from by omega,if_false,Int.toNat_natCast,hent]
   refine wpAny_bind ?_
   first | refine wpAny_bind (wpAny_typeNameOfWhole_keyiter hit.typeIs (wpAny_pure ?_)) | refine wpAny_bind (wpAny_typeNameOf_keyiter hit.typeIs (wpAny_pure ?_))
   show wpAny _ _ (setField (.ref it) 0 .none >>= _) _ _ s
   refine wpAny_bind (wpAny_setField ho hd (by simp) ?_)
   show wpAny _ _ (newExc (.type "StopIteration") [] >>= _) _ _ _
   refine wpAny_bind ?_
   refine wpAny_bind (wpAny_newObj_type ?_ (by size_fits))
   refine wpAny_bind (m:=firstArgMember _ _) (wpAny_of_eq (a:=Value.none) (by first | rfl | (simp only [firstArgMember];rfl)) ?_)
   refine wpAny_newObj_type ?_ (by size_fits)
   refine wpAny_bind (wpAny_handled ?_)
   refine wat (show A.in1.handled = none from hh) ?_
   refine wpAny_bind (wpAny_pure (wpAny_throw ?_))
   refine wpAny_bind (wpAny_isInstance (T:="StopIteration") (b:=true) ⟨_,Heap.get?_push_size _ rfl,rfl⟩ isSubtype_stop ?_)
   exact wpAny_pure (h2 hx _ (((Heap.SameBut.update ..).extBut.push _).push _))
noncomputable def IsSetIter (h:Heap) (it a:Addr) (slot given m n:Nat):Prop:=(X1 fun o=>A3 (h.get? it = some o) (o.cls = .type "set_iterator") (o.data = .fields #[rawInt slot,rawInt given,.ref a,rawInt m,rawInt n]))
theorem iter_set {a:Addr} {ps es n t} (x:SetAt (w.params.followText "set-order") s.heap H a ps es n t) {Q:Value→Shared→Prop}
 (hQ:Q (.ref s.heap.objs.size) { s with heap:=s.heap.push { cls:=.type "set_iterator",data:=.fields #[rawInt 0,rawInt 0,.ref a,rawInt es.length,rawInt n] } }):
 wpAny (model prog w) A (pyIter (.ref a)) Q E s:=by
 have hT:s.TypeIs (.ref a) "set":=⟨_,x.get,rfl⟩
 refine wpAny_pyIter_slot hT PySem.F.slot_set_iter (wpAny_call_entry PySem.F.slot_set_iter hT entry_set_iter ?_ (PySem.F.args_set_iter_1 _))
 refine wpAny_bind (wpAny_of_eq (a:=a) rfl ?_)
 refine wpAny_bind (wpAny_bind (wpAny_setEntries_of x.get rfl x.fits (wpAny_pure ?_)))
 refine wpAny_bind (wpAny_bind (wpAny_setState_of x.get rfl x.fits ?_))
 refine wpAny_bind (wpAny_bind (wpAny_askSetting (wpAny_pure (wpAny_pure ?_))))
 have hd:(!(model prog w).w.params.followText "set-order" && (!t.plain && decide (es.toArray.size > 1))) = false:=by refine wat x.plain ?_;simp
 rw [if_neg (by
  show ¬ (!(model prog w).w.params.followText "set-order" && (!t.plain && decide (es.toArray.size > 1))) = true
  refine wat hd ?_;decide)]
 refine wpAny_bind (wpAny_pure ?_)
 refine wpAny_bind (wpAny_bind (wpAny_setState_of x.get rfl x.fits (wpAny_pure ?_)))
 refine wpAny_bind ?_
 simp only [newFields]
 refine wpAny_newObj_type ?_ (by size_fits)
 refine wpAny_pure ⟨_,rfl,"set_iterator",_,⟨_,Heap.get?_push_size _ rfl,rfl⟩,slot_set_iterator_next.lookup,?_⟩
 have esz:es.toArray.size = es.length:=by simp
 simpa using hQ
theorem below_next {l:Array Nat} (hp:l.toList.Pairwise (· < ·)) {i j:Nat} (h:l.toList[i]? = some j):SetTable.below l (j + 1) = i + 1:=by
 obtain ⟨h1,h2,h3⟩:=below_spec hp (j + 1)
 rcases Nat.lt_trichotomy (SetTable.below l (j + 1)) (i + 1) with q | q | q
 · have:=h3 i j (by exact Nat.le_of_lt_succ ‹_›) h;exact Nat.le_antisymm (linLe [_,_] 1 (.v 0) (.a (.v 1) (.n 1)) [.lt 1 (.v 0) (.a (.v 1) (.n 1))] rfl q) (linLe [_,_,_] 0 (.a (.v 1) (.n 1)) (.v 2) [.le 1 (.a (.v 0) (.n 1)) (.v 0)] rfl this)
 · exact q
 · have hlt:i + 1 < l.toList.length:=by refine wat Array.length_toList ?_;exact Nat.lt_of_lt_of_le ‹_› ‹_›
   have hg:=List.getElem?_eq_getElem hlt
   have e1:=h2 (i + 1) _ q hg
   have e2:=rise hp (Nat.lt_succ_self i) h hg
   exact Nat.le_antisymm (linLe [_,_,_,_] 0 (.v 2) (.a (.v 3) (.n 1)) [.lt 1 (.v 0) (.a (.v 1) (.n 1)),.lt 1 (.v 1) (.v 0)] rfl e1 e2) (linLe [_,_] 1 (.a (.v 0) (.n 1)) (.v 1) [.lt 1 (.a (.v 0) (.n 1)) (.v 1)] rfl q)
theorem set_next {a:Addr} {ps es n t} {slot given:Nat} {Q:Option (Value×Nat)→Shared→Prop} (x:SetAt (w.params.followText "set-order") s.heap H a ps es n t)
 (l:List (Int×Value)) (hl:l = if w.params.followText "set-order" = true then (pickOrder (w.params.setOrder a n) es.toArray).toList.drop given else es.drop (SetTable.below t.place slot))
 (h1:∀ hv v l' next,l = (hv,v) :: l'→(l' = if w.params.followText "set-order" = true then (pickOrder (w.params.setOrder a n) es.toArray).toList.drop (given + 1) else es.drop (SetTable.below t.place next))→Q (some (v,next)) s)
 (h2:l = []→Q none s):wpAny (model prog w) A (setNext a slot given n) Q E s:=by
 have hplen:t.place.toList.length = es.length:=by rw [x.inv.size,List.length_map];exact x.rs.length
 have drop_cons:∀ {α:Type} {L:List α} {k:Nat} {y:α} {L':List α},L.drop k = y :: L'→L[k]? = some y∧L' = L.drop (k + 1):=by
  intro α L k y L' e
  refine ⟨?_,?_⟩
  · have:=congrArg List.head? e
    rw [List.head?_drop] at this
    simpa using this
  · have:=congrArg List.tail e
    simpa using this.symm
 have drop_nil:∀ {α:Type} {L:List α} {k:Nat},L.drop k = []→L[k]? = none:=by
  intro α L k e
  have:=congrArg List.head? e
  rw [List.head?_drop] at this
  simpa using this
 refine wpAny_bind (wpAny_setState_of x.get rfl x.fits ?_)
 refine wpAny_bind (wpAny_bind (wpAny_askSetting (wpAny_pure ?_)))
 cases hb:w.params.followText "set-order" with
 | true=>
   simp only [hb,if_true] at hl h1
   show wpAny _ _ (if w.params.followText "set-order" = true then _ else _) _ _ _
   refine wat hb (wat (if_pos rfl) (wat (if_neg (by simp)) ?_))
   refine wpAny_bind (wpAny_bind (wpAny_setState_of x.get rfl x.fits ?_))
   refine wpAny_bind (wpAny_bind (wpAny_askSetting (wpAny_pure ?_)))
   show wpAny _ _ (if w.params.followText "set-order" = true then _ else _) _ _ _
   refine wat hb (wat (if_pos rfl) ?_)
   refine wpAny_bind (wpAny_askSetting (wpAny_pure (wpAny_pure ?_)))
   have eg:(pickOrder (w.params.setOrder a n) es.toArray)[given]? = (pickOrder (w.params.setOrder a n) es.toArray).toList[given]? :=by exact wat (Array.getElem?_toList) rfl
   show Q (((pickOrder (w.params.setOrder a n) es.toArray)[given]?).map fun e=>(e.2,slot)) s
   refine wat eg ?_
   cases l with
   | nil=>refine wat (drop_nil hl.symm) ?_;exact h2 rfl
   | cons y l'=>
     obtain ⟨e1,e2⟩:=drop_cons hl.symm
     refine wat e1 ?_
     exact h1 y.1 y.2 l' slot rfl e2
 | false=>
   simp only [hb,Bool.false_eq_true,if_false] at hl h1
   show wpAny _ _ (if w.params.followText "set-order" = true then _ else _) _ _ _
   refine wat hb (wat (if_neg (by decide)) ?_)
   have hdr:(!t.plain && decide (es.toArray.size > 1)) = false:=by refine wat x.plain ?_;rfl
   show wpAny _ _ (if (!t.plain && decide (es.toArray.size > 1)) = true then _ else _) _ _ _
   refine wat hdr (wat (if_neg (by decide)) ?_)
   refine wpAny_bind ?_
   show wpAny _ _ (if (!t.led && !es.toArray.isEmpty) = true then _ else pure ()) _ _ _
   refine wat (x.led hb) ?_
   simp only [Bool.not_true,Bool.false_and,Bool.false_eq_true,if_false]
   refine wpAny_pure (wpAny_pure ?_)
   have eg:∀ k:Nat,es.toArray[k]? = es[k]? :=fun k=>List.getElem?_toArray ..
   cases l with
   | nil=>
     have:=drop_nil hl.symm
     rw [eg,this];exact h2 rfl
   | cons y l'=>
     obtain ⟨e1,e2⟩:=drop_cons hl.symm
     have hlt:SetTable.below t.place slot < t.place.toList.length:=by refine wat hplen ?_;exact (List.getElem?_eq_some_iff.mp e1).1
     have ep:=List.getElem?_eq_getElem hlt
     have ep':t.place[SetTable.below t.place slot]? = some t.place.toList[SetTable.below t.place slot]:=by refine wat (Array.getElem?_toList).symm ?_;exact ep
     rw [eg,e1,ep']
     exact h1 y.1 y.2 l' _ rfl (by rw [below_next x.inv.up ep];exact e2)
theorem next_set {it a:Addr} {ps es n t} {slot given:Nat} {Q:Option Value→Shared→Prop} (hh:A.handled = none) (x:SetAt (w.params.followText "set-order") s.heap H a ps es n t) (hit:IsSetIter s.heap it a slot given es.length n)
 (l:List (Int×Value)) (hl:l = if w.params.followText "set-order" = true then (pickOrder (w.params.setOrder a n) es.toArray).toList.drop given else es.drop (SetTable.below t.place slot))
 (h1:∀ hv v l' slot' given' h',l = (hv,v) :: l'→IsSetIter h' it a slot' given' es.length n→(l' = if w.params.followText "set-order" = true then (pickOrder (w.params.setOrder a n) es.toArray).toList.drop given' else es.drop (SetTable.below t.place slot'))→Heap.SameBut it s.heap h'→Q (some v) { s with heap:=h' })
 (h2:l = []→∀ h',Heap.ExtBut it s.heap h'→Q none { s with heap:=h' }):wpAny (model prog w) A (pyNext (.ref it)) Q E s:=by
 obtain ⟨o,ho,hc,hd⟩:=id hit
 have hT:s.TypeIs (.ref it) "set_iterator":=⟨o,ho,hc⟩
 unfold pyNext
 refine wpAny_bind (wpAny_attempt (wpAny_callSpecial?_slot (name:=Str.ofString "__next__") hT slot_set_iterator_next
  (wpAny_call_entry slot_set_iterator_next hT entry_set_iterator_next ?_ (args_set_iterator_next_1 _))))
 refine wpAny_bind (wpAny_of_eq (a:=(Value.ref it,[])) rfl ?_)
 refine wpAny_bind (wpAny_fieldsOf ho hd ?_)
 show wpAny _ _ (do
  let __do_lift ← setEntries a
  if (((__do_lift.size:Nat):Int) != (es.length:Int)) = true then _ else _) _ _ s
 refine wpAny_bind (wpAny_setEntries_of x.get rfl x.fits ?_)
 refine wat (if_neg (by simp)) ?_
 show wpAny _ _ (do
  let __do_lift ← setNext a slot given n
  match __do_lift with
  | some (x,next)=>do
    setField (.ref it) 0 (rawInt next)
    setField (.ref it) 1 (rawInt ((given:Int) + 1))
    ret x
  | none=>do
    setField (.ref it) 2 .none
    raiseNew (← newExc (.type "StopIteration") [])) _ _ s
 refine wpAny_bind (set_next x l hl (fun hv v l' next e1 e2=>?_) fun e=>?_)
 · dsimp only
   refine wpAny_bind (wpAny_setField ho hd (by show 0 < 5;decide) ?_)
   have g1:=Heap.get?_update_self (h:=s.heap) (a:=it) (Obj.mapFields (·.setIfInBounds 0 (rawInt next))) ho (Obj.isFreed_of_fields (Obj.data_mapFields hd _))
   have d1:(Obj.mapFields (·.setIfInBounds 0 (rawInt next)) o).data = .fields #[rawInt next,rawInt given,.ref a,rawInt es.length,rawInt n]:=by rw [Obj.data_mapFields hd];simp
   refine wpAny_bind (wpAny_setField g1 d1 (by show 1 < 5;decide) ?_)
   have g2:=Heap.get?_update_self (h:=s.heap.update it (Obj.mapFields (·.setIfInBounds 0 (rawInt next)))) (a:=it) (Obj.mapFields (·.setIfInBounds 1 (rawInt ((given:Int) + 1)))) g1 (Obj.isFreed_of_fields (Obj.data_mapFields d1 _))
   refine wpAny_pure ⟨_,rfl,wpAny_pure (h1 hv v l' next (given + 1) _ e1 ⟨_,g2,?_,?_⟩ e2 ((Heap.SameBut.update ..).trans (Heap.SameBut.update ..)))⟩
   · exact (Obj.cls_mapFields ..).trans ((Obj.cls_mapFields ..).trans hc)
   · rw [Obj.data_mapFields d1];simp [rawInt]
 · dsimp only
   refine wpAny_bind (wpAny_setField ho hd (by show 2 < 5;decide) ?_)
   refine wpAny_bind ?_
   simp only [newExc,newTuple]
   refine wpAny_bind (wpAny_newObj_type ?_ (by size_fits))
   refine wpAny_bind (m:=firstArgMember _ _) (wpAny_of_eq (a:=Value.none) (by first | rfl | (simp only [firstArgMember];rfl)) ?_)
   refine wpAny_newObj_type ?_ (by size_fits)
   simp only [raiseNew]
   refine wpAny_bind (wpAny_handled ?_)
   refine wat (show A.in1.handled = none from hh) ?_
   refine wpAny_bind (wpAny_pure (wpAny_throw ?_))
   refine wpAny_bind (wpAny_isInstance (T:="StopIteration") (b:=true) ⟨_,Heap.get?_push_size _ rfl,rfl⟩ isSubtype_stop ?_)
   exact wpAny_pure (h2 e _ (((Heap.SameBut.update ..).extBut.push _).push _))
theorem wp_in_set {neg:Bool} {x:Value} {p:Pt} {a:Addr} {S:List Pt} {g:Obj} {Q:Value→Shared→Prop} (i:INV w B os₀ s H) (r:RV s.heap H (.pt p) x) (ha:H a = some (.set S g))
 (hu:A.units + 40 < cLine) (h:∀ t,Q (.bool (decide (p∈S) ^^ neg)) { s with toks:=t }):wpAny (model prog w) A (compareOp (if neg then .NotIn else .In) x (.ref a)) Q E s:=by
 obtain ⟨ps,es,n,t,xa,hp,hn⟩:=setAt_of i ha
 obtain ⟨c,rfl⟩:=pt_ref r
 have hT:s.TypeIs (.ref a) "set":=⟨_,xa.get,rfl⟩
 have key:∀ {Q':Bool→Shared→Prop},(∀ tk,Q' (decide (p∈S)) { s with toks:=tk })→wpAny (model prog w) A (contains (.ref a) (.ref c)) Q' E s:=by
  intro Q' hQ
  unfold contains
  try with_reducible refine wpAny_holding ?_
  refine wpAny_bind (wpAny_specialOf hT PySem.F.slot_set_contains.lookup ?_)
  show wpAny _ _ (if (some (Value.builtin "set.__contains__") == some Value.none) = true then _ else _) _ E s
  rw [if_neg (by rw [beq_builtin_none];exact Bool.false_ne_true)]
  refine wpAny_bind (wpAny_callSpecialUnlessNone?_slot (name:=Str.ofString "__contains__") hT PySem.F.slot_set_contains
   (wpAny_call_entry PySem.F.slot_set_contains hT PySem.entry_set_contains ?_ (PySem.F.args_set_contains_2 _ _)))
  refine wpAny_bind (wpAny_of_eq rfl ?_)
  refine wpAny_bind (wpAny_tryCatch ?_)
  refine contains_set (A:=A.in1) xa r (by show A.units + 1 + 20 < cLine;exact linLt [_,_] 1 (.a (.a (.v 0) (.n 1)) (.n 20)) (.v 1) [.lt 1 (.a (.v 0) (.n 40)) (.v 1)] rfl hu) fun tk=>?_
  have e:decide (p∈ps) = decide (p∈S):=by rw [Bool.eq_iff_iff];simp [hp.mem_iff]
  refine wat e ?_
  exact wpAny_pure ⟨_,rfl,wpAny_truthy_bool (hQ tk)⟩
 cases neg with
 | false=>
   show wpAny _ _ (do return .bool (← contains (.ref a) (.ref c))) Q E s
   exact wpAny_bind (key fun tk=>wpAny_pure (by simpa using h tk))
 | true=>
   show wpAny _ _ (do return .bool (!(← contains (.ref a) (.ref c)))) Q E s
   exact wpAny_bind (key fun tk=>wpAny_pure (by simpa using h tk))
end
noncomputable def intsFrom (x step:Int) (n:Nat):List Int:=(List.range n).map fun (k:Nat)=>x + step * (k:Int)
theorem intsFrom_succ (x step:Int) (n:Nat):intsFrom x step (n + 1) = x :: intsFrom (x + step) step n:=by
 unfold intsFrom
 refine wat List.range_succ_eq_map (wat List.map_cons (wat List.map_map ?_))
 congr 1
 · simp
 · apply List.map_congr_left
   intro k _
   simp only [Function.comp_apply,Nat.succ_eq_add_one]
   push_cast
   rw [Int.mul_add];lia
noncomputable def ItR (w:World) (h:Heap) (H:AHeap) (v u:Addr):It→Prop
 | .list a i=>u = v∧h.IsListIter v a i
 | .ints xs=>u = v∧(X3 fun x left step=>A2 (IsRangeIter h v x left step) (xs = intsFrom x step left.toNat))
 | .enum a i=>u≠v∧(∃ old,IsEnum h v u i old)∧h.IsListIter u a i
 | .dict a es g i=>u = v∧(X2 fun xs n=>A2 (g = dictO xs n) (h.IsKeyIter v a i xs.length n))
 | .set a S g rest=>u = v∧(X6 fun es n t slot given l=>A4 (g = setO es n t) (IsSetIter h v a slot given es.length n) (RS h H rest l) (l = if w.params.followText "set-order" = true then (pickOrder (w.params.setOrder a n) es.toArray).toList.drop given else es.drop (SetTable.below t.place slot)))
noncomputable def twoOf (v u:Addr):Addr→Prop:=fun b=>b = v∨b = u
theorem ItR.live {w h H v u it} (x:ItR w h H v u it):(X2 fun o vs=>A2 (h.get? v = some o) (o.data = .fields vs)):=by
 cases it with
 | list a i=>obtain ⟨_,o,ho,hc,hd⟩:=x;exact ⟨o,_,ho,hd⟩
 | «ints» xs=>obtain ⟨_,a,b,c,ho,_⟩:=x;exact ⟨_,_,ho,rfl⟩
 | enum a i=>obtain ⟨_,⟨old,ho⟩,_⟩:=x;exact ⟨_,_,ho,rfl⟩
 | dict a es g i=>obtain ⟨_,xs,n,_,o,ho,hc,hd⟩:=x;exact ⟨o,_,ho,hd⟩
 | set a S g rest=>obtain ⟨_,es,n,t,sl,gv,l,_,⟨o,ho,hc,hd⟩,_⟩:=x;exact ⟨o,_,ho,hd⟩
theorem ItR.live2 {w h H v u it} (x:ItR w h H v u it):(X2 fun o vs=>A2 (h.get? u = some o) (o.data = .fields vs)):=by
 cases it with
 | enum a i=>obtain ⟨_,_,o,ho,hc,hd⟩:=x;exact ⟨o,_,ho,hd⟩
 | list a i=>have:=x.live;refine wat x.1 ?_;exact this
 | «ints» xs=>have:=x.live;refine wat x.1 ?_;exact this
 | dict a es g i=>have:=x.live;refine wat x.1 ?_;exact this
 | set a S g rest=>have:=x.live;refine wat x.1 ?_;exact this
theorem ItR.at {w h H h' H' v u it} (x:ItR w h H v u it) (ev:∀ o,h.get? v = some o→h'.get? v = some o) (eu:∀ o,h.get? u = some o→h'.get? u = some o) (rs:∀ ps es,RS h H ps es→RS h' H' ps es):ItR w h' H' v u it:=by
 cases it with
 | list a i=>obtain ⟨e,o,ho,hc,hd⟩:=x;exact ⟨e,o,ev o ho,hc,hd⟩
 | «ints» xs=>obtain ⟨e,a,b,c,ho,r⟩:=x;exact ⟨e,a,b,c,ev _ ho,r⟩
 | enum a i=>obtain ⟨e,⟨old,ho⟩,o,ho',hc,hd⟩:=x;exact ⟨e,⟨old,ev _ ho⟩,o,eu o ho',hc,hd⟩
 | dict a es g i=>obtain ⟨e,xs,n,eg,o,ho,hc,hd⟩:=x;exact ⟨e,xs,n,eg,o,ev o ho,hc,hd⟩
 | set a S g rest=>obtain ⟨e,es,n,t,sl,gv,l,eg,⟨o,ho,hc,hd⟩,r,q⟩:=x;exact ⟨e,es,n,t,sl,gv,l,eg,⟨o,ev o ho,hc,hd⟩,rs _ _ r,q⟩
theorem ItR.ext {w h H h' H' v u it} {own:Addr→Prop} (x:ItR w h H v u it) (ex:Ext own h H h' H') (ok:OwnOk own h) (hv:H v = none) (hu:H u = none) (nv:¬ own v) (nu:¬ own u):ItR w h' H' v u it:=by
 obtain ⟨o,vs,ho,hc⟩:=x.live
 obtain ⟨o2,vs2,ho2,hc2⟩:=x.live2
 refine x.at (fun q hq=>?_) (fun q hq=>?_) fun ps es r=>r.ext ex ok
 · rw [ho] at hq;obtain rfl:=Option.some.inj hq;exact ex.keep v o ho hv nv (fun _ _ q=>by rw [hc] at q;cases q)
 · rw [ho2] at hq;obtain rfl:=Option.some.inj hq;exact ex.keep u o2 ho2 hu nu (fun _ _ q=>by rw [hc2] at q;cases q)
section
variable {prog:Program} {w:World} {B:Heap} {os₀:OsState} {A:Around} {s:Shared} {H:AHeap} {E:Value→Shared→Prop}
theorem twoOk {v u:Addr} {it:It} (x:ItR w s.heap H v u it):OwnOk (twoOf v u) s.heap:=by
 rintro b o (rfl | rfl) hb x1 y1 hd
 · obtain ⟨o',vs,ho,hd'⟩:=x.live;rw [ho] at hb;cases hb;rw [hd] at hd';cases hd'
 · obtain ⟨o',vs,ho,hd'⟩:=x.live2;rw [ho] at hb;cases hb;rw [hd] at hd';cases hd'
theorem Ext.two {v u:Addr} {h h':Heap} (keep:∀ b o,b≠v→b≠u→h.get? b = some o→h'.get? b = some o):Ext (twoOf v u) h H h' H:=
 ⟨fun _ _ _ n _=>n,fun b o e _ no _=>keep b o (fun q=>no (.inl q)) (fun q=>no (.inr q)) e,fun b o e _ no=>⟨o.slots,keep b o (fun q=>no (.inl q)) (fun q=>no (.inr q)) e⟩,fun b o e no=>⟨o,keep b o (fun q=>no (.inl q)) (fun q=>no (.inr q)) e⟩⟩
theorem Inv.two {byText:Bool} {v u:Addr} {it:It} {s':Shared} (i:Inv byText B os₀ s H) (x:ItR w s.heap H v u it) (hv:H v = none) (hu:H u = none) (bv:B.get? v = none) (bu:B.get? u = none) (ex:Ext (twoOf v u) s.heap H s'.heap H)
 (keep:∀ b o,b≠v→b≠u→s.heap.get? b = some o→s'.heap.get? b = some o) (hg:s'.gens = s.gens) (ho:s'.os = s.os):Inv byText B os₀ s' H:=by
 have ne:∀ b ob,B.get? b = some ob→b≠v∧b≠u:=fun b ob e=>⟨fun q=>(by rw [q,bv] at e;exact no1 e),fun q=>(by rw [q,bu] at e;exact no1 e)⟩
 refine ⟨fun b ob e=>⟨keep b ob (ne b ob e).1 (ne b ob e).2 (i.base b ob e).1,(i.base b ob e).2⟩,fun b o e=>?_,hg.trans i.gens,ho.trans i.os⟩
 obtain ⟨ob,q⟩:=(i.rep b o e).live
 have nv:b≠v:=fun z=>by rw [z,hv] at e;exact no1 e
 have nu:b≠u:=fun z=>by rw [z,hu] at e;exact no1 e
 exact (i.rep b o e).ext ex (twoOk x) ((keep b ob nv nu q).trans q.symm)
structure Turned (w:World) (B:Heap) (os₀:OsState) (s:Shared) (H:AHeap) (v u:Addr) (s':Shared):Prop where
 inv:INV w B os₀ s' H
 ext:Ext (twoOf v u) s.heap H s'.heap H
noncomputable def notEnumIt:It→Bool
 | .enum .. =>false
 | _=>true
inductive Nx (H:AHeap):It→Option (AV×It)→Prop
 | list {a:Addr} {xs:List AV} {i:Nat}:H a = some (.list xs)→Nx H (.list a i) (xs[i]?.map fun x=>(x,.list a (i + 1)))
 | ints {xs:List Int}:Nx H (.ints xs) (xs.head?.map fun x=>(.int x,.ints xs.tail))
 | enum {a:Addr} {xs:List AV} {i:Nat}:H a = some (.list xs)→Nx H (.enum a i) (xs[i]?.map fun x=>(.pair (.int i) x,.enum a (i + 1)))
 | dict {a:Addr} {es:List (Pt×AV)} {g:Obj} {i:Nat}:H a = some (.dict es g)→Nx H (.dict a es g i) (es[i]?.map fun e=>(.pt e.1,.dict a es g (i + 1)))
 | set {a:Addr} {S r:List Pt} {g:Obj}:H a = some (.set S g)→Nx H (.set a S g r) (r.head?.map fun p=>(.pt p,.set a S g r.tail))
theorem asList_of {o:Option AO} {xs:List AV} (h:o.bind AO.asList = some xs):o = some (.list xs):=by
 cases o with
 | none=>exact no1 h
 | some o=>cases o<;>first | exact congrArg (fun x=>some (AO.list x)) (Option.some.inj h) | exact no1 h
theorem nx {H:AHeap} {it:It} {r:Option (AV×It)} (h:nextA H it = some r):Nx H it r:=by
 cases it with
 | list a i=>obtain ⟨xs,hx,rfl⟩:=Option.map_eq_some_iff.mp h;exact .list (asList_of hx)
 | «ints» xs=>obtain rfl:=Option.some.inj h;exact .ints
 | enum a i=>obtain ⟨xs,hx,rfl⟩:=Option.map_eq_some_iff.mp h;exact .enum (asList_of hx)
 | dict a es g i=>
   by_cases c:H a = some (.dict es g)
   · obtain rfl:=Option.some.inj ((nextA_dict c).symm.trans h);exact .dict c
   · exact no1 ((if_neg c).symm.trans h)
 | set a S g r=>
   by_cases c:H a = some (.set S g)
   · obtain rfl:=Option.some.inj ((nextA_set c).symm.trans h);exact .set c
   · exact no1 ((if_neg c).symm.trans h)
theorem kind_map {α:Type} {o:Option α} {f:α→AV×It} {it it':It} {y:AV} (h:o.map f = some (y,it')) (k:∀ x,notEnumIt (f x).2 = notEnumIt it∧notSetIt (f x).2 = notSetIt it:=by exact fun _=>⟨rfl,rfl⟩):notEnumIt it' = notEnumIt it∧notSetIt it' = notSetIt it:=by
 obtain ⟨x,_,e⟩:=Option.map_eq_some_iff.mp h
 have:=k x
 rw [e] at this
 exact this
set_option tactic.hygienic true in
theorem wp_next {v u:Addr} {it:It} {r:Option (AV×It)} {Q:Option Value→Shared→Prop} (hh:A.handled = none) (i:INV w B os₀ s H) (hne:notEnumIt it = true) (x:ItR w s.heap H v u it) (hv:H v = none) (bv:B.get? v = none) (hn:nextA H it = some r)
 (h1:r = none→∀ s',Turned w B os₀ s H v u s'→Q none s')
 (h2:∀ y it' val s',r = some (y,it')→Turned w B os₀ s H v u s'→RV s'.heap H y val→ItR w s'.heap H v u it'→Q (some val) s'):wpAny (model prog w) A (pyNext (.ref v)) Q E s:=by
 have hu:u = v:=by cases it<;>first | exact x.1 | exact nob hne
 subst hu
 have fin:∀ {s':Shared},Heap.ExtBut u s.heap s'.heap→s'.gens = s.gens→s'.os = s.os→Turned w B os₀ s H u u s':=fun {s'} eb hg ho=>by
  have keep:∀ b o,b≠u→b≠u→s.heap.get? b = some o→s'.heap.get? b = some o:=fun b o q _ e=>eb b o q e
  have ex:=Ext.two (H:=H) keep
  exact ⟨Inv.two i x hv hv bv bv ex keep hg ho,ex⟩
 have rs:∀ {s':Shared},Turned w B os₀ s H u u s'→∀ {a:AV} {y:Value},RV s.heap H a y→RV s'.heap H a y:=fun t _ _ r=>r.ext t.ext (twoOk x)
 have hn:=nx hn
 cases hn with
 | @list a xs j ha=>
   obtain ⟨_,hit⟩:=id x
   obtain ⟨vs,n,e,rv⟩:=isList_of i ha
   cases hx:xs[j]? with
   | some y=>
     obtain ⟨val,hval,rval⟩:=rv.get hx
     refine wpAny_pyNext_list_item hit (listO_isList e) (by simpa using hval) fun h' hit' sb=>?_
     have tr:=fin (s':={ s with heap:=h' }) sb.extBut rfl rfl
     exact h2 y (.list a (j + 1)) val _ (by refine wat hx ?_;rfl) tr (rs tr rval) ⟨rfl,hit'⟩
   | none=>
     refine wpAny_pyNext_list_end hh hit (listO_isList e) ?_ fun h' eb=>h1 (by refine wat hx ?_;rfl) _ (fin (s':={ s with heap:=h' }) eb rfl rfl)
     refine wat (List.getElem?_toArray) ?_
     exact List.getElem?_eq_none (by refine wat (rv.length).symm ?_;exact List.getElem?_eq_none_iff.mp hx)
 | @«ints» xs=>
   obtain ⟨_,a,left,step,hit,hxs⟩:=id x
   cases xs with
   | nil=>
     have hle:left≤0:=by
      have:=congrArg List.length hxs
      simp [intsFrom] at this;omega
     exact wpAny_pyNext_range_end hh hit hle fun h' eb=>h1 rfl _ (fin (s':={ s with heap:=h' }) eb rfl rfl)
   | cons y ys=>
     have hlt:0 < left:=by
      have:=congrArg List.length hxs
      simp [intsFrom] at this;omega
     obtain ⟨m,hm⟩:∃ m,left.toNat = m + 1:=⟨left.toNat - 1,by lia⟩
     rw [hm,intsFrom_succ] at hxs
     injection hxs with e1 e2
     subst e1
     refine wpAny_pyNext_range_item hit hlt fun h' hit' sb=>?_
     have tr:=fin (s':={ s with heap:=h',toks:=s.toks + 1 }) sb.extBut rfl rfl
     refine h2 (.int y) (.ints ys) _ _ rfl tr .int ⟨rfl,_,_,_,hit',?_⟩
     exact wat e2 (wat (show (left - 1).toNat = m by omega) rfl)
 | enum=>exact nob hne
 | @dict a es' g' j ha=>
   refine bc fun nG=>?_
   obtain ⟨_,xs,n,hg,hit⟩:=id x
   refine nG ?_
   · · obtain ⟨xs',n',e,eg,rd,hnd⟩:=i.rep a _ ha
       have eg':=eg
       rw [hg] at eg
       simp only [dictO,Obj.mk.injEq,Data.dict.injEq] at eg
       refine bc fun nG=>?_
       obtain ⟨_,_,⟨h3,h4⟩,_⟩:=eg
       refine nG ?_
       have hlen:xs.length = xs'.length:=by have:=congrArg Array.size h3;simpa using this
       rw [hlen,h4] at hit
       refine next_dict hh hit e (fun p c v h' hx hit' sb=>?_) fun hx h' eb=>?_
       · have hlt:j < es'.length:=by refine wat rd.length ?_;exact (List.getElem?_eq_some_iff.mp hx).1
         obtain ⟨p',c',uu,v',q1,q2,q3,q4⟩:=rd.at hlt
         rw [hx] at q2
         cases q2
         have tr:=fin (s':={ s with heap:=h' }) sb.extBut rfl rfl
         exact h2 _ (.dict a es' g' (j + 1)) _ _ (by refine wat q1 ?_;rfl) tr (rs tr q3) ⟨rfl,_,_,eg',hit'⟩
       · have:es'[j]? = none:=by
          have:=List.getElem?_eq_none_iff.mp hx
          have:=rd.length
          exact List.getElem?_eq_none (by omega)
         exact h1 (by refine wat this ?_;rfl) _ (fin (s':={ s with heap:=h' }) eb rfl rfl)
 | @set a S' rest g' ha=>
   obtain ⟨_,es,n,t,slot,given,l,hg,hit,hrs,hl⟩:=id x
   · · refine bc fun nG=>?_
       obtain ⟨es',n',t',ps,e,eg,r0,hp,hn',hI,hpl,hld⟩:=i.rep a _ ha
       refine nG ?_
       rw [hg] at eg
       simp only [setO,Obj.mk.injEq,Data.set.injEq] at eg
       refine bc fun nG=>?_
       obtain ⟨_,_,⟨e1,e2,e3⟩,_⟩:=eg
       refine nG ?_
       have e1':es = es':=by simpa using e1
       subst e1' e2 e3
       have xa:SetAt (w.params.followText "set-order") s.heap H a ps es n t:=⟨e,r0,hp.nodup_iff.mpr hn',hI,hpl,hld⟩
       refine next_set hh xa hit l hl (fun hv v l' slot' given' h' el hit' hl' sb=>?_) fun el h' eb=>?_
       · subst el
         cases hrs with
         | @cons p _ ps' _ rp rps=>
           have tr:=fin (s':={ s with heap:=h' }) sb.extBut rfl rfl
           exact h2 _ _ _ _ rfl tr (rs tr rp) ⟨rfl,es,n,t,slot',given',l',hg,hit',rps.ext tr.ext (twoOk x),hl'⟩
       · subst el
         cases hrs
         exact h1 rfl _ (fin (s':={ s with heap:=h' }) eb rfl rfl)
end
noncomputable def IsTupE (t:Expr):Prop:=X3 fun xs k p=>t = .Tuple xs k p
noncomputable def IsNamE (t:Expr):Prop:=X2 fun x p=>t = .Name x p
noncomputable def itCls:It→String
 | .list .. =>"list_iterator"
 | .ints .. =>"range_iterator"
 | .enum .. =>"enumerate"
 | .dict .. =>"dict_keyiterator"
 | .set .. =>"set_iterator"
theorem ItR.cls {w h H v u it} (x:ItR w h H v u it):(X2 fun o vs=>A3 (h.get? v = some o) (o.data = .fields vs) (o.cls = .type (itCls it))):=by
 cases it with
 | list a i=>obtain ⟨_,o,ho,hc,hd⟩:=x;exact ⟨o,_,ho,hd,hc⟩
 | «ints» xs=>obtain ⟨_,a,b,c,ho,_⟩:=x;exact ⟨_,_,ho,rfl,rfl⟩
 | enum a i=>obtain ⟨_,⟨old,ho⟩,_⟩:=x;exact ⟨_,_,ho,rfl,rfl⟩
 | dict a es g i=>obtain ⟨_,xs,n,_,o,ho,hc,hd⟩:=x;exact ⟨o,_,ho,hd,hc⟩
 | set a S g rest=>obtain ⟨_,es,n,t,sl,gv,l,_,⟨o,ho,hc,hd⟩,_⟩:=x;exact ⟨o,_,ho,hd,hc⟩
section
variable {prog:Program} {w:World} {B:Heap} {os₀:OsState} {A:Around} {s:Shared} {H:AHeap} {E:Value→Shared→Prop}
theorem letOwned_other {target:Expr} {v u:Addr} {it:It} {val:Value} {Q:Unit→Shared→Prop} (ht:IsTupE target∨IsNamE target) (hne:notEnumIt it = true) (x:ItR w s.heap H v u it) (q:Q () s):
 wpAny (model prog w) A (letOwnedTupleGo target (.ref v) val) Q E s:=by
 rcases ht with ⟨es,k,p,rfl⟩ | ⟨n,p,rfl⟩
 · obtain ⟨o,vs,ho,hd,hc⟩:=x.cls
   cases val<;>try exact wpAny_pure q
   refine wpAny_bind (wpAny_load ho ?_)
   refine wat hc (wat hd ?_)
   have hf:(["enumerate","zip","dict_itemiterator","dict_reverseitemiterator","odict_iterator","itertools.zip_longest","itertools.pairwise"].contains (itCls it)) = false:=by
    cases it<;>first | (simp only [notEnumIt,Bool.false_eq_true] at hne;done) | (simp [itCls])
   dsimp only
   refine wat hf ?_
   exact wpAny_pure q
 · exact wpAny_pure q
theorem nextA_kind {it it':It} {y:AV} (h:nextA H it = some (some (y,it'))):notEnumIt it' = notEnumIt it∧notSetIt it' = notSetIt it:=by
 have x:=nx h
 generalize e:some (y,it') = r at x
 cases x with
 | list=>exact kind_map e.symm
 | «ints»=>exact kind_map e.symm
 | enum=>exact kind_map e.symm
 | dict=>exact kind_map e.symm
 | set=>exact kind_map e.symm
set_option tactic.hygienic true in
theorem wp_turn {target:Expr} {v u:Addr} {it:It} {r:Option (AV×It)} {Qe:Shared→Prop} {Qi:Value→Shared→Prop} (hh:A.handled = none) (i:INV w B os₀ s H) (ht:IsTupE target∨(IsNamE target∧notEnumIt it = true))
 (x:ItR w s.heap H v u it) (hv:H v = none) (hu:H u = none) (bv:B.get? v = none) (bu:B.get? u = none) (hn:nextA H it = some r)
 (h1:r = none→∀ s',Turned w B os₀ s H v u s'→Qe s')
 (h2:∀ y it' val s',r = some (y,it')→Turned w B os₀ s H v u s'→RV s'.heap H y val→ItR w s'.heap H v u it'→Qi val s'):
 wpAny (model prog w) A (pyNext (.ref v)) (fun r s₁=>match r with
  | none=>Qe s₁
  | some val=>wpAny (model prog w) A (letOwnedTupleGo target (.ref v) val) (fun _ s₂=>Qi val s₂) E s₁) E s:=by
 cases hne:notEnumIt it with
 | true=>
   refine wp_next hh i hne x hv bv hn (fun e s' t=>h1 e s' t) fun y it' val s' e t rv x'=>?_
   have hne':notEnumIt it' = true:=by refine wat ((nextA_kind (hn.trans (congrArg some e))).1) ?_;exact hne
   exact letOwned_other (ht.imp id fun q=>q.1) hne' x' (h2 y it' val s' e t rv x')
 | false=>
   have ht':IsTupE target:=ht.elim id fun q=>by rw [q.2] at hne;exact nob' hne
   obtain ⟨es,k,p,rfl⟩:=ht'
   have hn:=nx hn
   cases hn with
   | @enum a xs j ha=>
     refine bc fun nG=>?_
     obtain ⟨huv,⟨old,hen⟩,hli⟩:=id x
     refine nG ?_
     have mk:∀ {s':Shared},(∀ b o,b≠v→b≠u→s.heap.get? b = some o→s'.heap.get? b = some o)→s'.gens = s.gens→s'.os = s.os→Turned w B os₀ s H v u s':=fun {s'} keep hg ho=>
      ⟨Inv.two i x hv hu bv bu (Ext.two keep) keep hg ho,Ext.two keep⟩
     · obtain ⟨vs,n,e,rv⟩:=isList_of i ha
       cases hx:xs[j]? with
       | some y=>
         obtain ⟨val,hval,rval⟩:=rv.get hx
         refine wpAny_pyNext_enum_item hen hli (listO_isList e) (by simpa using hval) (Ne.symm huv) fun h' ho hi htup hsz keep=>?_
         have hnew:v≠s.heap.objs.size:=fun q=>absurd (Heap.lt_size hen) (by refine wat q ?_;exact Nat.lt_irrefl _)
         have hnewu:u≠s.heap.objs.size:=fun q=>by obtain ⟨o,hou,_⟩:=hli;exact absurd (Heap.lt_size hou) (by refine wat q ?_;exact Nat.lt_irrefl _)
         refine wpAny_letOwnedTupleGo_enum ho fun h'' hen' sb=>?_
         have keep2:∀ b o,b≠v→b≠u→s.heap.get? b = some o→h''.get? b = some o:=fun b o q1 q2 q3=>(sb.2 b q1).trans (keep b o q1 q2 q3)
         have tr:=mk (s':={ s with heap:=h'',toks:=s.toks + 1 }) keep2 rfl rfl
         have hHnew:H s.heap.objs.size = none:=i.freshSize
         refine h2 (.pair (.int j) y) (.enum a (j + 1)) _ _ (by refine wat hx ?_;rfl) tr ?_ ⟨huv,⟨_,by exact_mod_cast hen'⟩,?_⟩
         · refine .pair ((sb.2 _ (Ne.symm hnew)).trans htup) hHnew .int (rval.ext tr.ext (twoOk x))
         · refine bc fun nG=>?_
           obtain ⟨o,hou,hc,hd⟩:=hi
           refine nG ?_
           exact ⟨o,(sb.2 u huv).trans hou,hc,hd⟩
       | none=>
         refine wpAny_pyNext_enum_end hh hen hli (listO_isList e) ?_ fun h' eb=>h1 (by refine wat hx ?_;rfl) _ (mk (s':={ s with heap:=h' }) (fun b o _ q e=>eb b o q e) rfl rfl)
         refine wat (List.getElem?_toArray) ?_
         exact List.getElem?_eq_none (by refine wat (rv.length).symm ?_;exact List.getElem?_eq_none_iff.mp hx)
   | list=>exact nob' hne
   | «ints»=>exact nob' hne
   | dict=>exact nob' hne
   | set=>exact nob' hne
structure Made (w:World) (B:Heap) (os₀:OsState) (s:Shared) (H:AHeap) (v u:Addr) (it:It) (s':Shared):Prop where
 inv:INV w B os₀ s' H
 ext:ExtE s.heap H s'.heap H
 it:ItR w s'.heap H v u it
 newv:s.heap.get? v = none
 newu:s.heap.get? u = none
 freev:H v = none
 freeu:H u = none
theorem made_push {o:Obj} {it:It} {tk:Nat} (i:INV w B os₀ s H) (x:ItR w (s.heap.push o) H s.heap.objs.size s.heap.objs.size it):Made w B os₀ s H s.heap.objs.size s.heap.objs.size it { s with heap:=s.heap.push o,toks:=tk }:=
 ⟨i.grow (push_keeps _ _) rfl rfl,ExtE.grow (push_keeps _ _),x,get?_size _,get?_size _,i.freshSize,i.freshSize⟩
theorem wp_iterOf {av:AV} {x:Value} {K:It→Prop} {Q:Value→Shared→Prop} (i:INV w B os₀ s H) (hs:∃ o,B.get? sysModules = some o) (rv:RV s.heap H av x) (h:IterR H K av)
 (q:∀ v u it s',K it→notEnumIt it = true→Made w B os₀ s H v u it s'→Q (.ref v) s'):wpAny (model prog w) A (pyIter x) Q E s:=by
 cases h with
 | list ha h=>
  obtain rfl:=rv.vref
  refine bc fun nG=>?_
  obtain ⟨vs,n,e,r⟩:=isList_of i ha
  refine nG ?_
  refine wpAny_pyIter_list (listO_isList e) ?_
  exact q _ _ _ _ h rfl (made_push (tk:=s.toks) i ⟨rfl,_,Heap.get?_push_size _ rfl,rfl,rfl⟩)
 | dict ha h=>
  obtain rfl:=rv.vref
  obtain ⟨xs,n,e,eg,rd,hn⟩:=i.rep _ _ ha
  refine iter_dict (notSys i hs ha) e ?_
  exact q _ _ _ _ h rfl (made_push (tk:=s.toks) i ⟨rfl,xs,n,eg,_,Heap.get?_push_size _ rfl,rfl,rfl⟩)
 | @set a S g ha h=>
  obtain rfl:=rv.vref
  refine bc fun nG=>?_
  obtain ⟨es,n,t,ps,e,eg,r0,hp,hn,hI,hpl,hld⟩:=i.rep a _ ha
  refine nG ?_
  have xa:SetAt (w.params.followText "set-order") s.heap H a ps es n t:=⟨e,r0,hp.nodup_iff.mpr hn,hI,hpl,hld⟩
  refine iter_set xa ?_
  have key:(X2 fun ps' l=>A3 (ps'.Perm ps) (RS s.heap H ps' l) (l = if w.params.followText "set-order" = true then (pickOrder (w.params.setOrder a n) es.toArray).toList.drop 0 else es.drop (SetTable.below t.place 0))):=by
   cases hb:w.params.followText "set-order" with
   | true=>
     have hperm:=pick_perm (w.params.setOrder a n) es.toArray
     refine bc fun nG=>?_
     obtain ⟨ps',p1,p2⟩:=r0.permL (pickOrder (w.params.setOrder a n) es.toArray).toList (by simpa using hperm.symm)
     refine nG ?_
     exact ⟨ps',_,p1,p2,rfl⟩
   | false=>
     have:SetTable.below t.place 0 = 0:=by
      obtain ⟨b1,b2,b3⟩:=below_spec hI.up 0
      rcases Nat.eq_zero_or_pos (SetTable.below t.place 0) with h | h
      · exact h
      · have hlt:0 < t.place.toList.length:=by refine wat Array.length_toList ?_;exact Nat.lt_of_lt_of_le ‹_› ‹_›
        have:=b2 0 _ h (List.getElem?_eq_getElem hlt)
        exact absurd ‹_› (Nat.not_lt_zero _)
     refine wat this (wat List.drop_zero ?_)
     exact ⟨ps,es,.refl _,r0,rfl⟩
  refine bc fun nG=>?_
  obtain ⟨ps',l,k1,k2,k3⟩:=key
  refine nG ?_
  have x':ExtE s.heap H (s.heap.push { cls:=.type "set_iterator",data:=.fields #[rawInt 0,rawInt 0,.ref a,rawInt es.length,rawInt n] }) H:=ExtE.grow (push_keeps _ _)
  exact q _ _ _ _ (h ps' (k1.trans hp)) rfl (made_push (tk:=s.toks) i ⟨rfl,es,n,t,0,0,l,eg,⟨_,Heap.get?_push_size _ rfl,rfl,rfl⟩,k2.ext x' .nobody,k3⟩)
end
section
variable (prog:Program) (w:World) (B:Heap) (os₀:OsState) (C:CallSem) (n:Nat)
structure FR (A:Around) (s:Shared) (H:AHeap) (sc:Scope) (vars:List Str) (env:Env) (ρ:Loc):Prop where
 cx:Cx B A s.heap H
 room:RoomF n A
 inv:INV w B os₀ s H
 ev:EnvR s.heap H sc vars env ρ
 ownB:∀ b,own env b→B.get? b = none
noncomputable def RB (Q:Bool→AHeap→Prop) (b:Bool) (s':Shared) (H':AHeap):Prop:=Q b H'
inductive RQs (Q:List AV→AHeap→Prop) (vs:List Value) (s':Shared) (H':AHeap):Prop
 | mk (as:List AV):RVs s'.heap H' as vs→Q as H'→RQs Q vs s' H'
noncomputable def SE (e:E):Prop:=∀ sc vars ex,TrE sc vars e ex→∀ A s H env ρ Q X,FR w B os₀ n A s H sc vars env ρ→awp C e ρ H Q X→WpE prog w B os₀ A (eval ex env) s H (RQ Q) X
noncomputable def SEL (es:EL):Prop:=∀ sc vars exs pos,TrEL sc vars es exs→∀ A s H env ρ Q X,FR w B os₀ n A s H sc vars env ρ→awps C es ρ H Q X→WpE prog w B os₀ A (spliced (backTo pos (starEach exs env))) s H (fun vs s' H'=>vs.length = exs.length∧RQs Q vs s' H') X
noncomputable def ST (t:T):Prop:=∀ sc vars ex,TrT sc vars t ex→∀ A s H env ρ Q X,FR w B os₀ n A s H sc vars env ρ→awpT C t ρ H Q X→WpE prog w B os₀ A (isTrue ex env (eval ex env)) s H (RB Q) X
noncomputable def STL (ts:TL):Prop:=∀ sc vars exs,TrTL sc vars ts exs→∀ A s H env ρ Q X,FR w B os₀ n A s H sc vars env ρ→
 (awpAll C ts ρ H Q X→WpE prog w B os₀ A (allTrue .And exs env) s H (RB Q) X)∧(awpAny C ts ρ H Q X→WpE prog w B os₀ A (allTrue .Or exs env) s H (RB Q) X)
end
section
variable {prog:Program} {w:World} {B:Heap} {os₀:OsState} {C:CallSem} {n:Nat} {A:Around} {s:Shared} {H:AHeap} {K:Frag} {mg mb:Str→Option Value}
variable {sc:Scope} {vars:List Str} {env:Env} {ρ:Loc} {X:AHeap→Prop}
theorem FR.ext (f:FR w B os₀ n A s H sc vars env ρ) {s':Shared} {H':AHeap} (i:INV w B os₀ s' H') (x:ExtE s.heap H s'.heap H'):FR w B os₀ n A s' H' sc vars env ρ:=
 ⟨f.cx.ext x,f.room,i,f.ev.ext x,f.ownB⟩
theorem FR.units (f:FR w B os₀ n A s H sc vars env ρ):A.units + 200 < cLine:=by have:=f.room.2;exact linLt [_,_,_] 1 (.a (.v 0) (.n 200)) (.v 2) [.lt 1 (.a (.a (.v 0) (.m 40 (.v 1))) (.n 310)) (.v 2)] rfl this
theorem FR.toks (f:FR w B os₀ n A s H sc vars env ρ) (t:Nat):FR w B os₀ n A { s with toks:=t } H sc vars env ρ:=⟨f.cx,f.room,f.inv.toks t,f.ev,f.ownB⟩
theorem WpE.step {α:Type} {m:Sem α} {R:α→Shared→AHeap→Prop} {G:α→Shared→Prop} (h:WpE prog w B os₀ A m s H R X) (k:∀ a s' H',INV w B os₀ s' H'→ExtE s.heap H s'.heap H'→R a s' H'→G a s'):
 wpAny (model prog w) A m G (XE w B os₀ A s.heap H X) s:=
 wpAny_mono h (fun a s₁ ⟨H₁,i,x,r⟩=>k a s₁ H₁ i x r) fun _ _ h'=>h'
theorem WpE.lift {α:Type} {t:Sem α} {s₁:Shared} {H₁:AHeap} {R:α→Shared→AHeap→Prop} (x:ExtE s.heap H s₁.heap H₁) (h:WpE prog w B os₀ A t s₁ H₁ R X):
 wpAny (model prog w) A t (OkE w B os₀ s.heap H R) (XE w B os₀ A s.heap H X) s₁:=by
 refine wpAny_mono h (fun b s₂ h₂=>?_) fun e s₂ h₂=>?_
 · obtain ⟨H₂,i₂,x₂,r⟩:=h₂
   exact ⟨H₂,i₂,Ext.trans x x₂,r⟩
 · obtain ⟨H₂,i₂,x₂,q,r⟩:=h₂
   exact ⟨H₂,i₂,Ext.trans x x₂,q.mono (fun b o e=>x.live b o e id),r⟩
theorem WpE.stepL {α:Type} {m:Sem α} {s₁:Shared} {H₁:AHeap} {R:α→Shared→AHeap→Prop} {G:α→Shared→Prop} (x:ExtE s.heap H s₁.heap H₁) (h:WpE prog w B os₀ A m s₁ H₁ R X)
 (k:∀ a s' H',INV w B os₀ s' H'→ExtE s₁.heap H₁ s'.heap H'→ExtE s.heap H s'.heap H'→R a s' H'→G a s'):
 wpAny (model prog w) A m G (XE w B os₀ A s.heap H X) s₁:=by
 refine wpAny_mono h (fun a s₂ ⟨H₂,i₂,x₂,r⟩=>k a s₂ H₂ i₂ x₂ (Ext.trans x x₂) r) fun e s₂ h₂=>?_
 obtain ⟨H₂,i₂,x₂,q,r⟩:=h₂
 exact ⟨H₂,i₂,Ext.trans x x₂,q.mono (fun b o e=>x.live b o e id),r⟩
theorem SE_var (i:Nat):SE prog w B os₀ C n (.var i):=by
 intro sc vars ex hc A s H env ρ Q X f h
 obtain ⟨x,p,rfl,hc⟩:=hc
 obtain ⟨av,hr,h⟩:=h
 exact wp_var f.inv f.ev hc hr h
theorem SE_none:SE prog w B os₀ C n .none:=by
 intro sc vars ex hc A s H env ρ Q X f h
 obtain ⟨k,p,rfl⟩:=hc
 exact wpAny_Constant_none ⟨H,f.inv,Ext.refl _ _ _,_,.none,h⟩
theorem SE_bool (b:Bool):SE prog w B os₀ C n (.bool b):=by
 intro sc vars ex hc A s H env ρ Q X f h
 obtain ⟨k,p,rfl⟩:=hc
 exact wpAny_Constant_bool ⟨H,f.inv,Ext.refl _ _ _,_,.bool,h⟩
theorem SE_int (i:Int):SE prog w B os₀ C n (.int i):=by
 intro sc vars ex hc A s H env ρ Q X f h
 obtain ⟨k,p,rfl⟩:=hc
 exact wpAny_Constant_int ⟨H,f.inv.toks _,Ext.refl _ _ _,_,.int,h⟩
theorem SE_str (z:Str):SE prog w B os₀ C n (.str z):=by
 intro sc vars ex hc A s H env ρ Q X f h
 obtain ⟨k,p,rfl⟩:=hc
 exact wpAny_Constant_str ⟨H,f.inv.toks _,Ext.refl _ _ _,_,.str,h⟩
theorem chk_notStarred {ex:Expr} (h:okE ex = true):starEach (ex :: rest) env = (false,eval ex env) :: starEach rest env:=by
 cases ex<;>first | rfl | exact nob h
theorem SEL_nil:SEL prog w B os₀ C n .nil:=by
 intro sc vars exs pos hc A s H env ρ Q X f h
 cases hc
 exact WpE.pure f.inv ⟨rfl,[],.nil,h⟩
theorem SEL_cons {e:E} {es:EL} (h1:SE prog w B os₀ C n e) (h2:SEL prog w B os₀ C n es):SEL prog w B os₀ C n (.cons e es):=by
 intro sc vars exs pos hc A s H env ρ Q X f h
 obtain ⟨ex,rest,rfl,hok,hc⟩:=hc
 refine wat (chk_notStarred hok) ?_
 show WpE prog w B os₀ A (spliced ((false,eval ex env) :: backTo pos (starEach rest env))) s H (fun vs s' H'=>vs.length = (ex :: rest).length∧RQs Q vs s' H') X
 refine Calls.spliced_cons ((h1 sc vars ex hc.1 A s H env ρ _ X f h).step fun v s₁ H₁ i₁ x₁ r₁=>?_)
 refine bc fun nG=>?_
 obtain ⟨av,rv,hq⟩:=r₁
 refine nG ?_
 refine WpE.stepL x₁ (h2 sc vars rest pos hc.2 A s₁ H₁ env ρ _ X (f.ext i₁ x₁) hq) fun vs s₂ H₂ i₂ x₂ x₁₂ r₂=>?_
 refine bc fun nG=>?_
 obtain ⟨hl,as,rvs,hq₂⟩:=r₂
 refine nG ?_
 exact ⟨H₂,i₂,x₁₂,by simp [hl],av :: as,.cons (rv.extE x₂) rvs,hq₂⟩
theorem SE_pair {a b:E} (h1:SE prog w B os₀ C n a) (h2:SE prog w B os₀ C n b):SE prog w B os₀ C n (.pair a b):=by
 intro sc vars ex hc A s H env ρ Q X f h
 obtain ⟨x,y,k,pos,rfl,hok,hc⟩:=hc
 refine wpAny_Tuple ?_
 rw [Bool.and_eq_true] at hok
 refine wat (chk_notStarred hok.1) (wat (chk_notStarred hok.2) ?_)
 refine Calls.spliced_cons ((h1 sc vars x hc.1 A s H env ρ _ X f h).step fun v s₁ H₁ i₁ x₁ r₁=>?_)
 refine bc fun nG=>?_
 obtain ⟨av,rv,hq⟩:=r₁
 refine nG ?_
 refine Calls.spliced_cons (WpE.stepL x₁ (h2 sc vars y hc.2 A s₁ H₁ env ρ _ X (f.ext i₁ x₁) hq) fun v₂ s₂ H₂ i₂ x₂ x₁₂ r₂=>?_)
 refine bc fun nG=>?_
 obtain ⟨bv,rw2,hq₂⟩:=r₂
 refine nG ?_
 refine Calls.spliced_nil ⟨by show 2≤sizeLine;refine wat sizeLine_eq ?_;decide,?_⟩
 refine bc fun nG=>?_
 obtain ⟨i',e',rvp⟩:=addTup i₂ (rv.extE x₂) rw2 s₂.toks
 refine nG ?_
 exact ⟨H₂,i',Ext.trans x₁₂ e',_,rvp,hq₂⟩
theorem SE_list {es:EL} (h1:SEL prog w B os₀ C n es):SE prog w B os₀ C n (.list es):=by
 intro sc vars ex hc A s H env ρ Q X f h
 obtain ⟨xs,pos,rfl,hc0,hc⟩:=hc
 rw [decide_eq_true_eq] at hc0
 refine wpAny_List ((h1 sc vars xs pos hc A s H env ρ _ X f h).step fun vs s₁ H₁ i₁ x₁ r₁=>?_)
 refine bc fun nG=>?_
 obtain ⟨hl,as,rvs,hq⟩:=r₁
 refine nG ?_
 obtain ⟨i',x'⟩:=addList i₁ rvs s₁.toks
 exact ⟨by have:=size1000;exact linLe [_,_,_] 1 (.v 1) (.v 2) [.lt 1 (.v 0) (.n 20),.eq 1 (.v 1) (.v 0),.le 1 (.n 1000) (.v 2)] rfl hc0 hl this,_,i',Ext.trans x₁ x',_,.ref,hq _ i₁.freshSize⟩
theorem SE_dict0:SE prog w B os₀ C n .dict0:=by
 intro sc vars ex hc A s H env ρ Q X f h
 obtain ⟨pos,rfl⟩:=hc
 refine wpAny_Dict_empty ?_
 have hg:(s.heap.push (dictO [] 0)).get? s.heap.objs.size = some (dictO [] 0):=Heap.get?_push_size _ rfl
 have x:ExtE s.heap H (s.heap.push (dictO [] 0)) (H.set s.heap.objs.size (.dict [] (dictO [] 0))):=ExtE.add _ _ (get?_size _) (push_keeps _ _)
 exact ⟨_,f.inv.add (s':={ s with heap:=s.heap.push (dictO [] 0) }) (o:=.dict [] (dictO [] 0)) (get?_size _) (push_keeps _ _) ⟨[],0,hg,rfl,.nil,List.nodup_nil⟩ rfl rfl,x,_,.ref,h _ _ f.inv.freshSize⟩
theorem SE_bin {op:Operator} {a b:E} (h1:SE prog w B os₀ C n a) (h2:SE prog w B os₀ C n b):SE prog w B os₀ C n (.bin op a b):=by
 intro sc vars ex hc A s H env ρ Q X f h
 obtain ⟨x,y,pos,rfl,hc1,hc2⟩:=hc
 refine wpAny_BinOp ((h1 sc vars x hc1 A s H env ρ _ X f h).step fun v s₁ H₁ i₁ x₁ r₁=>?_)
 refine bc fun nG=>?_
 obtain ⟨av,rv,hq⟩:=r₁
 refine nG ?_
 refine WpE.stepL x₁ (h2 sc vars y hc2 A s₁ H₁ env ρ _ X (f.ext i₁ x₁) hq) fun v₂ s₂ H₂ i₂ x₂ x₁₂ r₂=>?_
 refine bc fun nG=>?_
 obtain ⟨bv,rw2,hq₂⟩:=r₂
 refine nG ?_
 exact WpE.lift x₁₂ (wp_bin i₂ (rv.extE x₂) rw2 hq₂)
theorem rv_isNone {h:Heap} {a:AV} {v:Value} (r:RV h H a v):plainIs v .none = true∧(v == .none) = decide (a = .none):=by
 cases r<;>exact ⟨rfl,rfl⟩
theorem wp_eqR {neg:Bool} {x y:Value} {a b:AV} {r:Bool} {Q:Value→Shared→Prop} {E:Value→Shared→Prop} (hs:∃ o,B.get? sysModules = some o) (i:INV w B os₀ s H) (r1:RV s.heap H a x) (r2:RV s.heap H b y) (hu:A.units + 100 < cLine)
 (h:EqR H a b r) (q:Q (.bool (r ^^ neg)) s):wpAny (model prog w) A (compareOp (if neg then .NotEq else .Eq) x y) Q E s:=by
 cases h with
 | bool a b=>
   obtain rfl:=r1.vbool;obtain rfl:=r2.vbool
   cases neg with
   | false=>exact PyProof.Rows.eq_bool (by simpa using q)
   | true=>exact PyProof.Rows.ne_bool (by simp only [Bool.xor_true] at q;exact q)
 | @list _ _ xs ys ha hb h1 h2=>
   obtain rfl:=r1.vref;obtain rfl:=r2.vref
   obtain ⟨vs,n1,e1,rv1⟩:=isList_of i ha
   obtain ⟨ws,n2,e2,rv2⟩:=isList_of i hb
   obtain ⟨as,ra⟩:=plains_reads rv1 h1
   obtain ⟨bs,rb⟩:=plains_reads rv2 h2
   have d1:=plains_depth h1
   refine wp_eq_data (da:=.list (xs.map AV.data)) (db:=.list (ys.map AV.data)) (.list e1 rfl rfl (by simpa using ra)) (.list e2 rfl rfl (by simpa using rb)) (by simpa [PyData.canLay0] using plains_canLay h1) (by simpa [PyData.canLay0] using plains_canLay h2)
    (by simp only [PyData.depth];exact linLe [_] 1 (.a (.v 0) (.n 1)) (.n 5) [.le 1 (.v 0) (.n 3)] rfl d1) (by exact linLt [_,_] 1 (.a (.v 0) (.n 10)) (.v 1) [.lt 1 (.a (.v 0) (.n 100)) (.v 1)] rfl hu) ?_
   refine wat (show PyData.eqv (.list (xs.map AV.data)) (.list (ys.map AV.data)) = PyData.eqvAll (xs.map AV.data) (ys.map AV.data) from by simp [PyData.eqv]) (wat (plains_inj h1 h2) ?_)
   exact q
 | dict ha hb h1 h2=>
   obtain rfl:=r1.vref;obtain rfl:=r2.vref
   exact wp_eq_dict i hs ha hb h1 h2 (by exact linLt [_,_] 1 (.a (.v 0) (.n 20)) (.v 1) [.lt 1 (.a (.v 0) (.n 100)) (.v 1)] rfl hu) q
 | plain h1 h2=>
   obtain ⟨as,ra⟩:=plain_reads r1 3 h1
   obtain ⟨bs,rb⟩:=plain_reads r2 3 h2
   have d1:=plain_depth 3 a h1
   refine wp_eq_data ra rb (plain_canLay 3 a h1) (plain_canLay 3 b h2) (by exact Nat.le_trans ‹_› (by decide)) (by exact linLt [_,_] 1 (.a (.v 0) (.n 10)) (.v 1) [.lt 1 (.a (.v 0) (.n 100)) (.v 1)] rfl hu) ?_
   refine wat (data_inj 3 a b h1 h2) ?_
   exact q
theorem wp_inR {neg:Bool} {x y:Value} {a b:AV} {r:Bool} {Q:Value→Shared→Prop} {E:Value→Shared→Prop} (hs:∃ o,B.get? sysModules = some o) (i:INV w B os₀ s H) (r1:RV s.heap H a x) (r2:RV s.heap H b y) (hu:A.units + 100 < cLine)
 (h:InR H a b r) (q:∀ t,Q (.bool (r ^^ neg)) { s with toks:=t }):wpAny (model prog w) A (compareOp (if neg then .NotIn else .In) x y) Q E s:=by
 cases h with
 | list hb h1 h2=>obtain rfl:=r2.vref;exact wp_in_list i r1 hb h1 h2 (by exact linLt [_,_] 1 (.a (.v 0) (.n 10)) (.v 1) [.lt 1 (.a (.v 0) (.n 100)) (.v 1)] rfl hu) (q s.toks)
 | @dict rr cc _ _ _ hb=>obtain rfl:=r2.vref;exact wp_in_dict (p:=(rr,cc)) i hs r1 hb (by exact linLt [_,_] 1 (.a (.v 0) (.n 10)) (.v 1) [.lt 1 (.a (.v 0) (.n 100)) (.v 1)] rfl hu) q
 | @set rr cc _ _ _ hb=>obtain rfl:=r2.vref;exact wp_in_set (p:=(rr,cc)) i r1 hb (by exact linLt [_,_] 1 (.a (.v 0) (.n 40)) (.v 1) [.lt 1 (.a (.v 0) (.n 100)) (.v 1)] rfl hu) q
theorem wp_cmp {op:CmpOp} {x y:Value} {a b:AV} {r:Bool} {Q:Value→Shared→Prop} {E:Value→Shared→Prop} (hs:∃ o,B.get? sysModules = some o) (i:INV w B os₀ s H) (r1:RV s.heap H a x) (r2:RV s.heap H b y) (hu:A.units + 100 < cLine)
 (h:CmpR H op a b r) (q:∀ t,Q (.bool r) { s with toks:=t }):wpAny (model prog w) A (compareOp op x y) Q E s:=by
 cases h with
 | is=>obtain rfl:=r2.vnone;obtain ⟨h1,h2⟩:=rv_isNone r1;exact wpAny_is_plain h1 (by refine wat h2 ?_;exact q s.toks)
 | isNot=>obtain rfl:=r2.vnone;obtain ⟨h1,h2⟩:=rv_isNone r1;exact wpAny_isNot_plain h1 (by refine wat h2 ?_;exact q s.toks)
 | «in» h=>exact wp_inR (neg:=false) hs i r1 r2 hu h (by simpa using q)
 | notIn h=>exact wp_inR (neg:=true) hs i r1 r2 hu h (by simpa using q)
 | eq h=>exact wp_eqR (neg:=false) hs i r1 r2 hu h (by simpa using q s.toks)
 | ne h=>exact wp_eqR (neg:=true) hs i r1 r2 hu h (by simpa using q s.toks)
 | ltI=>obtain ⟨_,rfl⟩:=r1.vint;obtain ⟨_,rfl⟩:=r2.vint;exact PyProof.Rows.lt_int (q s.toks)
 | leI=>obtain ⟨_,rfl⟩:=r1.vint;obtain ⟨_,rfl⟩:=r2.vint;exact PyProof.Rows.le_int (q s.toks)
 | gtI=>obtain ⟨_,rfl⟩:=r1.vint;obtain ⟨_,rfl⟩:=r2.vint;exact PyProof.Rows.gt_int (q s.toks)
 | geI=>obtain ⟨_,rfl⟩:=r1.vint;obtain ⟨_,rfl⟩:=r2.vint;exact PyProof.Rows.ge_int (q s.toks)
 | leS hx hy=>obtain ⟨_,rfl⟩:=r1.vstr;obtain ⟨_,rfl⟩:=r2.vstr;exact P.le_str (by refine wat hx (wat hy (wat le_one ?_));exact q s.toks)
 | gtS hx hy=>obtain ⟨_,rfl⟩:=r1.vstr;obtain ⟨_,rfl⟩:=r2.vstr;exact P.gt_str (by refine wat hx (wat hy (wat gt_one ?_));exact q s.toks)
end
section
variable {prog:Program} {w:World} {B:Heap} {os₀:OsState} {C:CallSem} {n:Nat} {A:Around} {s:Shared} {H:AHeap} {K:Frag} {mg mb:Str→Option Value}
variable {sc:Scope} {vars:List Str} {env:Env} {ρ:Loc} {X:AHeap→Prop}
theorem chk_marks {ex:Expr} (h:okE ex = true) (op:CmpOp):behindInMarks op ex = false:=by
 cases ex<;>first | rfl | exact nob h
theorem chk_last {ex ex':Expr} (h':okE ex' = true) (op op':CmpOp):lastMarks [op,op'] [ex,ex'] = false:=by
 have h1:=chk_marks h' op'
 exact h1
theorem SE_cmp (bs:Base K mg mb B) {a b:E} {op:CmpOp} (h1:SE prog w B os₀ C n a) (h2:SE prog w B os₀ C n b):SE prog w B os₀ C n (.cmp a op b):=by
 intro sc vars ex hc A s H env ρ Q X f h
 obtain ⟨x,y,pos,rfl,hok,hc1,hc2⟩:=hc
 refine wpAny_Compare1 ((h1 sc vars x hc1 A s H env ρ _ X f h).step fun v s₁ H₁ i₁ x₁ r₁=>?_) (chk_marks hok _)
 obtain ⟨av,rv,hq⟩:=r₁
 refine WpE.stepL x₁ (h2 sc vars y hc2 A s₁ H₁ env ρ _ X (f.ext i₁ x₁) hq) fun v₂ s₂ H₂ i₂ x₂ x₁₂ r₂=>?_
 obtain ⟨bv,rw2,hq₂⟩:=r₂
 obtain ⟨r,hr,hq₂⟩:=hq₂
 exact wp_cmp bs.sysm i₂ (rv.extE x₂) rw2 (by have:=f.units;exact linLt [_,_] 1 (.a (.v 0) (.n 100)) (.v 1) [.lt 1 (.a (.v 0) (.n 200)) (.v 1)] rfl this) hr fun t=>⟨H₂,i₂.toks t,x₁₂,_,.bool,hq₂⟩
theorem SE_notv {a:E} (h1:SE prog w B os₀ C n a):SE prog w B os₀ C n (.notv a):=by
 intro sc vars ex hc A s H env ρ Q X f h
 obtain ⟨x,pos,rfl,hc⟩:=hc
 refine wpAny_UnaryOp ((h1 sc vars x hc A s H env ρ _ X f h).step fun v s₁ H₁ i₁ x₁ r₁=>?_)
 refine bc fun nG=>?_
 obtain ⟨av,rv,hq⟩:=r₁
 refine nG ?_
 refine bc fun nG=>?_
 obtain ⟨r,hr,hq⟩:=hq
 refine nG ?_
 exact not_of (wp_truth i₁ rv hr fun t=>⟨H₁,i₁.toks t,x₁,_,.bool,hq⟩)
theorem SE_andv {a b:E} (h1:SE prog w B os₀ C n a) (h2:SE prog w B os₀ C n b):SE prog w B os₀ C n (.andv a b):=by
 intro sc vars ex hc A s H env ρ Q X f h
 obtain ⟨x,y,pos,rfl,hc⟩:=hc
 refine wpAny_And2 ((h1 sc vars x hc.1 A s H env ρ _ X f h).step fun v s₁ H₁ i₁ x₁ r₁=>?_)
 refine bc fun nG=>?_
 obtain ⟨av,rv,hq⟩:=r₁
 refine nG ?_
 refine bc fun nG=>?_
 obtain ⟨r,hr,hq⟩:=hq
 refine nG ?_
 refine wp_truth i₁ rv hr fun t=>?_
 cases r with
 | true=>
   exact WpE.lift (s₁:={ s₁ with toks:=t }) x₁ (h2 sc vars y hc.2 A { s₁ with toks:=t } H₁ env ρ _ X ((f.ext i₁ x₁).toks t) hq)
 | false=>
   exact ⟨H₁,i₁.toks t,x₁,av,rv,hq⟩
theorem SE_ite {t:T} {a b:E} (h0:ST prog w B os₀ C n t) (h1:SE prog w B os₀ C n a) (h2:SE prog w B os₀ C n b):SE prog w B os₀ C n (.ite t a b):=by
 intro sc vars ex hc A s H env ρ Q X f h
 obtain ⟨q,x,y,pos,rfl,hc⟩:=hc
 refine wpAny_IfExp ((h0 sc vars q hc.1 A s H env ρ _ X f h).step fun c s₁ H₁ i₁ x₁ hq=>?_)
 unfold RB at hq
 cases c with
 | true=>exact WpE.lift x₁ (h1 sc vars x hc.2.1 A s₁ H₁ env ρ _ X (f.ext i₁ x₁) hq)
 | false=>exact WpE.lift x₁ (h2 sc vars y hc.2.2 A s₁ H₁ env ρ _ X (f.ext i₁ x₁) hq)
theorem ST_e {e:E} (h1:SE prog w B os₀ C n e):ST prog w B os₀ C n (.e e):=by
 intro sc vars ex hc A s H env ρ Q X f h
 refine isTrue_plain ((h1 sc vars ex hc.2 A s H env ρ _ X f h).step fun v s₁ H₁ i₁ x₁ r₁=>?_) ?_
 · obtain ⟨av,rv,hq⟩:=r₁
   refine bc fun nG=>?_
   obtain ⟨r,hr,hq⟩:=hq
   refine nG ?_
   exact wp_truth i₁ rv hr fun t=>⟨H₁,i₁.toks t,x₁,hq⟩
 · have hp:=hc.1
   cases ex<;>first | rfl | exact nob hp
theorem ST_not {t:T} (h1:ST prog w B os₀ C n t):ST prog w B os₀ C n (.not t):=by
 intro sc vars ex hc A s H env ρ Q X f h
 obtain ⟨x,pos,rfl,hc⟩:=hc
 exact wpAny_isTrue_Not ((h1 sc vars x hc A s H env ρ _ X f h).step fun c s₁ H₁ i₁ x₁ hq=>⟨H₁,i₁,x₁,hq⟩)
theorem ST_and {ts:TL} (h1:STL prog w B os₀ C n ts):ST prog w B os₀ C n (.and ts):=by
 intro sc vars ex hc A s H env ρ Q X f h
 obtain ⟨xs,pos,rfl,hc⟩:=hc
 exact wpAny_isTrue_BoolOp ((h1 sc vars xs hc A s H env ρ Q X f).1 h)
theorem ST_or {ts:TL} (h1:STL prog w B os₀ C n ts):ST prog w B os₀ C n (.or ts):=by
 intro sc vars ex hc A s H env ρ Q X f h
 obtain ⟨xs,pos,rfl,hc⟩:=hc
 exact wpAny_isTrue_BoolOp ((h1 sc vars xs hc A s H env ρ Q X f).2 h)
theorem ST_tt:ST prog w B os₀ C n .tt:=by
 intro sc vars ex hc
 exact hc.elim
theorem STL_nil:STL prog w B os₀ C n .nil:=by
 intro sc vars exs hc A s H env ρ Q X f
 cases hc
 exact ⟨fun h=>wpAny_allTrue_And_nil ⟨H,f.inv,Ext.refl _ _ _,h⟩,fun h=>wpAny_allTrue_Or_nil ⟨H,f.inv,Ext.refl _ _ _,h⟩⟩
theorem STL_cons {t:T} {ts:TL} (h1:ST prog w B os₀ C n t) (h2:STL prog w B os₀ C n ts):STL prog w B os₀ C n (.cons t ts):=by
 intro sc vars exs hc A s H env ρ Q X f
 obtain ⟨x,rest,rfl,hc⟩:=hc
 refine ⟨fun h=>?_,fun h=>?_⟩
 · refine wpAny_allTrue_And_cons ((h1 sc vars x hc.1 A s H env ρ _ X f h).step fun c s₁ H₁ i₁ x₁ hq=>?_)
   unfold RB at hq
   cases c with
   | true=>exact WpE.lift x₁ ((h2 sc vars rest hc.2 A s₁ H₁ env ρ Q X (f.ext i₁ x₁)).1 hq)
   | false=>exact ⟨H₁,i₁,x₁,hq⟩
 · refine wpAny_allTrue_Or_cons ((h1 sc vars x hc.1 A s H env ρ _ X f h).step fun c s₁ H₁ i₁ x₁ hq=>?_)
   unfold RB at hq
   cases c with
   | true=>exact ⟨H₁,i₁,x₁,hq⟩
   | false=>exact WpE.lift x₁ ((h2 sc vars rest hc.2 A s₁ H₁ env ρ Q X (f.ext i₁ x₁)).2 hq)
theorem ST_cmp (bs:Base K mg mb B) {a b:E} {op:CmpOp} (h1:SE prog w B os₀ C n a) (h2:SE prog w B os₀ C n b):ST prog w B os₀ C n (.cmp a op b):=by
 intro sc vars ex hc A s H env ρ Q X f h
 obtain ⟨x,y,pos,rfl,hok,hc1,hc2⟩:=hc
 refine wpAny_isTrue_Compare1 ((h1 sc vars x hc1 A s H env ρ _ X f h).step fun v s₁ H₁ i₁ x₁ r₁=>?_) (chk_marks hok _)
 obtain ⟨av,rv,hq⟩:=r₁
 refine WpE.stepL x₁ (h2 sc vars y hc2 A s₁ H₁ env ρ _ X (f.ext i₁ x₁) hq) fun v₂ s₂ H₂ i₂ x₂ x₁₂ r₂=>?_
 obtain ⟨bv,rw2,hq₂⟩:=r₂
 obtain ⟨r,hr,hq₂⟩:=hq₂
 exact wp_cmp bs.sysm i₂ (rv.extE x₂) rw2 (by have:=f.units;exact linLt [_,_] 1 (.a (.v 0) (.n 100)) (.v 1) [.lt 1 (.a (.v 0) (.n 200)) (.v 1)] rfl this) hr fun t=>wpAny_truthy_bool ⟨H₂,i₂.toks t,x₁₂,hq₂⟩
theorem ST_chain (bs:Base K mg mb B) {a b c:E} {o₁ o₂:CmpOp} (h1:SE prog w B os₀ C n a) (h2:SE prog w B os₀ C n b) (h3:SE prog w B os₀ C n c):ST prog w B os₀ C n (.chain a o₁ b o₂ c):=by
 intro sc vars ex hc A s H env ρ Q X f h
 obtain ⟨x,y,z,pos,rfl,hok,hc1,hc2,hc3⟩:=hc
 refine isTrue_chain ((h1 sc vars x hc1 A s H env ρ _ X f h).step fun v s₁ H₁ i₁ x₁ r₁=>?_) (chk_last hok _ _)
 refine bc fun nG=>?_
 obtain ⟨av,rv,hq⟩:=r₁
 refine nG ?_
 refine wpAny_bind (wpAny_holding (WpE.stepL x₁ (h2 sc vars y hc2 A s₁ H₁ env ρ _ X (f.ext i₁ x₁) hq) fun v₂ s₂ H₂ i₂ x₂ x₁₂ r₂=>?_))
 refine bc fun nG=>?_
 obtain ⟨bv,rw2,hq₂⟩:=r₂
 refine nG ?_
 have f₂:=(f.ext i₁ x₁).ext i₂ x₂
 have hu:=f.units
 refine wpAny_bind (wpAny_standAt ?_)
 refine wpAny_bind (wpAny_holding ?_)
 refine bc fun nG=>?_
 obtain ⟨r,hr,hq₂⟩:=hq₂
 refine nG ?_
 refine wp_cmp bs.sysm i₂ (rv.extE x₂) rw2 (by exact linLt [_,_] 1 (.a (.v 0) (.n 100)) (.v 1) [.lt 1 (.a (.v 0) (.n 200)) (.v 1)] rfl hu) hr fun t=>?_
 refine wpAny_bind (wpAny_release' ?_)
 refine wpAny_bind (wpAny_holding (wpAny_truthy_bool ?_))
 cases r with
 | true=>
   refine wpAny_bind (wpAny_holding (WpE.stepL (s₁:={ s₂ with toks:=t }) x₁₂ (h3 sc vars z hc3 A { s₂ with toks:=t } H₂ env ρ _ X (f₂.toks t) hq₂) fun v₃ s₃ H₃ i₃ x₃ x₁₃ r₃=>?_))
   refine bc fun nG=>?_
   obtain ⟨cv,rw3,r',hr',hq₃⟩:=r₃
   refine nG ?_
   refine wpAny_bind (wpAny_standAt ?_)
   refine wpAny_bind (wpAny_operate' (wp_cmp bs.sysm i₃ (rw2.extE x₃) rw3 (by exact linLt [_,_] 1 (.a (.v 0) (.n 100)) (.v 1) [.lt 1 (.a (.v 0) (.n 200)) (.v 1)] rfl hu) hr' fun t'=>?_))
   exact wpAny_holding (wpAny_truthy_bool ⟨H₃,i₃.toks t',x₁₃,hq₃⟩)
 | false=>
   exact wpAny_pure ⟨H₂,i₂.toks t,x₁₂,hq₂⟩
end
theorem attrOk_of {K:Frag} {C:Addr} {name:Str} (h:attrOkK K C name = true):plainGet K C name = true∧hasDictIn K C = true∧findIn K (.ref C) name = some none∧findIn K (.ref C) (Str.ofString "__setattr__") = some (some (.builtin "object.__setattr__"))∧plainOver K C = true:=by
 unfold attrOkK at h
 simp only [Bool.and_eq_true,beq_iff_eq] at h
 exact ⟨h.1.1.1.1,h.1.1.1.2,h.1.1.2,h.1.2,h.2⟩
theorem find_of_ns {es:List DictEntry} {name:Str}:(nsFind es.toArray name) = (es.find? (·.key.isStr name)).map (·.val):=by
 unfold nsFind findBy
 simp
theorem noRef {es:List DictEntry} (h:StrKeys es.toArray):es.any (·.refKey) = false:=by
 rw [List.any_eq_false]
 intro e he
 obtain ⟨n,t,k⟩:=h e (by simpa using he)
 unfold DictEntry.refKey
 refine wat k ?_;exact Bool.false_ne_true
theorem getL_of {es:List DictEntry} (h:StrKeys es.toArray) (name:Str):getL name es = some (nsFind es.toArray name):=by
 unfold getL
 refine wat find_of_ns (wat (noRef h) ?_)
 cases es.find? (·.key.isStr name)<;>rfl
set_option tactic.hygienic true in
theorem putL_find' {name:Str} {hsh:Int} {t:Tok} {v:Value}:∀ {es:List DictEntry} (y:Str),nsFind (putL name hsh (.str name t) v es).toArray y = if y = name then some v else nsFind es.toArray y
 | [],y=>by
   refine wat find_of_ns (wat find_of_ns ?_)
   simp only [putL,List.find?_cons,List.find?_nil,Value.isStr]
   by_cases e:y = name
   · subst e;simp
   · have:(name == y) = false:=by simpa using fun q=>e q.symm
     simp [e,this]
 | e :: es,y=>by
   have ih:=putL_find' (name:=name) (hsh:=hsh) (t:=t) (v:=v) (es:=es) y
   rw [find_of_ns] at ih ⊢
   rw [find_of_ns] at ih ⊢
   unfold putL
   split
   · rename_i hk
     simp only [List.find?_cons]
     by_cases q:y = name
     · subst q;simp [hk]
     · have:e.key.isStr y = false:=by
        cases hy:e.key.isStr y with
        | false=>rfl
        | true=>exact absurd (Value.isStr_inj e.key y name hy hk) q
       simp [this,q]
   · rename_i hk
     simp only [List.find?_cons]
     cases hy:e.key.isStr y with
     | true=>
       have:y≠name:=fun q=>hk (q▸hy)
       simp [this]
     | false=>simpa using ih
theorem putL_keys {name:Str} {hsh:Int} {t:Tok} {v:Value}:∀ {es:List DictEntry},StrKeys es.toArray→StrKeys (putL name hsh (.str name t) v es).toArray
 | [],_=>by
   intro e he
   simp [putL] at he
   exact ⟨name,t,by exact wat he rfl⟩
 | d :: es,h=>by
   have h':StrKeys es.toArray:=fun e he=>h e (by simp at he ⊢; exact .inr he)
   have ih:=putL_keys (name:=name) (hsh:=hsh) (t:=t) (v:=v) h'
   intro e he
   simp only [List.mem_toArray] at he
   unfold putL at he
   split at he
   · rcases List.mem_cons.mp he with rfl | he
     · obtain ⟨n',t',k⟩:=h d (by simp);exact ⟨n',t',k⟩
     · exact h' e (by simpa using he)
   · rcases List.mem_cons.mp he with rfl | he
     · exact h e (by simp)
     · exact ih e (by simpa using he)
theorem putL_length {name:Str} {hsh:Int} {key v:Value}:∀ {es:List DictEntry},(putL name hsh key v es).length≤es.length + 1
 | []=>by simp [putL]
 | e :: es=>by
   have:=putL_length (name:=name) (hsh:=hsh) (key:=key) (v:=v) (es:=es)
   unfold putL
   split<;>simp;exact linLe [_,_] 1 (.v 0) (.a (.v 1) (.n 1)) [.le 1 (.v 0) (.a (.v 1) (.n 1))] rfl this
set_option tactic.hygienic true in
theorem putL_same {name:Str} {hsh:Int} {key v:Value}:∀ {es:List DictEntry},(∃ e∈es,e.key.isStr name = true)→(putL name hsh key v es).length = es.length
 | [],h=>by obtain ⟨e,he,_⟩:=h;cases he
 | e :: es,h=>by
   unfold putL
   split
   · rfl
   · rename_i hk
     obtain ⟨e',he',hs⟩:=h
     rcases List.mem_cons.mp he' with rfl | he'
     · exact absurd hs hk
     · simp [putL_same (hsh:=hsh) (key:=key) (v:=v) ⟨e',he',hs⟩]
theorem fld_inj:∀ {f g:Fld},f.name = g.name→f = g:=by
 intro f g h
 cases f<;>cases g<;>first | rfl | exact absurd h (by decide)
theorem cnt_or:∀ (k:Fld) (a b c d e f g:Bool),one (a || decide (Fld.side = k)) + one (b || decide (Fld.board_points = k)) + one (c || decide (Fld.board = k)) + one (d || decide (Fld.is_empty = k)) + one (e || decide (Fld.colour = k)) + one (f || decide (Fld.points = k)) + one (g || decide (Fld.is_surrounded = k))
 = one a + one b + one c + one d + one e + one f + one g + one (!(match k with | .side=>a | .board_points=>b | .board=>c | .is_empty=>d | .colour=>e | .points=>f | .is_surrounded=>g)):=by
 intro k;cases k<;>decide +kernel
theorem cnt_upd (fs:Fld→Option AV) (f:Fld) (u:AV):cnt (fun g=>if g = f then some u else fs g) = cnt fs + one (!(fs f).isSome):=by
 have e:∀ g,(if g = f then some u else fs g).isSome = ((fs g).isSome || decide (g = f)):=fun g=>by by_cases h:g = f<;>simp [h]
 unfold cnt
 simp only [e]
 rw [cnt_or]
 cases f<;>rfl
section
variable {prog:Program} {w:World} {B:Heap} {os₀:OsState} {C:CallSem} {n:Nat} {A:Around} {s:Shared} {H:AHeap} {K:Frag} {mg mb:Str→Option Value}
variable {sc:Scope} {vars:List Str} {env:Env} {ρ:Loc} {X:AHeap→Prop} {Er:Value→Shared→Prop}
theorem rv_handed {h:Heap} {a:AV} {v:Value} (r:RV h H a v):handedIn v = true:=by cases r<;>rfl
theorem inst_of {a dx:Addr} {Cc:Addr} {fs:Fld→Option AV} (i:INV w B os₀ s H) (ha:H a = some (.inst Cc dx)) (hd:H dx = some (.ns fs)):
 (X3 fun es m sl=>A4 ((Cc = boardC∨Cc = groupC)) (s.heap.get? dx = some (W.dictOf es m)) (RN s.heap H fs es) (InstAt s.heap a ⟨.ref Cc,some dx,.plain,sl⟩ Cc (some (W.dictOf es m)))):=by
 refine bc fun nG=>?_
 obtain ⟨hC,sl,e⟩:=i.rep a _ ha
 refine nG ?_
 refine bc fun nG=>?_
 obtain ⟨es,m,e2,rn⟩:=i.rep dx _ hd
 refine nG ?_
 exact ⟨es,m,sl,hC,e2,rn,⟨e,rfl,rfl,e2⟩⟩
theorem wp_getattr (bs:Base K mg mb B) {a dx Cc:Addr} {fs:Fld→Option AV} {f:Fld} {u:AV} {expr:Bool} {Q:Value→Shared→Prop} (i:INV w B os₀ s H) (ha:H a = some (.inst Cc dx)) (hd:H dx = some (.ns fs)) (hf:fs f = some u)
 (q:∀ v t,RV s.heap H u v→Q v { s with toks:=t }):wpAny (model prog w) A (getAttr (.ref a) f.name expr) Q Er s:=by
 obtain ⟨es,m,sl,hC,e2,rn,I⟩:=inst_of i ha hd
 obtain ⟨k1,k2,k3,k4,k5⟩:=attrOk_of (bs.attrs Cc f hC)
 have:=rn.2.1 f
 rw [hf] at this
 obtain ⟨v,hv,rv⟩:=this
 refine get_value (bs.kin.keeps i.keeps) I (plainGet_of k1).1 (findObj_own k2 k3 rfl ?_) (rv_handed rv) (q v _ rv)
 rw [lookIn_dict,getL_of rn.1,hv]
theorem SE_attr (bs:Base K mg mb B) {o:E} {f:Fld} (h1:SE prog w B os₀ C n o):SE prog w B os₀ C n (.attr o f):=by
 intro sc vars ex hc A s H env ρ Q X fr h
 obtain ⟨ov,x,pos,rfl,hc0,hc1⟩:=hc
 rw [Bool.and_eq_true,beq_iff_eq] at hc0
 obtain ⟨rfl,hnc⟩:=hc0
 have hb:eval (.Attribute ov f.name pos) env = (do let o ← eval ov env;standAt pos.atName;let r ← holding [o] (getAttr o f.name true);letTemporaryGo ov o r;pure r):=by
  cases ov<;>first | rfl | exact nob hnc
 refine Attribute_any_ ((h1 sc vars ov hc1 A s H env ρ _ X fr h).step fun v s₁ H₁ i₁ x₁ r₁=>?_) hb
 refine bc fun nG=>?_
 obtain ⟨av,rv,dx,fs,u,⟨ha,hd⟩,hf,hq⟩:=r₁
 refine nG ?_
 obtain rfl:=rv.vref
 exact wp_getattr bs i₁ ha hd hf fun v t rv=>⟨H₁,i₁.toks t,x₁,u,rv,hq⟩
theorem wp_setattr (bs:Base K mg mb B) {a dx Cc:Addr} {fs:Fld→Option AV} {f:Fld} {u:AV} {v:Value} {Q:Unit→Shared→Prop} (i:INV w B os₀ s H) (ha:H a = some (.inst Cc dx)) (hd:H dx = some (.ns fs)) (rv:RV s.heap H u v)
 (q:∀ s',INV w B os₀ s' (H.set dx (.ns fun g=>if g = f then some u else fs g))→ExtE s.heap H s'.heap (H.set dx (.ns fun g=>if g = f then some u else fs g))→Q () s'):wpAny (model prog w) A (setAttr (.ref a) f.name v) Q Er s:=by
 obtain ⟨es,m,sl,hC,e2,rn,I⟩:=inst_of i ha hd
 obtain ⟨k1,k2,k3,k4,k5⟩:=attrOk_of (bs.attrs Cc f hC)
 have X':=bs.kin.keeps i.keeps
 refine set_plain X' I k4 ?_
 have ht:takerIn K Cc f.name = some none:=by unfold takerIn;refine wat k3 ?_;rfl
 refine osa_open (s:={ s with toks:=s.toks + 1 }) X' I k5 ht fun b=>?_
 obtain ⟨cd,hcd,hd'⟩:=any_some k2
 obtain ⟨hx,hcl,hn,-⟩:=I
 refine wpAny_bind (wpAny_pure (wpAny_bind (wpAny_bind (wpAny_loadPart hx (wpAny_bind (Looks.here (s:={ s with toks:=s.toks + 1 }) (looks_clsIn X' hcd) ?_))))))
 refine wat hd' ?_
 refine wpAny_pure (a:=some dx) (wpAny_bind (wpAny_pure (wpAny_bind ?_)))
 refine wpAny_bind (wpAny_bind (wpAny_askSetting (wpAny_pure (wpAny_bind (wpAny_mkText (wpAny_bind (wpAny_loadPart e2 ?_)))))))
 dsimp only [W.dictOf]
 have hc:aRefKeyMayBeTheName f.name es.toArray = false:=by
  rw [aRefKeyMayBeTheName_at,← Array.any_toList,← Array.any_toList]
  have:=noRef rn.1
  rw [show es.toArray.toList.any (·.refKey) = false from this,Bool.and_false]
 refine wif_neg (by refine wat hc ?_;decide) ?_
 refine wpAny_updatePart e2 ?_
 have hlen:=rn.2.2.2
 have hcnt:=cnt_le fs
 generalize hk:(if f.name.cps.isEmpty = true then (0:Int) else reduceHash ((model prog w).w.params.strHash f.name.cps)) = hsh
 have ep:=putName_dict f.name hsh (.str f.name (s.toks + 1)) v es m
 have hg':(s.heap.update dx (Obj.putName f.name hsh (.str f.name (s.toks + 1)) v)).get? dx = some (W.dictOf (putL f.name hsh (.str f.name (s.toks + 1)) v es) (putN f.name es m)):=by
  rw [Heap.get?_update_self _ e2 (by rw [ep];rfl),ep]
 have hplen:=putL_length (name:=f.name) (hsh:=hsh) (key:=.str f.name (s.toks + 1)) (v:=v) (es:=es)
 refine wpAny_bind (wpAny_lookBehind hg' (pastItsLine_dict (by refine wat List.size_toArray (wat sizeLine_eq ?_);exact linLe [_,_,_] 1 (.v 2) (.a (.n 16777216) (.n 1)) [.le 1 (.v 0) (.v 1),.le 1 (.v 1) (.n 7),.le 1 (.v 2) (.a (.v 0) (.n 1))] rfl hlen hcnt hplen)) ?_)
 refine wpAny_pure ?_
 have sb:Heap.SameBut dx s.heap (s.heap.update dx (Obj.putName f.name hsh (.str f.name (s.toks + 1)) v)):=Heap.SameBut.update ..
 have x:=ExtE.put (H:=H) (h:=s.heap) (.ns fun g=>if g = f then some u else fs g) hd sb ⟨_,hg'⟩
 have rn':RN (s.heap.update dx (Obj.putName f.name hsh (.str f.name (s.toks + 1)) v)) (H.set dx (.ns fun g=>if g = f then some u else fs g)) (fun g=>if g = f then some u else fs g) (putL f.name hsh (.str f.name (s.toks + 1)) v es):=by
  refine ⟨putL_keys rn.1,fun g=>?_,fun nm hnm=>?_,?_⟩
  · by_cases e:g = f
    · subst e
      simp only [if_true]
      exact ⟨v,by rw [putL_find'];simp,rv.extE x⟩
    · simp only [e,if_false]
      have hne:g.name≠f.name:=fun q=>e (fld_inj q)
      have:=rn.2.1 g
      rw [putL_find',if_neg hne]
      cases hq:fs g with
      | none=>rw [hq] at this;exact this
      | some u'=>rw [hq] at this;obtain ⟨v',hv',r'⟩:=this;exact ⟨v',hv',r'.extE x⟩
  · rw [putL_find',if_neg (fun q=>hnm f q.symm)]
    exact rn.2.2.1 nm hnm
  · have hc:=cnt_upd fs f u
    cases hq:fs f with
    | none=>rw [hq] at hc;simp only [Option.isSome_none,one,Bool.not_false,if_true] at hc;exact linLe [_,_,_,_] 1 (.v 2) (.v 3) [.le 1 (.v 0) (.v 1),.le 1 (.v 2) (.a (.v 0) (.n 1)),.ge 1 (.v 3) (.a (.v 1) (.n 1))] rfl hlen hplen hc
    | some u'=>
      have:=rn.2.1 f
      rw [hq] at this
      refine bc fun nG=>?_
      obtain ⟨v',hv',_⟩:=this
      refine nG ?_
      have:(putL f.name hsh (.str f.name (s.toks + 1)) v es).length = es.length:=by
       rw [find_of_ns] at hv'
       exact putL_same (by
        cases hfd:es.find? (·.key.isStr f.name) with
        | none=>rw [hfd] at hv';exact no1 hv'
        | some e=>exact ⟨e,List.mem_of_find?_eq_some hfd,List.find?_some (p:=fun x:DictEntry=>x.key.isStr f.name) hfd⟩)
      exact linLe [_,_,_,_,_] 1 (.v 4) (.v 2) [.le 1 (.v 0) (.v 1),.ge 1 (.v 2) (.a (.v 1) (.v 3)),.eq 1 (.v 4) (.v 0)] rfl hlen hc this
 exact q _ (i.put (s':={ s with heap:=s.heap.update dx (Obj.putName f.name hsh (.str f.name (s.toks + 1)) v),toks:=s.toks + 1 + 1 }) hd sb ⟨_,_,hg',rn'⟩ rfl rfl) x
end
section
variable {prog:Program} {w:World} {B:Heap} {os₀:OsState} {C:CallSem} {n:Nat} {A:Around} {s:Shared} {H:AHeap} {K:Frag} {mg mb:Str→Option Value}
variable {sc:Scope} {vars:List Str} {env:Env} {ρ:Loc} {X:AHeap→Prop} {Er:Value→Shared→Prop}
theorem SE_sub {o i:E} (h1:SE prog w B os₀ C n o) (h2:SE prog w B os₀ C n i):SE prog w B os₀ C n (.sub o i):=by
 intro sc vars ex hc A s H env ρ Q X f h
 refine bc fun nG=>?_
 obtain ⟨ov,iv,pos,rfl,hc0,hc⟩:=hc
 refine nG ?_
 refine Subscript_ ((h1 sc vars ov hc.1 A s H env ρ _ X f h).step fun v s₁ H₁ i₁ x₁ r₁=>?_)
 refine bc fun nG=>?_
 obtain ⟨av,rv,hq⟩:=r₁
 refine nG ?_
 refine WpE.stepL x₁ (h2 sc vars iv hc.2 A s₁ H₁ env ρ _ X (f.ext i₁ x₁) hq) fun v₂ s₂ H₂ i₂ x₂ x₁₂ r₂=>?_
 refine bc fun nG=>?_
 obtain ⟨bv,rw2,hq₂⟩:=r₂
 refine nG ?_
 obtain ⟨r,hr,hq₂⟩:=hq₂
 exact WpE.lift x₁₂ (wp_sub hc0 i₂ (rv.extE x₂) rw2 (by have:=f.units;exact linLt [_,_] 1 (.a (.v 0) (.n 20)) (.v 1) [.lt 1 (.a (.v 0) (.n 200)) (.v 1)] rfl this) hr hq₂)
set_option tactic.hygienic true in
theorem slice_str (z:Str) (i:Int) (h:0≤i):Txt.slice z (some i) none = ⟨(z.cps.toList.drop i.toNat).toArray⟩:=by
 obtain ⟨m,rfl⟩:∃ m:Nat,i = m:=⟨i.toNat,by lia⟩
 have hl:z.length = z.cps.size:=rfl
 have e1:Builtin.Str.strSliceIndices (some (m:Int)) none 1 z.length = (List.range (z.cps.size - min m z.cps.size)).map (min m z.cps.size + ·):=by
  unfold Builtin.Str.strSliceIndices
  have h1:¬ ((m:Int) < 0):=by lia
  simp only [h1,if_false,show (1:Int) > 0 by decide,if_true,hl]
  refine wat (show max (0:Int) (min (m:Int) (z.cps.size:Int)) = ((min m z.cps.size:Nat):Int) by omega) ?_
  exact sliceRange_one _ _
 have e2:((List.range (z.cps.size - min m z.cps.size)).map (min m z.cps.size + ·)).filterMap (z.cps[·]?) = z.cps.toList.drop m:=by
  rw [pick_run]
  apply List.ext_getElem?
  intro j
  simp only [List.getElem?_take,List.getElem?_drop]
  have hlen:z.cps.toList.length = z.cps.size:=by simp
  by_cases hm:m≤z.cps.size
  · refine wat (Nat.min_eq_left hm) ?_
    split
    · rfl
    · exact wat (List.getElem?_eq_none (by omega)) rfl
  · refine wat (Nat.min_eq_right (by exact linLe [_,_] 1 (.v 1) (.v 0) [.nle 1 (.v 0) (.v 1)] rfl hm)) (wat (List.getElem?_eq_none (by exact linLe [_,_,_] 1 (.v 0) (.a (.v 1) (.v 2)) [.eq 1 (.v 0) (.v 1)] rfl hlen:z.cps.toList.length≤z.cps.size + j)) (wat (List.getElem?_eq_none (by exact linLe [_,_,_,_] 1 (.v 0) (.a (.v 2) (.v 3)) [.eq 1 (.v 0) (.v 1),.nle 1 (.v 2) (.v 1)] rfl hlen hm:z.cps.toList.length≤m + j)) ?_));simp
 unfold Txt.slice
 refine wat e1 (wat e2 ?_)
 split
 · rename_i hc
   simp only [beq_self_eq_true,Bool.true_and,List.length_map,List.length_range,beq_iff_eq,hl] at hc
   obtain ⟨⟨l⟩⟩:=z
   have:m = 0∨l.length = 0:=by simp at hc;lia
   rcases this with rfl | h0
   · simp
   · have:l = []:=List.length_eq_zero_iff.mp h0
     subst this;simp
 · simp
theorem wp_slice {value:Expr} {lower upper:Option Expr} {pos:Pos} {x vl vu:Value} {a:AV} {lo:Int} {lo' hi:Option Int} {sl:Addr} {Q:AV→AHeap→Prop} (i:INV w B os₀ s H) (r:RV s.heap H a x) (hs:s.heap.get? sl = some { cls:=.type "slice",data:=.fields #[vl,vu,.none] }) (pl:IsPart vl lo') (hlo:lo'.getD 0 = lo) (pu:IsPart vu hi)
 (h:SliceR H Q a lo hi):WpE prog w B os₀ A (subscriptTail value (.Slice lower upper none pos) x (.ref sl)) s H (RQ Q) X:=by
 have hsl:s.heap.IsSliceOf sl vl vu .none:=⟨_,hs,rfl,rfl⟩
 cases h with
 | list h0 h1 h2 ha hsz h=>
   obtain rfl:=r.vref
   refine bc fun nG=>?_
   obtain ⟨vs,m,e,rv⟩:=listAt_of i ha
   refine nG ?_
   refine tail_any (T:="list") ⟨_,e,rfl⟩ slot_list_getitem.lookup ?_ rfl
   refine wp_slice_list i (listO_isList e) rv hsl pl pu (by lia) h2 hsz ?_
   refine wat hlo ?_;exact h
 | @str z _ h0 hsz h=>
   obtain ⟨_,rfl⟩:=r.vstr
   cases pu
   refine tail_any (T:="str") (typeIs_str s _ _) PySem.F.slot_str_getitem.lookup ?_ rfl
   have key:Txt.slice z lo' none = ⟨(z.cps.toList.drop lo.toNat).toArray⟩:=by
    cases lo' with
    | some j=>cases hlo;exact slice_str z _ h0
    | none=>
      cases hlo
      refine Eq.trans ?_ (slice_str z 0 (by lia))
      unfold Txt.slice Builtin.Str.strSliceIndices
      simp only [show ¬ ((0:Int) < 0) by decide,if_false,show (1:Int) > 0 by decide,if_true]
      exact wat (show max (0:Int) (min 0 (z.length:Int)) = 0 by lia) rfl
   have hle:=Nat.le_trans (Txt.slice_le z lo' none) (by have:=size1000;exact Nat.le_trans ‹_› (by decide):z.length≤sizeLine)
   cases pl with
   | none=>exact wpAny_getItem_str_slice (l:=none) (u:=none) (st:=none) ⟨_,hs,rfl,rfl⟩ rfl (post_val_or_str ⟨hle,fun t' k=>⟨H,i.toks _,Ext.refl _ _ _,_,key▸.str,h⟩⟩)
   | int j u=>exact wpAny_getItem_str_slice (l:=some (j,u)) (u:=none) (st:=none) ⟨_,hs,rfl,rfl⟩ rfl (post_val_or_str ⟨hle,fun t' k=>⟨H,i.toks _,Ext.refl _ _ _,_,key▸.str,h⟩⟩)
theorem made_slice {vl vu:Value} (i:INV w B os₀ s H):INV w B os₀ { s with heap:=s.heap.push { cls:=.type "slice",data:=.fields #[vl,vu,.none] } } H∧ExtE s.heap H (s.heap.push { cls:=.type "slice",data:=.fields #[vl,vu,.none] }) H:=
 ⟨i.grow (push_keeps _ _) rfl rfl,ExtE.grow (push_keeps _ _)⟩
theorem SE_sliceTo {o hi:E} (h1:SE prog w B os₀ C n o) (h2:SE prog w B os₀ C n hi):SE prog w B os₀ C n (.sliceTo o hi):=by
 intro sc vars ex hc A s H env ρ Q X f h
 obtain ⟨ov,hv,p,pos,rfl,hc⟩:=hc
 refine Subscript_ ((h1 sc vars ov hc.1 A s H env ρ _ X f h).step fun v s₁ H₁ i₁ x₁ r₁=>?_)
 obtain ⟨av,rv,hq⟩:=r₁
 refine wpAny_Slice (wpAny_pure (wpAny_evalPart_some (WpE.stepL x₁ (h2 sc vars hv hc.2 A s₁ H₁ env ρ _ X (f.ext i₁ x₁) hq) fun v₂ s₂ H₂ i₂ x₂ x₁₂ r₂=>wpAny_pure ?_)))
 obtain ⟨bv,rw2,hq₂⟩:=r₂
 obtain ⟨k,rfl,hq₂⟩:=hq₂
 obtain ⟨_,rfl⟩:=rw2.vint
 obtain ⟨i₃,x₃⟩:=made_slice (vl:=.none) (vu:=.int _ _) i₂
 exact WpE.lift (Ext.trans x₁₂ x₃) (wp_slice (lo':=none) i₃ ((rv.extE x₂).extE x₃) (Heap.get?_push_size _ rfl) .none rfl (.int _ _) hq₂)
theorem SE_sliceFrom {o lo:E} (h1:SE prog w B os₀ C n o) (h2:SE prog w B os₀ C n lo):SE prog w B os₀ C n (.sliceFrom o lo):=by
 intro sc vars ex hc A s H env ρ Q X f h
 obtain ⟨ov,hv,p,pos,rfl,hc⟩:=hc
 refine Subscript_ ((h1 sc vars ov hc.1 A s H env ρ _ X f h).step fun v s₁ H₁ i₁ x₁ r₁=>?_)
 obtain ⟨av,rv,hq⟩:=r₁
 refine wpAny_Slice (wpAny_evalPart_some (WpE.stepL x₁ (h2 sc vars hv hc.2 A s₁ H₁ env ρ _ X (f.ext i₁ x₁) hq) fun v₂ s₂ H₂ i₂ x₂ x₁₂ r₂=>wpAny_pure (wpAny_pure ?_)))
 obtain ⟨bv,rw2,hq₂⟩:=r₂
 obtain ⟨k,rfl,hq₂⟩:=hq₂
 obtain ⟨_,rfl⟩:=rw2.vint
 obtain ⟨i₃,x₃⟩:=made_slice (vl:=.int _ _) (vu:=.none) i₂
 exact WpE.lift (Ext.trans x₁₂ x₃) (wp_slice (lo':=some _) i₃ ((rv.extE x₂).extE x₃) (Heap.get?_push_size _ rfl) (.int _ _) rfl .none hq₂)
theorem SE_slice {o lo hi:E} (h1:SE prog w B os₀ C n o) (h2:SE prog w B os₀ C n lo) (h3:SE prog w B os₀ C n hi):SE prog w B os₀ C n (.slice o lo hi):=by
 intro sc vars ex hc A s H env ρ Q X f h
 obtain ⟨ov,lv,hv,p,pos,rfl,hc⟩:=hc
 refine Subscript_ ((h1 sc vars ov hc.1 A s H env ρ _ X f h).step fun v s₁ H₁ i₁ x₁ r₁=>?_)
 refine bc fun nG=>?_
 obtain ⟨av,rv,hq⟩:=r₁
 refine nG ?_
 refine wpAny_Slice (wpAny_evalPart_some (WpE.stepL x₁ (h2 sc vars lv hc.2.1 A s₁ H₁ env ρ _ X (f.ext i₁ x₁) hq) fun v₂ s₂ H₂ i₂ x₂ x₁₂ r₂=>wpAny_evalPart_some ?_))
 obtain ⟨bv,rw2,hq₂⟩:=r₂
 refine WpE.stepL x₁₂ (h3 sc vars hv hc.2.2 A s₂ H₂ env ρ _ X ((f.ext i₁ x₁).ext i₂ x₂) hq₂) fun v₃ s₃ H₃ i₃ x₃ x₁₃ r₃=>wpAny_pure ?_
 obtain ⟨cv,rw3,hq₃⟩:=r₃
 refine bc fun nG=>?_
 obtain ⟨k,m,rfl,rfl,hq₃⟩:=hq₃
 refine nG ?_
 obtain ⟨_,rfl⟩:=rw2.vint;obtain ⟨_,rfl⟩:=rw3.vint
 obtain ⟨i₄,x₄⟩:=made_slice (vl:=.int _ _) (vu:=.int _ _) i₃
 exact WpE.lift (Ext.trans x₁₃ x₄) (wp_slice (lo':=some _) i₄ (((rv.extE x₂).extE x₃).extE x₄) (Heap.get?_push_size _ rfl) (.int _ _) rfl (.int _ _) hq₃)
end
section
variable {prog:Program} {w:World} {A:Around} {s:Shared} {Er:Value→Shared→Prop}
theorem set_new_led {Q₁:Value→Shared→Prop} (h:Q₁ (.ref s.heap.objs.size) { s with heap:=s.heap.push (setO [] 0 (.fresh 0 0 (!w.params.followText "set-order"))) }):
 codeAny (model prog w) A (.call (.builtin "set.__new__") ⟨[.type "set"],[]⟩) (wants Q₁ Er) s:=by
 refine codeAny_of_tree ?_
 show wpAny _ A.in1 (do checkBuiltinCall "set.__new__" ⟨[.type "set"],[]⟩;again (.builtin "set.__new__" ⟨[.type "set"],[]⟩)) _ _ s
 refine wpAny_bind (wpAny_of_eq F.newCall_set_0 (wpAny_pure ⟨plainId_quiet F.plain_set_new _,codeAny_builtin F.entry_set_new ?_⟩))
 refine wat (Around.under_plainId F.plain_set_new _) ?_
 unfold Builtin.«set.__new__» Builtin.Frozenset.newClass
 have hsub:=sub_set_self
 obtain ⟨hp,g,d,tk,os⟩:=s
 dsimp only
 refine wpAny_bind (wpAny_bind ?_)
 wp_delta
 refine wpAny_pure (wpAny_ite_false (by rfl) (wpAny_bind (wpAny_of_eq ‹_› ?_)))
 refine wpAny_ite_false (by rfl) (wpAny_pure (wpAny_bind ?_))
 wp_delta
 refine wpAny_bind ?_
 wp_delta
 refine wpAny_bind ?_
 refine wpAny_askSetting (wpAny_pure ?_)
 dsimp only
 simp only [newObj]
 refine wpAny_bind (wpAny_alloc (wpAny_pure ?_))
 exact wpAny_pure h
set_option maxHeartbeats 1000000 in
set_option maxRecDepth 100000 in
theorem call_set_led {Q:Value→Shared→Prop} (h:Q (.ref s.heap.objs.size) { s with heap:=s.heap.push (setO [] 0 (.fresh 0 0 (!w.params.followText "set-order"))) }):
 wpAny (model prog w) A (call (.type "set") []) Q Er s:=by
 generalize hled:(!w.params.followText "set-order") = led at h
 obtain ⟨c,tl,hmro⟩:=F.called_set.mro
 have hmade:=F.called_set.made
 have hsub:=F.called_set.sub
 refine wpAny_call (codeAny_of_tree ?_)
 show wpAny _ _ (callAny (.type "set") _) _ _ _
 refine wpAny_pure ⟨Code.quiet_builtin _ (by decide +kernel),codeAny_builtin F.entry_type_call ?_⟩
 refine wat (Around.under_plain (weight_type_call_type "set" [] []) rfl) ?_
 have h1:=F.called_set.notType
 have h2:=F.called_set.canCreate
 have hct:=F.typeCall_set_0
 wp_delta
 refine wpAny_ite_false (by rfl) (wpAny_ite_false (by rfl) (wpAny_bind (wpAny_of_eq ‹_› ?_)))
 refine wpAny_bind (wpAny_of_eq ‹_› ?_)
 refine wpAny_ite_false (by rfl) (wpAny_bind (wpAny_of_eq ‹_› ?_))
 refine wpAny_bind (wpAny_pure (wpAny_bind (wpAny_holding (wpAny_call ?_))))
 refine codeAny_mono (set_new_led (Er:=Er) (Q₁:=fun obj s₁=>obj = .ref s.heap.objs.size∧s₁ = { s with heap:=s.heap.push (setO [] 0 (.fresh 0 0 led)) }) ⟨rfl,by exact wat hled rfl⟩) fun r s₁ hr=>?_
 cases r with
 | error e=>exact hr
 | ok fl=>
   cases fl with
   | ret obj=>
     obtain ⟨rfl,rfl⟩:=hr
     have hS:(s.heap.push (setO [] 0 (.fresh 0 0 led))).get? s.heap.objs.size = some (setO [] 0 (.fresh 0 0 led)):=Heap.get?_push_size _ rfl
     have hT:Shared.TypeIs { s with heap:=s.heap.push (setO [] 0 (.fresh 0 0 led)) } (.ref s.heap.objs.size) "set":=⟨_,hS,rfl⟩
     have hli:=F.called_set.init.lookup
     have hbi:=F.called_set.init.bind (.ref s.heap.objs.size)
     refine wpAny_bind (wpAny_isInstance ‹_› ‹_› ?_)
     refine wpAny_ite_false (by rfl) (wpAny_bind (wpAny_holding ?_))
     wp_delta
     refine wpAny_bind (wpAny_specialOf ‹_› ‹_› ?_)
     refine wpAny_holding (wpAny_bind (wpAny_of_eq ‹_› ?_))
     refine wpAny_bind (wpAny_call ?_)
     refine codeAny_mono (codeAny_call_builtin (R:=wants (fun r s₂=>r = .none∧Q (.ref s.heap.objs.size) s₂) Er) F.called_set.init.plain F.entry_set_init (check_set_init hT ?_)) fun r₂ s₂ hr₂=>?_
     · unfold Builtin.«set.__init__» noKeywords
       refine wpAny_bind (wpAny_ite_true (by rfl) (wpAny_pure ?_))
       wp_delta
       refine wpAny_bind ?_
       wp_delta
       refine wpAny_bind ?_
       wp_delta
       refine wpAny_bind (wpAny_typeOf ‹_› ?_)
       refine wpAny_ite_false (by rfl) (wpAny_pure ?_)
       wp_delta
       wp_delta
       refine wpAny_pure (wpAny_bind ?_)
       wp_delta
       refine wpAny_ite_false (by rfl) (wpAny_ite_false (by rfl) (wpAny_ite_false (by rfl) (wpAny_pure (wpAny_bind ?_))))
       wp_delta
       refine wpAny_pure (wpAny_bind ?_)
       wp_delta
       refine wpAny_bind ?_
       wp_delta
       refine wpAny_bind ?_
       ((with_reducible apply wpAny_load');focus (heap_get;done))
       refine wpAny_ite_false (by rfl) (wpAny_pure (wpAny_pure (wpAny_ite_false (by rfl) ?_)))
       wp_delta
       wp_delta
       refine wpAny_pure ?_
       exact ⟨rfl,h⟩
     · cases r₂ with
       | error e=>exact hr₂
       | ok fl₂=>
         cases fl₂ with
         | ret r=>
           obtain ⟨rfl,hq⟩:=hr₂
           refine wpAny_pure (wpAny_ite_false (by rfl) ?_)
           wp_delta
           wp_delta
           exact wpAny_pure ‹_›
         | _=>exact hr₂.elim
   | _=>exact hr.elim
end
noncomputable def Bi.val:Bi→Value
 | .len=>.builtin "len"
 | .set=>.type "set"
 | .list=>.type "list"
 | .str=>.type "str"
 | .int=>.type "int"
 | .ord=>.builtin "ord"
theorem Bi.boot:∀ b:Bi,bootBuiltins b.name = some b.val∧b.name≠Str.ofString "__name__"∧b.name∈biNames:=by
 intro b;cases b<;>exact ⟨by decide +kernel,by decide +kernel,by decide +kernel⟩
section
variable {prog:Program} {w:World} {B:Heap} {os₀:OsState} {C:CallSem} {n:Nat} {A:Around} {s:Shared} {H:AHeap} {K:Frag} {mg mb:Str→Option Value}
variable {sc:Scope} {vars:List Str} {env:Env} {ρ:Loc} {X:AHeap→Prop} {Er:Value→Shared→Prop}
theorem evalArgs_gen {f:Value} {args:List (Bool×Sem Value)} {Q:Args→Shared→Prop} (hp:args.any (·.1) = false) (h:wpAny (model prog w) A (spliced args) (fun vs s'=>Q ⟨vs,[]⟩ s') Er s):wpAny (model prog w) A (evalArgs f true args []) Q Er s:=by
 cases args with
 | nil=>
   refine wpAny_bind (wpAny_mono h (fun vs s' h'=>?_) fun _ _ x=>x)
   exact wpAny_bind (wpAny_pure (wpAny_holding (wpAny_bind (wpAny_pure (wpAny_bind (wpAny_pure (wpAny_pure h')))))))
 | cons x rest=>
   obtain ⟨st,x⟩:=x
   cases st with
   | true=>simp at hp
   | false=>exact Calls.evalArgs_plain h
theorem callWith_machine {pos:Pos} {f:Value} {first:List Value} {args:List (Bool×Sem Value)} {Q:Value→Shared→Prop} (hf:∀ a,f≠.ref a) (hp:args.any (·.1) = false)
 (h:wpAny (model prog w) A (spliced args) (fun vs s₁=>wpAny (model prog w) A (call f (first ++ vs)) Q Er s₁) Er s):wpAny (model prog w) A (callWith pos f first args []) Q Er s:=by
 refine wpAny_bind (wpAny_holding (evalArgs_gen hp (wpAny_mono h (fun a s₁ h₁=>wpAny_bind (wpAny_standAt ?_)) fun _ _ x=>x)))
 have hs:(args.any (·.1) || ([]:List (Option Str×Sem Value)).any (·.1.isNone)) = false:=by rw [hp];rfl
 have hk:keeperOf f = pure .machine:=by
  cases f<;>first | rfl | exact absurd rfl (hf _)
 refine weqb hk ?_
 refine wpAny_bind (wpAny_pure ?_)
 refine wat hs ?_
 exact wpAny_bind (wpAny_mono h₁ (fun r s₂ hr=>wpAny_bind (wpAny_holding (wpAny_point (wpAny_pure hr)))) fun _ _ x=>x)
theorem callWith_fn {pos:Pos} {a:Addr} {o:Obj} {fd:FuncData} {first:List Value} {args:List (Bool×Sem Value)} {Q:Value→Shared→Prop} (hp:args.any (·.1) = false) (hd:o.data = .func fd)
 (h:wpAny (model prog w) A (spliced args) (fun vs s₁=>s₁.heap.get? a = some o∧wpAny (model prog w) A (call (.ref a) (first ++ vs)) Q Er s₁) Er s):wpAny (model prog w) A (callWith pos (.ref a) first args []) Q Er s:=
 callWith_function_kw (evalArgs_gen hp (wpAny_mono h (fun vs s₁ h₁=>⟨⟨h₁.1,hd⟩,h₁.2⟩) fun _ _ x=>x))
theorem backTo_plain (pos:Pos) {es:EL}:∀ {exs:List Expr},TrEL sc vars es exs→(backTo pos (starEach exs env)).any (·.1) = false:=by
 intro exs
 induction exs generalizing es with
 | nil=>intro _;rfl
 | cons x r ih=>
   intro h
   cases es with
   | nil=>cases h
   | cons e es=>
     obtain ⟨_,_,e',h⟩:=h
     cases e'
     refine wat (chk_notStarred h.1) ?_
     exact ih h.2.2
theorem SE_gstr (bs:Base K mg mb B) (z:Str):SE prog w B os₀ C n (.gstr z):=by
 intro sc vars ex hc A s H env ρ Q X f h
 obtain ⟨x,p,rfl,hc⟩:=hc
 simp only [Bool.and_eq_true,beq_iff_eq] at hc
 obtain ⟨⟨hg,rfl⟩,rfl⟩:=hc
 obtain ⟨t,ht⟩:=bs.col
 exact wp_glob bs f.inv f.ev hg ht ⟨H,f.inv,Ext.refl _ _ _,_,.str,h⟩
theorem wp_bi {b:Bi} {avs:List AV} {vs:List Value} {Q:AV→AHeap→Prop} (i:INV w B os₀ s H) (r:RVs s.heap H avs vs) (h:BiR H Q b avs):WpE prog w B os₀ A (call b.val vs) s H (RQ Q) X:=by
 cases h with
 | lenL ha hl h=>cases r with | cons r rest=>obtain rfl:=rest.vnil;obtain rfl:=r.vref;exact wp_len_list i ha hl h
 | lenS ha h=>cases r with | cons r rest=>obtain rfl:=rest.vnil;obtain rfl:=r.vref;exact wp_len_set i ha h
 | set h=>
   obtain rfl:=r.vnil
   obtain ⟨i',x⟩:=newSet_inv i
   exact call_set_led ⟨_,i',x,_,.ref,h _ _ i.freshSize⟩
 | list ha hl h=>cases r with | cons r rest=>obtain rfl:=rest.vnil;obtain rfl:=r.vref;exact wp_list_list i ha hl h
 | str h0 h1 h=>cases r with | cons r rest=>obtain rfl:=rest.vnil;obtain ⟨_,rfl⟩:=r.vint;exact wp_str_int i h0 h1 h
 | int hz h0 h1 h=>cases r with | cons r rest=>obtain rfl:=rest.vnil;obtain ⟨_,rfl⟩:=r.vstr;exact wp_int_str i hz h0 h1 h
 | ord hz h=>cases r with | cons r rest=>obtain rfl:=rest.vnil;obtain ⟨_,rfl⟩:=r.vstr;exact wp_ord_str i hz h
theorem SE_bi (bs:Base K mg mb B) {b:Bi} {args:EL} (h1:SEL prog w B os₀ C n args):SE prog w B os₀ C n (.bi b args):=by
 intro sc vars ex hc A s H env ρ Q X f h
 obtain ⟨x,np,as,pos,rfl,hc0,hc1⟩:=hc
 rw [Bool.and_eq_true,beq_iff_eq] at hc0
 obtain ⟨hg,rfl⟩:=hc0
 obtain ⟨b1,b2,b3⟩:=b.boot
 refine wpAny_Call_NameR (wp_builtin bs f.inv f.ev hg (bs.noB _ b3) b2 b1 ?_)
 refine callWith_machine (by intro a;cases b<;>simp [Bi.val]) (backTo_plain pos hc1) ((h1 sc vars as pos hc1 A s H env ρ _ X f h).step fun vs s₁ H₁ i₁ x₁ r₁=>?_)
 refine bc fun nG=>?_
 obtain ⟨_,avs,rv,hq⟩:=r₁
 refine nG ?_
 exact WpE.lift x₁ (wp_bi i₁ rv hq)
noncomputable def Bm.typ:Bm→String
 | .append | .insert=>"list"
 | .add | .spop | .update=>"set"
 | .get | .dpop=>"dict"
 | .lower | .split=>"str"
noncomputable def Bm.id:Bm→String
 | .append=>"list.append"
 | .insert=>"list.insert"
 | .add=>"set.add"
 | .spop=>"set.pop"
 | .update=>"set.update"
 | .get=>"dict.get"
 | .dpop=>"dict.pop"
 | .lower=>"str.lower"
 | .split=>"str.split"
theorem Bm.slot:∀ b:Bm,Slot b.typ b.name b.id∧typeOf (.builtin b.id) = pure (.type "method_descriptor")∧PlainAttrs b.typ:=by
 intro b
 cases b
 · exact ⟨PySem.F.slot_list_append,PySem.F.type_list_append,PySem.F.plainAttrs_list⟩
 · exact ⟨PySem.F.slot_list_insert,PySem.F.type_list_insert,PySem.F.plainAttrs_list⟩
 · exact ⟨PySem.F.slot_set_add,PySem.F.type_set_add,PySem.F.plainAttrs_set⟩
 · exact ⟨PySem.F.slot_set_pop,PySem.F.type_set_pop,PySem.F.plainAttrs_set⟩
 · exact ⟨PySem.F.slot_set_update,PySem.F.type_set_update,PySem.F.plainAttrs_set⟩
 · exact ⟨PySem.F.slot_dict_get,PySem.F.type_dict_get,PySem.F.plainAttrs_dict⟩
 · exact ⟨PySem.F.slot_dict_pop,PySem.F.type_dict_pop,PySem.F.plainAttrs_dict⟩
 · exact ⟨PySem.F.slot_str_lower,PySem.F.type_str_lower,PySem.F.plainAttrs_str⟩
 · exact ⟨PySem.F.slot_str_split,PySem.F.type_str_split,PySem.F.plainAttrs_str⟩
theorem kind_type {b:Bm} {av:AV} {v:Value} (i:INV w B os₀ s H) (r:RV s.heap H av v) (h:kindOk H b av):s.TypeIs v b.typ∧∀ a,v = .ref a→∃ ob,s.heap.get? a = some ob∧ob.dict = none:=by
 have ls:∀ {a xs},H a = some (.list xs)→s.TypeIs (.ref a) "list"∧∀ a',Value.ref a = .ref a'→∃ ob,s.heap.get? a' = some ob∧ob.dict = none:=fun ha=>by
  refine bc fun nG=>?_
  obtain ⟨vs,m,e,_⟩:=isList_of i ha
  refine nG ?_
  exact ⟨⟨_,e,rfl⟩,fun a' q=>by cases q;exact ⟨_,e,rfl⟩⟩
 have st:∀ {a S g},H a = some (.set S g)→s.TypeIs (.ref a) "set"∧∀ a',Value.ref a = .ref a'→∃ ob,s.heap.get? a' = some ob∧ob.dict = none:=fun ha=>by
  refine bc fun nG=>?_
  obtain ⟨ps,es,m,t,x,_⟩:=setAt_of i ha
  refine nG ?_
  exact ⟨⟨_,x.get,rfl⟩,fun a' q=>by cases q;exact ⟨_,x.get,rfl⟩⟩
 have dt:∀ {a es g},H a = some (.dict es g)→s.TypeIs (.ref a) "dict"∧∀ a',Value.ref a = .ref a'→∃ ob,s.heap.get? a' = some ob∧ob.dict = none:=fun ha=>by
  obtain ⟨xs,m,e,_⟩:=i.rep _ _ ha
  exact ⟨⟨_,e,rfl⟩,fun a' q=>by cases q;exact ⟨_,e,rfl⟩⟩
 have tx:∀ {z t},s.TypeIs (.str z t) "str"∧∀ a',Value.str z t = .ref a'→∃ ob,s.heap.get? a' = some ob∧ob.dict = none:=fun {z t}=>⟨typeIs_str _ _ _,fun a' q=>by cases q⟩
 cases b
 · obtain ⟨a,xs,rfl,h⟩:=h;obtain rfl:=r.vref;exact ls h
 · obtain ⟨a,xs,rfl,h⟩:=h;obtain rfl:=r.vref;exact ls h
 · obtain ⟨a,S,g,rfl,h⟩:=h;obtain rfl:=r.vref;exact st h
 · obtain ⟨a,S,g,rfl,h⟩:=h;obtain rfl:=r.vref;exact st h
 · obtain ⟨a,S,g,rfl,h⟩:=h;obtain rfl:=r.vref;exact st h
 · obtain ⟨a,S,g,rfl,h⟩:=h;obtain rfl:=r.vref;exact dt h
 · obtain ⟨a,S,g,rfl,h⟩:=h;obtain rfl:=r.vref;exact dt h
 · obtain ⟨z,rfl⟩:=h;obtain ⟨_,rfl⟩:=r.vstr;exact tx
 · obtain ⟨z,rfl⟩:=h;obtain ⟨_,rfl⟩:=r.vstr;exact tx
theorem wp_bm (bs:Base K mg mb B) {b:Bm} {av:AV} {v:Value} {avs:List AV} {vs:List Value} {Q:AV→AHeap→Prop} (i:INV w B os₀ s H)
 (h:BmR H Q b av avs) (r:RV s.heap H av v) (rs:RVs s.heap H avs vs) (hu:A.units + 100 < cLine):WpE prog w B os₀ A (call (.builtin b.id) (v :: vs)) s H (RQ Q) X:=by
 have hu':A.units + 20 < cLine:=by exact linLt [_,_] 1 (.a (.v 0) (.n 20)) (.v 1) [.lt 1 (.a (.v 0) (.n 100)) (.v 1)] rfl hu
 have hu':A.units + 10 < cLine:=by exact linLt [_,_] 1 (.a (.v 0) (.n 10)) (.v 1) [.lt 1 (.a (.v 0) (.n 100)) (.v 1)] rfl hu
 cases h with
 | append ha hl h=>obtain rfl:=r.vref;obtain ⟨_,_,rfl,ra,rest⟩:=rs.vcons;obtain rfl:=rest.vnil;exact wp_append i ha ra hl h
 | insert ha h0 h1 hl h=>obtain rfl:=r.vref;obtain ⟨_,_,rfl,ra,rest⟩:=rs.vcons;obtain ⟨_,rfl⟩:=ra.vint;cases rest with | cons rb rest=>obtain rfl:=rest.vnil;exact wp_insert i ha rb h0 h1 hl h
 | @addIn a S g rr cc ha hin h=>
   obtain rfl:=r.vref;cases rs with
   | cons ra rest=>
     obtain rfl:=rest.vnil
     obtain ⟨c,rfl⟩:=pt_ref ra
     exact wp_add (p:=(rr,cc)) i ha ra ‹_› (fun hn=>absurd hin hn) (fun _=>h) fun hn=>absurd hin hn
 | @add a S g rr cc ha hin hsz h=>
   obtain rfl:=r.vref;cases rs with
   | cons ra rest=>
     obtain rfl:=rest.vnil
     obtain ⟨c,rfl⟩:=pt_ref ra
     exact wp_add (p:=(rr,cc)) i ha ra ‹_› (fun _=>hsz) (fun hi=>absurd hi hin) fun _=>h
 | spop ha hne h=>obtain rfl:=r.vref;obtain rfl:=rs.vnil;exact wp_spop i ha hne h
 | update ha hb hne hsz h=>obtain rfl:=r.vref;obtain ⟨_,_,rfl,ra,rest⟩:=rs.vcons;obtain rfl:=rest.vnil;obtain rfl:=ra.vref;exact wp_update i ha hb hne hsz ‹_› h
 | @get a es g rr cc hd h=>
   obtain rfl:=r.vref;cases rs with
   | cons ra rest=>
     obtain rfl:=rest.vnil
     obtain ⟨c,rfl⟩:=pt_ref ra
     refine bc fun nG=>?_
     obtain ⟨xs,m,e,_,rd,hn⟩:=i.rep _ _ hd
     refine nG ?_
     exact meets_get _ c (rr,cc) (notSys i bs.sysm hd) e rd hn ra hu' fun v t rv=>⟨H,i.toks t,Ext.refl _ _ _,_,rv,h⟩
 | @dpop a es g rr cc u hd hl hsz h=>
   obtain rfl:=r.vref;cases rs with
   | cons ra rest=>
     obtain rfl:=rest.vnil
     obtain ⟨c,rfl⟩:=pt_ref ra
     exact wp_pop_dict (p:=(rr,cc)) i ra hd hl hsz hu' h
 | lower hl ha h=>obtain ⟨_,rfl⟩:=r.vstr;obtain rfl:=rs.vnil;exact wp_lower i hl ha h
 | split hl hd hn h=>obtain ⟨_,rfl⟩:=r.vstr;obtain ⟨_,_,rfl,ra,rest⟩:=rs.vcons;obtain rfl:=rest.vnil;obtain ⟨_,rfl⟩:=ra.vstr;exact wp_split i hl hd hn h
theorem base_plain {o:Expr} (h:notCall o = true) (name:Str):attributeBase o name env (eval o env) = eval o env:=by
 cases o<;>first | rfl | exact nob h
theorem few_args {es:EL} {exs:List Expr} (pos:Pos) (h:TrEL sc vars es exs) (hl:exs.length < 20):((backTo pos (starEach exs env)).all (fun x=>!x.1) && (backToKw pos (keywordEach [] env)).all (fun x=>x.1.isSome)
 && decide (exs.length + ([]:List Keyword).length + (if ([]:List Keyword).isEmpty then 0 else 1) < 30)) = true:=by
 have h1:=backTo_plain (env:=env) pos h
 have h2:(backTo pos (starEach exs env)).all (fun x=>!x.1) = true:=by
  rw [List.all_eq_true]
  intro x hx
  have:=List.any_eq_false.mp h1 x hx
  simpa using this
 refine wat h2 ?_
 exact decide_eq_true (show exs.length + 0 + 0 < 30 from Nat.lt_of_lt_of_le hl (by decide))
theorem SE_bm (bs:Base K mg mb B) {b:Bm} {o:E} {args:EL} (h1:SE prog w B os₀ C n o) (h2:SEL prog w B os₀ C n args):SE prog w B os₀ C n (.bm b o args):=by
 intro sc vars ex hc A s H env ρ Q X f h
 obtain ⟨ov,x,ap,as,pos,rfl,hc0,hc1,hc2⟩:=hc
 simp only [Bool.and_eq_true,beq_iff_eq,decide_eq_true_eq] at hc0
 obtain ⟨⟨⟨rfl,hnc⟩,hln⟩,hl⟩:=hc0
 obtain ⟨b1,b2,b3⟩:=b.slot
 refine wpAny_Call_method (base_plain hnc _) (few_args pos hc2 hl) (by refine wat hln ?_;simp) b3 b1 b2 ((h1 sc vars ov hc1 A s H env ρ _ X f h).step fun v s₁ H₁ i₁ x₁ r₁=>?_)
 refine bc fun nG=>?_
 obtain ⟨av,rv,hk,hq⟩:=r₁
 refine nG ?_
 obtain ⟨t1,t2⟩:=kind_type i₁ rv hk
 refine ⟨t1,t2,callWith_machine (by intro a;simp) (backTo_plain pos hc2) (WpE.stepL x₁ (h2 sc vars as pos hc2 A s₁ H₁ env ρ _ X (f.ext i₁ x₁) hq) fun vs s₂ H₂ i₂ x₂ x₁₂ r₂=>?_)⟩
 refine bc fun nG=>?_
 obtain ⟨_,avs,rvs,hq₂⟩:=r₂
 refine nG ?_
 exact WpE.lift x₁₂ (wp_bm bs i₂ hq₂ (rv.extE x₂) rvs (by have:=f.units;exact linLt [_,_] 1 (.a (.v 0) (.n 100)) (.v 1) [.lt 1 (.a (.v 0) (.n 200)) (.v 1)] rfl this))
end
section
variable (prog:Program) (w:World) (B:Heap) (os₀:OsState)
noncomputable def Back (A:Around) (s:Shared) (H:AHeap) (Q:AV→AHeap→Prop) (X:AHeap→Prop) (r:Result) (s':Shared):Prop:=match r with
 | .ok (.ret v)=>OkE w B os₀ s.heap H (RQ Q) v s'
 | .ok _=>False
 | .error e=>XE w B os₀ A s.heap H X e s'
noncomputable def CallOk (n:Nat) (C:CallSem):Prop:=∀ (f:Fn) args vals A s H Q X,Cx B A s.heap H→Room n A→INV w B os₀ s H→RVs s.heap H args vals→C f args H Q X→
 codeAny (model prog w) A (.call (.ref f.addr) ⟨vals,[]⟩) (Back w B os₀ A s H Q X) s
noncomputable def Opp (mg:Str→Option Value):Prop:=(X4 fun d f t1 t2=>A4 (mg (Str.ofString "_opponents") = some (.ref d)) (B.MapOf (strKind prog w) d f) (f (Str.ofString "b") = some (.str (Str.ofString "w") t1)) (f (Str.ofString "w") = some (.str (Str.ofString "b") t2)))
end
section
variable {prog:Program} {w:World} {B:Heap} {os₀:OsState} {C:CallSem} {n:Nat} {A:Around} {s:Shared} {H:AHeap} {K:Frag} {mg mb:Str→Option Value}
variable {sc:Scope} {vars:List Str} {env:Env} {ρ:Loc} {X:AHeap→Prop} {Er:Value→Shared→Prop}
theorem CallOk.wp (ok:CallOk prog w B os₀ n C) {f:Fn} {args:List AV} {vals:List Value} {Q:AV→AHeap→Prop} (cx:Cx B A s.heap H) (rm:Room n A) (i:INV w B os₀ s H) (r:RVs s.heap H args vals) (h:C f args H Q X):
 WpE prog w B os₀ A (call (.ref f.addr) vals) s H (RQ Q) X:=
 wpAny_call (codeAny_mono (ok f args vals A s H Q X cx rm i r h) fun r s' z=>by
  rcases r with e | (v | _ | _ | _)<;>first | exact z | exact z.elim)
theorem SE_call (bs:Base K mg mb B) (ok:CallOk prog w B os₀ n C) {f:Fn} {args:EL} (h1:SEL prog w B os₀ C n args):SE prog w B os₀ C n (.call f args):=by
 intro sc vars ex hc A s H env ρ Q X fr h
 obtain ⟨x,np,as,pos,rfl,hc0,hc1⟩:=hc
 simp only [Bool.and_eq_true,beq_iff_eq,Bool.not_eq_true'] at hc0
 obtain ⟨⟨hm,hg⟩,rfl⟩:=hc0
 obtain ⟨o,fd,hb,_,hd,_,_⟩:=bs.fn f
 refine wpAny_Call_NameR (wp_glob bs fr.inv fr.ev hg (bs.fnG f hm) ?_)
 refine callWith_fn (backTo_plain pos hc1) hd ((h1 sc vars as pos hc1 A s H env ρ _ X fr h).step fun vs s₁ H₁ i₁ x₁ r₁=>?_)
 refine bc fun nG=>?_
 obtain ⟨_,avs,rv,hq⟩:=r₁
 refine nG ?_
 exact ⟨i₁.keeps _ _ hb,WpE.lift x₁ (ok.wp (fr.cx.ext x₁) fr.room.room i₁ rv hq)⟩
theorem gname_ne:∀ (f:Fn) (g:Fld),f.isMeth = true→g.name≠f.gname:=by
 intro f g h
 cases f<;>first | exact Bool.noConfusion (show false = true from h) | (cases g<;>decide)
theorem Call_inst {o:Expr} {name:Str} {apos pos:Pos} {args:List Expr} {Q:Value→Shared→Prop}
 (hbase:attributeBase o name env (eval o env) = eval o env)
 (hfew:((backTo pos (starEach args env)).all (fun x=>!x.1) && (backToKw pos (keywordEach [] env)).all (fun x=>x.1.isSome)
   && decide (args.length + ([]:List Keyword).length + (if ([]:List Keyword).isEmpty then 0 else 1) < 30)) = true)
 (hline:(apos.endLine == pos.line) = true)
 (h:wpAny (model prog w) A (eval o env) (fun ov s₁=>(X2 fun f first=>A2 ((∀ pl Q' E',Q' (f,first) s₁→wpAny (model prog w) A (getMethod ov name pl) Q' E' s₁)) (wpAny (model prog w) A (callWith pos f first (backTo pos (starEach args env)) []) Q Er s₁))) Er s):
 wpAny (model prog w) A (eval (.Call (.Attribute o name apos) args [] pos) env) Q Er s:=by
 rw [arm_eval_Call,hbase]
 refine wpAny_bind (wpAny_mono h (fun ov s₁ h₁=>?_) fun _ _ e=>e)
 refine bc fun nG=>?_
 obtain ⟨f,first,hm,hc⟩:=h₁
 refine nG ?_
 refine wpAny_bind (wpAny_standAt ?_)
 have hform:methodCallForm (args.length + ([]:List Keyword).length) (backTo pos (starEach args env)) (backToKw pos (keywordEach [] env)) = true:=hfew
 have hpos:methodCallPos true o env apos pos = pure pos:=by unfold methodCallPos;simp [hline]
 unfold methodCall
 refine wat hform ?_
 refine wpAny_bind (wpAny_holding (hm _ _ _ ?_))
 exact wpAny_bind (wpAny_of_eq hpos hc)
theorem SE_meth (bs:Base K mg mb B) (ok:CallOk prog w B os₀ n C) {f:Fn} {o:E} {args:EL} (h1:SE prog w B os₀ C n o) (h2:SEL prog w B os₀ C n args):SE prog w B os₀ C n (.meth f o args):=by
 intro sc vars ex hc A s H env ρ Q X fr h
 obtain ⟨ov,x,ap,as,pos,rfl,hc0,hc1,hc2⟩:=hc
 simp only [Bool.and_eq_true,beq_iff_eq,decide_eq_true_eq] at hc0
 obtain ⟨⟨⟨⟨hm,rfl⟩,hnc⟩,hln⟩,hl⟩:=hc0
 obtain ⟨o',fd,hb,_,hd,_,_⟩:=bs.fn f
 obtain ⟨m1,m2,m3⟩:=bs.meth f hm
 refine Call_inst (base_plain hnc _) (few_args pos hc2 hl) (by refine wat hln ?_;simp) ((h1 sc vars ov hc1 A s H env ρ _ X fr h).step fun v s₁ H₁ i₁ x₁ r₁=>?_)
 refine bc fun nG=>?_
 obtain ⟨av,rv,⟨a,dx,fs,rfl,ha,hdx⟩,hq⟩:=r₁
 refine nG ?_
 obtain rfl:=rv.vref
 obtain ⟨es,m,sl,hC,e2,rn,I⟩:=inst_of i₁ ha hdx
 refine ⟨.ref f.addr,[.ref a],fun pl Q' E' q=>?_,?_⟩
 · refine method_fn (bs.kin.keeps i₁.keeps) I (plainGet_of m3).1 (plainGet_of m3).2 m1 m2 ?_ q
   show (lookIn f.gname (W.dictOf es m)).map _ = _
   rw [lookIn_dict,getL_of rn.1,rn.2.2.1 f.gname (fun g=>gname_ne f g hm)]
   rfl
 · refine callWith_fn (backTo_plain pos hc2) hd (WpE.stepL x₁ (h2 sc vars as pos hc2 A s₁ H₁ env ρ _ X (fr.ext i₁ x₁) hq) fun vs s₂ H₂ i₂ x₂ x₁₂ r₂=>?_)
   refine bc fun nG=>?_
   obtain ⟨_,avs,rvs,hq₂⟩:=r₂
   refine nG ?_
   exact ⟨i₂.keeps _ _ hb,WpE.lift x₁₂ (ok.wp ((fr.cx.ext x₁).ext x₂) fr.room.room i₂ (.cons .ref rvs) hq₂)⟩
theorem SE_opp (bs:Base K mg mb B) (op:Opp prog w B mg) {e:E} (h1:SE prog w B os₀ C n e):SE prog w B os₀ C n (.opp e):=by
 intro sc vars ex hc A s H env ρ Q X fr h
 obtain ⟨x,np,iv,pos,rfl,hc0,hc1⟩:=hc
 simp only [Bool.and_eq_true,beq_iff_eq] at hc0
 obtain ⟨⟨hg,rfl⟩,hns⟩:=hc0
 obtain ⟨d,mf,t1,t2,o1,o2,o3,o4⟩:=op
 refine Subscript_ (wp_glob bs fr.inv fr.ev hg o1 ?_)
 refine (h1 sc vars iv hc1 A s H env ρ _ X fr h).step fun v s₁ H₁ i₁ x₁ r₁=>?_
 obtain ⟨av,rv,hq⟩:=r₁
 have od:s₁.heap.MapOf (strKind prog w) d mf:=let ⟨o,es,ep,ho,r⟩:=o2;⟨o,es,ep,i₁.keeps _ _ ho,r⟩
 refine tail_any (T:="dict") od.typeIs slot_dict_getitem.lookup ?_ (subscripted_plain hns _ _)
 rcases hq with ⟨rfl,hq⟩ | ⟨rfl,hq⟩
 · obtain ⟨_,rfl⟩:=rv.vstr
   exact wpAny_getItem_of (knd:=strKind prog w) (k:=Str.ofString "b") (by simp [PySem.strKind,Value.isStrOf,Value.isStr]) od o3 ⟨H₁,i₁.toks _,x₁,_,.str,hq⟩
 · obtain ⟨_,rfl⟩:=rv.vstr
   exact wpAny_getItem_of (knd:=strKind prog w) (k:=Str.ofString "w") (by simp [PySem.strKind,Value.isStrOf,Value.isStr]) od o4 ⟨H₁,i₁.toks _,x₁,_,.str,hq⟩
theorem addInst {Cc:Addr} (hC:Cc = boardC∨Cc = groupC) (i:INV w B os₀ s H):
 INV w B os₀ { s with heap:=(s.heap.push emptyDict).push (instObj Cc s.heap.objs.size) } ((H.set s.heap.objs.size (.ns fun _=>none)).set (s.heap.objs.size + 1) (.inst Cc s.heap.objs.size))∧
 ExtE s.heap H ((s.heap.push emptyDict).push (instObj Cc s.heap.objs.size)) ((H.set s.heap.objs.size (.ns fun _=>none)).set (s.heap.objs.size + 1) (.inst Cc s.heap.objs.size))∧
 H s.heap.objs.size = none∧H (s.heap.objs.size + 1) = none:=by
 have hsz:(s.heap.push emptyDict).objs.size = s.heap.objs.size + 1:=Heap.size_push ..
 have rn:RN (s.heap.push emptyDict) (H.set s.heap.objs.size (.ns fun _=>none)) (fun _=>none) []:=
  ⟨fun e he=>by simp at he,fun f=>by simp [nsFind,findBy],fun nm _=>by simp [nsFind,findBy],by simp [cnt,one]⟩
 have x1:ExtE s.heap H (s.heap.push emptyDict) (H.set s.heap.objs.size (.ns fun _=>none)):=ExtE.add _ _ (get?_size _) (push_keeps _ _)
 have i1:INV w B os₀ { s with heap:=s.heap.push emptyDict } (H.set s.heap.objs.size (.ns fun _=>none)):=
  i.add (s':={ s with heap:=s.heap.push emptyDict }) (o:=.ns fun _=>none) (get?_size _) (push_keeps _ _) ⟨[],0,Heap.get?_push_size _ rfl,rn⟩ rfl rfl
 have hg2:((s.heap.push emptyDict).push (instObj Cc s.heap.objs.size)).get? (s.heap.objs.size + 1) = some (instObj Cc s.heap.objs.size):=by refine wat hsz.symm ?_;exact Heap.get?_push_size _ rfl
 have hn2:(s.heap.push emptyDict).get? (s.heap.objs.size + 1) = none:=by refine wat hsz.symm ?_;exact get?_size _
 have x2:ExtE (s.heap.push emptyDict) (H.set s.heap.objs.size (.ns fun _=>none)) ((s.heap.push emptyDict).push (instObj Cc s.heap.objs.size)) ((H.set s.heap.objs.size (.ns fun _=>none)).set (s.heap.objs.size + 1) (.inst Cc s.heap.objs.size)):=ExtE.add _ _ hn2 (push_keeps _ _)
 refine ⟨i1.add (s':={ s with heap:=(s.heap.push emptyDict).push (instObj Cc s.heap.objs.size) }) (o:=.inst Cc s.heap.objs.size) hn2 (push_keeps _ _) ⟨hC,_,hg2⟩ rfl rfl,Ext.trans x1 x2,i.freshSize,i.fresh ?_⟩
 cases e:s.heap.get? (s.heap.objs.size + 1) with
 | none=>rfl
 | some o=>exact absurd (Heap.lt_size e) (Nat.not_lt.mpr (Nat.le_succ _))
theorem keeper_cls {Cc:Addr} {Q:Keeper→Shared→Prop} (X':K.In s.heap) (h:keepIn K (.ref Cc) = true) (hm:makesIn K Cc = true) (q:Q .machine s):wpAny (model prog w) A (keeperOf (.ref Cc)) Q Er s:=by
 have Y:=makes_of (M:=model prog w) X' hm
 refine bc fun nG=>?_
 obtain ⟨oc,od,cd,sl,ho,_⟩:=Y.obj
 refine nG ?_
 refine wpAny_bind (wpAny_load ho ?_)
 refine wpAny_bind (Y.call.here ?_)
 exact wpAny_pure q
theorem callWith_clsM {pos:Pos} {Cc:Addr} {args:List (Bool×Sem Value)} {Q:Value→Shared→Prop} (hp:args.any (·.1) = false)
 (h:wpAny (model prog w) A (spliced args) (fun vs s₁=>((X1 fun (K:Frag)=>A3 (K.In s₁.heap) (keepIn K (.ref Cc) = true) (makesIn K Cc = true)))∧wpAny (model prog w) A (call (.ref Cc) vs) Q Er s₁) Er s):wpAny (model prog w) A (callWith pos (.ref Cc) [] args []) Q Er s:=by
 refine wpAny_bind (wpAny_holding (evalArgs_gen hp (wpAny_mono h (fun a s₁ h₁=>wpAny_bind (wpAny_standAt ?_)) fun _ _ x=>x)))
 simp only [hp,List.any_nil,Bool.or_false,List.nil_append]
 refine bc fun nG=>?_
 obtain ⟨⟨K,k1,k2,k3⟩,h₁⟩:=h₁
 refine nG ?_
 refine wpAny_bind (keeper_cls k1 k2 k3 ?_)
 exact wpAny_bind (wpAny_mono h₁ (fun r s₂ hr=>wpAny_bind (wpAny_holding (wpAny_point (wpAny_pure hr)))) fun _ _ x=>x)
theorem SE_newGroup (bs:Base K mg mb B):SE prog w B os₀ C n .newGroup:=by
 intro sc vars ex hc A s H env ρ Q X fr h
 obtain ⟨x,np,pos,rfl,hc⟩:=hc
 rw [Bool.and_eq_true,beq_iff_eq] at hc
 refine bc fun nG=>?_
 obtain ⟨hg,rfl⟩:=hc
 refine nG ?_
 refine bc fun nG=>?_
 obtain ⟨_,b2,_,b4,b5,_,b7⟩:=bs.cls
 refine nG ?_
 have X':=bs.kin.keeps fr.inv.keeps
 refine wpAny_Call_NameR (wp_glob bs fr.inv fr.ev hg b2 (callWith_clsM rfl (Calls.spliced_nil ⟨⟨K,X',b7,b4⟩,?_⟩)))
 refine wpAny_call ?_
 obtain ⟨hh,g,d,t,os⟩:=s
 have Y:=makes_of (M:=model prog w) X' b4
 refine bc fun nG=>?_
 obtain ⟨i',x',n1,n2⟩:=addInst (Cc:=groupC) (.inr rfl) fr.inv
 refine nG ?_
 refine make_core Y (looks_findIn X' b5) (fun self=>Looks.of_pure (oi_bind self)) (.inr ⟨rfl,rfl⟩) ?_
 have hx:((hh.push emptyDict).push (instObj groupC hh.objs.size)).get? (hh.objs.size + 1) = some (instObj groupC hh.objs.size):=by refine wat (Heap.size_push hh emptyDict).symm ?_;exact Heap.get?_push_size _ rfl
 have t1:Looks (model prog w) ((hh.push emptyDict).push (instObj groupC hh.objs.size)) (typeOf (.ref (hh.objs.size + 1))) (.ref groupC):=(Looks.ld hx).andThen .now
 have t2:Looks (model prog w) ((hh.push emptyDict).push (instObj groupC hh.objs.size)) (isInstance (.ref (hh.objs.size + 1)) (.type "object")) true:=t1.andThen (Y.top.keeps fun b o e=>Heap.get?_push_of_some _ (Heap.get?_push_of_some _ e))
 refine codeAny_call_builtin oi_plain entry_oi (@check_slot (model prog w) _ _ _ "object.__init__" "object" "__init__" (.ref (hh.objs.size + 1)) [] [] _ oi_kind oi_split t2 (oi_args (.ref (hh.objs.size + 1))) ?_)
 exact wpAny_pure (And.intro rfl ⟨_,i',x',_,.ref,h _ _ n2 n1 (Nat.succ_ne_self _)⟩)
theorem SE_newBoard (bs:Base K mg mb B) (ok:CallOk prog w B os₀ n C) {e:E} (h1:SE prog w B os₀ C n e):SE prog w B os₀ C n (.newBoard e):=by
 intro sc vars ex hc A s H env ρ Q X fr h
 obtain ⟨x,np,a,pos,rfl,hc0,hc1⟩:=hc
 rw [Bool.and_eq_true,Bool.and_eq_true,beq_iff_eq] at hc0
 obtain ⟨⟨hg,rfl⟩,hok⟩:=hc0
 obtain ⟨b1,_,b3,_,_,b6,_⟩:=bs.cls
 obtain ⟨m1,m2,m3⟩:=bs.meth .init rfl
 refine wpAny_Call_NameR (wp_glob bs fr.inv fr.ev hg b1 (callWith_clsM (by refine wat (chk_notStarred hok) ?_;rfl) ?_))
 refine wat (chk_notStarred hok) ?_
 refine Calls.spliced_cons ((h1 sc vars a hc1 A s H env ρ _ X fr h).step fun v s₁ H₁ i₁ x₁ r₁=>Calls.spliced_nil ?_)
 obtain ⟨av,rv,hq⟩:=r₁
 have X':=bs.kin.keeps i₁.keeps
 refine ⟨⟨K,X',b6,b3⟩,wpAny_call ?_⟩
 obtain ⟨hh,g,d,t,os⟩:=s₁
 have Y:=makes_of (M:=model prog w) X' b3
 refine bc fun nG=>?_
 obtain ⟨i',x',n1,n2⟩:=addInst (Cc:=boardC) (.inl rfl) i₁
 refine nG ?_
 refine make_core Y (looks_findIn X' m1) (fun self=>bind_fn X' self m2) (.inl rfl) ?_
 have cx:=(fr.cx.ext x₁).ext x'
 have rm:=fr.room
 have hcx:Cx B (A.under (.builtin "type.__call__" ⟨.ref boardC :: [v],[]⟩)) ((hh.push emptyDict).push (instObj boardC hh.objs.size)) _:=⟨cx.handled,cx.frames⟩
 have hrm:Room n (A.under (.builtin "type.__call__" ⟨.ref boardC :: [v],[]⟩)):=⟨by have:=rm.1;show A.depth + 1 + 3 * n + 20 < _;exact linLt [_,_,_] 1 (.a (.a (.a (.v 0) (.n 1)) (.m 3 (.v 1))) (.n 20)) (.v 2) [.lt 1 (.a (.a (.v 0) (.m 3 (.v 1))) (.n 22)) (.v 2)] rfl this,by have:=rm.2;show A.units + 1 + 40 * n + 300 < _;exact linLt [_,_,_] 1 (.a (.a (.a (.v 0) (.n 1)) (.m 40 (.v 1))) (.n 300)) (.v 2) [.lt 1 (.a (.a (.v 0) (.m 40 (.v 1))) (.n 310)) (.v 2)] rfl this⟩
 refine codeAny_mono (ok .init [.ref (hh.objs.size + 1),av] [.ref (hh.objs.size + 1),v] _ _ _ _ X hcx hrm i' (.cons .ref (.cons (rv.extE x') .nil)) (hq (hh.objs.size + 1) hh.objs.size n2 n1 (Nat.succ_ne_self _))) fun r s' z=>?_
 cases r with
 | error er=>
   obtain ⟨H₂,i₂,x₂,ex,hX⟩:=z
   exact ⟨H₂,i₂,Ext.trans x₁ (Ext.trans x' x₂),ExOk.mono (A:=A) (.of ex rfl) (fun b o e=>(Ext.trans x₁ x').live b o e id),hX⟩
 | ok fl=>
   cases fl with
   | ret v'=>
     refine bc fun nG=>?_
     obtain ⟨H₂,i₂,x₂,av',rv'',rfl,hQ⟩:=z
     refine nG ?_
     obtain rfl:=rv''.vnone
     exact ⟨rfl,H₂,i₂,Ext.trans x₁ (Ext.trans x' x₂),_,.ref,hQ⟩
   | _=>exact z.elim
end
set_option tactic.hygienic true in
theorem range_len {a b c:Int} (hc:1≤c):(Builtin.Range.rangeSize a b c).toNat = ((b - a + c - 1) / c).toNat:=by
 unfold Builtin.Range.rangeSize
 refine wat (if_pos (by omega)) ?_
 have e:(b - a + c - 1) / c = (b - a - 1) / c + 1:=by
  exact wat (show b - a + c - 1 = (b - a - 1) + 1 * c by lia) (wat (Int.add_mul_ediv_right _ _ (by lia)) rfl)
 split
 · exact wat e rfl
 · rename_i h
   have:(b - a - 1) / c < 0:=Int.ediv_neg_of_neg_of_pos (by omega) (by omega)
   refine wat e ?_;lia
theorem ints_range {a b c:Int} (hc:1≤c):intsFrom a c (Builtin.Range.rangeSize a b c).toNat = rangeL a b c:=by
 refine wat (range_len hc) ?_;rfl
section
variable (prog:Program) (w:World) (B:Heap) (os₀:OsState) (C:CallSem) (n:Nat)
structure MadeI (s:Shared) (H:AHeap) (v u:Addr) (it:It) (s':Shared) (H':AHeap):Prop where
 inv:INV w B os₀ s' H'
 ext:ExtE s.heap H s'.heap H'
 it:ItR w s'.heap H' v u it
 newv:s.heap.get? v = none
 newu:s.heap.get? u = none
 freev:H' v = none
 freeu:H' u = none
noncomputable def SI (it:I):Prop:=∀ sc vars iv,TrI sc vars it iv→∀ A s H env ρ (Q:It→AHeap→Prop) X,FR w B os₀ n A s H sc vars env ρ→awpI C it ρ H Q X→
 wpAny (model prog w) A (eval iv env) (fun x s₁=>wpAny (model prog w) A (pyIter x) (fun v s₂=>(X4 fun va u it₀ H₂=>A4 (v = .ref va) (MadeI w B os₀ s H va u it₀ s₂ H₂) ((notEnumI it = true→notEnumIt it₀ = true)) (Q it₀ H₂)))
  (XE w B os₀ A s.heap H X) s₁) (XE w B os₀ A s.heap H X) s
end
section
variable {prog:Program} {w:World} {B:Heap} {os₀:OsState} {C:CallSem} {n:Nat} {A:Around} {s:Shared} {H:AHeap} {K:Frag} {mg mb:Str→Option Value}
variable {sc:Scope} {vars:List Str} {env:Env} {ρ:Loc} {X:AHeap→Prop} {Er:Value→Shared→Prop}
theorem new_back {s₁:Shared} {H₁:AHeap} (x:ExtE s.heap H s₁.heap H₁) {v:Addr} (h:s₁.heap.get? v = none):s.heap.get? v = none:=by
 cases e:s.heap.get? v with
 | none=>rfl
 | some o=>obtain ⟨o',q⟩:=x.live v o e id;rw [h] at q;exact no1 q
theorem Made.toI {s₁ s₂:Shared} {H₁:AHeap} {v u:Addr} {it:It} (x:ExtE s.heap H s₁.heap H₁) (m:Made w B os₀ s₁ H₁ v u it s₂):MadeI w B os₀ s H v u it s₂ H₁:=
 ⟨m.inv,Ext.trans x m.ext,m.it,new_back x m.newv,new_back x m.newu,m.freev,m.freeu⟩
theorem made_after {o o₂:Obj} {it:It} {tk:Nat} (i:INV w B os₀ s H) (x:ItR w ((s.heap.push o).push o₂) H (s.heap.push o).objs.size (s.heap.push o).objs.size it):
 Made w B os₀ s H (s.heap.push o).objs.size (s.heap.push o).objs.size it { s with heap:=(s.heap.push o).push o₂,toks:=tk }:=by
 have k:∀ b ob,s.heap.get? b = some ob→((s.heap.push o).push o₂).get? b = some ob:=fun b ob e=>push_keeps _ _ _ _ (push_keeps _ _ _ _ e)
 have n2:s.heap.get? (s.heap.push o).objs.size = none:=by
  rw [Heap.size_push]
  cases e:s.heap.get? (s.heap.objs.size + 1) with
  | none=>rfl
  | some o=>exact absurd (Heap.lt_size e) (Nat.not_lt.mpr (Nat.le_succ _))
 exact ⟨i.grow k rfl rfl,ExtE.grow k,x,n2,n2,i.fresh n2,i.fresh n2⟩
theorem SI_e (bs:Base K mg mb B) {e:E} (h1:SE prog w B os₀ C n e):SI prog w B os₀ C n (.e e):=by
 intro sc vars iv hc A s H env ρ Q X f h
 refine (h1 sc vars iv hc.2 A s H env ρ _ X f h).step fun v s₁ H₁ i₁ x₁ r₁=>?_
 refine bc fun nG=>?_
 obtain ⟨av,rv,hq⟩:=r₁
 refine nG ?_
 exact wp_iterOf i₁ bs.sysm rv hq fun va u it s' hK hne m=>⟨va,u,it,H₁,rfl,m.toI x₁,fun _=>hne,hK⟩
theorem range_boot:bootBuiltins (Str.ofString "range") = some (.type "range")∧bootBuiltins (Str.ofString "enumerate") = some (.type "enumerate"):=⟨by decide +kernel,by decide +kernel⟩
theorem SI_range (bs:Base K mg mb B) {e:E} (h1:SE prog w B os₀ C n e):SI prog w B os₀ C n (.range e):=by
 intro sc vars iv hc A s H env ρ Q X f h
 obtain ⟨x,np,a,pos,rfl,hc0,hc1⟩:=hc
 rw [Bool.and_eq_true,Bool.and_eq_true,beq_iff_eq] at hc0
 obtain ⟨⟨hg,rfl⟩,hok⟩:=hc0
 refine wpAny_Call_NameR (wp_builtin bs f.inv f.ev hg (bs.noB _ (by decide +kernel)) (by decide +kernel) range_boot.1 ?_)
 refine callWith_machine (by intro a;simp) (by refine wat (chk_notStarred hok) ?_;rfl) ?_
 refine wat (chk_notStarred hok) ?_
 refine Calls.spliced_cons ((h1 sc vars a hc1 A s H env ρ _ X f h).step fun v s₁ H₁ i₁ x₁ r₁=>Calls.spliced_nil ?_)
 obtain ⟨av,rv,hq⟩:=r₁
 obtain ⟨m,rfl,hq1,hq2,hq⟩:=hq
 obtain ⟨_,rfl⟩:=rv.vint
 refine call_range_1 ?_
 refine wpAny_pyIter_range (IsRange.new ..) (small_one (by lia) (by lia) (by lia) (by lia)) ?_
 refine ⟨_,_,.ints (rangeL 0 m 1),H₁,rfl,Made.toI x₁ (made_after i₁ (show _ = _∧(X3 fun x left step=>A2 (_) (_)) from ⟨rfl,_,_,_,Heap.get?_push_size _ rfl,?_⟩)),fun _=>rfl,hq⟩
 exact (ints_range (by lia)).symm
theorem small_step {a b c:Int} (ha:0≤a) (ha':a≤1000) (hb:0≤b) (hb':b≤1000) (hc:1≤c) (hc':c≤1000):Builtin.Range.small a b c = true:=by
 have h0:0≤Builtin.Range.rangeSize a b c∧Builtin.Range.rangeSize a b c≤1001:=by
  unfold Builtin.Range.rangeSize
  refine wat (if_pos (by omega)) ?_
  split
  · have h1:0≤(b - a - 1) / c:=Int.ediv_nonneg (by omega) (by omega)
    have h2:(b - a - 1) / c≤b - a - 1:=Int.ediv_le_self _ (by omega)
    omega
  · lia
 unfold Builtin.Range.small
 generalize Builtin.Range.rangeSize a b c = z at h0
 simp only [Builtin.Range.rangeFitsLong,Bool.and_eq_true,Bool.or_eq_true,decide_eq_true_eq,beq_iff_eq]
 have:c > 0:=by lia
 simp only [this,if_true]
 refine ⟨by lia,.inr ?_⟩
 rw [Bool.and_eq_true,decide_eq_true_eq,decide_eq_true_eq]
 lia
theorem SI_range3 (bs:Base K mg mb B) {a b c:E} (h1:SE prog w B os₀ C n a) (h2:SE prog w B os₀ C n b) (h3:SE prog w B os₀ C n c):SI prog w B os₀ C n (.range3 a b c):=by
 intro sc vars iv hc A s H env ρ Q X f h
 obtain ⟨wn,np,x,y,z,pos,rfl,hc0,hc1,hc2,hc3⟩:=hc
 simp only [Bool.and_eq_true,beq_iff_eq] at hc0
 obtain ⟨⟨⟨⟨hg,rfl⟩,o1⟩,o2⟩,o3⟩:=hc0
 refine wpAny_Call_NameR (wp_builtin bs f.inv f.ev hg (bs.noB _ (by decide +kernel)) (by decide +kernel) range_boot.1 ?_)
 refine callWith_machine (by intro a;simp) (by refine wat (chk_notStarred o1) (wat (chk_notStarred o2) (wat (chk_notStarred o3) ?_));rfl) ?_
 refine wat (chk_notStarred o1) (wat (chk_notStarred o2) (wat (chk_notStarred o3) ?_))
 refine Calls.spliced_cons ((h1 sc vars x hc1 A s H env ρ _ X f h).step fun v s₁ H₁ i₁ x₁ r₁=>?_)
 obtain ⟨av,rv,hq⟩:=r₁
 have f₁:=f.ext i₁ x₁
 refine Calls.spliced_cons (WpE.stepL x₁ (h2 sc vars y hc2 A s₁ H₁ env ρ _ X f₁ hq) fun v₂ s₂ H₂ i₂ x₂ x₁₂ r₂=>?_)
 obtain ⟨bv,rv₂,hq₂⟩:=r₂
 refine Calls.spliced_cons (WpE.stepL x₁₂ (h3 sc vars z hc3 A s₂ H₂ env ρ _ X (f₁.ext i₂ x₂) hq₂) fun v₃ s₃ H₃ i₃ x₃ x₁₃ r₃=>Calls.spliced_nil ?_)
 obtain ⟨cv,rv₃,hq₃⟩:=r₃
 refine bc fun nG=>?_
 obtain ⟨lo,hi,st,rfl,rfl,rfl,k1,k2,k3,k4,k5,k6,k7⟩:=hq₃
 refine nG ?_
 obtain ⟨_,rfl⟩:=rv.vint;obtain ⟨_,rfl⟩:=rv₂.vint;obtain ⟨_,rfl⟩:=rv₃.vint
 refine call_range_3 (by omega) ?_ (.inl (PyProof.noPylong_small (by omega)))
 refine wpAny_pyIter_range (IsRange.new ..) (small_step k1 k2 k3 k4 k5 k6) ?_
 refine ⟨_,_,.ints (rangeL lo hi st),H₃,rfl,Made.toI x₁₃ (made_after i₃ (show _ = _∧(X3 fun x left step=>A2 (_) (_)) from ⟨rfl,_,_,_,Heap.get?_push_size _ rfl,?_⟩)),fun _=>rfl,k7⟩
 exact (ints_range (by omega)).symm
theorem SI_enum (bs:Base K mg mb B) {e:E} (h1:SE prog w B os₀ C n e):SI prog w B os₀ C n (.enum e):=by
 intro sc vars iv hc A s H env ρ Q X f h
 obtain ⟨x,np,a,pos,rfl,hc0,hc1⟩:=hc
 rw [Bool.and_eq_true,Bool.and_eq_true,beq_iff_eq] at hc0
 obtain ⟨⟨hg,rfl⟩,hok⟩:=hc0
 refine wpAny_Call_NameR (wp_builtin bs f.inv f.ev hg (bs.noB _ (by decide +kernel)) (by decide +kernel) range_boot.2 ?_)
 refine callWith_machine (by intro a;simp) (by refine wat (chk_notStarred hok) ?_;rfl) ?_
 refine wat (chk_notStarred hok) ?_
 refine Calls.spliced_cons ((h1 sc vars a hc1 A s H env ρ _ X f h).step fun v s₁ H₁ i₁ x₁ r₁=>Calls.spliced_nil ?_)
 obtain ⟨av,rv,hq⟩:=r₁
 obtain ⟨al,xs,rfl,ha,hq⟩:=hq
 obtain rfl:=rv.vref
 refine bc fun nG=>?_
 obtain ⟨vs,m,e,rvs⟩:=isList_of i₁ ha
 refine nG ?_
 refine call_enumerate_list (listO_isList e) fun h' he hi hsz keep=>wpAny_pyIter_enum he ?_
 have x2:ExtE s₁.heap H₁ h' H₁:=ExtE.grow keep
 have n2:s₁.heap.get? (s₁.heap.objs.size + 1) = none:=by
  cases e:s₁.heap.get? (s₁.heap.objs.size + 1) with
  | none=>rfl
  | some o=>exact absurd (Heap.lt_size e) (Nat.not_lt.mpr (Nat.le_succ _))
 exact ⟨_,s₁.heap.objs.size,.enum al 0,H₁,rfl,⟨i₁.grow (s':={ s₁ with heap:=h' }) keep rfl rfl,Ext.trans x₁ x2,⟨Ne.symm (Nat.succ_ne_self _),⟨_,he⟩,hi⟩,new_back x₁ n2,new_back x₁ (get?_size _),i₁.fresh n2,i₁.freshSize⟩,fun q=>by simp [notEnumI] at q,hq⟩
end
theorem Ext.widen {own own':Addr→Prop} {h H h' H'} (x:Ext own h H h' H') (k:∀ b o,h.get? b = some o→own b→own' b):Ext own' h H h' H':=
 ⟨fun b o e n no=>x.free b o e n fun q=>no (k b o e q),fun b o e n no=>x.keep b o e n fun q=>no (k b o e q),fun b o e n no=>x.slots b o e n fun q=>no (k b o e q),fun b o e no=>x.live b o e fun q=>no (k b o e q)⟩
theorem Ext.one {a:Addr} {h h':Heap} {H:AHeap} (sb:Heap.SameBut a h h'):Ext (· = a) h H h' H:=
 ⟨fun _ _ _ n _=>n,fun b o e _ no _=>(sb.2 b no).trans e,fun b o e _ no=>⟨o.slots,(sb.2 b no).trans e⟩,fun b o e no=>⟨o,(sb.2 b no).trans e⟩⟩
theorem Ext.adopt {a:Addr} {h:Heap} {H:AHeap} (o:AO):Ext (· = a) h H h (H.set a o):=
 ⟨fun b ob _ n no=>by refine wat (AHeap.set_ne _ _ no) ?_;exact n,fun _ _ e _ _ _=>e,fun _ ob e _ _=>⟨ob.slots,e⟩,fun _ ob e _=>⟨ob,e⟩⟩
section
variable {B:Heap} {os₀:OsState}
theorem Inv.side {byText:Bool} {s s':Shared} {H:AHeap} {own:Addr→Prop} (I:Inv byText B os₀ s H) (ex:Ext own s.heap H s'.heap H) (ok:OwnOk own s.heap) (hf:∀ b,own b→H b = none) (hb:∀ b,own b→B.get? b = none)
 (sb:∀ b,¬ own b→s'.heap.get? b = s.heap.get? b) (hg:s'.gens = s.gens) (ho:s'.os = s.os):Inv byText B os₀ s' H:=
 ⟨fun b o e=>⟨(sb b fun q=>by rw [hb b q] at e;cases e).trans (I.base b o e).1,(I.base b o e).2⟩,fun b o e=>(I.rep b o e).ext ex ok (sb b fun q=>by rw [hf b q] at e;cases e),hg.trans I.gens,ho.trans I.os⟩
structure AccAt (B:Heap) (h:Heap) (H:AHeap) (D:Addr) (acc:List AV):Prop where
 get:(X2 fun vs m=>A2 (h.get? D = some (listO vs m)) (RVs h H acc vs))
 free:H D = none
 base:B.get? D = none
theorem AccAt.ext {h H h' H' D acc} {own:Addr→Prop} (a:AccAt B h H D acc) (x:Ext own h H h' H') (ok:OwnOk own h) (no:¬ own D):AccAt B h' H' D acc:=by
 obtain ⟨vs,m,e,r⟩:=a.get
 exact ⟨⟨vs,m,x.keep D _ e a.free no (fun _ _ q=>nomatch q),r.ext x ok⟩,x.free D _ e a.free no,a.base⟩
theorem AccAt.ok {h H D acc} (a:AccAt B h H D acc):OwnOk (· = D) h:=by
 rintro b o rfl e x y rfl
 obtain ⟨vs,m,e',_⟩:=a.get
 rw [e'] at e
 simp only [listO,tup2,Option.some.injEq,Obj.mk.injEq] at e
 exact absurd e.1 (by decide)
def Side (h:Heap) (b:Addr):Prop:=(X1 fun o=>A3 (h.get? b = some o) ((∀ es n,o.data≠.dict es n)) (∀ v,o.data≠.cell v))
theorem AccAt.side {h H D acc} (a:AccAt B h H D acc):Side h D:=by
 obtain ⟨vs,m,e,_⟩:=a.get
 exact ⟨_,e,fun _ _ q=>(by cases q),fun _ q=>(by cases q)⟩
theorem ItR.side {w h H v u it} (x:ItR w h H v u it):∀ b,twoOf v u b→Side h b:=by
 rintro b (rfl | rfl)
 · obtain ⟨o,vs,e,hd⟩:=x.live;exact ⟨o,e,fun _ _ q=>(by rw [hd] at q;cases q),fun _ q=>(by rw [hd] at q;cases q)⟩
 · obtain ⟨o,vs,e,hd⟩:=x.live2;exact ⟨o,e,fun _ _ q=>(by rw [hd] at q;cases q),fun _ q=>(by rw [hd] at q;cases q)⟩
theorem ItR.notAcc {w h H v u it D acc} (x:ItR w h H v u it) (a:AccAt B h H D acc):¬ twoOf v u D:=by
 obtain ⟨vs,m,e,_⟩:=a.get
 rintro (rfl | rfl)
 · obtain ⟨o,ws,e',hd⟩:=x.live;rw [e] at e';cases e';cases hd
 · obtain ⟨o,ws,e',hd⟩:=x.live2;rw [e] at e';cases e';cases hd
theorem EnvR.not_side {h H sc vars env ρ} (R:EnvR h H sc vars env ρ) {b:Addr} (hb:own env b):¬ Side h b:=by
 rintro ⟨o,e,k1,k2⟩
 rcases hb with rfl | ⟨x,ex⟩
 · obtain ⟨m,⟨o',es,n,e',hd,_⟩,_⟩:=R.look
   rw [e] at e';cases e';exact k1 _ _ hd
 · obtain ⟨_,v,o',e',hd⟩:=R.cells x b ex
   rw [e] at e';cases e';exact k2 _ hd
theorem EnvR.extO {own':Addr→Prop} {h H sc vars env ρ h' H'} (R:EnvR h H sc vars env ρ) (x:Ext own' h H h' H') (ok:OwnOk own' h) (d:∀ b,own env b→¬ own' b):EnvR h' H' sc vars env ρ:=by
 obtain ⟨m,hn,hl⟩:=R.look
 have hns:h'.Ns env.locals m:=ns_slots hn fun o e=>x.slots _ o e R.frame (d _ (.inl rfl))
 have hcell:∀ y c v,env.cells.lookup y = some c→h.IsCell c v→h'.IsCell c v:=fun y c v e k=>cell_slots k fun o q=>x.slots _ o q (R.cells y c e).1 (d _ (.inr ⟨y,e⟩))
 refine ⟨R.scope,R.kind,R.glob,R.built,R.nodup,R.len,R.kinds,fun y c e=>?_,R.apart,?_,m,hns,fun i y av hv hr=>⟨fun k=>?_,fun k c e=>?_⟩⟩
 · obtain ⟨n,v,k⟩:=R.cells y c e
   obtain ⟨o,ho,_⟩:=id k
   exact ⟨x.free _ o ho n (d _ (.inr ⟨y,e⟩)),v,hcell y c v e k⟩
 · refine bc fun nG=>?_
   obtain ⟨o,es,ep,ho,_⟩:=hn
   refine nG ?_
   exact x.free _ o ho R.frame (d _ (.inl rfl))
 · obtain ⟨v,e,r⟩:=(hl i y av hv hr).1 k
   exact ⟨v,e,r.ext x ok⟩
 · obtain ⟨v,q,r⟩:=(hl i y av hv hr).2 k c e
   exact ⟨v,hcell y c _ e q,r.ext x ok⟩
theorem EnvR.forget {h H sc vars env} {ρ ρ':Loc} (R:EnvR h H sc vars env ρ) (hl:ρ'.length = ρ.length) (k:∀ (i:Nat) (av:AV),ρ'[i]? = some (some av)→ρ[i]? = some (some av)):EnvR h H sc vars env ρ':=by
 refine bc fun nG=>?_
 obtain ⟨m,hn,hk⟩:=R.look
 refine nG ?_
 exact ⟨R.scope,R.kind,R.glob,R.built,R.nodup,hl.trans R.len,R.kinds,R.cells,R.apart,R.frame,m,hn,fun i y av hv hr=>hk i y av hv (k i av hr)⟩
theorem Cx.extO {own':Addr→Prop} {A h H h' H'} (c:Cx B A h H) (x:Ext own' h H h' H') (d:∀ l,A.frames = some l→∀ e∈l,∀ L,e.frame = some L→¬ own' L):Cx B A h' H':=by
 obtain ⟨l,hf,hl⟩:=c.frames
 refine ⟨c.handled,l,hf,fun env he=>?_⟩
 refine bc fun nG=>?_
 obtain ⟨k,L,o,es,n,e1,e2,e3,e4,e5⟩:=hl env he
 refine nG ?_
 have no:=d l hf env he L e1
 obtain ⟨sl,q⟩:=x.slots L o e4 e3 no
 exact ⟨k,L,_,es,n,e1,e2,x.free L o e4 e3 no,q,e5⟩
theorem Cx.not_side {A h H l} (c:Cx B A h H) (hf:A.frames = some l) {e:Env} (he:e∈l) {L:Addr} (hL:e.frame = some L):¬ Side h L:=by
 rintro ⟨o,q,k1,k2⟩
 obtain ⟨l',hf',hl⟩:=c.frames
 rw [hf] at hf';cases hf'
 obtain ⟨_,L',o',es,n,e1,_,_,e4,e5⟩:=hl e he
 rw [hL] at e1;cases e1
 rw [q] at e4;cases e4
 exact k1 _ _ e5
def NF (A:Around) (a:Addr):Prop:=∀ l,A.frames = some l→∀ e∈l,e.frame≠some a
end
section
variable {prog:Program} {w:World} {B:Heap} {os₀:OsState} {C:CallSem} {n:Nat} {A:Around} {s s':Shared} {H H':AHeap} {K:Frag} {mg mb:Str→Option Value}
variable {sc:Scope} {vars:List Str} {env:Env} {ρ:Loc} {X:AHeap→Prop} {Er:Value→Shared→Prop}
theorem FR.side {own':Addr→Prop} (f:FR w B os₀ n A s H sc vars env ρ) (i:INV w B os₀ s' H') (x:Ext own' s.heap H s'.heap H') (ok:OwnOk own' s.heap) (sd:∀ b,own' b→Side s.heap b):FR w B os₀ n A s' H' sc vars env ρ:=
 ⟨f.cx.extO x fun l hf e he L hL q=>f.cx.not_side hf he hL (sd L q),f.room,i,f.ev.extO x ok fun b hb q=>f.ev.not_side hb (sd b q),f.ownB⟩
theorem localsOk (R:EnvR s.heap H sc vars env ρ):OwnOk (· = env.locals) s.heap:=by
 rintro b o rfl e x y rfl
 exact R.ownOk _ _ (.inl rfl) e x y rfl
theorem wp_store_local {i:Nat} {x:Str} {av:AV} {v:Value} {Q:Unit→Shared→Prop} (f:FR w B os₀ n A s H sc vars env ρ) (nf:NF A env.locals) (hx:vars[i]? = some x) (hl:sc.names.lookup x = some .local) (rv:RV s.heap H av v)
 (q:∀ s',FR w B os₀ n A s' H sc vars env (ρ.set i (some av))→Ext (· = env.locals) s.heap H s'.heap H→Q () s'):wpAny (model prog w) A (storeName env x v) Q Er s:=by
 obtain ⟨m,hm,_⟩:=id f.ev.look
 have hk:env.scope.kind = .function:=by refine wat f.ev.scope ?_;exact f.ev.kind
 refine wpAny_storeName_local (by unfold Env.kindOf;refine wat f.ev.scope ?_;exact hl) hm (fun h' hns sb=>?_) (by refine wat hk ?_;rfl)
 have ex:Ext (· = env.locals) s.heap H h' H:=Ext.one sb
 refine q { s with heap:=h',toks:=s.toks + 1 } ⟨f.cx.extO ex fun l hf e he L hL z=>nf l hf e he (z▸hL),f.room,?_,(f.ev.set hx rv ⟨env.locals,.inl rfl,sb,.inl ⟨hl,rfl,m,hm,hns⟩⟩).1,f.ownB⟩ ex
 exact Inv.side (s':={ s with heap:=h',toks:=s.toks + 1 }) f.inv ex (localsOk f.ev) (fun b z=>z▸f.ev.frame) (fun b z=>z▸f.ownB _ (.inl rfl)) sb.2 rfl rfl
theorem wp_acc {D:Addr} {acc:List AV} {a:AV} {v:Value} {Q:Value→Shared→Prop} (f:FR w B os₀ n A s H sc vars env ρ) (c:AccAt B s.heap H D acc) (r:RV s.heap H a v) (hsz:acc.length < 1000)
 (q:∀ s',FR w B os₀ n A s' H sc vars env ρ→AccAt B s'.heap H D (acc ++ [a])→Ext (· = D) s.heap H s'.heap H→Q .none s'):wpAny (model prog w) A (call (.builtin "list.append") [.ref D,v]) Q Er s:=by
 refine bc fun nG=>?_
 obtain ⟨vs,n',e,rv⟩:=c.get
 refine nG ?_
 have hl:=rv.length
 obtain ⟨m,hg⟩:=update_list (f:=fun x=>x.push v) e
 have e2:(vs.toArray.push v).toList = vs ++ [v]:=by simp
 simp only [e2] at hg
 have sb:Heap.SameBut D s.heap (s.heap.update D (Obj.mapSeq fun x=>x.push v)):=Heap.SameBut.update ..
 have ex:Ext (· = D) s.heap H (s.heap.update D (Obj.mapSeq fun x=>x.push v)) H:=Ext.one sb
 have ok:=c.ok
 refine call_meets PySem.F.slot_list_append ⟨_,e,rfl⟩ PySem.F.entry_list_append (PySem.F.args_list_append_2 _ _) (AutoListH.list_append_list_val_0 D vs.toArray n' v (by have:=size1000;simp;exact linLe [_,_,_] 1 (.v 1) (.v 2) [.lt 1 (.v 0) (.n 1000),.ge 1 (.v 0) (.v 1),.le 1 (.n 1000) (.v 2)] rfl hsz hl this)) ⟨e,q _ ?_ ?_ ex⟩
 · exact f.side (Inv.side (s':={ s with heap:=s.heap.update D (Obj.mapSeq fun x=>x.push v) }) f.inv ex ok (fun b z=>z▸c.free) (fun b z=>z▸c.base) sb.2 rfl rfl) ex ok fun b z=>z▸c.side
 · exact ⟨⟨_,m,hg,(rv.ext ex ok).append (.cons (r.ext ex ok) .nil)⟩,c.free,c.base⟩
end
section
variable {prog:Program} {w:World} {B:Heap} {os₀:OsState} {C:CallSem} {n:Nat} {A:Around} {s s':Shared} {H H':AHeap} {K:Frag} {mg mb:Str→Option Value}
variable {sc:Scope} {vars:List Str} {env:Env} {ρ:Loc} {X:AHeap→Prop} {Er:Value→Shared→Prop}
theorem WpE.calm {α:Type} {m:Sem α} {R:α→Shared→AHeap→Prop} {G:α→Shared→Prop} (h:WpE prog w B os₀ A m s H R nox) (k:∀ a s' H',INV w B os₀ s' H'→ExtE s.heap H s'.heap H'→R a s' H'→G a s'):wpAny (model prog w) A m G Er s:=
 wpAny_mono h (fun a s₁ ⟨H₁,i,x,r⟩=>k a s₁ H₁ i x r) fun _ _ ⟨_,_,_,_,f⟩=>f.elim
abbrev compOwn (L D:Addr):Addr→Prop:=fun b=>b = L∨b = D
abbrev loopOwn (L D v u:Addr):Addr→Prop:=fun b=>compOwn L D b∨twoOf v u b
theorem compOwnOk {D:Addr} {acc:List AV} (f:FR w B os₀ n A s H sc vars env ρ) (a:AccAt B s.heap H D acc):OwnOk (compOwn env.locals D) s.heap:=by
 rintro b o (rfl | rfl) e x y q
 · exact localsOk f.ev _ o rfl e x y q
 · exact a.ok _ o rfl e x y q
theorem ItR.self {v u:Addr} {it:It} {Q:Value→Shared→Prop} (x:ItR w s.heap H v u it) (h1:notEnumIt it = true) (h2:notSetIt it = true) (q:Q (.ref v) s):wpAny (model prog w) A (pyIter (.ref v)) Q Er s:=by
 cases it with
 | list a i=>exact wpAny_pyIter_listiter x.2 q
 | «ints» xs=>obtain ⟨_,a,b,c,ho,_⟩:=x;exact wpAny_pyIter_rangeiter ho q
 | enum a i=>cases h1
 | dict a es g i=>obtain ⟨_,xs,m,_,ho⟩:=x;exact wpAny_pyIter_keyiter ho q
 | set a S g rest=>cases h2
section
variable {elt₀:Expr} {gens:List Comprehension} {scope₀:Scope} {pos₀:Pos} {d k:Nat} {x:Str} {xp:Pos} {D:Addr} {ρ₀:Loc} {emit:AV→List AV→AHeap→(List AV→AHeap→Prop)→Prop} {BodyWp:Shared→(Shared→Prop)→(Value→Shared→Prop)→Prop}
theorem comp_loop (nf:NF A env.locals) (hx:vars[k]? = some x) (hl:sc.names.lookup x = some .local) (h0:∀ av,ρ₀[k]?≠some (some av))
 (hturn:∀ (v:Addr) (s:Shared) (Q:Fin→Shared→Prop) (E:Value→Shared→Prop),wpAny (model prog w) A (pyNext (.ref v)) (fun r s₁=>match r with
   | none=>Q (.done .next) s₁
   | some val=>wpAny (model prog w) A (letOwnedTupleGo (.Name x xp) (.ref v) val) (fun _ s₂=>wpAny (model prog w) A (assign (.Name x xp) env val) (fun _ s₃=>BodyWp s₃ (fun s₄=>Q (.again (.compLoop (.ListComp elt₀ gens scope₀ pos₀) d (.ref v) (.ref D) env)) s₄) E) E s₂) E s₁) E s→
   wpAny (model prog w) A (compTurn (.ListComp elt₀ gens scope₀ pos₀) d (.ref v) (.ref D) env) Q E s)
 (bodyOk:∀ s H av acc K' (K:Shared→Prop) E,FR w B os₀ n A s H sc vars env (ρ₀.set k (some av))→AccAt B s.heap H D acc→emit av acc H K'→
   (∀ s' H' acc',FR w B os₀ n A s' H' sc vars env (ρ₀.set k (some av))→AccAt B s'.heap H' D acc'→Ext (compOwn env.locals D) s.heap H s'.heap H'→K' acc' H'→K s')→BodyWp s K E)
 {R:Result→Shared→Prop} {K':List AV→AHeap→Prop} {v u:Addr} (bv:B.get? v = none) (bu:B.get? u = none):
 ∀ (m:Nat) (it:It) (acc:List AV) (s:Shared) (H:AHeap),FR w B os₀ n A s H sc vars env ρ₀→AccAt B s.heap H D acc→ItR w s.heap H v u it→H v = none→H u = none→notEnumIt it = true→turns emit m it acc H K'→
   (∀ s' H' acc',FR w B os₀ n A s' H' sc vars env ρ₀→AccAt B s'.heap H' D acc'→Ext (loopOwn env.locals D v u) s.heap H s'.heap H'→K' acc' H'→R (.ok .next) s')→
   codeAny (model prog w) A (.compLoop (.ListComp elt₀ gens scope₀ pos₀) d (.ref v) (.ref D) env) R s:=by
 intro m
 induction m with
 | zero=>intro it acc s H _ _ _ _ _ _ h;exact h.elim
 | succ m ih=>
   intro it acc s H f a xi fv fu hne h fin
   refine codeAny_of_tree ?_
   show wpAny _ A ((compTurn (.ListComp elt₀ gens scope₀ pos₀) d (.ref v) (.ref D) env).onRaise (fun x=>do noteFrame x env;theTreesLotGoes x)) _ _ s
   refine wpAny_noted (hturn v s _ _ ?_)
   unfold turns at h
   cases hn:nextA H it with
   | none=>rw [hn] at h;exact h.elim
   | some r=>
     rw [hn] at h
     refine wp_turn f.cx.handled f.inv (.inr ⟨⟨_,_,rfl⟩,hne⟩) xi fv fu bv bu hn (fun hr s₁ t=>?_) fun y it' val s₁ hr t rv xi'=>?_
     · subst hr
       exact fin s₁ H acc (f.side t.inv t.ext (twoOk xi) xi.side) (a.ext t.ext (twoOk xi) (xi.notAcc a)) (t.ext.widen fun _ _ _ q=>.inr q) h
     · subst hr
       have f1:=f.side t.inv t.ext (twoOk xi) xi.side
       have a1:=a.ext t.ext (twoOk xi) (xi.notAcc a)
       refine wpAny_assign_Name (wp_store_local f1 nf hx hl rv fun s₂ f2 ex2=>?_)
       have hvL:∀ b,twoOf v u b→b≠env.locals:=fun b hb q=>f1.ev.not_side (.inl q) (xi'.side b hb)
       have ok2:=localsOk f1.ev
       have a2:=a1.ext ex2 ok2 fun q=>f1.ev.not_side (.inl q) a1.side
       have xi2:=xi'.ext ex2 ok2 fv fu (hvL v (.inl rfl)) (hvL u (.inr rfl))
       refine bodyOk s₂ H y acc _ _ _ f2 a2 h fun s₃ H₃ acc₃ f3 a3 ex3 h3=>⟨rfl,?_⟩
       have nD:∀ b,twoOf v u b→b≠D:=fun b hb q=>xi2.notAcc a2 (q▸hb)
       have no3:∀ b,twoOf v u b→¬ compOwn env.locals D b:=fun b hb q=>q.elim (hvL b hb) (nD b hb)
       have ok3:=compOwnOk f2 a2
       refine bc fun nG=>?_
       obtain ⟨o1,w1,e1,_⟩:=xi2.live
       refine nG ?_
       refine bc fun nG=>?_
       obtain ⟨o2,w2,e2,_⟩:=xi2.live2
       refine nG ?_
       have xi3:=xi2.ext ex3 ok3 fv fu (no3 v (.inl rfl)) (no3 u (.inr rfl))
       have f3':FR w B os₀ n A s₃ H₃ sc vars env ρ₀:=⟨f3.cx,f3.room,f3.inv,f3.ev.forget (List.length_set ..).symm (fun i av q=>by
        refine wat (List.getElem?_set) ?_
        by_cases hik:k = i
        · subst hik;exact absurd q (h0 av)
        · refine wat (if_neg hik) ?_;exact q),f3.ownB⟩
       refine ih it' acc₃ s₃ H₃ f3' a3 xi3 (ex3.free v o1 e1 fv (no3 v (.inl rfl))) (ex3.free u o2 e2 fu (no3 u (.inr rfl))) (by refine wat ((nextA_kind hn).1) ?_;exact hne) h3 fun s₄ H₄ acc₄ f4 a4 ex4 h4=>?_
       refine fin s₄ H₄ acc₄ f4 a4 ?_ h4
       exact ((t.ext.widen fun _ _ _ q=>.inr q).trans (ex2.widen fun _ _ _ q=>.inl (.inl q))).trans ((ex3.widen fun _ _ _ q=>.inl q).trans ex4)
end
abbrev testsOf (ifs:List Expr) (env:Env):Sem Bool:=forIn ifs true fun c r=>if r = true then do let ok ← isTrue c env (eval c env);pure (ForInStep.yield ok) else pure (ForInStep.yield r)
abbrev lastWp (prog:Program) (w:World) (A:Around) (env:Env) (ifs:List Expr) (elt:Expr) (acc:Value) (s:Shared) (K:Shared→Prop) (E:Value→Shared→Prop):Prop:=
 wpAny (model prog w) A (testsOf ifs env) (fun ok s₃=>if ok = true then wpAny (model prog w) A (eval elt env) (fun x s₄=>wpAny (model prog w) A (call (.builtin "list.append") [acc,x]) (fun _ s₅=>K s₅) E s₄) E s₃ else K s₃) E s
abbrev firstWp (prog:Program) (w:World) (A:Around) (env:Env) (e:Expr) (iter:Expr) (acc:Value) (s:Shared) (K:Shared→Prop) (E:Value→Shared→Prop):Prop:=
 wpAny (model prog w) A (eval iter env) (fun x s₁=>wpAny (model prog w) A (pyIter x) (fun it s₂=>codeAny (model prog w) A (.compStart e 1 it acc env) (fun r s₃=>match r with
  | .ok _=>K s₃
  | .error e=>cameBackBy (model prog w) A env E e s₃) s₂) E s₁) E s
theorem compTurn_two (elt t1 i1 t2 i2:Expr) (scope:Scope) (pos:Pos) (it acc:Value) (env:Env):
 compTurn (.ListComp elt [⟨t1,i1,[],0⟩,⟨t2,i2,[],0⟩] scope pos) 0 it acc env = (do
  standAt i1.pos
  match ← pyNext it with
  | none=>pure (.done .next)
  | some v=>
    letOwnedTupleGo t1 it v
    assign t1 env v
    let x ← eval i2 env
    standAt i2.pos
    let x ← foldedSetIterable i2 env x
    let _ ← runOwn (.compStart (.ListComp elt [⟨t1,i1,[],0⟩,⟨t2,i2,[],0⟩] scope pos) 1 (← holding [x] (pyIter x)) acc env) env
    again (.compLoop (.ListComp elt [⟨t1,i1,[],0⟩,⟨t2,i2,[],0⟩] scope pos) 0 it acc env)):=by rfl
theorem compTurn_inner (elt t1 i1 t2 i2:Expr) (scope:Scope) (pos:Pos) (it acc:Value) (env:Env):
 compTurn (.ListComp elt [⟨t1,i1,[],0⟩,⟨t2,i2,[],0⟩] scope pos) 1 it acc env = (do
  standAt i2.pos
  match ← pyNext it with
  | none=>pure (.done .next)
  | some v=>
    letOwnedTupleGo t2 it v
    assign t2 env v
    let mut ok:=true
    for c in ([]:List Expr) do
     if ok then ok ← isTrue c env (eval c env)
    if ok then
     (do let _ ← call (.builtin "list.append") [acc,← eval elt env])
    again (.compLoop (.ListComp elt [⟨t1,i1,[],0⟩,⟨t2,i2,[],0⟩] scope pos) 1 it acc env)):=by rfl
theorem turn_last {elt target iter:Expr} {ifs:List Expr} {scope:Scope} {pos:Pos} {D v:Addr} {Q:Fin→Shared→Prop}
 (h:wpAny (model prog w) A (pyNext (.ref v)) (fun r s₁=>match r with
   | none=>Q (.done .next) s₁
   | some val=>wpAny (model prog w) A (letOwnedTupleGo target (.ref v) val) (fun _ s₂=>wpAny (model prog w) A (assign target env val) (fun _ s₃=>lastWp prog w A env ifs elt (.ref D) s₃ (fun s₄=>Q (.again (.compLoop (.ListComp elt [⟨target,iter,ifs,0⟩] scope pos) 0 (.ref v) (.ref D) env)) s₄) Er) Er s₂) Er s₁) Er s):
 wpAny (model prog w) A (compTurn (.ListComp elt [⟨target,iter,ifs,0⟩] scope pos) 0 (.ref v) (.ref D) env) Q Er s:=by
 rw [compTurn_list]
 refine wpAny_bind (wpAny_standAt (wpAny_bind (wpAny_mono h (fun r s₁ h₁=>?_) fun _ _ h'=>h')))
 cases r with
 | none=>exact wpAny_pure h₁
 | some v=>
   refine wpAny_bind (wpAny_mono h₁ (fun _ s₂ h₂=>wpAny_bind (wpAny_mono h₂ (fun _ s₃ h₃=>wpAny_bind (wpAny_mono h₃ (fun ok s₄ h₄=>?_) fun _ _ h'=>h')) fun _ _ h'=>h')) fun _ _ h'=>h')
   cases ok with
   | false=>exact wpAny_pure h₄
   | true=>exact wpAny_bind (wpAny_bind (wpAny_mono h₄ (fun x s₅ h₅=>wpAny_bind (wpAny_mono h₅ (fun _ s₆ h₆=>wpAny_pure (wpAny_pure h₆)) fun _ _ h'=>h')) fun _ _ h'=>h'))
theorem turn_inner {elt t1 i1 t2 i2:Expr} {scope:Scope} {pos:Pos} {D v:Addr} {Q:Fin→Shared→Prop}
 (h:wpAny (model prog w) A (pyNext (.ref v)) (fun r s₁=>match r with
   | none=>Q (.done .next) s₁
   | some val=>wpAny (model prog w) A (letOwnedTupleGo t2 (.ref v) val) (fun _ s₂=>wpAny (model prog w) A (assign t2 env val) (fun _ s₃=>lastWp prog w A env [] elt (.ref D) s₃ (fun s₄=>Q (.again (.compLoop (.ListComp elt [⟨t1,i1,[],0⟩,⟨t2,i2,[],0⟩] scope pos) 1 (.ref v) (.ref D) env)) s₄) Er) Er s₂) Er s₁) Er s):
 wpAny (model prog w) A (compTurn (.ListComp elt [⟨t1,i1,[],0⟩,⟨t2,i2,[],0⟩] scope pos) 1 (.ref v) (.ref D) env) Q Er s:=by
 rw [compTurn_inner]
 refine wpAny_bind (wpAny_standAt (wpAny_bind (wpAny_mono h (fun r s₁ h₁=>?_) fun _ _ h'=>h')))
 cases r with
 | none=>exact wpAny_pure h₁
 | some v=>
   refine wpAny_bind (wpAny_mono h₁ (fun _ s₂ h₂=>wpAny_bind (wpAny_mono h₂ (fun _ s₃ h₃=>wpAny_bind (wpAny_mono h₃ (fun ok s₄ h₄=>?_) fun _ _ h'=>h')) fun _ _ h'=>h')) fun _ _ h'=>h')
   cases ok with
   | false=>exact wpAny_pure h₄
   | true=>exact wpAny_bind (wpAny_bind (wpAny_mono h₄ (fun x s₅ h₅=>wpAny_bind (wpAny_mono h₅ (fun _ s₆ h₆=>wpAny_pure (wpAny_pure h₆)) fun _ _ h'=>h')) fun _ _ h'=>h'))
theorem turn_first {elt t1 i1 t2 i2:Expr} {scope:Scope} {pos:Pos} {D v:Addr} {Q:Fin→Shared→Prop} (hs:∀ x,foldedSetIterable i2 env x = pure x)
 (h:wpAny (model prog w) A (pyNext (.ref v)) (fun r s₁=>match r with
   | none=>Q (.done .next) s₁
   | some val=>wpAny (model prog w) A (letOwnedTupleGo t1 (.ref v) val) (fun _ s₂=>wpAny (model prog w) A (assign t1 env val) (fun _ s₃=>firstWp prog w A env (.ListComp elt [⟨t1,i1,[],0⟩,⟨t2,i2,[],0⟩] scope pos) i2 (.ref D) s₃ (fun s₄=>Q (.again (.compLoop (.ListComp elt [⟨t1,i1,[],0⟩,⟨t2,i2,[],0⟩] scope pos) 0 (.ref v) (.ref D) env)) s₄) Er) Er s₂) Er s₁) Er s):
 wpAny (model prog w) A (compTurn (.ListComp elt [⟨t1,i1,[],0⟩,⟨t2,i2,[],0⟩] scope pos) 0 (.ref v) (.ref D) env) Q Er s:=by
 rw [compTurn_two]
 refine wpAny_bind (wpAny_standAt (wpAny_bind (wpAny_mono h (fun r s₁ h₁=>?_) fun _ _ h'=>h')))
 cases r with
 | none=>exact wpAny_pure h₁
 | some v=>
   refine wpAny_bind (wpAny_mono h₁ (fun _ s₂ h₂=>wpAny_bind (wpAny_mono h₂ (fun _ s₃ h₃=>?_) fun _ _ h'=>h')) fun _ _ h'=>h')
   refine wpAny_bind (wpAny_mono h₃ (fun x s₄ h₄=>wpAny_bind (wpAny_standAt (wpAny_bind (wpAny_of_eq (hs x) (wpAny_bind (wpAny_holding (wpAny_mono h₄ (fun it s₅ h₅=>?_) fun _ _ h'=>h'))))))) fun _ _ h'=>h')
   refine wpAny_bind (wpAny_runOwn ?_)
   refine codeAny_mono h₅ fun r s₆ h₆=>?_
   cases r with
   | ok f=>exact wpAny_pure h₆
   | error e=>exact h₆
end
noncomputable def closOf (env:Env):List (Str×NameKind)→List (Str×Addr)→List (Str×Addr)
 | [],cs=>cs
 | nk :: r,cs=>closOf env r (if nk.2 == .free then (nk.1,(env.cells.lookup nk.1).getD 0) :: cs else cs)
theorem closureFor_of {scope:Scope} {env:Env} (h:∀ nk∈scope.names,nk.2 = .free→∃ c,env.cells.lookup nk.1 = some c):closureFor scope env = pure (closOf env scope.names []):=by
 have key:∀ (l:List (Str×NameKind)) (cs:List (Str×Addr)),(∀ nk∈l,nk.2 = .free→∃ c,env.cells.lookup nk.1 = some c)→
  (forIn l cs fun x r=>match x with | (name,kind)=>if (kind == NameKind.free) = true then (do let c ← cellOf env name;pure (ForInStep.yield ((name,c) :: r))) else pure (ForInStep.yield r):Sem (List (Str×Addr))) = pure (closOf env l cs):=by
  intro l
  induction l with
  | nil=>intro cs _;rfl
  | cons nk l ih=>
    intro cs hl
    obtain ⟨n,k⟩:=nk
    rw [List.forIn_cons]
    unfold closOf
    by_cases hk:k = .free
    · subst hk
      obtain ⟨c,hc⟩:=hl (n,.free) List.mem_cons_self rfl
      have e:cellOf env n = pure c:=by unfold cellOf;exact wat hc rfl
      simp only [beq_self_eq_true,if_true,e,pure_bind,hc,Option.getD_some]
      exact ih _ fun nk hnk=>hl nk (List.mem_cons_of_mem _ hnk)
    · have hb:(k == NameKind.free) = false:=beq_eq_false_iff_ne.mpr hk
      simp only [hb,Bool.false_eq_true,if_false,pure_bind]
      exact ih _ fun nk hnk=>hl nk (List.mem_cons_of_mem _ hnk)
 exact (bind_pure _).trans (key scope.names [] h)
theorem closOf_sound {env:Env}:∀ {l:List (Str×NameKind)} {cs:List (Str×Addr)},(∀ nk∈l,nk.2 = .free→∃ c,env.cells.lookup nk.1 = some c)→(∀ x c,cs.lookup x = some c→env.cells.lookup x = some c)→
 ∀ x c,(closOf env l cs).lookup x = some c→env.cells.lookup x = some c
 | [],cs,_,hc=>hc
 | nk :: l,cs,hl,hc=>by
   refine closOf_sound (l:=l) (fun nk hnk=>hl nk (List.mem_cons_of_mem _ hnk)) fun x c h=>?_
   by_cases hk:nk.2 = .free
   · obtain ⟨c',e⟩:=hl nk List.mem_cons_self hk
     rw [if_pos (by refine wat hk ?_;rfl),e,Option.getD_some,List.lookup_cons] at h
     by_cases hx:x = nk.1
     · rw [hx,beq_self_eq_true] at h;obtain rfl:=Option.some.inj h;refine wat hx ?_;exact e
     · rw [beq_eq_false_iff_ne.mpr hx] at h;exact hc x c h
   · rw [if_neg (by refine wat (beq_eq_false_iff_ne.mpr hk) ?_;decide)] at h;exact hc x c h
theorem closOf_has {env:Env} {x:Str}:∀ {l:List (Str×NameKind)} {cs:List (Str×Addr)},((x,.free)∈l∨∃ c,cs.lookup x = some c)→∃ c,(closOf env l cs).lookup x = some c
 | [],cs,h=>h.elim (fun q=>nomatch q) id
 | nk :: l,cs,h=>by
   refine closOf_has (l:=l) ?_
   rcases h with h | ⟨c,h⟩
   · rcases List.mem_cons.mp h with h | h
     · refine .inr ?_
       refine wat h.symm ?_
       exact ⟨(env.cells.lookup x).getD 0,by simp⟩
     · exact .inl h
   · refine .inr ?_
     split
     · refine wat List.lookup_cons ?_;split
       · exact ⟨_,rfl⟩
       · exact ⟨c,h⟩
     · exact ⟨c,h⟩
structure CompOk (sc:Scope) (vars:List Str) (caps:List Nat) (scope:Scope) (tgts:List Str):Prop where
 kind:scope.kind = .function
 noCell:∀ nk∈scope.names,nk.2≠.cell
 loc:∀ nk∈scope.names,nk.2 = .local→scope.names.lookup nk.1 = some .local
 tg:∀ x∈tgts,scope.names.lookup x = some .local
 cap:∀ i∈caps,(X1 fun x=>A3 (vars[i]? = some x) (sc.names.lookup x = some .cell) (scope.names.lookup x = some .free))
 free:∀ nk∈scope.names,nk.2 = .free→nk.1∈capNames vars caps
 nodup:(tgts ++ capNames vars caps).Nodup
theorem compOk_spec {sc:Scope} {vars:List Str} {caps:List Nat} {scope:Scope} {tgts:List Str} (h:compOk sc vars caps scope tgts = true):CompOk sc vars caps scope tgts:=by
 unfold compOk at h
 simp only [Bool.and_eq_true,List.all_eq_true,decide_eq_true_eq] at h
 obtain ⟨⟨⟨⟨⟨⟨h1,h2⟩,h3⟩,h4⟩,h5⟩,h6⟩,h7⟩:=h
 refine ⟨beq_iff_eq.mp h1,fun nk hn q=>?_,fun nk hn q=>?_,fun x hx=>beq_iff_eq.mp (h4 x hx).1,fun i hi=>?_,fun nk hn q=>?_,h7⟩
 · have:=h2 nk hn;rw [q] at this;exact absurd this (by decide)
 · have:=h3 nk hn;rw [q] at this;simpa using this
 · have:=h5 i hi
   cases e:vars[i]? with
   | none=>rw [e] at this;exact nob this
   | some x=>rw [e] at this;simp only [Bool.and_eq_true] at this;exact ⟨x,rfl,beq_iff_eq.mp this.1.1,beq_iff_eq.mp this.1.2⟩
 · have:=h6 nk hn
   rw [q] at this
   simpa using this
theorem capNames_mem {vars:List Str} {caps:List Nat} {x:Str} (h:x∈capNames vars caps):∃ i∈caps,vars[i]? = some x:=by
 unfold capNames at h
 rw [List.mem_filterMap] at h
 exact h
theorem capNames_get {sc:Scope} {vars:List Str}:∀ {caps:List Nat},(∀ i∈caps,∃ x,vars[i]? = some x)→(capNames vars caps).length = caps.length∧∀ (j:Nat) (x:Str),(capNames vars caps)[j]? = some x→∃ i,caps[j]? = some i∧vars[i]? = some x
 | [],_=>⟨rfl,fun j x h=>by simp [capNames] at h⟩
 | i :: caps,h=>by
   obtain ⟨y,hy⟩:=h i List.mem_cons_self
   have e:capNames vars (i :: caps) = y :: capNames vars caps:=by unfold capNames;exact wat List.filterMap_cons (wat hy rfl)
   obtain ⟨h1,h2⟩:=capNames_get (sc:=sc) (caps:=caps) fun k hk=>h k (List.mem_cons_of_mem _ hk)
   refine wat e ?_
   refine ⟨by simp [h1],fun j x hx=>?_⟩
   cases j with
   | zero=>simp at hx;subst hx;exact ⟨i,rfl,hy⟩
   | succ j=>exact h2 j x (by simpa using hx)
theorem lookup_inner_free {x:Str}:∀ {l:List (Str×NameKind)},l.lookup x = some .free→(l.map fun nk=>if nk.2 == .free then (nk.1,NameKind.cell) else nk).lookup x = some .cell
 | [],h=>by simp at h
 | nk :: l,h=>by
   rw [List.lookup_cons] at h
   rw [List.map_cons,List.lookup_cons]
   by_cases hx:x = nk.1
   · rw [hx,beq_self_eq_true] at h
     simp only [Option.some.injEq] at h
     rw [if_pos (by rw [h];rfl),hx,beq_self_eq_true]
   · rw [beq_eq_false_iff_ne.mpr hx] at h
     have e:(x == (if (nk.2 == NameKind.free) = true then (nk.1,NameKind.cell) else nk).1) = false:=by split<;>exact beq_eq_false_iff_ne.mpr hx
     refine wat e ?_
     exact lookup_inner_free h
theorem lookup_inner_local {x:Str}:∀ {l:List (Str×NameKind)},l.lookup x = some .local→(l.map fun nk=>if nk.2 == .free then (nk.1,NameKind.cell) else nk).lookup x = some .local
 | [],h=>by simp at h
 | nk :: l,h=>by
   rw [List.lookup_cons] at h
   rw [List.map_cons,List.lookup_cons]
   by_cases hx:x = nk.1
   · rw [hx,beq_self_eq_true] at h
     simp only [Option.some.injEq] at h
     rw [if_neg (by rw [h];decide),hx,beq_self_eq_true]
     exact congrArg some h
   · rw [beq_eq_false_iff_ne.mpr hx] at h
     have e:(x == (if (nk.2 == NameKind.free) = true then (nk.1,NameKind.cell) else nk).1) = false:=by split<;>exact beq_eq_false_iff_ne.mpr hx
     refine wat e ?_
     exact lookup_inner_local h
theorem lookup_mem' {x:Str} {k:NameKind}:∀ {l:List (Str×NameKind)},l.lookup x = some k→(x,k)∈l
 | [],h=>by simp at h
 | nk :: l,h=>by
   rw [List.lookup_cons] at h
   by_cases hx:x = nk.1
   · rw [hx,beq_self_eq_true] at h
     simp only [Option.some.injEq] at h
     refine wat hx (wat h.symm ?_);exact List.mem_cons_self
   · rw [beq_eq_false_iff_ne.mpr hx] at h
     exact List.mem_cons_of_mem _ (lookup_mem' h)
section
variable {h:Heap} {H:AHeap} {sc:Scope} {vars:List Str} {env:Env} {ρ:Loc} {scope:Scope} {tgts:List Str} {caps:List Nat}
abbrev capVals (ρ:Loc) (caps:List Nat):Loc:=caps.map fun i=>(ρ[i]?).join
theorem cells_of (R:EnvR h H sc vars env ρ) (ok:CompOk sc vars caps scope tgts):∀ nk∈scope.names,nk.2 = .free→∃ c,env.cells.lookup nk.1 = some c:=by
 intro nk hn hk
 obtain ⟨i,hi,hv⟩:=capNames_mem (ok.free nk hn hk)
 obtain ⟨x,hx,hs,_⟩:=ok.cap i hi
 rw [hv] at hx;obtain rfl:=Option.some.inj hx
 rcases R.kinds nk.1 (List.mem_of_getElem? hv) with e | ⟨_,c,e⟩
 · rw [hs] at e;cases e
 · exact ⟨c,e⟩
theorem relabel_inner (R:EnvR h H sc vars env ρ) (ok:CompOk sc vars caps scope tgts):relabel scope env = innerScope scope:=by
 unfold relabel innerScope
 congr 1
 apply List.map_congr_left
 intro nk hn
 obtain ⟨x,k⟩:=nk
 by_cases hk:k = .free
 · subst hk
   refine bc fun nG=>?_
   obtain ⟨i,hi,hv⟩:=capNames_mem (ok.free _ hn rfl)
   refine nG ?_
   refine bc fun nG=>?_
   obtain ⟨y,hy,hs,_⟩:=ok.cap i hi
   refine nG ?_
   rw [hv] at hy;cases hy
   have e1:env.scope.kind = .function:=by refine wat R.scope ?_;exact R.kind
   have e2:env.kindOf x = some .cell:=by unfold Env.kindOf;refine wat R.scope ?_;exact hs
   simp only [e1,e2,beq_self_eq_true,Bool.and_self,if_true]
 · have hb:(k == NameKind.free) = false:=beq_eq_false_iff_ne.mpr hk
   simp only [hb,Bool.false_and,Bool.false_eq_true,if_false]
theorem compEnvR (R:EnvR h H sc vars env ρ) (ok:CompOk sc vars caps scope tgts) {L:Addr} (hL:h.Ns L fun _=>none) (hH:H L = none):
 EnvR h H (innerScope scope) (tgts ++ capNames vars caps) (compEnvC scope (closOf env scope.names []) L env) (tgts.map (fun _=>none) ++ capVals ρ caps):=by
 have hcl:=closOf_sound (env:=env) (l:=scope.names) (cs:=[]) (cells_of R ok) (fun x c q=>by simp at q)
 have hcaps:∀ i∈caps,∃ x,vars[i]? = some x:=fun i hi=>(by obtain ⟨x,hx,_⟩:=ok.cap i hi;exact ⟨x,hx⟩)
 obtain ⟨g1,g2⟩:=capNames_get (sc:=sc) hcaps
 have hcell:∀ x∈capNames vars caps,(innerScope scope).names.lookup x = some .cell∧∃ c,(closOf env scope.names []).lookup x = some c:=fun x hx=>by
  obtain ⟨i,hi,hv⟩:=capNames_mem hx
  obtain ⟨y,hy,_,hf⟩:=ok.cap i hi
  rw [hv] at hy;cases hy
  exact ⟨lookup_inner_free hf,closOf_has (.inl (lookup_mem' hf))⟩
 refine ⟨relabel_inner R ok,ok.kind,R.glob,R.built,ok.nodup,by simp [g1],fun x hx=>?_,fun x c e=>R.cells x c (hcl x c e),fun x y c e1 e2=>R.apart x y c (hcl x c e1) (hcl y c e2),hH,_,hL,fun i x av hv hr=>?_⟩
 · rcases List.mem_append.mp hx with hx | hx
   · exact .inl (lookup_inner_local (ok.tg x hx))
   · exact .inr (hcell x hx)
 · by_cases hi:i < tgts.length
   · have:(tgts.map (fun _=>(none:Option AV)) ++ capVals ρ caps)[i]? = some none:=by
      refine wat (List.getElem?_append_left (by simpa using hi)) ?_;simp [hi]
     rw [this] at hr;cases hr
   · rw [List.getElem?_append_right (by simpa using Nat.le_of_not_lt hi)] at hr
     rw [List.getElem?_append_right (Nat.le_of_not_lt hi)] at hv
     simp only [List.length_map] at hr
     obtain ⟨j,e1,e2⟩:=g2 _ x hv
     rw [List.getElem?_map,e1] at hr
     simp only [Option.map_some,Option.some.injEq,Option.join_eq_some_iff] at hr
     have hx:=hcell x (List.mem_of_getElem? hv)
     refine ⟨fun q=>(by rw [hx.1] at q;cases q),fun _ c hc=>?_⟩
     refine bc fun nG=>?_
     obtain ⟨m,_,hk⟩:=R.look
     refine nG ?_
     obtain ⟨y,hy,hs,_⟩:=ok.cap j (List.mem_of_getElem? e1)
     rw [e2] at hy;obtain rfl:=Option.some.inj hy
     exact (hk j x av e2 hr).2 hs c (hcl x c hc)
end
section
variable {B:Heap} {os₀:OsState}
theorem Inv.adopt {byText:Bool} {s:Shared} {H:AHeap} {D:Addr} {acc:List AV} (I:Inv byText B os₀ s H) (a:AccAt B s.heap H D acc):Inv byText B os₀ s (H.set D (.list acc)):=by
 have x:Ext (· = D) s.heap H s.heap (H.set D (.list acc)):=Ext.adopt _
 refine ⟨fun b o e=>⟨(I.base b o e).1,?_⟩,fun b o e=>?_,I.gens,I.os⟩
 · refine wat (AHeap.set_ne _ _ (fun q=>by rw [q,a.base] at e;cases e)) ?_;exact (I.base b o e).2
 · by_cases q:b = D
   · subst q
     rw [AHeap.set_self] at e;cases e
     obtain ⟨vs,m,e',r⟩:=a.get
     exact ⟨vs,m,e',r.ext x a.ok⟩
   · rw [AHeap.set_ne _ _ q] at e
     exact (I.rep b o e).ext x a.ok rfl
end
section
variable {prog:Program} {w:World} {B:Heap} {os₀:OsState} {C:CallSem} {n:Nat} {A:Around} {s s':Shared} {H H':AHeap} {K:Frag} {mg mb:Str→Option Value}
variable {sc:Scope} {vars:List Str} {env:Env} {ρ:Loc} {X:AHeap→Prop} {Er:Value→Shared→Prop} {scope:Scope} {tgts:List Str} {caps:List Nat}
theorem dead_of_ext {own:Addr→Prop} {h h':Heap} {H H':AHeap} (x:ExtE h H h' H') {a:Addr} (e:h'.get? a = none):h.get? a = none:=by
 cases q:h.get? a with
 | none=>rfl
 | some o=>obtain ⟨o',z⟩:=x.live a o q id;rw [e] at z;cases z
theorem MadeI.frame {v u:Addr} {it:It} (f:FR w B os₀ n A s H sc vars env ρ) (m:MadeI w B os₀ s H v u it s' H'):FR w B os₀ n A s' H' sc vars env ρ:=f.ext m.inv m.ext
theorem MadeI.offBase {v u:Addr} {it:It} (i:INV w B os₀ s H) (m:MadeI w B os₀ s H v u it s' H'):B.get? v = none∧B.get? u = none:=by
 constructor
 · cases q:B.get? v with
   | none=>rfl
   | some o=>have:=i.keeps v o q;rw [m.newv] at this;cases this
 · cases q:B.get? u with
   | none=>rfl
   | some o=>have:=i.keeps u o q;rw [m.newu] at this;cases this
structure CompAt (w:World) (B:Heap) (os₀:OsState) (n:Nat) (A:Around) (s:Shared) (H:AHeap) (scope:Scope) (vars:List Str) (env:Env) (ρ:Loc) (L D v u:Addr) (it:It) (s₄:Shared) (H₄:AHeap):Prop where
 fr:FR w B os₀ n A s₄ H₄ (innerScope scope) vars (compEnvC scope (closOf env scope.names []) L env) ρ
 nf:NF A L
 acc:AccAt B s₄.heap H₄ D []
 it:ItR w s₄.heap H₄ v u it
 fv:H₄ v = none
 fu:H₄ u = none
 bv:B.get? v = none
 bu:B.get? u = none
 ext:ExtE s.heap H s₄.heap H₄
 dead:∀ b,loopOwn L D v u b→s.heap.get? b = none
theorem comp_setup {e:Expr} {v u:Addr} {it:It} {RR:Value→Addr→Result→Shared→Prop} (f:FR w B os₀ n A s H sc vars env ρ) (m:MadeI w B os₀ s H v u it s' H') (ok:CompOk sc vars caps scope tgts)
 (k:∀ L D s₄,CompAt w B os₀ n A s H scope (tgts ++ capNames vars caps) env (tgts.map (fun _=>none) ++ capVals ρ caps) L D v u it s₄ H'→
   codeAny (model prog w) A (.compStart e 0 (.ref v) (.ref D) (compEnvC scope (closOf env scope.names []) L env)) (RR (.ref D) L) s₄):
 wpAny (model prog w) A (newList []) (fun acc s₃=>wpAny (model prog w) A (newFunctionEnv scope env.globals (closOf env scope.names []) [] env.qual none .none (some env)) (fun cenv s₄=>
  codeAny (model prog w) A (.compStart e 0 (.ref v) acc { cenv with scope:=relabel scope env }) (RR acc cenv.locals) s₄) Er s₃) Er s':=by
 have f':=m.frame f
 obtain ⟨bv,bu⟩:=m.offBase f.inv
 refine wpAny_newObj_type (wpAny_newFunctionEnv (fun nk hn=>ok.noCell nk hn) (by intro y hy;simp at hy) (fun h₁ hns hsb=>?_) ok.kind)
 generalize hH2:s'.heap.push { cls:=.type "list",dict:=none,data:=.seq ([]:List Value).toArray } = H2 at hns hsb ⊢
 have hC:H2.objs.size = s'.heap.objs.size + 1:=by rw [← hH2,Heap.size_push]
 have keep:∀ b o,s'.heap.get? b = some o→h₁.get? b = some o:=fun b o e=>hsb.extBut b o (by refine wat hC ?_;exact Nat.ne_of_lt (Nat.lt_succ_of_lt (Heap.lt_size e))) (Heap.get?_push_of_some _ (hH2▸Heap.get?_push_of_some _ e))
 have newC:s'.heap.get? H2.objs.size = none:=by
  cases e:s'.heap.get? H2.objs.size with
  | none=>rfl
  | some o=>exact absurd (Heap.lt_size e) (by refine wat hC ?_;exact Nat.not_lt.mpr (Nat.le_succ _))
 have hD:h₁.get? s'.heap.objs.size = some (listO [] 0):=hsb.extBut _ _ (by refine wat hC ?_;exact Nat.ne_of_lt (Nat.lt_succ_self _)) (Heap.get?_push_of_some _ (hH2▸Heap.get?_push_size _ rfl))
 have x:ExtE s'.heap H' h₁ H':=ExtE.grow keep
 have i:INV w B os₀ { s' with heap:=h₁,toks:=s'.toks + ([]:List (Str×Value)).length } H':=m.inv.grow keep rfl rfl
 have offB:∀ b,s'.heap.get? b = none→B.get? b = none:=fun b hb=>by
  cases e:B.get? b with
  | none=>rfl
  | some o=>have:=m.inv.keeps b o e;rw [hb] at this;cases this
 have Rx:=f'.ev.ext x
 have R₄:=compEnvR Rx ok (L:=H2.objs.size) hns (m.inv.fresh newC)
 refine k H2.objs.size s'.heap.objs.size { s' with heap:=h₁,toks:=s'.toks + ([]:List (Str×Value)).length } ⟨⟨f'.cx.ext x,f.room,i,R₄,?_⟩,?_,⟨⟨[],0,hD,.nil⟩,m.inv.freshSize,offB _ (get?_size _)⟩,m.it.ext x .nobody m.freev m.freeu id id,m.freev,m.freeu,bv,bu,Ext.trans m.ext x,?_⟩
 · rintro b (rfl | ⟨y,e⟩)
   · exact offB _ newC
   · exact f.ownB b (.inr ⟨y,closOf_sound (cells_of f.ev ok) (fun _ _ q=>by simp at q) y b e⟩)
 · intro l hl e he q
   obtain ⟨l',hl',hk⟩:=f'.cx.frames
   rw [hl] at hl';cases hl'
   obtain ⟨_,L',o,es,n',e1,_,_,e4,_⟩:=hk e he
   rw [q] at e1;cases e1
   rw [newC] at e4;cases e4
 · rintro b ((rfl | rfl) | (rfl | rfl))
   · exact dead_of_ext (own:=nobody) m.ext newC
   · exact dead_of_ext (own:=nobody) m.ext (get?_size _)
   · exact m.newv
   · exact m.newu
structure CompEnd (w:World) (B:Heap) (os₀:OsState) (s:Shared) (H:AHeap) (Q:AV→AHeap→Prop) (L D:Addr) (s':Shared):Prop where
 deadL:s.heap.get? L = none
 base:B.get? L = none
 ns:∃ m,s'.heap.Ns L m
 fin:(X2 fun (H':AHeap) (xs:List AV)=>A5 (H' L = none) (H' D = none) (L≠D) (Q (.ref D) (H'.set D (.list xs))) (∀ h',Heap.SameBut L s'.heap h'→INV w B os₀ { s' with heap:=h' } (H'.set D (.list xs))∧ExtE s.heap H h' (H'.set D (.list xs))))
theorem comp_end {vars':List Str} {ρ':Loc} {L D v u:Addr} {it:It} {s₄:Shared} {H₄:AHeap} {acc:List AV} {Q:AV→AHeap→Prop} {ρ₄:Loc} (c:CompAt w B os₀ n A s H scope vars' env ρ₄ L D v u it s₄ H₄)
 (f:FR w B os₀ n A s' H' (innerScope scope) vars' (compEnvC scope (closOf env scope.names []) L env) ρ') (a:AccAt B s'.heap H' D acc) (x:Ext (loopOwn L D v u) s₄.heap H₄ s'.heap H') (q:∀ a,H' a = none→Q (.ref a) (H'.set a (.list acc))):
 CompEnd w B os₀ s H Q L D s':=by
 have nLD:L≠D:=fun e=>f.ev.not_side (.inl rfl) (show Side s'.heap L from e▸a.side)
 refine ⟨c.dead L (.inl (.inl rfl)),f.ownB L (.inl rfl),?_,H',acc,f.ev.frame,a.free,nLD,q D a.free,fun h' sb=>?_⟩
 · obtain ⟨m,hm,_⟩:=f.ev.look;exact ⟨m,hm⟩
 · have ex:Ext (· = L) s'.heap H' h' H':=Ext.one sb
   have okL:OwnOk (· = L) s'.heap:=localsOk f.ev
   have i1:INV w B os₀ { s' with heap:=h' } H':=Inv.side (s':={ s' with heap:=h' }) f.inv ex okL (fun b z=>z▸f.ev.frame) (fun b z=>z▸f.ownB _ (.inl rfl)) sb.2 rfl rfl
   have a1:AccAt B h' H' D acc:=a.ext ex okL (fun z=>nLD z.symm)
   refine ⟨Inv.adopt (s:={ s' with heap:=h' }) i1 a1,?_⟩
   have x1:Ext (loopOwn L D v u) s₄.heap H₄ h' (H'.set D (.list acc)):=(x.trans (ex.widen fun _ _ _ z=>.inl (.inl z))).trans ((Ext.adopt (.list acc)).widen fun _ _ _ z=>.inl (.inr z))
   exact (Ext.trans c.ext.own x1).widen fun b o e z=>by rw [c.dead b z] at e;cases e
theorem last_ok {elt:E} {cond:T} {ev:Expr} {ifs:List Expr} {sc':Scope} {vars':List Str} {D:Addr} {acc:List AV} {ρ':Loc} {K':List AV→AHeap→Prop} {Kk:Shared→Prop}
 (ht:(cond = .tt∧ifs = [])∨∃ c,ifs = [c]∧TrT sc' vars' cond c) (he:TrE sc' vars' elt ev) (hT:ST prog w B os₀ C n cond) (hE:SE prog w B os₀ C n elt)
 (f:FR w B os₀ n A s H sc' vars' env ρ') (a:AccAt B s.heap H D acc)
 (h:awpT C cond ρ' H (fun r H₂=>if r then awp C elt ρ' H₂ (fun v H₃=>acc.length < 1000∧K' (acc ++ [v]) H₃) nox else K' acc H₂) nox)
 (k:∀ s' H' acc',FR w B os₀ n A s' H' sc' vars' env ρ'→AccAt B s'.heap H' D acc'→Ext (compOwn env.locals D) s.heap H s'.heap H'→K' acc' H'→Kk s'):
 lastWp prog w A env ifs ev (.ref D) s Kk Er:=by
 have rest:∀ (ok:Bool) s₁ H₁,INV w B os₀ s₁ H₁→ExtE s.heap H s₁.heap H₁→(if ok then awp C elt ρ' H₁ (fun v H₃=>acc.length < 1000∧K' (acc ++ [v]) H₃) nox else K' acc H₁)→
  (if ok = true then wpAny (model prog w) A (eval ev env) (fun x s₄=>wpAny (model prog w) A (call (.builtin "list.append") [.ref D,x]) (fun _ s₅=>Kk s₅) Er s₄) Er s₁ else Kk s₁):=by
  intro ok s₁ H₁ i₁ x₁ hq
  have f1:=f.ext i₁ x₁
  have a1:=a.ext x₁ .nobody id
  cases ok with
  | false=>exact k s₁ H₁ acc f1 a1 x₁.own hq
  | true=>
    refine (hE sc' vars' ev he A s₁ H₁ env ρ' _ nox f1 hq).calm fun v s₂ H₂ i₂ x₂ r₂=>?_
    refine bc fun nG=>?_
    obtain ⟨av,rv,hlen,hk⟩:=r₂
    refine nG ?_
    exact wp_acc (f1.ext i₂ x₂) (a1.ext x₂ .nobody id) rv hlen fun s₃ f3 a3 x3=>k s₃ H₂ _ f3 a3 ((ExtE.own (Ext.trans x₁ x₂)).trans (x3.widen fun _ _ _ z=>.inr z)) hk
 rcases ht with ⟨rfl,rfl⟩ | ⟨c,rfl,hc⟩
 · exact wpAny_tests_nil (rest true s H f.inv (Ext.refl _ _ _) h)
 · exact wpAny_tests_one ((hT sc' vars' c hc A s H env ρ' _ nox f h).calm fun ok s₁ H₁ i₁ x₁ hq=>rest ok s₁ H₁ i₁ x₁ hq)
theorem noFold {it:I} {iv:Expr} (h:TrI sc vars it iv):∀ x,foldedSetIterable iv env x = pure x:=by
 intro x
 have ok:okE iv = true:=by
  cases it with
  | e e=>exact h.1
  | range e=>obtain ⟨_,_,_,_,rfl,_⟩:=h;rfl
  | range3 a b c=>obtain ⟨_,_,_,_,_,_,rfl,_⟩:=h;rfl
  | enum e=>obtain ⟨_,_,_,_,rfl,_⟩:=h;rfl
 cases iv<;>first | rfl | exact nob ok
end
section
variable {prog:Program} {w:World} {B:Heap} {os₀:OsState} {C:CallSem} {n:Nat} {A:Around} {s s':Shared} {H H':AHeap} {K:Frag} {mg mb:Str→Option Value}
variable {sc:Scope} {vars:List Str} {env:Env} {ρ:Loc} {X:AHeap→Prop} {Er:Value→Shared→Prop} {scope:Scope} {tgts:List Str} {caps:List Nat}
variable (prog w B os₀) in
abbrev EX (A:Around) (s:Shared) (H:AHeap) (X:AHeap→Prop):Value→Shared→Prop:=XE w B os₀ A s.heap H X
variable (prog w) in
abbrev compRun (A:Around) (ex iv:Expr) (scope:Scope) (env:Env) (RR:Value→Addr→Result→Shared→Prop) (E:Value→Shared→Prop) (s:Shared):Prop:=
 wpAny (model prog w) A (eval iv env) (fun x s₁=>wpAny (model prog w) A (pyIter x) (fun it s₂=>wpAny (model prog w) A (newList []) (fun acc s₃=>
  wpAny (model prog w) A (newFunctionEnv scope env.globals (closOf env scope.names []) [] env.qual none .none (some env)) (fun cenv s₄=>
   codeAny (model prog w) A (.compStart ex 0 it acc { cenv with scope:=relabel scope env }) (RR acc cenv.locals) s₄) E s₃) E s₂) E s₁) E s
theorem comp_runs {elt:E} {it:I} {cond:T} {ev iv:Expr} {x:Str} {xp p:Pos} {ifs:List Expr} {Q:AV→AHeap→Prop} {RR:Value→Addr→Result→Shared→Prop}
 (hI:SI prog w B os₀ C n it) (hT:ST prog w B os₀ C n cond) (hE:SE prog w B os₀ C n elt)
 (h0:(compOk sc vars caps scope [x] && notEnumI it) = true) (h1:TrI sc vars it iv) (h2:(cond = .tt∧ifs = [])∨∃ c,ifs = [c]∧TrT (innerScope scope) (x :: capNames vars caps) cond c) (h3:TrE (innerScope scope) (x :: capNames vars caps) elt ev)
 (f:FR w B os₀ n A s H sc vars env ρ) (h:awp C (.comp elt it cond caps) ρ H Q X)
 (hEr:∀ e s',EX w B os₀ A s H X e s'→Er e s') (fin:∀ L D s',CompEnd w B os₀ s H Q L D s'→RR (.ref D) L (.ok .next) s'):
 compRun prog w A (.ListComp ev [⟨.Name x xp,iv,ifs,0⟩] scope p) iv scope env RR Er s:=by
 rw [Bool.and_eq_true] at h0
 have ok:=compOk_spec h0.1
 refine wpAny_mono (hI sc vars iv h1 A s H env ρ _ X f h) (fun xv s₁ h₁=>wpAny_mono h₁ (fun itv s₂ h₂=>?_) fun _ _ e=>hEr _ _ e) fun _ _ e=>hEr _ _ e
 refine bc fun nG=>?_
 obtain ⟨v,u,it₀,H₂,rfl,m,hne,hns,fuel,hq⟩:=h₂
 refine nG ?_
 refine comp_setup f m ok fun L D s₄ c=>?_
 have loop:codeAny (model prog w) A (.compLoop (.ListComp ev [⟨.Name x xp,iv,ifs,0⟩] scope p) 0 (.ref v) (.ref D) (compEnvC scope (closOf env scope.names []) L env)) (RR (.ref D) L) s₄:=
  comp_loop (k:=0) (xp:=xp) c.nf rfl (lookup_inner_local (ok.tg x List.mem_cons_self)) (fun av q=>by cases q) (fun v s Q E h=>turn_last h)
   (fun s H av acc K' Kk E f a h k=>last_ok h2 h3 hT hE f a h k) c.bv c.bu fuel it₀ [] s₄ H₂ c.fr c.acc c.it c.fv c.fu (hne h0.2) hq fun s' H' acc' f' a' x' q'=>fin L D s' (comp_end c f' a' x' q')
 exact codeAny_compStart_list loop (c.it.self (hne h0.2) hns loop)
theorem codeAny_compStart_inner {elt t1 i1 t2 i2:Expr} {scope:Scope} {pos:Pos} {it acc:Value} {env:Env} {R:Result→Shared→Prop}
 (h0:codeAny (model prog w) A (.compLoop (.ListComp elt [⟨t1,i1,[],0⟩,⟨t2,i2,[],0⟩] scope pos) 1 it acc env) R s)
 (h:wpAny (model prog w) A (pyIter it) (fun it' s'=>codeAny (model prog w) A (.compLoop (.ListComp elt [⟨t1,i1,[],0⟩,⟨t2,i2,[],0⟩] scope pos) 1 it' acc env) R s')
   (notedBy (model prog w) A env fun x s'=>R (.error x) s') s):
 codeAny (model prog w) A (.compStart (.ListComp elt [⟨t1,i1,[],0⟩,⟨t2,i2,[],0⟩] scope pos) 1 it acc env) R s:=by
 refine codeAny_of_tree ?_
 refine wpAny_notedAt ?_
 refine wpAny_bind (wpAny_askSetting (wpAny_ite ?_))
 split
 · first
    | exact wpAny_bind (wpAny_pure (wpAny_pure (And.intro rfl h0)))
    | exact wpAny_pure (And.intro rfl h0)
 · first
    | exact wpAny_bind (wpAny_rule (wpAny_bind (wpAny_standAt (wpAny_bind (wpAny_mono h (fun it' s' h'=>wpAny_pure (And.intro rfl h')) fun _ _ x=>x)))))
    | (refine wpAny_bind (wpAny_rule ?_);show wpAny _ _ (standAt i2.pos >>= _) _ _ s;exact wpAny_bind (wpAny_standAt (wpAny_bind (wpAny_mono h (fun it' s' h'=>wpAny_pure (And.intro rfl h')) fun _ _ x=>x))))
theorem first_ok {elt:E} {i₂:I} {ev iv jv:Expr} {x y:Str} {xp yp p:Pos} {D:Addr} {acc:List AV} {av:AV} {K':List AV→AHeap→Prop} {Kk:Shared→Prop} {sc':Scope} {cn:List Str} {cv:Loc}
 (hI:SI prog w B os₀ C n i₂) (hE:SE prog w B os₀ C n elt) (hne:notEnumI i₂ = true) (nf:NF A env.locals) (hy:sc'.names.lookup y = some .local)
 (h1:TrI sc' (x :: y :: cn) i₂ jv) (h2:TrE sc' (x :: y :: cn) elt ev)
 (f:FR w B os₀ n A s H sc' (x :: y :: cn) env (some av :: none :: cv)) (a:AccAt B s.heap H D acc)
 (h:awpI C i₂ (some av :: none :: cv) H (fun it₁ H₂=>notSetIt it₁ = true∧∃ m,turns (fun z acc' H'' K'=>
   awp C elt (some av :: some z :: cv) H'' (fun v H₃=>acc'.length < 1000∧K' (acc' ++ [v]) H₃) nox) m it₁ acc H₂ K') nox)
 (k:∀ s' H' acc',FR w B os₀ n A s' H' sc' (x :: y :: cn) env (some av :: none :: cv)→AccAt B s'.heap H' D acc'→Ext (compOwn env.locals D) s.heap H s'.heap H'→K' acc' H'→Kk s'):
 firstWp prog w A env (.ListComp ev [⟨.Name x xp,iv,[],0⟩,⟨.Name y yp,jv,[],0⟩] scope p) jv (.ref D) s Kk Er:=by
 have bad:∀ {e s'},EX w B os₀ A s H nox e s'→Er e s':=fun h=>by obtain ⟨_,_,_,_,q⟩:=h;exact q.elim
 refine wpAny_mono (hI sc' (x :: y :: cn) jv h1 A s H env _ _ nox f h) (fun xv s₁ h₁=>wpAny_mono h₁ (fun itv s₂ h₂=>?_) fun _ _ q=>bad q) fun _ _ q=>bad q
 obtain ⟨v,u,it₀,H₂,rfl,m,hne',hns,fuel,hq⟩:=h₂
 obtain ⟨bv,bu⟩:=m.offBase f.inv
 have f2:=m.frame f
 have a2:=a.ext m.ext .nobody id
 have loop:codeAny (model prog w) A (.compLoop (.ListComp ev [⟨.Name x xp,iv,[],0⟩,⟨.Name y yp,jv,[],0⟩] scope p) 1 (.ref v) (.ref D) env) (fun r s₃=>match r with
  | .ok _=>Kk s₃
  | .error e=>cameBackBy (model prog w) A env Er e s₃) s₂:=
  comp_loop (k:=1) (xp:=yp) nf rfl hy (fun av q=>by cases q) (fun v s Q E h=>turn_inner h)
   (fun s H z acc K' Kk E f a h k=>last_ok (cond:=.tt) (.inl ⟨rfl,rfl⟩) h2 ST_tt hE f a h k) bv bu fuel it₀ acc s₂ H₂ f2 a2 m.it m.freev m.freeu (hne' hne) hq fun s' H' acc' f' a' x' q'=>
     k s' H' acc' f' a' ((Ext.trans m.ext.own x').widen fun b o e z=>z.elim id fun z=>by rcases z with rfl | rfl<;>(first | (rw [m.newv] at e;exact no1 e) | (rw [m.newu] at e;exact no1 e))) q'
 exact codeAny_compStart_inner loop (m.it.self (hne' hne) hns loop)
theorem comp2_runs {elt:E} {i₁ i₂:I} {ev iv jv:Expr} {x y:Str} {xp yp p:Pos} {Q:AV→AHeap→Prop} {RR:Value→Addr→Result→Shared→Prop}
 (hI₁:SI prog w B os₀ C n i₁) (hI₂:SI prog w B os₀ C n i₂) (hE:SE prog w B os₀ C n elt)
 (h0:(compOk sc vars caps scope [x,y] && notEnumI i₁ && notEnumI i₂) = true) (h1:TrI sc vars i₁ iv) (h2:TrI (innerScope scope) (x :: y :: capNames vars caps) i₂ jv) (h3:TrE (innerScope scope) (x :: y :: capNames vars caps) elt ev)
 (f:FR w B os₀ n A s H sc vars env ρ) (h:awp C (.comp2 elt i₁ i₂ caps) ρ H Q X)
 (hEr:∀ e s',EX w B os₀ A s H X e s'→Er e s') (fin:∀ L D s',CompEnd w B os₀ s H Q L D s'→RR (.ref D) L (.ok .next) s'):
 compRun prog w A (.ListComp ev [⟨.Name x xp,iv,[],0⟩,⟨.Name y yp,jv,[],0⟩] scope p) iv scope env RR Er s:=by
 rw [Bool.and_eq_true,Bool.and_eq_true] at h0
 have ok:=compOk_spec h0.1.1
 refine wpAny_mono (hI₁ sc vars iv h1 A s H env ρ _ X f h) (fun xv s₁ h₁=>wpAny_mono h₁ (fun itv s₂ h₂=>?_) fun _ _ e=>hEr _ _ e) fun _ _ e=>hEr _ _ e
 obtain ⟨v,u,it₀,H₂,rfl,m,hne,hns,fuel,hq⟩:=h₂
 refine comp_setup f m ok fun L D s₄ c=>?_
 have loop:codeAny (model prog w) A (.compLoop (.ListComp ev [⟨.Name x xp,iv,[],0⟩,⟨.Name y yp,jv,[],0⟩] scope p) 0 (.ref v) (.ref D) (compEnvC scope (closOf env scope.names []) L env)) (RR (.ref D) L) s₄:=
  comp_loop (k:=0) (xp:=xp) c.nf rfl (lookup_inner_local (ok.tg x List.mem_cons_self)) (fun av q=>by cases q) (fun v s Q E h=>turn_first (noFold h2) h)
   (fun s H av acc K' Kk E f a h k=>first_ok hI₂ hE h0.2 c.nf (lookup_inner_local (ok.tg y (by simp))) h2 h3 f a h k) c.bv c.bu fuel it₀ [] s₄ H₂ c.fr c.acc c.it c.fv c.fu (hne h0.1.2) hq fun s' H' acc' f' a' x' q'=>fin L D s' (comp_end c f' a' x' q')
 exact codeAny_compStart_list loop (c.it.self (hne h0.1.2) hns loop)
theorem comp_value {Q:AV→AHeap→Prop} {L D:Addr} {s₁:Shared} (c:CompEnd w B os₀ s H Q L D s₁):
 compPost (model prog w) A (EX w B os₀ A s H X) none (OkE w B os₀ s.heap H (RQ Q)) (.ref D) L (.ok .next) s₁:=by
 refine bc fun nG=>?_
 obtain ⟨m,hm⟩:=c.ns
 refine nG ?_
 refine bc fun nG=>?_
 obtain ⟨H',xs,_,_,_,q,k⟩:=c.fin
 refine nG ?_
 refine ⟨m,hm,fun h' sb=>?_⟩
 refine bc fun nG=>?_
 obtain ⟨i,x⟩:=k h' sb
 refine nG ?_
 exact ⟨_,i,x,_,.ref,q⟩
theorem SE_comp {elt:E} {it:I} {cond:T} (hI:SI prog w B os₀ C n it) (hT:ST prog w B os₀ C n cond) (hE:SE prog w B os₀ C n elt):SE prog w B os₀ C n (.comp elt it cond caps):=by
 intro sc vars ex hc A s H env ρ Q X f h
 refine bc fun nG=>?_
 obtain ⟨ev,x,xp,iv,ifs,scope,p,rfl,h0,h1,h2,h3⟩:=hc
 refine nG ?_
 have ok:=compOk_spec (Bool.and_eq_true _ _▸h0).1
 show wpAny _ A (eval _ env) _ _ s
 exact wpAny_comprehension_free (use:=none) rfl (noFold h1) (closureFor_of (cells_of f.ev ok)) ok.kind ok.loc (comp_runs hI hT hE h0 h1 h2 h3 f h (fun _ _ q=>q) fun L D s' c=>comp_value c)
theorem SE_comp2 {elt:E} {i₁ i₂:I} (hI₁:SI prog w B os₀ C n i₁) (hI₂:SI prog w B os₀ C n i₂) (hE:SE prog w B os₀ C n elt):SE prog w B os₀ C n (.comp2 elt i₁ i₂ caps):=by
 intro sc vars ex hc A s H env ρ Q X f h
 obtain ⟨ev,x,xp,iv,y,yp,jv,scope,p,rfl,h0,h1,h2,h3⟩:=hc
 have ok:=compOk_spec (by rw [Bool.and_eq_true,Bool.and_eq_true] at h0;exact h0.1.1)
 exact wpAny_comprehension_free (use:=none) rfl (noFold h1) (closureFor_of (cells_of f.ev ok)) ok.kind ok.loc (comp2_runs hI₁ hI₂ hE h0 h1 h2 h3 f h (fun _ _ q=>q) fun L D s' c=>comp_value c)
end
set_option maxRecDepth 100000
theorem slot_map_next:Slot "map" (Str.ofString "__next__") "map.__next__":=
 .of (owner:="map") (n:="__next__") (by rw [typeLookup_type,builtinLookup_eq_fast];kernel_rfl) (by decide +kernel) (by decide +kernel) (by decide +kernel)
  (by first | exact .inl (by decide +kernel) | exact .inr (by decide +kernel)) (by rw [isSubtype_type];kernel_rfl)
theorem slot_map_iter:Slot "map" (Str.ofString "__iter__") "map.__iter__":=
 .of (owner:="map") (n:="__iter__") (by rw [typeLookup_type,builtinLookup_eq_fast];kernel_rfl) (by decide +kernel) (by decide +kernel) (by decide +kernel)
  (by first | exact .inl (by decide +kernel) | exact .inr (by decide +kernel)) (by rw [isSubtype_type];kernel_rfl)
theorem slot_map_init:Slot "map" "__init__" "object.__init__":=
 .of (owner:="object") (n:="__init__") (by rw [typeLookup_type,builtinLookup_eq_fast];kernel_rfl) (by decide +kernel) (by decide +kernel) (by decide +kernel)
  (by first | exact .inl (by decide +kernel) | exact .inr (by decide +kernel)) (by rw [isSubtype_type];kernel_rfl)
theorem entry_map_next:entryFor table "map.__next__" = some Builtin.«map.__next__»:=entryFor_of_tree (by kernel_rfl)
theorem entry_map_new:entryFor table "map.__new__" = some Builtin.«map.__new__»:=entryFor_of_tree (by kernel_rfl)
theorem entry_map_iter:entryFor table "map.__iter__" = some Builtin.«dict_keyiterator.__iter__»:=
 entry_alias (id':="dict_keyiterator.__iter__") (by kernel_rfl) (by rw [Fast.te8572300776623958308];kernel_rfl) (by decide +kernel) (by kernel_rfl)
theorem args_map_next_1 (a:Value):argsOk "map.__next__" ⟨[a],[]⟩:=by
 unfold argsOk;refine wat (signature?_of (id:="map.__next__") (n:=['_','_','t','x','e','n','_','_']) (o:=['p','a','m']) (by kernel_rfl) (show Manifest.owners.lookup (String.ofList (['p','a','m']:List Char).reverse) = some Manifest.sig_map by kernel_rfl)) ?_;kernel_rfl
theorem args_map_iter_1 (a:Value):argsOk "map.__iter__" ⟨[a],[]⟩:=by
 unfold argsOk;refine wat (signature?_of (id:="map.__iter__") (n:=['_','_','r','e','t','i','_','_']) (o:=['p','a','m']) (by kernel_rfl) (show Manifest.owners.lookup (String.ofList (['p','a','m']:List Char).reverse) = some Manifest.sig_map by kernel_rfl)) ?_;kernel_rfl
theorem mro_map:mroOf (.type "map") = pure [.type "map",.type "object"]:=by rw [mroOf_type];kernel_rfl
theorem lookup_map_new:typeLookup (.type "map") "__new__" = pure (some (.builtin "map.__new__")):=by rw [typeLookup_type,builtinLookup_eq_fast];kernel_rfl
theorem called_map:TypeCalled "map" "map.__new__" "object.__init__":=
 ⟨by decide +kernel,by decide +kernel,⟨_,_,mro_map⟩,madeBy_type mro_map lookup_map_new (by decide +kernel),by decide +kernel,by rw [isSubtype_type];kernel_rfl,slot_map_init⟩
theorem typeCall_map_2 (a b:Value):checkTypeCall "map" ⟨[a,b],[]⟩ = pure ():=by kernel_rfl
theorem newCall_map_2 (a b:Value):checkBuiltinCall "map.__new__" ⟨[.type "map",a,b],[]⟩ = pure ():=by rw [Fast.te10254737850608025244];kernel_rfl
theorem sub_map:isSubtype (.type "map") (.type "map") = pure true:=by rw [isSubtype_type];kernel_rfl
theorem map_no_len:typeLookup (.type "map") "__len__" = pure none:=by rw [typeLookup_type,builtinLookup_eq_fast];kernel_rfl
theorem map_no_hint:typeLookup (.type "map") "__length_hint__" = pure none:=by rw [typeLookup_type,builtinLookup_eq_fast];kernel_rfl
theorem map_boot:bootBuiltins (Str.ofString "map") = some (.type "map"):=by decide +kernel
@[reducible] noncomputable def tup1 (x:Value):Obj:={ cls:=.type "tuple",data:=.seq #[x] }
@[reducible] noncomputable def mapO (t:Addr) (f:Value):Obj:={ cls:=.type "map",data:=.fields #[.ref t,f] }
section
variable {prog:Program} {w:World} {A:Around} {s:Shared} {E:Value→Shared→Prop}
open AutoSeq1 (wpAny_loadPart')
theorem meets_map_new (f:Value) (l:Addr) (items:Array Value) (n:Nat):
 Meets (Builtin.«map.__new__» ⟨[.type "map",f,.ref l],[]⟩) (fun _ R s=>s.heap.get? l = some { cls:=.type "list",data:=.seq items n }∧
  R (.ok (.ret (.ref (s.heap.objs.size + 2))))
    { s with heap:=((s.heap.push { cls:=.type "list_iterator",data:=.fields #[.ref l,.int 0 0] }).push (tup1 (.ref s.heap.objs.size))).push (mapO (s.heap.objs.size + 1) f) }):=
 .of_wp fun prog w A R s h=>by
  obtain ⟨hp,g,d,tk,os⟩:=s;obtain ⟨hl,h⟩:=h
  have hsub:=sub_map
  have hL:Heap.IsList (Shared.heap ⟨hp,g,d,tk,os⟩) l items:=⟨_,hl,rfl,n,rfl⟩
  wp_walk using wpAny_loadPart' hl,wpAny_pyIter_list hL
  refine ⟨_,rfl,?_⟩
  have e1:=Heap.size_push hp { cls:=Value.type "list_iterator",data:=Data.fields #[Value.ref l,Value.int 0 0] }
  have e2:=Heap.size_push (hp.push { cls:=Value.type "list_iterator",data:=Data.fields #[Value.ref l,Value.int 0 0] }) (tup1 (.ref hp.objs.size))
  rw [e1] at e2
  show R (.ok (.ret (.ref (Heap.push _ (tup1 (.ref hp.objs.size))).objs.size))) ⟨Heap.push (Heap.push _ (tup1 (.ref hp.objs.size))) (mapO (Heap.push hp _).objs.size f),g,d,tk,os⟩
  refine wat e1 (wat e2 ?_)
  exact h
theorem map_next_item {M T V l:Addr} {i:Nat} {items:Array Value} {f x:Value} {Q:Option Value→Shared→Prop} (hm:s.heap.get? M = some (mapO T f)) (ht:s.heap.get? T = some (tup1 (.ref V))) (hv:s.heap.IsListIter V l i) (hl:s.heap.IsList l items)
 (hx:items[i]? = some x) (nVM:M≠V) (h:∀ h',h'.IsListIter V l (i + 1)→Heap.SameBut V s.heap h'→wpAny (model prog w) A.in1 (call f [x]) (fun r s'=>Q (some r) s') (fun _ _=>False) { s with heap:=h' }):
 wpAny (model prog w) A (pyNext (.ref M)) Q E s:=by
 have hT:s.TypeIs (.ref M) "map":=⟨_,hm,rfl⟩
 refine wpAny_bind (wpAny_attempt (wpAny_callSpecial?_slot (name:=Str.ofString "__next__") hT slot_map_next
  (wpAny_call_entry slot_map_next hT entry_map_next ?_ (args_map_next_1 _))))
 show wpAny _ _ (field (.ref M) 0 >>= _) _ _ _
 refine wpAny_bind (wpAny_field hm rfl (x:=.ref T) rfl ?_)
 refine wpAny_bind (wpAny_seqItems ht rfl ?_)
 show wpAny _ _ (forIn (#[Value.ref V]:Array Value) #[] _ >>= _) _ _ _
 refine wat (Array.forIn_toList).symm ?_
 refine wpAny_bind ?_
 simp only [List.forIn_cons,List.forIn_nil]
 refine wpAny_bind (wpAny_bind (wpAny_holding (wpAny_nextOf_list_item hv hl hx fun h₁ hv₁ hs₁=>wpAny_pure (wpAny_pure ?_))))
 have hm₁:h₁.get? M = some (mapO T f):=(hs₁.2 M nVM).trans hm
 refine wpAny_bind (wpAny_field hm₁ rfl (x:=f) rfl ?_)
 refine wpAny_bind (wpAny_holding (wpAny_mono (h h₁ hv₁ hs₁) (fun r s' hr=>?_) fun _ _ z=>z.elim))
 refine wpAny_bind ?_
 show wpAny _ _ (letGo [x] [r]) _ _ s'
 exact wpAny_letGo (wpAny_pure ⟨_,rfl,wpAny_pure hr⟩)
theorem map_next_end {M T V l:Addr} {i:Nat} {items:Array Value} {f:Value} {Q:Option Value→Shared→Prop} (hh:A.handled = none) (hm:s.heap.get? M = some (mapO T f)) (ht:s.heap.get? T = some (tup1 (.ref V))) (hv:s.heap.IsListIter V l i) (hl:s.heap.IsList l items)
 (hx:items[i]? = none) (h:∀ h',Heap.ExtBut V s.heap h'→Q none { s with heap:=h' }):wpAny (model prog w) A (pyNext (.ref M)) Q E s:=by
 have hT:s.TypeIs (.ref M) "map":=⟨_,hm,rfl⟩
 unfold pyNext
 refine wpAny_bind (wpAny_attempt (wpAny_callSpecial?_slot (name:=Str.ofString "__next__") hT slot_map_next
  (wpAny_call_entry slot_map_next hT entry_map_next ?_ (args_map_next_1 _))))
 show wpAny _ _ (field (.ref M) 0 >>= _) _ _ _
 refine wpAny_bind (wpAny_field hm rfl (x:=.ref T) rfl ?_)
 refine wpAny_bind (wpAny_seqItems ht rfl ?_)
 show wpAny _ _ (forIn (#[Value.ref V]:Array Value) #[] _ >>= _) _ _ _
 refine wat (Array.forIn_toList).symm ?_
 refine wpAny_bind ?_
 simp only [List.forIn_cons,List.forIn_nil]
 refine wpAny_bind (wpAny_bind (wpAny_holding (wpAny_nextOf_list_end hh hv hl hx fun h' x he' hx'=>?_)))
 obtain ⟨o,ho,hc⟩:=hx'
 refine wpAny_bind (wpAny_isInstance (T:="StopIteration") (b:=true) ⟨o,ho,hc⟩ isSubtype_stop ?_)
 exact wpAny_pure (h _ he')
end
section
variable {prog:Program} {w:World} {B:Heap} {os₀:OsState} {C:CallSem} {n:Nat} {A:Around} {s s':Shared} {H H':AHeap} {K:Frag} {mg mb:Str→Option Value}
variable {sc:Scope} {vars:List Str} {env:Env} {ρ:Loc} {X:AHeap→Prop} {Er:Value→Shared→Prop}
theorem Cx.under {A':Around} {h:Heap} (c:Cx B A h H) (h1:A'.handled = A.handled) (h2:A'.frames = A.frames):Cx B A' h H:=
 ⟨h1.trans c.handled,by obtain ⟨l,e,r⟩:=c.frames;exact ⟨l,h2.trans e,r⟩⟩
theorem Cx.sideO {own':Addr→Prop} {h h':Heap} (c:Cx B A h H) (x:Ext own' h H h' H') (sd:∀ b,own' b→Side h b):Cx B A h' H':=
 c.extO x fun l hf e he L hL q=>c.not_side hf he hL (sd L q)
theorem acc_push {D:Addr} {acc:List AV} {a:AV} {v:Value} (i:INV w B os₀ s H) (c:AccAt B s.heap H D acc) (r:RV s.heap H a v):
 INV w B os₀ { s with heap:=s.heap.update D (Obj.mapSeq fun x=>x.push v) } H∧AccAt B (s.heap.update D (Obj.mapSeq fun x=>x.push v)) H D (acc ++ [a])∧Ext (· = D) s.heap H (s.heap.update D (Obj.mapSeq fun x=>x.push v)) H:=by
 refine bc fun nG=>?_
 obtain ⟨vs,n',e,rv⟩:=c.get
 refine nG ?_
 obtain ⟨m,hg⟩:=update_list (f:=fun x=>x.push v) e
 have e2:(vs.toArray.push v).toList = vs ++ [v]:=by simp
 simp only [e2] at hg
 have sb:Heap.SameBut D s.heap (s.heap.update D (Obj.mapSeq fun x=>x.push v)):=Heap.SameBut.update ..
 have ex:Ext (· = D) s.heap H (s.heap.update D (Obj.mapSeq fun x=>x.push v)) H:=Ext.one sb
 exact ⟨Inv.side (s':={ s with heap:=s.heap.update D (Obj.mapSeq fun x=>x.push v) }) i ex c.ok (fun b z=>z▸c.free) (fun b z=>z▸c.base) sb.2 rfl rfl,
  ⟨⟨_,m,hg,(rv.ext ex c.ok).append (.cons (r.ext ex c.ok) .nil)⟩,c.free,c.base⟩,ex⟩
def Shorts (acc:List AV):Prop:=acc.length≤100∧∀ x∈acc,∃ z,x = .str z∧z.length≤10
abbrev mapEmit (C:CallSem):AV→List AV→AHeap→(List AV→AHeap→Prop)→Prop:=fun x acc H' K=>C .format_vertex [x] H' (fun r H''=>acc.length < 100∧(∃ s,r = .str s∧s.length≤10)∧K (acc ++ [r]) H'') nox
structure MapAt (B:Heap) (h:Heap) (H:AHeap) (M T V a:Addr) (i:Nat):Prop where
 m:h.get? M = some (mapO T (.ref (Fn.addr .format_vertex)))
 t:h.get? T = some (tup1 (.ref V))
 v:h.IsListIter V a i
 fm:H M = none
 ft:H T = none
 fv:H V = none
 bv:B.get? V = none
theorem MapAt.ext {own':Addr→Prop} {h h':Heap} {M T V a:Addr} {i:Nat} (x:MapAt B h H M T V a i) (e:Ext own' h H h' H') (nm:¬ own' M) (nt:¬ own' T) (nv:¬ own' V):MapAt B h' H' M T V a i:=by
 refine bc fun nG=>?_
 obtain ⟨o,ho,hc,hd⟩:=x.v
 refine nG ?_
 exact ⟨e.keep M _ x.m x.fm nm (fun _ _ q=>nomatch q),e.keep T _ x.t x.ft nt (fun _ _ q=>nomatch q),⟨o,e.keep V o ho x.fv nv (fun _ _ q=>by rw [hd] at q;cases q),hc,hd⟩,
  e.free M _ x.m x.fm nm,e.free T _ x.t x.ft nt,e.free V o ho x.fv nv,x.bv⟩
theorem MapAt.ne {h:Heap} {M T V a:Addr} {i:Nat} (x:MapAt B h H M T V a i):M≠V∧T≠V:=by
 refine bc fun nG=>?_
 obtain ⟨o,ho,hc,hd⟩:=x.v
 refine nG ?_
 refine ⟨fun q=>?_,fun q=>?_⟩
 · have:=x.m;rw [q,ho] at this;obtain rfl:=Option.some.inj this;exact absurd hc (by simp)
 · have:=x.t;rw [q,ho] at this;cases this;cases hd
theorem MapAt.neAcc {h:Heap} {M T V a D:Addr} {i:Nat} {acc:List AV} (x:MapAt B h H M T V a i) (c:AccAt B h H D acc):M≠D∧T≠D∧V≠D:=by
 refine bc fun nG=>?_
 obtain ⟨o,ho,hc,hd⟩:=x.v
 refine nG ?_
 obtain ⟨vs,m,e,_⟩:=c.get
 refine ⟨fun q=>?_,fun q=>?_,fun q=>?_⟩
 · have:=x.m;rw [q,e] at this;simp [listO,mapO] at this
 · have:=x.t;rw [q,e] at this;simp [listO,tup1] at this
 · rw [q,e] at ho;cases ho;cases hd
set_option tactic.hygienic true in
theorem map_loop (ok:CallOk prog w B os₀ n C) (rm:Room n A.in1.in1) {S M T V a:Addr} {K':List AV→AHeap→Prop} {R:Result→Shared→Prop}:
 ∀ (m i:Nat) (acc:List AV) (s:Shared) (H:AHeap),Cx B A s.heap H→INV w B os₀ s H→AccAt B s.heap H S acc→MapAt B s.heap H M T V a i→Shorts acc→turns (mapEmit C) m (.list a i) acc H K'→
   (∀ s' H' acc',Cx B A s'.heap H'→INV w B os₀ s' H'→AccAt B s'.heap H' S acc'→Shorts acc'→Ext (fun b=>b = S∨b = V) s.heap H s'.heap H'→K' acc' H'→R (.ok (.ret (.ref S))) s')→
   codeAny (model prog w) A (.builtin "list.extend.loop" ⟨[.ref S,.ref M,.ref S],[]⟩) R s:=by
 intro m
 induction m with
 | zero=>intro i acc s H _ _ _ _ _ h;exact h.elim
 | succ m ih=>
   intro i acc s H cx inv ac mp sh h fin
   refine codeAny_builtin F.entry_extend_loop ?_
   show wpAny _ A.in1 (pyNext (.ref M) >>= _) _ _ s
   refine wpAny_bind ?_
   unfold turns at h
   have hVside:∀ b,b = V→Side s.heap b:=fun b hb=>by
    obtain ⟨o,ho,hc,hd⟩:=mp.v
    exact ⟨o,hb▸ho,fun _ _ q=>(by rw [hd] at q;cases q),fun _ q=>(by rw [hd] at q;cases q)⟩
   have okV:OwnOk (· = V) s.heap:=by
    rintro b o rfl e x y rfl
    obtain ⟨o,ho,hc,hd⟩:=mp.v
    rw [e] at ho;obtain rfl:=Option.some.inj ho;cases hd
   obtain ⟨nMV,nTV⟩:=mp.ne
   refine bc fun nG=>?_
   obtain ⟨nMS,nTS,nVS⟩:=mp.neAcc ac
   refine nG ?_
   cases hn:nextA H (.list a i) with
   | none=>rw [hn] at h;exact h.elim
   | some r=>
     rw [hn] at h
     have hn:=nx hn
     cases hn with
     | @list _ xs _ ha=>
       obtain ⟨vs,k,e,rv⟩:=isList_of inv ha
       cases hx:xs[i]? with
       | none=>
         rw [hx] at h
         have hvn:vs.toArray[i]? = none:=by
          have:=rv.length
          have:=List.getElem?_eq_none_iff.mp hx
          simp;omega
         refine map_next_end cx.handled mp.m mp.t mp.v (listO_isList e) hvn fun h' eb=>wpAny_pure ?_
         have ex:Ext (· = V) s.heap H h' H:=⟨fun _ _ _ n _=>n,fun b o e _ no _=>eb b o no e,fun b o e _ no=>⟨o.slots,eb b o no e⟩,fun b o e no=>⟨o,eb b o no e⟩⟩
         have i':INV w B os₀ { s with heap:=h' } H:=by
          refine ⟨fun b o e=>⟨eb b o (fun q=>by rw [q,mp.bv] at e;exact no1 e) (inv.base b o e).1,(inv.base b o e).2⟩,fun b o e=>?_,inv.gens,inv.os⟩
          refine bc fun nG=>?_
          obtain ⟨ob,q⟩:=(inv.rep b o e).live
          refine nG ?_
          exact (inv.rep b o e).ext ex okV ((eb b ob (fun z=>by rw [z,mp.fv] at e;exact no1 e) q).trans q.symm)
         exact fin { s with heap:=h' } H acc (cx.sideO ex hVside) i' (ac.ext ex okV (Ne.symm nVS)) sh (ex.widen fun _ _ _ q=>.inr q) h
       | some x=>
         rw [hx] at h
         refine bc fun nG=>?_
         obtain ⟨val,hval,rval⟩:=rv.get hx
         refine nG ?_
         refine map_next_item mp.m mp.t mp.v (listO_isList e) (by simpa using hval) nMV fun h₁ hv₁ sb₁=>?_
         have ex1:Ext (· = V) s.heap H h₁ H:=Ext.one sb₁
         have i1:INV w B os₀ { s with heap:=h₁ } H:=Inv.side (s':={ s with heap:=h₁ }) inv ex1 okV (fun b z=>z▸mp.fv) (fun b z=>z▸mp.bv) sb₁.2 rfl rfl
         have cx1:=cx.sideO ex1 hVside
         have ac1:=ac.ext ex1 okV (Ne.symm nVS)
         have mp1:MapAt B h₁ H M T V a (i + 1):=⟨(sb₁.2 M nMV).trans mp.m,(sb₁.2 T nTV).trans mp.t,hv₁,mp.fm,mp.ft,mp.fv,mp.bv⟩
         refine (ok.wp (A:=A.in1.in1) (s:={ s with heap:=h₁ }) (cx1.under rfl rfl) rm i1 (.cons (rval.ext ex1 okV) .nil) h).calm fun rr s₂ H₂ i₂ x₂ q₂=>?_
         refine bc fun nG=>?_
         obtain ⟨av,rav,hlen,⟨z,rfl,hz⟩,hk⟩:=q₂
         refine nG ?_
         have cx2:=cx1.ext x₂
         have ac2:=ac1.ext x₂ .nobody id
         have mp2:=mp1.ext x₂ id id id
         refine bc fun nG=>?_
         obtain ⟨i3,ac3,ex3⟩:=acc_push i₂ ac2 rav
         refine nG ?_
         refine bc fun nG=>?_
         obtain ⟨ws,k2,e2,rw2⟩:=ac2.get
         refine nG ?_
         have hl:=rw2.length
         refine bc fun nG=>?_
         obtain ⟨nMS2,nTS2,nVS2⟩:=mp2.neAcc ac2
         refine nG ?_
         refine wpAny_bind ?_
         refine wpAny_updateSeq e2 rfl (wpAny_pure ⟨plainId_quiet F.plain_extend_loop _,?_⟩) (by have:=size1000;simp;exact linLe [_,_,_] 1 (.v 1) (.v 2) [.lt 1 (.v 0) (.n 100),.ge 1 (.v 0) (.v 1),.le 1 (.n 1000) (.v 2)] rfl hlen hl this) (by have:=size1000;simp;exact linLe [_,_,_] 1 (.v 1) (.v 2) [.lt 1 (.v 0) (.n 100),.ge 1 (.v 0) (.v 1),.le 1 (.n 1000) (.v 2)] rfl hlen hl this)
         refine ih (i + 1) (acc ++ [.str z]) _ H₂ (cx2.sideO ex3 fun b q=>q▸ac2.side) i3 ac3 (mp2.ext ex3 nMS2 nTS2 nVS2) ⟨by simp;exact Nat.le_of_lt_succ ‹_›,fun x hx=>?_⟩ hk fun s₄ H₄ acc₄ cx4 i4 ac4 sh4 ex4 k4=>?_
         · rcases List.mem_append.mp hx with hx | hx
           · exact sh.2 x hx
           · rw [List.mem_singleton] at hx;exact ⟨z,hx,hz⟩
         · refine fin s₄ H₄ acc₄ cx4 i4 ac4 sh4 ?_ k4
           exact ((ex1.widen fun _ _ _ q=>.inr q).trans x₂.own).trans ((ex3.widen fun _ _ _ q=>.inl q).trans ex4)
set_option tactic.hygienic true in
theorem strs_of {h:Heap}:∀ {acc:List AV} {vs:List Value},RVs h H acc vs→(∀ x∈acc,∃ z,x = .str z∧z.length≤10)→(X1 fun (l:List (Str×Tok))=>A3 (strValues l = vs) (l.map (·.1) = (acc.filterMap fun | .str s=>some s | _=>none)) (∀ p∈l,p.1.length≤10))
 | _,_,.nil,_=>⟨[],rfl,rfl,fun p h=>nomatch h⟩
 | _,_,.cons r rs,hs=>by
   obtain ⟨l,h1,h2,h3⟩:=strs_of rs fun x hx=>hs x (List.mem_cons_of_mem _ hx)
   obtain ⟨z,rfl,hz⟩:=hs _ List.mem_cons_self
   obtain ⟨_,rfl⟩:=r.vstr
   rename_i t
   exact ⟨(z,t) :: l,by refine wat h1.symm ?_;rfl,by simp [h2],fun p hp=>by
    rcases List.mem_cons.mp hp with rfl | hp
    · exact hz
    · exact h3 p hp⟩
end
section
variable {prog:Program} {w:World} {B:Heap} {os₀:OsState} {C:CallSem} {n:Nat} {A:Around} {s s':Shared} {H H':AHeap} {K:Frag} {mg mb:Str→Option Value}
variable {sc:Scope} {vars:List Str} {env:Env} {ρ:Loc} {X:AHeap→Prop} {Er:Value→Shared→Prop}
set_option tactic.hygienic true in
theorem map_collect (ok:CallOk prog w B os₀ n C) (rm:Room n A.in1.in1) {M T V a:Addr} {m:Nat} {K':List AV→AHeap→Prop} {Q:List Value→Shared→Prop} (cx:Cx B A s.heap H) (inv:INV w B os₀ s H) (mp:MapAt B s.heap H M T V a 0)
 (h:turns (mapEmit C) m (.list a 0) [] H K') (q:∀ s' H' acc' vs,INV w B os₀ s' H'→Ext (· = V) s.heap H s'.heap H'→RVs s'.heap H' acc' vs→Shorts acc'→K' acc' H'→Q vs s'):
 wpAny (model prog w) A (collect (.ref M)) Q Er s:=by
 have hTM:∀ {h':Heap} {s':Shared},s'.heap.get? M = some (mapO T (.ref (Fn.addr .format_vertex)))→s'.TypeIs (.ref M) "map":=fun e=>⟨_,e,rfl⟩
 refine wpAny_bind (wpAny_runValue (codeAny_builtin F.entry_proto_collect ?_))
 show wpAny _ A.in1 (newList [] >>= fun l=>again (.builtin "list.__iadd__" ⟨[l,.ref M],[]⟩)) _ _ s
 refine wpAny_bind (wpAny_newObj_type ?_)
 refine wpAny_pure ⟨plainId_quiet F.plain_list_iadd _,codeAny_builtin F.entry_list_iadd ?_⟩
 generalize hH1:s.heap.push { cls:=.type "list",dict:=none,data:=.seq ([]:List Value).toArray } = H1
 have k1:∀ b o,s.heap.get? b = some o→H1.get? b = some o:=fun b o e=>hH1▸Heap.get?_push_of_some _ e
 have hS:H1.get? s.heap.objs.size = some (listO [] 0):=hH1▸Heap.get?_push_size _ rfl
 have x1:ExtE s.heap H H1 H:=ExtE.grow k1
 have i1:INV w B os₀ { s with heap:=H1 } H:=inv.grow k1 rfl rfl
 have mp1:=mp.ext x1 id id id
 have ac1:AccAt B H1 H s.heap.objs.size []:=by
  refine ⟨⟨[],0,hS,.nil⟩,inv.freshSize,?_⟩
  cases e:B.get? s.heap.objs.size with
  | none=>rfl
  | some o=>have:=inv.keeps _ o e;rw [get?_size] at this;cases this
 have cx1:=cx.ext x1
 refine bc fun nG=>?_
 obtain ⟨nMS,nTS,nVS⟩:=mp1.neAcc ac1
 refine nG ?_
 generalize hSz:s.heap.objs.size = S at hS ac1 nMS nTS nVS ⊢
 show wpAny _ A.in1 (Builtin.List.listExtendWith (.ref S) (.ref M) (.ref S)) _ _ _
 have hT:Shared.TypeIs { s with heap:=H1 } (.ref M) "map":=⟨_,mp1.m,rfl⟩
 refine wpAny_bind (wpAny_typeOf hT ?_)
 have h1:Builtin.List.listSameRef (.ref S) (.ref M) = false:=by simp [Builtin.List.listSameRef,Ne.symm nMS]
 have h2:(Value.type "map" == Value.type "list") = false:=by decide
 have h3:(Value.type "map" == Value.type "tuple") = false:=by decide
 simp only [h1,h2,h3,Bool.or_false,Bool.false_eq_true,if_false]
 refine wpAny_bind (wpAny_pyIter_slot hT slot_map_iter (wpAny_call_entry slot_map_iter hT entry_map_iter ?_ (args_map_iter_1 _)))
 refine wpAny_pure ⟨_,rfl,"map",_,hT,slot_map_next.lookup,?_⟩
 refine wpAny_bind (wpAny_holding ?_)
 refine wpAny_bind (wpAny_specialOf hT map_no_len ?_)
 refine wpAny_bind (wpAny_specialOf hT map_no_hint ?_)
 refine wpAny_pure ?_
 show wpAny _ A.in1 (rule "list.extend.makes-room" >>= fun _=>Builtin.List.listTouch (.ref S) >>= fun _=>
  again (.builtin "list.extend.loop" ⟨[.ref S,.ref M,.ref S],[]⟩)) _ _ _
 refine wpAny_bind (wpAny_rule ?_)
 refine wpAny_bind ?_
 refine wpAny_bind (wpAny_updateSeq hS rfl ?_)
 have hS₂:=Heap.get?_update_self (Obj.mapSeq (·.push Value.none)) hS rfl
 refine wpAny_updateSeq hS₂ rfl ?_
 have hS₃:=Heap.get?_update_self (Obj.mapSeq (·.pop)) hS₂ rfl
 have sb:Heap.SameBut S H1 ((H1.update S (Obj.mapSeq (·.push Value.none))).update S (Obj.mapSeq (·.pop))):=(Heap.SameBut.update ..).trans (Heap.SameBut.update ..)
 generalize ((H1.update S (Obj.mapSeq (·.push Value.none))).update S (Obj.mapSeq (·.pop))) = H2 at hS₃ sb
 have x2:Ext (· = S) H1 H H2 H:=Ext.one sb
 have i2:INV w B os₀ { s with heap:=H2 } H:=Inv.side (s:={ s with heap:=H1 }) (s':={ s with heap:=H2 }) i1 x2 ac1.ok (fun b z=>z▸ac1.free) (fun b z=>z▸ac1.base) sb.2 rfl rfl
 have ac2:AccAt B H2 H S []:=⟨⟨[],_,hS₃,.nil⟩,ac1.free,ac1.base⟩
 refine wpAny_pure ⟨plainId_quiet F.plain_extend_loop _,map_loop ok rm m 0 [] { s with heap:=H2 } H (cx1.sideO x2 fun b z=>z▸ac1.side) i2 ac2 (mp1.ext x2 nMS nTS nVS) ⟨by simp,fun x hx=>nomatch hx⟩ h fun s' H' acc' cx' i' ac' sh' ex' k'=>?_⟩
 obtain ⟨vs,k,e,rv⟩:=ac'.get
 refine wpAny_bind (wpAny_load e ?_)
 refine wpAny_pure ?_
 have:=q s' H' acc' vs i' (((x1.own.trans (x2.widen fun _ _ _ z=>.inl z)).trans ex').widen fun b o e z=>?_) rv sh' k'
 · simpa using this
 · rcases z with rfl | z
   · rename_i e2;subst hSz;rw [get?_size] at e2;cases e2
   · exact z
theorem comma_len:(Str.ofString ",").length = 1:=rfl
theorem join_ok {l:List (Str×Tok)} (h1:l.length≤100) (h2:∀ p∈l,p.1.length≤10):JoinOk (Str.ofString ",") (l.map (·.1)) = true:=by
 unfold JoinOk
 have key:∀ (l:List (Str×Tok)) (k:Nat),(∀ p∈l,p.1.length≤10)→(l.map (·.1)).foldl (· + ·.length + (Str.ofString ",").length) k≤k + 11 * l.length:=by
  intro l
  induction l with
  | nil=>intro k _;simp
  | cons p l ih=>
    intro k h
    have:=h p List.mem_cons_self
    have:=ih (k + p.1.length + (Str.ofString ",").length) fun q hq=>h q (List.mem_cons_of_mem _ hq)
    rw [comma_len] at this ⊢
    simp only [List.map_cons,List.foldl_cons,List.length_cons]
    lia
 have:=key l 0 h2
 rw [Bool.not_eq_true',List.foldl_toArray]
 unfold Builtin.Str.tooLong
 rw [decide_eq_false_iff_not]
 rw [sizeLine_eq]
 exact Nat.not_lt_of_ge (linLe [_,_] 1 (.v 1) (.n 16777216) [.le 11 (.v 0) (.n 100),.le 1 (.v 1) (.a (.n 0) (.m 11 (.v 0)))] rfl h1 this)
set_option maxRecDepth 100000 in
theorem SE_joinmap (bs:Base K mg mb B) (ok:CallOk prog w B os₀ n C) {e:E} (h1:SE prog w B os₀ C n e):SE prog w B os₀ C n (.joinmap e):=by
 intro sc vars ex hc A s H env ρ Q X f h
 obtain ⟨c,k,cp,x,ap,mp,mpp,fn,fp,a,cq,pos,rfl,hc0,hc1⟩:=hc
 simp only [Bool.and_eq_true,beq_iff_eq] at hc0
 obtain ⟨⟨⟨⟨⟨⟨⟨q1,q2⟩,hln⟩,hmg⟩,q3⟩,hfg⟩,q4⟩,hok⟩:=hc0
 subst q1 q2 q3 q4
 refine bc fun nG=>?_
 obtain ⟨fo,fd,hfb,_⟩:=bs.fn .format_vertex
 refine nG ?_
 refine wpAny_Call_method rfl rfl (by refine wat hln ?_;simp) PySem.F.plainAttrs_str PySem.F.slot_str_join PySem.F.type_str_join (wpAny_Constant_str ⟨typeIs_str _ _ _,fun a q=>(by cases q),?_⟩)
 refine callWith_machine (by intro a;simp) rfl (Calls.spliced_cons ?_)
 refine wpAny_Call_NameR (wp_builtin bs (f.inv.toks _) f.ev hmg (bs.noB _ (by decide +kernel)) (by decide +kernel) map_boot (callWith_machine (by intro a;simp) (by show (false || (backTo cq (starEach [a] env)).any (·.1)) = false;refine wat (chk_notStarred hok) ?_;rfl) ?_))
 refine Calls.spliced_cons (wp_glob bs (f.inv.toks _) f.ev hfg (bs.fnG .format_vertex rfl) ?_)
 refine wat (chk_notStarred hok) ?_
 refine Calls.spliced_cons (WpE.stepL (s₁:={ s with toks:=s.toks + 1 }) (Ext.refl _ _ _) (h1 sc vars a hc1 A { s with toks:=s.toks + 1 } H env ρ _ X (f.toks _) h) fun v s₁ H₁ i₁ x₀ x₁ r₁=>Calls.spliced_nil ?_)
 refine bc fun nG=>?_
 obtain ⟨av,rv,hq⟩:=r₁
 refine nG ?_
 refine bc fun nG=>?_
 obtain ⟨l,xs,rfl,ha,fuel,hq⟩:=hq
 refine nG ?_
 cases rv
 obtain ⟨vs,m,el,rvs⟩:=isList_of i₁ ha
 refine callType_new called_map (by decide) (typeCall_map_2 _ _) (newCall_map_2 _ _) (fun obj=>F.args_object_init_3 obj _ _) entry_map_new (meets_map_new _ l vs.toArray m) ⟨el,?_⟩
 generalize hG:((s₁.heap.push { cls:=.type "list_iterator",data:=.fields #[.ref l,.int 0 0] }).push (tup1 (.ref s₁.heap.objs.size))).push (mapO (s₁.heap.objs.size + 1) (.ref (Fn.addr .format_vertex))) = G
 have z1:=Heap.size_push s₁.heap { cls:=.type "list_iterator",data:=.fields #[.ref l,.int 0 0] }
 have z2:=Heap.size_push (s₁.heap.push { cls:=.type "list_iterator",data:=.fields #[.ref l,.int 0 0] }) (tup1 (.ref s₁.heap.objs.size))
 rw [z1] at z2
 have gV:G.get? s₁.heap.objs.size = some { cls:=.type "list_iterator",data:=.fields #[.ref l,.int 0 0] }:=hG▸Heap.get?_push_of_some _ (Heap.get?_push_of_some _ (Heap.get?_push_size _ rfl))
 have gT:G.get? (s₁.heap.objs.size + 1) = some (tup1 (.ref s₁.heap.objs.size)):=by
  refine wat hG.symm (wat z1.symm ?_);exact Heap.get?_push_of_some _ (Heap.get?_push_size _ rfl)
 have gM:G.get? (s₁.heap.objs.size + 2) = some (mapO (s₁.heap.objs.size + 1) (.ref (Fn.addr .format_vertex))):=by
  refine wat hG.symm ?_
  have:=Heap.get?_push_size ((s₁.heap.push { cls:=.type "list_iterator",data:=.fields #[.ref l,.int 0 0] }).push (tup1 (.ref s₁.heap.objs.size))) (o:=mapO (s₁.heap.objs.size + 1) (.ref (Fn.addr .format_vertex))) rfl
  rw [z2] at this;exact this
 have keep:∀ b o,s₁.heap.get? b = some o→G.get? b = some o:=fun b o e=>hG▸Heap.get?_push_of_some _ (Heap.get?_push_of_some _ (Heap.get?_push_of_some _ e))
 have new:∀ j,s₁.heap.get? (s₁.heap.objs.size + j) = none:=fun j=>by
  cases q:s₁.heap.get? (s₁.heap.objs.size + j) with
  | none=>rfl
  | some o=>exact absurd (Heap.lt_size q) (Nat.not_lt.mpr (Nat.le_add_right _ _))
 have xg:ExtE s₁.heap H₁ G H₁:=ExtE.grow keep
 have ig:INV w B os₀ { s₁ with heap:=G } H₁:=i₁.grow keep rfl rfl
 have offB:B.get? s₁.heap.objs.size = none:=by
  cases q:B.get? s₁.heap.objs.size with
  | none=>rfl
  | some o=>have:=i₁.keeps _ o q;rw [get?_size] at this;cases this
 have mpt:MapAt B G H₁ (s₁.heap.objs.size + 2) (s₁.heap.objs.size + 1) s₁.heap.objs.size l 0:=⟨gM,gT,⟨_,gV,rfl,rfl⟩,i₁.fresh (new 2),i₁.fresh (new 1),i₁.freshSize,offB⟩
 have hTm:Shared.TypeIs { s₁ with heap:=G } (.ref (s₁.heap.objs.size + 2)) "map":=⟨_,gM,rfl⟩
 refine ⟨hTm,Calls.spliced_nil ?_⟩
 refine wpAny_call (codeAny_call_builtin PySem.F.slot_str_join.plain PySem.F.entry_str_join (PySem.F.slot_str_join.check _ _ _ _ _ _ _ _ (typeIs_str _ _ _) (PySem.F.args_str_join_2 _ _) ?_))
 show wpAny _ A.in1 (Builtin.«str.join» ⟨[.str (Str.ofString ",") s.toks,.ref (s₁.heap.objs.size + 2)],[]⟩) _ _ _
 rw [join_tree_other]
 refine wpAny_bind (wpAny_typeOf hTm ?_)
 show wpAny _ A.in1 ((pyIter (.ref (s₁.heap.objs.size + 2))).tryCatch _ >>= fun it=>collect it >>= fun items=>joinTail (Str.ofString ",") items) _ _ _
 refine wpAny_bind (wpAny_tryCatch (wpAny_pyIter_slot hTm slot_map_iter (wpAny_call_entry slot_map_iter hTm entry_map_iter ?_ (args_map_iter_1 _))))
 show wpAny _ _ (ret (.ref (s₁.heap.objs.size + 2))) _ _ _
 refine wpAny_pure ⟨_,rfl,"map",_,hTm,slot_map_next.lookup,?_⟩
 have cx:=(((f.cx.ext x₁).ext xg).under (A':=A.in1) rfl rfl)
 have rm:Room n A.in1.in1.in1:=by
  have:=f.room.1;have:=f.room.2
  exact ⟨by show A.depth + 3 * n + 20 < _;omega,by show A.units + 1 + 1 + 1 + 40 * n + 300 < _;exact linLt [_,_,_] 1 (.a (.a (.a (.a (.a (.v 0) (.n 1)) (.n 1)) (.n 1)) (.m 40 (.v 1))) (.n 300)) (.v 2) [.lt 1 (.a (.a (.v 0) (.m 40 (.v 1))) (.n 310)) (.v 2)] rfl this⟩
 refine wpAny_bind (map_collect (A:=A.in1) ok rm cx ig mpt hq fun s' H' acc' ws i' ex' rw' sh' k'=>?_)
 obtain ⟨ls,e1,e2,e3⟩:=strs_of rw' sh'.2
 have hll:ls.length≤100:=by
  have:=rw'.length
  have:(strValues ls).length = ls.length:=by simp [strValues]
  rw [e1] at this
  have:=sh'.1
  omega
 have hjo:=join_ok hll e3
 refine wat e1.symm ?_
 have hok:=hjo
 unfold JoinOk at hok
 rw [Bool.not_eq_true'] at hok
 have g:Gives (joinTail (Str.ofString ",") (strValues ls)) (joinMade (Str.ofString ",") ls):=by
  have g0:=gives_joinTail (Str.ofString ",") ls hok
  cases ls with
  | nil=>exact g0
  | cons p r=>cases r with
    | nil=>exact g0
    | cons q r'=>exact g0
 refine g prog w A (wants _ _) s' (post_join ls ⟨joinFit_length hok,fun t' k=>?_⟩)
 refine wat e2 ?_
 have x':ExtE s.heap H s'.heap H':=(Ext.trans (Ext.trans x₁.own xg.own) ex').widen fun b o e z=>by
  subst z
  obtain ⟨o',q⟩:=x₁.live _ o e id
  rw [get?_size] at q;cases q
 exact ⟨H',i'.toks k,x',_,.str,k'⟩
end
section
variable {prog:Program} {w:World} {B:Heap} {os₀:OsState} {C:CallSem} {n:Nat} {A:Around} {s s':Shared} {H H':AHeap} {K:Frag} {mg mb:Str→Option Value}
variable {sc:Scope} {vars:List Str} {env:Env} {ρ:Loc} {X:AHeap→Prop} {Er:Value→Shared→Prop}
mutual
theorem sE (bs:Base K mg mb B) (op:Opp prog w B mg) (ok:CallOk prog w B os₀ n C):∀ e:E,SE prog w B os₀ C n e
 | .var i=>SE_var i
 | .none=>SE_none
 | .bool b=>SE_bool b
 | .int i=>SE_int i
 | .str z=>SE_str z
 | .gstr z=>SE_gstr bs z
 | .opp e=>SE_opp bs op (sE bs op ok e)
 | .pair a b=>SE_pair (sE bs op ok a) (sE bs op ok b)
 | .list es=>SE_list (sEL bs op ok es)
 | .dict0=>SE_dict0
 | .bin _ a b=>SE_bin (sE bs op ok a) (sE bs op ok b)
 | .cmp a _ b=>SE_cmp bs (sE bs op ok a) (sE bs op ok b)
 | .andv a b=>SE_andv (sE bs op ok a) (sE bs op ok b)
 | .notv a=>SE_notv (sE bs op ok a)
 | .ite t a b=>SE_ite (sT bs op ok t) (sE bs op ok a) (sE bs op ok b)
 | .call _ args=>SE_call bs ok (sEL bs op ok args)
 | .meth _ o args=>SE_meth bs ok (sE bs op ok o) (sEL bs op ok args)
 | .newBoard e=>SE_newBoard bs ok (sE bs op ok e)
 | .newGroup=>SE_newGroup bs
 | .bi _ args=>SE_bi bs (sEL bs op ok args)
 | .bm _ o args=>SE_bm bs (sE bs op ok o) (sEL bs op ok args)
 | .joinmap e=>SE_joinmap bs ok (sE bs op ok e)
 | .attr o _=>SE_attr bs (sE bs op ok o)
 | .sub o i=>SE_sub (sE bs op ok o) (sE bs op ok i)
 | .sliceTo o hi=>SE_sliceTo (sE bs op ok o) (sE bs op ok hi)
 | .sliceFrom o lo=>SE_sliceFrom (sE bs op ok o) (sE bs op ok lo)
 | .slice o lo hi=>SE_slice (sE bs op ok o) (sE bs op ok lo) (sE bs op ok hi)
 | .comp elt it cond _=>SE_comp (sI bs op ok it) (sT bs op ok cond) (sE bs op ok elt)
 | .comp2 elt i₁ i₂ _=>SE_comp2 (sI bs op ok i₁) (sI bs op ok i₂) (sE bs op ok elt)
theorem sEL (bs:Base K mg mb B) (op:Opp prog w B mg) (ok:CallOk prog w B os₀ n C):∀ es:EL,SEL prog w B os₀ C n es
 | .nil=>SEL_nil
 | .cons e es=>SEL_cons (sE bs op ok e) (sEL bs op ok es)
theorem sT (bs:Base K mg mb B) (op:Opp prog w B mg) (ok:CallOk prog w B os₀ n C):∀ t:T,ST prog w B os₀ C n t
 | .tt=>ST_tt
 | .e e=>ST_e (sE bs op ok e)
 | .not t=>ST_not (sT bs op ok t)
 | .and ts=>ST_and (sTL bs op ok ts)
 | .or ts=>ST_or (sTL bs op ok ts)
 | .cmp a _ b=>ST_cmp bs (sE bs op ok a) (sE bs op ok b)
 | .chain a _ b _ c=>ST_chain bs (sE bs op ok a) (sE bs op ok b) (sE bs op ok c)
theorem sTL (bs:Base K mg mb B) (op:Opp prog w B mg) (ok:CallOk prog w B os₀ n C):∀ ts:TL,STL prog w B os₀ C n ts
 | .nil=>STL_nil
 | .cons t ts=>STL_cons (sT bs op ok t) (sTL bs op ok ts)
theorem sI (bs:Base K mg mb B) (op:Opp prog w B mg) (ok:CallOk prog w B os₀ n C):∀ it:I,SI prog w B os₀ C n it
 | .e e=>SI_e bs (sE bs op ok e)
 | .range e=>SI_range bs (sE bs op ok e)
 | .range3 a b c=>SI_range3 bs (sE bs op ok a) (sE bs op ok b) (sE bs op ok c)
 | .enum e=>SI_enum bs (sE bs op ok e)
end
def TopF (A:Around) (env:Env):Prop:=(∃ outer,A.frames = some (env :: outer))∧env.frame = some env.locals
inductive ExMade (w:World) (B:Heap) (A:Around) (h:Heap) (e:Value) (s':Shared) (H':AHeap):Prop
 | mk (ev:Addr) (base:Heap):e = .ref ev→Cx B A base H'→Heap.NewExc base s'.heap ev "ValueError"→(∀ b o,h.get? b = some o→∃ o',base.get? b = some o')→(∀ a o,H' a = some o→RO (w.params.followText "set-order") base H' a o)→ExMade w B A h e s' H'
inductive FlowR (h:Heap) (H:AHeap):AF→Flow→Prop where
 | next:FlowR h H .next .next
 | brk:FlowR h H .brk .brk
 | cont:FlowR h H .cont .cont
 | ret {av v}:RV h H av v→FlowR h H (.ret av) (.ret v)
inductive SP (w:World) (B:Heap) (os₀:OsState) (n:Nat) (A:Around) (sc:Scope) (vars:List Str) (env:Env) (s:Shared) (H:AHeap) (Q:SQ) (fl:Flow) (s':Shared):Prop
 | mk (H':AHeap) (ρ':Loc) (af:AF):FR w B os₀ n A s' H' sc vars env ρ'→Ext (own env) s.heap H s'.heap H'→FlowR s'.heap H' af fl→Q af ρ' H'→SP w B os₀ n A sc vars env s H Q fl s'
inductive SX (w:World) (B:Heap) (os₀:OsState) (A:Around) (env:Env) (s:Shared) (H:AHeap) (X:AHeap→Prop) (e:Value) (s':Shared):Prop
 | mk (H':AHeap):INV w B os₀ s' H'→Ext (own env) s.heap H s'.heap H'→(ExOk w A s.heap e s' H'∨ExMade w B A s.heap e s' H')→X H'→SX w B os₀ A env s H X e s'
variable (prog w B os₀ C n) in
def SS (st:S):Prop:=∀ sc vars x,TrS sc vars st x→∀ A s H env ρ Q X,TopF A env→FR w B os₀ n A s H sc vars env ρ→swp C st ρ H Q X→wpAny (model prog w) A (exec x env) (SP w B os₀ n A sc vars env s H Q) (SX w B os₀ A env s H X) s
variable (prog w B os₀ C n) in
def SSL (st:SL):Prop:=∀ sc vars xs,TrSL sc vars st xs→∀ A s H env ρ Q X,TopF A env→FR w B os₀ n A s H sc vars env ρ→swps C st ρ H Q X→wpAny (model prog w) A (execs xs env) (SP w B os₀ n A sc vars env s H Q) (SX w B os₀ A env s H X) s
theorem liveOn (f:FR w B os₀ n A s' H' sc vars env ρ) (x:Ext (own env) s.heap H s'.heap H'):∀ b o,s.heap.get? b = some o→∃ o',s'.heap.get? b = some o':=by
 intro b o e
 by_cases hb:own env b
 · rcases hb with rfl | ⟨y,ey⟩
   · obtain ⟨m,⟨o',_,_,ho,_⟩,_⟩:=f.ev.look;exact ⟨o',ho⟩
   · obtain ⟨_,v,o',ho,_⟩:=f.ev.cells y b ey;exact ⟨o',ho⟩
 · exact x.live b o e hb
theorem SX.back {e:Value} {s₁:Shared} {H₁:AHeap} (f:FR w B os₀ n A s₁ H₁ sc vars env ρ) (x:Ext (own env) s.heap H s₁.heap H₁) (h:SX w B os₀ A env s₁ H₁ X e s'):SX w B os₀ A env s H X e s':=by
 obtain ⟨H',i,x',q,hx⟩:=h
 exact ⟨H',i,x.trans x',q.imp (fun q=>q.mono (liveOn f x)) (fun ⟨ev,base,e1,e2,e3,e4,e5⟩=>⟨ev,base,e1,e2,e3,fun b o z=>let ⟨o',z'⟩:=liveOn f x b o z;e4 b o' z',e5⟩),hx⟩
theorem SP.back {Q:SQ} {fl:Flow} {s₁:Shared} {H₁:AHeap} (x:Ext (own env) s.heap H s₁.heap H₁) (h:SP w B os₀ n A sc vars env s₁ H₁ Q fl s'):SP w B os₀ n A sc vars env s H Q fl s':=by
 obtain ⟨H',ρ',af,f,x',r,q⟩:=h
 exact ⟨H',ρ',af,f,x.trans x',r,q⟩
theorem EX.toS {e:Value} (h:EX w B os₀ A s H X e s'):SX w B os₀ A env s H X e s':=by
 refine bc fun nG=>?_
 obtain ⟨H',i,x,q,hx⟩:=h
 refine nG ?_
 exact ⟨H',i,x.own,.inl q,hx⟩
theorem WpE.stmt {α:Type} {m:Sem α} {R:α→Shared→AHeap→Prop} {G:α→Shared→Prop} (h:WpE prog w B os₀ A m s H R X) (k:∀ a s' H',INV w B os₀ s' H'→ExtE s.heap H s'.heap H'→R a s' H'→G a s'):
 wpAny (model prog w) A m G (SX w B os₀ A env s H X) s:=
 wpAny_mono (h.step k) (fun _ _ q=>q) fun _ _ q=>EX.toS q
theorem WpE.stmtL {α:Type} {m:Sem α} {s₁:Shared} {H₁:AHeap} {R:α→Shared→AHeap→Prop} {G:α→Shared→Prop} (x:ExtE s.heap H s₁.heap H₁) (h:WpE prog w B os₀ A m s₁ H₁ R X)
 (k:∀ a s' H',INV w B os₀ s' H'→ExtE s₁.heap H₁ s'.heap H'→ExtE s.heap H s'.heap H'→R a s' H'→G a s'):wpAny (model prog w) A m G (SX w B os₀ A env s H X) s₁:=
 wpAny_mono (WpE.stepL x h k) (fun _ _ q=>q) fun _ _ q=>EX.toS q
theorem stBack {t:Sem Flow} {Q:SQ} {s₁:Shared} {H₁:AHeap} (f:FR w B os₀ n A s₁ H₁ sc vars env ρ) (x:Ext (own env) s.heap H s₁.heap H₁) (h:wpAny (model prog w) A t (SP w B os₀ n A sc vars env s₁ H₁ Q) (SX w B os₀ A env s₁ H₁ X) s₁):
 wpAny (model prog w) A t (SP w B os₀ n A sc vars env s H Q) (SX w B os₀ A env s H X) s₁:=
 wpAny_mono h (fun _ _ q=>q.back x) fun _ _ q=>q.back f x
theorem Cx.extOwn {ρ':Loc} (f:FR w B os₀ n A s H sc vars env ρ) (R':EnvR s'.heap H' sc vars env ρ') (x:Ext (own env) s.heap H s'.heap H'):Cx B A s'.heap H':=by
 obtain ⟨l,hf,hl⟩:=f.cx.frames
 refine ⟨f.cx.handled,l,hf,fun e he=>?_⟩
 refine bc fun nG=>?_
 obtain ⟨k,L,o,es,m,e1,e2,e3,e4,e5⟩:=hl e he
 refine nG ?_
 by_cases hL:own env L
 · rcases hL with rfl | ⟨y,ey⟩
   · refine bc fun nG=>?_
     obtain ⟨mm,⟨o',es',m',ho,hd,_⟩,_⟩:=R'.look
     refine nG ?_
     exact ⟨k,_,o',es',m',e1,e2,R'.frame,ho,hd⟩
   · refine bc fun nG=>?_
     obtain ⟨_,v,o',ho,hd⟩:=f.ev.cells y L ey
     refine nG ?_
     rw [e4] at ho;obtain rfl:=Option.some.inj ho;rw [e5] at hd;cases hd
 · obtain ⟨sl,q⟩:=x.slots L o e4 e3 hL
   exact ⟨k,L,_,es,m,e1,e2,x.free L o e4 e3 hL,q,e5⟩
theorem fr_store {i:Nat} {x:Str} {av:AV} {v:Value} {Q:Unit→Shared→Prop} (f:FR w B os₀ n A s H sc vars env ρ) (hx:vars[i]? = some x) (rv:RV s.heap H av v)
 (q:∀ s',FR w B os₀ n A s' H sc vars env (ρ.set i (some av))→Ext (own env) s.heap H s'.heap H→Q () s'):wpAny (model prog w) A (storeName env x v) Q Er s:=
 wp_store f.ownB f.inv f.ev hx rv fun s' i' R' x'=>q s' ⟨Cx.extOwn f R' x',f.room,i',R',f.ownB⟩ x'
theorem SSL_nil:SSL prog w B os₀ C n .nil:=by
 intro sc vars xs hc A s H env ρ Q X tf f h
 cases hc
 exact wpAny_pure ⟨H,ρ,.next,f,Ext.refl _ _ _,.next,h⟩
theorem SSL_cons {st:S} {r:SL} (h1:SS prog w B os₀ C n st) (h2:SSL prog w B os₀ C n r):SSL prog w B os₀ C n (.cons st r):=by
 intro sc vars xs hc A s H env ρ Q X tf f h
 obtain ⟨x,q,rfl,hc1,hc2⟩:=hc
 refine wpAny_bind (wpAny_mono (h1 sc vars x hc1 A s H env ρ _ X tf f h) (fun fl s₁ h₁=>?_) fun _ _ z=>z)
 obtain ⟨H₁,ρ₁,af,f1,x1,r1,q1⟩:=h₁
 cases r1 with
 | next=>exact stBack f1 x1 (h2 sc vars q hc2 A s₁ H₁ env ρ₁ Q X tf f1 q1)
 | brk=>exact wpAny_pure ⟨H₁,ρ₁,.brk,f1,x1,.brk,q1⟩
 | cont=>exact wpAny_pure ⟨H₁,ρ₁,.cont,f1,x1,.cont,q1⟩
 | ret rv=>exact wpAny_pure ⟨H₁,ρ₁,.ret _,f1,x1,.ret rv,q1⟩
theorem SS_ret {e:E} (h1:SE prog w B os₀ C n e):SS prog w B os₀ C n (.ret e):=by
 intro sc vars st hc A s H env ρ Q X tf f h
 obtain ⟨v,p,rfl,hc⟩:=hc
 refine wpAny_Return_some ((h1 sc vars v hc A s H env ρ _ X f h).stmt fun v s₁ H₁ i₁ x₁ r₁=>?_)
 obtain ⟨av,rv,hq⟩:=r₁
 exact ⟨H₁,ρ,.ret av,f.ext i₁ x₁,x₁.own,.ret rv,hq⟩
theorem SS_brk:SS prog w B os₀ C n .brk:=by
 intro sc vars st hc A s H env ρ Q X tf f h
 obtain ⟨p,rfl⟩:=hc
 exact wpAny_Break ⟨H,ρ,.brk,f,Ext.refl _ _ _,.brk,h⟩
theorem SS_cont:SS prog w B os₀ C n .cont:=by
 intro sc vars st hc A s H env ρ Q X tf f h
 obtain ⟨p,rfl⟩:=hc
 exact wpAny_Continue ⟨H,ρ,.cont,f,Ext.refl _ _ _,.cont,h⟩
theorem SS_dead:SS prog w B os₀ C n .dead:=by
 intro sc vars st hc A s H env ρ Q X tf f h
 exact h.elim
theorem SS_ite {t:T} {a b:SL} (h0:ST prog w B os₀ C n t) (h1:SSL prog w B os₀ C n a) (h2:SSL prog w B os₀ C n b):SS prog w B os₀ C n (.ite t a b):=by
 intro sc vars st hc A s H env ρ Q X tf f h
 refine bc fun nG=>?_
 obtain ⟨q,x,y,p,rfl,hc0,hc1,hc2⟩:=hc
 refine nG ?_
 refine wpAny_If ((h0 sc vars q hc0 A s H env ρ _ X f h).stmt fun c s₁ H₁ i₁ x₁ hq=>?_)
 have f1:=f.ext i₁ x₁
 cases c with
 | true=>exact stBack f1 x₁.own (h1 sc vars x hc1 A s₁ H₁ env ρ Q X tf f1 hq)
 | false=>exact stBack f1 x₁.own (h2 sc vars y hc2 A s₁ H₁ env ρ Q X tf f1 hq)
end
theorem swaps_no {v:Expr} {t:Option Expr} {l:Nat} {env:Env} (h:noSwap v = true):swapsWith v t l env = pure false:=by cases v<;>first | rfl | exact nob h
theorem swaps_name (v:Expr) (x:Str) (xp:Pos) (l:Nat) (env:Env):∃ b,swapsWith v (some (.Name x xp)) l env = pure b:=by cases v<;>exact ⟨_,rfl⟩
theorem isTgt_spec {sc:Scope} {vars:List Str} {i:Nat} {t:Expr} (h:IsTgt sc vars i t):(X2 fun x p=>A2 (t = .Name x p) (vars[i]? = some x)):=by
 obtain ⟨x,p,rfl,h⟩:=h
 rw [Bool.and_eq_true] at h
 exact ⟨x,p,rfl,(isVar_spec h.1).1⟩
section
variable {prog:Program} {w:World} {B:Heap} {os₀:OsState} {C:CallSem} {n:Nat} {A:Around} {s s':Shared} {H H':AHeap} {K:Frag} {mg mb:Str→Option Value}
variable {sc:Scope} {vars:List Str} {env:Env} {ρ:Loc} {X:AHeap→Prop} {Er:Value→Shared→Prop}
theorem fr_other {L:Addr} {h':Heap} (f:FR w B os₀ n A s H sc vars env ρ) (no:¬ own env L) (nf:NF A L) (free:H L = none) (base:B.get? L = none) (nt:∀ o,s.heap.get? L = some o→∀ x y,o≠tup2 x y) (sb:Heap.SameBut L s.heap h'):
 FR w B os₀ n A { s with heap:=h' } H sc vars env ρ∧Ext (· = L) s.heap H h' H:=by
 have ex:Ext (· = L) s.heap H h' H:=Ext.one sb
 have okL:OwnOk (· = L) s.heap:=fun b o z e=>nt o (z▸e)
 exact ⟨⟨f.cx.extO ex fun l hf e he M hM q=>nf l hf e he (q▸hM),f.room,Inv.side (s':={ s with heap:=h' }) f.inv ex okL (fun b z=>z▸free) (fun b z=>z▸base) sb.2 rfl rfl,
  f.ev.extO ex okL (fun b hb z=>no (z▸hb)),f.ownB⟩,ex⟩
theorem comp_use {i:Nat} {x:Str} {xp:Pos} {Q:SQ} {L D:Addr} (f:FR w B os₀ n A s H sc vars env ρ) (c:CompEnd w B os₀ s H (fun av H'=>Q .next (ρ.set i (some av)) H') L D s') (hx:vars[i]? = some x):
 compPost (model prog w) A Er (some (assign (.Name x xp) env)) (fun _ s'=>SP w B os₀ n A sc vars env s H Q .next s') (.ref D) L (.ok .next) s':=by
 obtain ⟨m,hm⟩:=c.ns
 obtain ⟨H',xs,n1,n2,n3,q,k⟩:=c.fin
 obtain ⟨i1,x1⟩:=k s'.heap (Heap.SameBut.refl ..)
 have f1:FR w B os₀ n A s' (H'.set D (.list xs)) sc vars env ρ:=f.ext (s':=s') i1 x1
 refine wpAny_assign_Name (fr_store f1 hx .ref fun s₂ f2 x2=>?_)
 have HL:(H'.set D (.list xs)) L = none:=by refine wat (AHeap.set_ne _ _ n3) ?_;exact n1
 have no:¬ own env L:=by
  rintro (z | ⟨y,e⟩)
  · obtain ⟨mm,⟨o,_,_,ho,_⟩,_⟩:=f.ev.look
    rw [← z,c.deadL] at ho;exact no1 ho
  · obtain ⟨_,v,o,ho,_⟩:=f.ev.cells y L e
    rw [c.deadL] at ho;exact no1 ho
 have nf:NF A L:=by
  intro l hl e he q
  obtain ⟨l',hl',hk⟩:=f.cx.frames
  rw [hl] at hl';obtain rfl:=Option.some.inj hl'
  obtain ⟨_,L',o,es,m',e1,_,_,e4,_⟩:=hk e he
  rw [q] at e1;obtain rfl:=Option.some.inj e1
  rw [c.deadL] at e4;exact no1 e4
 have hm2:s₂.heap.Ns L m:=ns_slots hm fun o e=>x2.slots L o e HL no
 refine ⟨m,hm2,fun h' sb=>?_⟩
 have nt:∀ o,s₂.heap.get? L = some o→∀ x y,o≠tup2 x y:=fun o e x y z=>by
  obtain ⟨o',es,ep,ho,hd,_⟩:=hm2
  rw [e] at ho;obtain rfl:=Option.some.inj ho;rw [z] at hd;cases hd
 obtain ⟨f3,x3⟩:=fr_other f2 no nf HL c.base nt sb
 refine ⟨_,_,.next,f3,?_,.next,q⟩
 have x1':ExtE s.heap H s'.heap (H'.set D (.list xs)):=x1
 exact (((x1'.own (own:=own env)).widen fun _ _ _ z=>.inl z).trans ((x2.widen fun _ _ _ z=>.inl z).trans (x3.widen (own':=fun b=>own env b∨b = L) fun _ _ _ z=>.inr z))).widen fun b o e z=>z.elim id fun z=>by subst z;rw [c.deadL] at e;exact no1 e
theorem SS_asg (bs:Base K mg mb B) (op:Opp prog w B mg) (ok:CallOk prog w B os₀ n C) {i:Nat} {e:E}:SS prog w B os₀ C n (.asg i e):=by
 intro sc vars st hc A s H env ρ Q X tf f h
 obtain ⟨t,v,p,rfl,ht,hsf,hc⟩:=hc
 obtain ⟨x,xp,rfl,hx⟩:=isTgt_spec ht
 obtain ⟨b,hb⟩:=swaps_name v x xp p.line env
 cases b with
 | false=>
   refine wpAny_Assign_Name ((sE bs op ok e sc vars v hc A s H env ρ _ X f h).stmt fun v s₁ H₁ i₁ x₁ r₁=>?_) hb
   refine bc fun nG=>?_
   obtain ⟨av,rv,hq⟩:=r₁
   refine nG ?_
   exact fr_store (f.ext i₁ x₁) hx rv fun s₂ f2 x2=>⟨H₁,_,.next,f2,x₁.own.trans x2,.next,hq⟩
 | true=>
   rcases hsf with hns | hsf
   · rw [swaps_no hns] at hb
     have:=congrArg (fun t:Sem Bool=>match t with | .pure b=>b | _=>true) hb
     exact absurd this (by decide)
   · refine weq (exec_Assign_Name_used _ _ _ _ hb) ?_
     refine wpAny_bind (wpAny_standAt (wpAny_bind ?_))
     have h:awp C e ρ H (fun v H₁=>Q .next (ρ.set i (some v)) H₁) X:=h
     rcases hsf with ⟨elt,it,cond,caps,rfl⟩ | ⟨elt,i₁,i₂,caps,rfl⟩
     · refine bc fun nG=>?_
       obtain ⟨ev,y,yp,iv,ifs,scope,cp,rfl,h0,h1,h2,h3⟩:=hc
       refine nG ?_
       have okc:=compOk_spec (Bool.and_eq_true _ _▸h0).1
       show wpAny _ A (do let _ ← comprehension (.ListComp ev [⟨.Name y yp,iv,ifs,0⟩] scope cp) scope env _ (newList []) false (eval iv env) (some (assign (.Name x xp) env))) _ _ s
       exact wpAny_bind (wpAny_mono (wpAny_comprehension_free (use:=some (assign (.Name x xp) env)) (Q:=fun _ s'=>SP w B os₀ n A sc vars env s H Q .next s') rfl (noFold h1) (closureFor_of (cells_of f.ev okc)) okc.kind okc.loc
        (comp_runs (sI bs op ok it) (sT bs op ok cond) (sE bs op ok elt) h0 h1 h2 h3 f h (fun _ _ q=>EX.toS q) fun L D s' c=>comp_use f c hx)) (fun _ s' hq=>wpAny_pure (wpAny_pure hq)) fun _ _ q=>q)
     · obtain ⟨ev,y,yp,iv,z,zp,jv,scope,cp,rfl,h0,h1,h2,h3⟩:=hc
       have okc:=compOk_spec (by rw [Bool.and_eq_true,Bool.and_eq_true] at h0;exact h0.1.1)
       show wpAny _ A (do let _ ← comprehension (.ListComp ev [⟨.Name y yp,iv,[],0⟩,⟨.Name z zp,jv,[],0⟩] scope cp) scope env _ (newList []) false (eval iv env) (some (assign (.Name x xp) env))) _ _ s
       exact wpAny_bind (wpAny_mono (wpAny_comprehension_free (use:=some (assign (.Name x xp) env)) (Q:=fun _ s'=>SP w B os₀ n A sc vars env s H Q .next s') rfl (noFold h1) (closureFor_of (cells_of f.ev okc)) okc.kind okc.loc
        (comp2_runs (sI bs op ok i₁) (sI bs op ok i₂) (sE bs op ok elt) h0 h1 h2 h3 f h (fun _ _ q=>EX.toS q) fun L D s' c=>comp_use f c hx)) (fun _ s' hq=>wpAny_pure (wpAny_pure hq)) fun _ _ q=>q)
theorem SS_sattr (bs:Base K mg mb B) {o:E} {fl:Fld} {e:E} (h1:SE prog w B os₀ C n o) (h2:SE prog w B os₀ C n e):SS prog w B os₀ C n (.sattr o fl e):=by
 intro sc vars st hc A s H env ρ Q X tf f h
 obtain ⟨ov,x,q,v,p,rfl,hf,hc1,hc2⟩:=hc
 rw [beq_iff_eq] at hf
 subst hf
 have hs:swapsWith v (some (.Attribute ov fl.name q)) p.line env = pure false:=by cases v<;>rfl
 refine plainObj_wpAny_Assign_Attribute ((h2 sc vars v hc2 A s H env ρ _ X f h).stmt fun v s₁ H₁ i₁ x₁ r₁=>?_) hs
 refine bc fun nG=>?_
 obtain ⟨av,rv,hq⟩:=r₁
 refine nG ?_
 have f1:=f.ext i₁ x₁
 refine WpE.stmtL x₁ (h1 sc vars ov hc1 A s₁ H₁ env ρ _ X f1 hq) fun u s₂ H₂ i₂ x₂ x₁₂ r₂=>?_
 refine bc fun nG=>?_
 obtain ⟨bv,rb,dx,fs,⟨ha,hd⟩,hq⟩:=r₂
 refine nG ?_
 obtain rfl:=rb.vref
 exact wp_setattr bs i₂ ha hd (rv.extE x₂) fun s₃ i₃ x₃=>⟨_,ρ,.next,(f1.ext i₂ x₂).ext i₃ x₃,ExtE.own (Ext.trans x₁₂ x₃),.next,hq⟩
theorem SS_sitem {o k e:E} (h1:SE prog w B os₀ C n o) (h2:SE prog w B os₀ C n k) (h3:SE prog w B os₀ C n e):SS prog w B os₀ C n (.sitem o k e):=by
 intro sc vars st hc A s H env ρ Q X tf f h
 obtain ⟨ov,kv,q,v,p,rfl,hsl,hc1,hc2,hc3⟩:=hc
 have hs:swapsWith v (some (.Subscript ov kv q)) p.line env = pure false:=by cases v<;>rfl
 refine wpAny_Assign_Subscript ((h3 sc vars v hc3 A s H env ρ _ X f h).stmt fun v s₁ H₁ i₁ x₁ r₁=>?_) hs
 refine bc fun nG=>?_
 obtain ⟨av,rv,hq⟩:=r₁
 refine nG ?_
 have f1:=f.ext i₁ x₁
 refine WpE.stmtL x₁ (h1 sc vars ov hc1 A s₁ H₁ env ρ _ X f1 hq) fun u s₂ H₂ i₂ x₂ x₁₂ r₂=>?_
 obtain ⟨bv,rb,hq⟩:=r₂
 have f2:=f1.ext i₂ x₂
 refine WpE.stmtL x₁₂ (h2 sc vars kv hc2 A s₂ H₂ env ρ _ X f2 hq) fun u s₃ H₃ i₃ x₃ x₁₃ r₃=>?_
 obtain ⟨cv,rc,hq⟩:=r₃
 have f3:=f2.ext i₃ x₃
 have hu:=f.units
 have fin:∀ {s₄:Shared} {H₄:AHeap},INV w B os₀ s₄ H₄→ExtE s₃.heap H₃ s₄.heap H₄→Q .next ρ H₄→SP w B os₀ n A sc vars env s H Q .next s₄:=fun i₄ x₄ hq=>⟨_,ρ,.next,f3.ext i₄ x₄,ExtE.own (Ext.trans x₁₃ x₄),.next,hq⟩
 cases hq with
 | list ha k1 k2 k3 hq=>
   obtain rfl:=rb.vref;obtain ⟨_,rfl⟩:=rc.vint
   exact WpE.stmtL x₁₃ (wp_setItem_list (R:=fun _ s' H'=>Q .next ρ H') (X:=X) i₃ ha ((rv.extE x₂).extE x₃) k1 k2 k3 fun s' i' x'=>hq) fun _ s₄ H₄ i₄ x₄ _ hq=>fin i₄ x₄ hq
 | @dict a es g r c _ ha k1 hq=>
   obtain rfl:=rb.vref
   exact WpE.stmtL x₁₃ (wp_setItem_dict (p:=(r,c)) (R:=fun _ s' H'=>Q .next ρ H') (X:=X) i₃ rc ((rv.extE x₂).extE x₃) ha (by exact linLt [_,_] 1 (.a (.v 0) (.n 10)) (.v 1) [.lt 1 (.a (.v 0) (.n 200)) (.v 1)] rfl hu) k1 fun s' g' i' x'=>hq g') fun _ s₄ H₄ i₄ x₄ _ hq=>fin i₄ x₄ hq
theorem SS_ex {e:E} (h1:SE prog w B os₀ C n e):SS prog w B os₀ C n (.ex e):=by
 intro sc vars st hc A s H env ρ Q X tf f h
 obtain ⟨v,p,rfl,hcall,hc⟩:=hc
 have hk:env.scope.kind = .function:=by refine wat f.ev.scope ?_;exact f.ev.kind
 refine wpAny_Expr_any ((h1 sc vars v hc A s H env ρ _ X f h).stmt fun u s₁ H₁ i₁ x₁ r₁=>?_) ?_ ?_
 · refine bc fun nG=>?_
   obtain ⟨av,rv,hq⟩:=r₁
   refine nG ?_
   exact ⟨H₁,ρ,.next,f.ext i₁ x₁,x₁.own,.next,hq⟩
 · unfold interactive;refine wat hk ?_;rfl
 · cases v<;>first | rfl | exact nob hcall
end
noncomputable def drawA (H:AHeap):Nat→It→Option (List AV×It)
 | 0,it=>some ([],it)
 | k + 1,it=>match nextA H it with
   | some (some (x,it'))=>(drawA H k it').map fun r=>(x :: r.1,r.2)
   | _=>none
section
variable {prog:Program} {w:World} {B:Heap} {os₀:OsState} {C:CallSem} {n:Nat} {A:Around} {s s':Shared} {H H':AHeap} {K:Frag} {mg mb:Str→Option Value}
variable {sc:Scope} {vars:List Str} {env:Env} {ρ:Loc} {X:AHeap→Prop} {Er:Value→Shared→Prop}
theorem wp_draw {v u:Addr} (hh:A.handled = none) (fv:H v = none) (fu:H u = none) (bv:B.get? v = none) (bu:B.get? u = none):∀ (k:Nat) (it it':It) (avs:List AV) (s:Shared) {Q:List Value→Shared→Prop},INV w B os₀ s H→notEnumIt it = true→ItR w s.heap H v u it→drawA H k it = some (avs,it')→
 (∀ vals s',INV w B os₀ s' H→Ext (twoOf v u) s.heap H s'.heap H→ItR w s'.heap H v u it'→notEnumIt it' = true→RVs s'.heap H avs vals→vals.length = k→Q vals s')→wpAny (model prog w) A (draw (.ref v) k) Q Er s
 | 0,it,it',avs,s,Q,i,hne,x,hd,q=>by
   simp only [drawA,Option.some.injEq,Prod.mk.injEq] at hd
   obtain ⟨rfl,rfl⟩:=hd
   exact wpAny_pure (q [] s i (Ext.refl _ _ _) x hne .nil rfl)
 | k + 1,it,it',avs,s,Q,i,hne,x,hd,q=>by
   unfold drawA at hd
   cases hn:nextA H it with
   | none=>rw [hn] at hd;exact no1 hd
   | some r=>
     cases r with
     | none=>rw [hn] at hd;exact no1 hd
     | some p=>
       obtain ⟨y,it₁⟩:=p
       rw [hn] at hd
       refine bc fun nG=>?_
       obtain ⟨⟨ys,it₂⟩,hd1,hd2⟩:=Option.map_eq_some_iff.mp hd
       refine nG ?_
       simp only [Prod.mk.injEq] at hd2
       refine bc fun nG=>?_
       obtain ⟨rfl,rfl⟩:=hd2
       refine nG ?_
       refine wpAny_bind (wp_next hh i hne x fv bv hn (fun e=>by exact no2 e) fun y' it'' val s₁ e t rv x'=>?_)
       cases e
       refine wpAny_bind (wpAny_holding (wp_draw hh fv fu bv bu k _ _ _ s₁ t.inv (by refine wat ((nextA_kind hn).1) ?_;exact hne) x' hd1 fun vals s₂ i2 x2 xi2 ne2 rvs hl=>wpAny_pure ?_))
       exact q (val :: vals) s₂ i2 (t.ext.trans x2) xi2 ne2 (.cons (rv.ext x2 (twoOk x')) rvs) (by simp [hl])
theorem drawA_list {a:Addr} {xs:List AV} (ha:H a = some (.list xs)):∀ (k j:Nat),j + k≤xs.length→drawA H k (.list a j) = some ((xs.drop j).take k,.list a (j + k))
 | 0,j,_=>by simp [drawA]
 | k + 1,j,h=>by
   have hx:xs[j]? = some xs[j]:=List.getElem?_eq_getElem (by exact linLt [_,_,_] 1 (.v 0) (.v 2) [.le 1 (.a (.v 0) (.a (.v 1) (.n 1))) (.v 2)] rfl h)
   have hn:nextA H (.list a j) = some (some (xs[j],.list a (j + 1))):=by refine wat (nextA_list ha) (wat hx ?_);rfl
   unfold drawA
   refine wat hn ?_
   simp only
   refine wat (drawA_list ha k (j + 1) (by exact linLe [_,_,_] 1 (.a (.a (.v 0) (.n 1)) (.v 1)) (.v 2) [.le 1 (.a (.v 0) (.a (.v 1) (.n 1))) (.v 2)] rfl h)) ?_
   refine wat (List.drop_eq_getElem_cons (l:=xs) (i:=j) (by exact linLt [_,_,_] 1 (.v 0) (.v 2) [.le 1 (.a (.v 0) (.a (.v 1) (.n 1))) (.v 2)] rfl h)) (wat List.take_succ_cons ?_)
   simp only [Option.map_some,Option.some.injEq,Prod.mk.injEq,true_and]
   congr 1;lia
theorem unpack_walk {a:Addr} {T id:String} {k:Nat} {avs:List AV} {Q:List Value→Shared→Prop} (hh:A.handled = none) (hs:∃ o,B.get? sysModules = some o) (i:INV w B os₀ s H) (hT:s.TypeIs (.ref a) T) (sl:Slot T (Str.ofString "__iter__") id)
 (hk:IterR H (fun it=>∃ it',drawA H k it = some (avs,it')∧nextA H it' = some none) (.ref a)) (q:∀ s' vals,INV w B os₀ s' H→ExtE s.heap H s'.heap H→RVs s'.heap H avs vals→vals.length = k→Q vals s'):
 wpAny (model prog w) A (unpackItems (.ref a) k none) Q Er s:=by
 refine wpAny_bind ?_
 refine wpAny_bind (wpAny_specialOf hT sl.lookup ?_)
 refine wpAny_pure ?_
 refine wpAny_bind (wpAny_holding (wp_iterOf i hs .ref hk fun v u it s₁ hK hne m=>?_))
 obtain ⟨it',hd,hend⟩:=hK
 have bv:B.get? v = none:=by
  cases e:B.get? v with
  | none=>rfl
  | some o=>have:=i.keeps v o e;rw [m.newv] at this;exact no1 this
 have bu:B.get? u = none:=by
  cases e:B.get? u with
  | none=>rfl
  | some o=>have:=i.keeps u o e;rw [m.newu] at this;exact no1 this
 refine wpAny_bind (wpAny_holding (wp_draw hh m.freev m.freeu bv bu k it it' avs s₁ m.inv hne m.it hd fun vals s₂ i2 x2 xi2 ne2 rvs hl=>?_))
 refine wif_neg (by exact Nat.not_lt_of_ge (linLe [_,_] 1 (.v 1) (.v 0) [.ge 1 (.v 0) (.v 1)] rfl hl)) ?_
 refine wpAny_bind (wpAny_holding (wp_next hh i2 ne2 xi2 m.freev bv hend (fun _ s₃ t=>?_) fun _ _ _ _ e=>by exact no1 e))
 refine wpAny_pure (q s₃ vals t.inv ?_ (rvs.ext t.ext (twoOk xi2)) hl)
 exact ((m.ext.own (own:=twoOf v u)).trans (x2.trans t.ext)).widen fun b o e z=>by
  rcases z with rfl | rfl
  · rw [m.newv] at e;exact no1 e
  · rw [m.newu] at e;exact no1 e
theorem wp_unpackItems {av:AV} {v:Value} {k:Nat} {avs:List AV} {Q:List Value→Shared→Prop} (hh:A.handled = none) (hs:∃ o,B.get? sysModules = some o) (i:INV w B os₀ s H) (rv:RV s.heap H av v) (h:UnpackR H k av avs)
 (q:∀ s' vals,INV w B os₀ s' H→ExtE s.heap H s'.heap H→RVs s'.heap H avs vals→vals.length = k→Q vals s'):wpAny (model prog w) A (unpackItems v k none) Q Er s:=by
 cases h with
 | pair a b=>
   cases rv with
   | @pair _ _ p x y e n1 r1 r2=>
     have ht:s.heap.IsTuple p #[x,y]:=⟨_,e,rfl,0,rfl⟩
     refine wpAny_unpackItems_tuple (items:=#[x,y]) hh ht fun h' eb=>?_
     have keep:∀ b o,s.heap.get? b = some o→h'.get? b = some o:=fun b o e=>eb b o (Nat.ne_of_lt (Heap.lt_size e)) e
     have ex:ExtE s.heap H h' H:=ExtE.grow keep
     exact q { s with heap:=h' } [x,y] (i.grow keep rfl rfl) ex (.cons (r1.extE ex) (.cons (r2.extE ex) .nil)) rfl
 | list ha hk=>
   obtain rfl:=rv.vref
   obtain ⟨vs,m,e,_⟩:=isList_of i ha
   refine unpack_walk hh hs i ⟨_,e,rfl⟩ PySem.F.slot_list_iter (.list ha ⟨_,by exact wat (drawA_list ha k 0 (by exact linLe [_,_] 1 (.a (.n 0) (.v 1)) (.v 0) [.ge 1 (.v 0) (.v 1)] rfl hk)) (wat List.drop_zero (wat hk.symm (wat List.take_length rfl))),?_⟩) q
   rw [nextA_list ha,Nat.zero_add,List.getElem?_eq_none (by exact Nat.le_refl _)];rfl
 | @set a p g ha=>
   obtain rfl:=rv.vref
   refine bc fun nG=>?_
   obtain ⟨es,m,t,ps,e,_⟩:=i.rep a _ ha
   refine nG ?_
   refine unpack_walk hh hs i ⟨_,e,rfl⟩ PySem.F.slot_set_iter (.set ha fun S' hp=>?_) q
   have:=List.perm_singleton.mp hp
   subst this
   exact ⟨.set a [p] g [],by unfold drawA;refine wat (nextA_set ha) ?_;rfl,nextA_set ha⟩
theorem UnpackR.length {H:AHeap} {n:Nat} {v:AV} {vs:List AV} (h:UnpackR H n v vs):vs.length = n:=by
 cases h with
 | pair=>rfl
 | list _ h=>exact h
 | set=>rfl
inductive Stores (prog:Program) (w:World) (A:Around) (env:Env) (vars:List Str):List Nat→List (Value→Sem Unit)→Prop where
 | nil:Stores prog w A env vars [] []
 | cons {i x t is ts}:vars[i]? = some x→(∀ v Q E s,wpAny (model prog w) A (storeName env x v) Q E s→wpAny (model prog w) A (t v) Q E s)→Stores prog w A env vars is ts→Stores prog w A env vars (i :: is) (t :: ts)
theorem wp_inOrder:∀ {is:List Nat} {ts:List (Value→Sem Unit)} {avs:List AV} {vals:List Value} {s:Shared} {ρ:Loc} {Q:Unit→Shared→Prop},Stores prog w A env vars is ts→RVs s.heap H avs vals→avs.length = is.length→FR w B os₀ n A s H sc vars env ρ→
 (∀ s',FR w B os₀ n A s' H sc vars env (setAll is avs ρ)→Ext (own env) s.heap H s'.heap H→Q () s')→wpAny (model prog w) A (assignInOrder ts vals) Q Er s
 | _,_,_,_,s,ρ,Q,.nil,.nil,_,f,q=>wpAny_pure (q s f (Ext.refl _ _ _))
 | _,_,_,_,s,ρ,Q,.cons hx ht st,.cons r rs,hl,f,q=>by
   refine wpAny_bind (wpAny_holding (ht _ _ _ _ (fr_store f hx r fun s₁ f1 x1=>?_)))
   exact wp_inOrder st (rs.ext x1 f.ev.ownOk) (by simpa using hl) f1 fun s₂ f2 x2=>q s₂ f2 (x1.trans x2)
 | _,_,_,_,s,ρ,Q,.nil,.cons _ _,hl,f,q=>by simp at hl
 | _,_,_,_,s,ρ,Q,.cons _ _ _,.nil,hl,f,q=>by simp at hl
theorem Stores.append {is js:List Nat} {ts us:List (Value→Sem Unit)} (h:Stores prog w A env vars is ts) (g:Stores prog w A env vars js us):Stores prog w A env vars (is ++ js) (ts ++ us):=by
 induction h with
 | nil=>exact g
 | cons hx ht _ ih=>exact .cons hx ht ih
theorem Stores.reverse {is:List Nat} {ts:List (Value→Sem Unit)} (h:Stores prog w A env vars is ts):Stores prog w A env vars is.reverse ts.reverse:=by
 induction h with
 | nil=>exact .nil
 | cons hx ht _ ih=>refine wat List.reverse_cons (wat List.reverse_cons ?_);exact ih.append (.cons hx ht .nil)
theorem RVs.reverse {h:Heap} {avs:List AV} {vals:List Value} (r:RVs h H avs vals):RVs h H avs.reverse vals.reverse:=by
 induction r with
 | nil=>exact .nil
 | cons r _ ih=>refine wat List.reverse_cons (wat List.reverse_cons ?_);exact ih.append (.cons r .nil)
theorem setAll_snoc:∀ {is:List Nat} {vs:List AV} {i:Nat} {v:AV} {ρ:Loc},is.length = vs.length→setAll (is ++ [i]) (vs ++ [v]) ρ = (setAll is vs ρ).set i (some v)
 | [],[],_,_,_,_=>rfl
 | i :: is,v :: vs,j,u,ρ,h=>by
   show setAll (is ++ [j]) (vs ++ [u]) _ = (setAll is vs _).set _ _
   exact setAll_snoc (by simpa using h)
theorem setAll_out:∀ {is:List Nat} {vs:List AV} {i:Nat} {v:AV} {ρ:Loc},i∉is→setAll is vs (ρ.set i (some v)) = (setAll is vs ρ).set i (some v)
 | [],_,_,_,_,_=>by unfold setAll;rfl
 | _ :: _,[],_,_,_,_=>by unfold setAll;rfl
 | j :: is,u :: vs,i,v,ρ,h=>by
   show setAll is vs ((ρ.set i (some v)).set j (some u)) = (setAll is vs (ρ.set j (some u))).set i (some v)
   rw [List.set_comm _ _ (fun q:i = j=>h (by rw [q];exact List.mem_cons_self)),setAll_out fun q=>h (List.mem_cons_of_mem _ q)]
theorem setAll_reverse:∀ {is:List Nat} {vs:List AV} {ρ:Loc},is.Nodup→is.length = vs.length→setAll is.reverse vs.reverse ρ = setAll is vs ρ
 | [],[],_,_,_=>rfl
 | i :: is,v :: vs,ρ,hn,hl=>by
   refine wat List.reverse_cons (wat List.reverse_cons (wat (setAll_snoc (by simpa using hl)) (wat (setAll_reverse (List.nodup_cons.mp hn).2 (by simpa using hl)) ?_)))
   exact (setAll_out (List.nodup_cons.mp hn).1).symm
theorem tgts_spec:∀ {is:List Nat} {ts:List Expr},IsTgts sc vars is ts→(X1 fun (xs:List (Str×Pos))=>A6 (ts = xs.map (fun x=>.Name x.1 x.2)) (xs.length = is.length) (Stores prog w A env vars is (xs.map fun x=>bindName env x.1)) (Stores prog w A env vars is ((assignEach ts env).map (·.2))) ((assignEach ts env).findIdx? (·.1) = none) ((assignEach ts env).length = is.length))
 | [],ts,h=>by
   obtain rfl:ts = []:=h
   exact ⟨[],rfl,rfl,.nil,.nil,rfl,rfl⟩
 | i :: is,ts,h=>by
   obtain ⟨_,_,rfl,ha,hb⟩:=h
   obtain ⟨x,p,rfl,hx⟩:=isTgt_spec ha
   obtain ⟨xs,rfl,hl,h1,h2,h3,h4⟩:=tgts_spec hb
   refine ⟨(x,p) :: xs,rfl,by simp [hl],.cons hx (fun v Q E s q=>wpAny_bindName q) h1,.cons hx (fun v Q E s q=>wpAny_assign_Name q) h2,?_,?_⟩
   · show List.findIdx? (·.1) ((false,assign (.Name x p) env) :: assignEach _ env) = none
     refine wat (List.findIdx?_cons) (wat h3 ?_);rfl
   · show ((false,assign (.Name x p) env) :: assignEach _ env).length = _
     simp [h4]
theorem names_of {xs:List (Str×Pos)} {f:Expr→Option Str} (hf:∀ x p y,f (.Name x p) = some y→y = x):(h:((xs.map fun x=>Expr.Name x.1 x.2).filterMap f).length = xs.length)→(xs.map fun x=>Expr.Name x.1 x.2).filterMap f = xs.map (·.1):=by
 induction xs with
 | nil=>intro _;rfl
 | cons x xs ih=>
   intro h
   rw [List.map_cons,List.filterMap_cons] at h ⊢
   cases e:f (.Name x.1 x.2) with
   | none=>
     rw [e] at h
     have:=List.length_filterMap_le f (xs.map fun x=>Expr.Name x.1 x.2)
     simp only [List.length_cons,List.length_map] at this h
     lia
   | some y=>
     rw [e] at h
     simp only [List.length_cons,Nat.add_right_cancel_iff] at h
     exact wat (hf _ _ _ e) (wat List.map_cons (wat (ih h) rfl))
noncomputable def SwP (N:List Str) (t:Sem (Option (List Str))):Prop:=∃ r,t = pure r∧(r = none∨r = some N)
theorem SwP.ite {N:List Str} {c:Prop} [Decidable c] {t e:Sem (Option (List Str))} (h1:c→SwP N t) (h2:¬ c→SwP N e):SwP N (if c then t else e):=by
 by_cases h:c
 · refine wat (if_pos h) ?_;exact h1 h
 · refine wat (if_neg h) ?_;exact h2 h
theorem SwP.none {N:List Str}:SwP N (pure none):=⟨_,rfl,.inl rfl⟩
theorem names_in {l:List Expr} {f:Expr→Option Str}:∀ {xs:List (Str×Pos)},l = xs.map (fun x=>.Name x.1 x.2)→(∀ x p y,f (.Name x p) = some y→y = x)→(l.filterMap f).length = l.length→l.filterMap f = xs.map (·.1):=fun e h hl=>by
 subst e
 exact names_of h (by rw [hl,List.length_map])
set_option tactic.hygienic true in
theorem swapped_of {xs:List (Str×Pos)} {k:Nat} {tp:Pos} {v:Expr} (hn:notTuple v = true):SwP (xs.map (·.1)) (swappedStores [.Tuple (xs.map fun x=>.Name x.1 x.2) k tp] v env):=by
 cases v<;>first | exact .none | skip
 rename_i vs k' p'
 have hn:(!(vs.all (constantsAlone 8))) = true:=hn
 refine .ite (fun _=>.none) fun h1=>.ite (fun _=>.none) fun h2=>.ite (fun _=>.none) fun h3=>.ite (fun _=>.none) fun h4=>.ite (fun h5=>?_) fun h5=>?_
 · rw [h5] at hn
   exact nob hn
 · refine ⟨_,rfl,.inr (congrArg some (names_in rfl (fun x p y hy=>?_) ?_))⟩
   · have hy:(if (env.kindOf x == some .local && _) = true then some x else none) = some y:=hy
     by_cases hc:(env.kindOf x == some .local && (p.line == ((xs.map fun x=>Expr.Name x.1 x.2).head?.map (·.pos.line)).getD 0)) = true
     · rw [if_pos hc] at hy;exact (Option.some.inj hy).symm
     · rw [if_neg hc] at hy;exact no1 hy
   · apply Classical.byContradiction
     intro hl
     exact h3 (Bool.or_eq_true _ _▸.inl (bne_iff_ne.mpr hl))
theorem assignStores_some (env:Env) (v:Value) (names:List Str) (stores:List (Value→Sem Unit)):assignStores env v (some names) stores = (rule "assign.swapped-stores" >>= fun _=>unpackItems v names.length none >>= fun items=>assignInOrder (names.reverse.map fun n=>bindName env n) items.reverse >>= fun _=>pure .next):=rfl
theorem assignStores_none (env:Env) (v:Value) (es:List Expr) (k:Nat) (tp:Pos):assignStores env v none ((assignEach [.Tuple es k tp] env).map (·.2)) = (assign (.Tuple es k tp) env v >>= fun _=>pure .next):=rfl
theorem SS_asgN (bs:Base K mg mb B) {is:List Nat} {e:E} (h1:SE prog w B os₀ C n e):SS prog w B os₀ C n (.asgN is e):=by
 intro sc vars st hc A s H env ρ Q X tf f h
 obtain ⟨ts,k,tp,v,p,rfl,ht,h0,hc⟩:=hc
 simp only [Bool.and_eq_true,decide_eq_true_eq] at h0
 obtain ⟨⟨hnd,hnt⟩,hns⟩:=h0
 obtain ⟨xs,rfl,hl,st1,st2,hfi,hle⟩:=tgts_spec (prog:=prog) (w:=w) (A:=A) (env:=env) ht
 have hsw:swapsWithSole [Expr.Tuple (xs.map fun x=>Expr.Name x.1 x.2) k tp] v p.line env = pure false:=by unfold swapsWithSole;exact swaps_no hns
 refine wpAny_bind (wpAny_standAt (wpAny_bind (wpAny_of_eq hsw ?_)))
 refine wpAny_bind ((h1 sc vars v hc A s H env ρ _ X f h).stmt fun v' s₁ H₁ i₁ x₁ r₁=>?_)
 refine bc fun nG=>?_
 obtain ⟨av,rv,hq⟩:=r₁
 refine nG ?_
 have f1:=f.ext i₁ x₁
 refine bc fun nG=>?_
 obtain ⟨avs,hu,hq⟩:=hq
 refine nG ?_
 have hlen:=hu.length
 have fin:∀ {s₂ s₃:Shared},ExtE s₁.heap H₁ s₂.heap H₁→FR w B os₀ n A s₃ H₁ sc vars env (setAll is avs ρ)→Ext (own env) s₂.heap H₁ s₃.heap H₁→SP w B os₀ n A sc vars env s H Q .next s₃:=fun x2 f3 x3=>
  ⟨H₁,_,.next,f3,(ExtE.own (Ext.trans x₁ x2)).trans x3,.next,hq⟩
 refine bc fun nG=>?_
 obtain ⟨r,hr,hcase⟩:=swapped_of (env:=env) (xs:=xs) (k:=k) (tp:=tp) hnt
 refine nG ?_
 refine wpAny_bind (wpAny_of_eq hr ?_)
 rcases hcase with rfl | rfl
 · rw [assignStores_none,PyProof.Rows.assign_Tuple]
   refine wpAny_bind (wpAny_bind (wpAny_standAt ?_))
   unfold unpack
   refine wat hfi (wat hle ?_)
   refine wpAny_bind (wpAny_holding (wp_unpackItems f.cx.handled bs.sysm i₁ rv hu fun s₂ vals i2 x2 rvs hvl=>?_))
   exact wp_inOrder st2 rvs hlen (f1.ext i2 x2) fun s₃ f3 x3=>wpAny_pure (fin x2 f3 x3)
 · rw [assignStores_some]
   refine wpAny_bind (wpAny_rule (wpAny_bind ?_))
   rw [List.length_map,hl]
   refine wp_unpackItems f.cx.handled bs.sysm i₁ rv hu fun s₂ vals i2 x2 rvs hvl=>?_
   have e:(xs.map (·.1)).reverse.map (fun n=>bindName env n) = (xs.map fun x=>bindName env x.1).reverse:=by
    refine wat (List.map_reverse).symm (wat (List.map_reverse).symm (wat List.map_map ?_));rfl
   refine wat e ?_
   refine wpAny_bind (wp_inOrder st1.reverse rvs.reverse (by simpa using hlen) (f1.ext i2 x2) fun s₃ f3 x3=>wpAny_pure ?_)
   rw [setAll_reverse hnd hlen.symm] at f3
   exact fin x2 f3 x3
end
section
variable {prog:Program} {w:World} {B:Heap} {os₀:OsState} {C:CallSem} {n:Nat} {A:Around} {s s':Shared} {H H':AHeap} {K:Frag} {mg mb:Str→Option Value}
variable {sc:Scope} {vars:List Str} {env:Env} {ρ:Loc} {X:AHeap→Prop} {Er:Value→Shared→Prop}
theorem SX.never {e:Value} (h:SX w B os₀ A env s H nox e s'):False:=by obtain ⟨_,_,_,_,f⟩:=h;exact f
theorem stCalm {t:Sem Flow} {Q:SQ} {G:Flow→Shared→Prop} (h:wpAny (model prog w) A t (SP w B os₀ n A sc vars env s H Q) (SX w B os₀ A env s H nox) s) (k:∀ fl s',SP w B os₀ n A sc vars env s H Q fl s'→G fl s'):wpAny (model prog w) A t G Er s:=
 wpAny_mono h k fun _ _ q=>q.never.elim
theorem SS_while {t:T} {body:SL} (h0:ST prog w B os₀ C n t) (h1:SSL prog w B os₀ C n body):SS prog w B os₀ C n (.while t body):=by
 intro sc vars st hc A s H env ρ Q X tf f h
 obtain ⟨q,b,p,rfl,hc0,hc1⟩:=hc
 obtain ⟨fuel,h⟩:=h
 refine wpAny_While (codeAny_whileLoop (fun m s₁=>(X2 fun H₁ ρ₁=>A3 (FR w B os₀ n A s₁ H₁ sc vars env ρ₁) (Ext (own env) s.heap H s₁.heap H₁) (whileW (fun ρ₁ H₁ Q₁=>awpT C t ρ₁ H₁ Q₁ nox) (fun ρ₁ H₁ Q₁=>swps C body ρ₁ H₁ Q₁ nox) m ρ₁ H₁ Q))) ?_ fuel ⟨H,ρ,f,Ext.refl _ _ _,h⟩)
 rintro m s₁ ⟨H₁,ρ₁,f1,x1,h1'⟩
 cases m with
 | zero=>exact h1'.elim
 | succ m=>
   refine (h0 sc vars q hc0 A s₁ H₁ env ρ₁ _ nox f1 h1').calm fun c s₂ H₂ i₂ x₂ hq=>?_
   unfold RB at hq
   have f2:=f1.ext i₂ x₂
   cases c with
   | false=>exact wpAny_pure ⟨H₂,ρ₁,.next,f2,x1.trans x₂.own,.next,hq⟩
   | true=>
     refine stCalm (h1 sc vars b hc1 A s₂ H₂ env ρ₁ _ nox tf f2 hq) fun fl s₃ hp=>?_
     obtain ⟨H₃,ρ₃,af,f3,x3,r3,q3⟩:=hp
     have x13:=(x1.trans x₂.own).trans x3
     cases r3 with
     | next=>exact ⟨m,Nat.lt_succ_self m,H₃,ρ₃,f3,x13,q3⟩
     | cont=>exact ⟨m,Nat.lt_succ_self m,H₃,ρ₃,f3,x13,q3⟩
     | brk=>exact ⟨H₃,ρ₃,.next,f3,x13,.next,q3⟩
     | ret rv=>exact ⟨H₃,ρ₃,.ret _,f3,x13,.ret rv,q3⟩
set_option tactic.hygienic true in
theorem wp_bindT (bs:Base K mg mb B) {tg:Tgt} {it:I} {t:Expr} {av:AV} {v:Value} {ρ₁:Loc} {Q:Unit→Shared→Prop} (hg:TrG sc vars it tg t) (f:FR w B os₀ n A s H sc vars env ρ) (rv:RV s.heap H av v) (hb:bindT tg av ρ = some ρ₁)
 (q:∀ s',FR w B os₀ n A s' H sc vars env ρ₁→Ext (own env) s.heap H s'.heap H→Q () s'):wpAny (model prog w) A (assign t env v) Q Er s:=by
 cases tg with
 | one i=>
   obtain ⟨x,p,rfl,hx⟩:=isTgt_spec hg.1
   obtain rfl:=Option.some.inj hb
   exact wpAny_assign_Name (fr_store f hx rv q)
 | two i j=>
   obtain ⟨x,y,k,p,rfl,hg,hts⟩:=hg
   cases av<;>first | cases hb | skip
   rename_i a b
   refine bc fun nG=>?_
   obtain ⟨xs,hxs,hl,st1,st2,hfi,hle⟩:=tgts_spec (prog:=prog) (w:=w) (A:=A) (env:=env) hts
   refine nG ?_
   refine wpAny_bind (wpAny_standAt ?_)
   unfold unpack
   refine wat hfi (wat hle ?_)
   refine wpAny_bind (wpAny_holding (wp_unpackItems f.cx.handled bs.sysm f.inv rv (.pair a b) fun s₂ vals i2 x2 rvs hvl=>?_))
   exact wp_inOrder st2 rvs rfl (f.ext i2 x2) fun s₃ f3 x3=>q s₃ f3 (x2.own.trans x3)
theorem tgt_kind {tg:Tgt} {it:I} {t:Expr} (hg:TrG sc vars it tg t):IsTupE t∨(IsNamE t∧notEnumI it = true):=by
 cases tg with
 | one i=>
   obtain ⟨x,p,rfl,hx⟩:=isTgt_spec hg.1
   exact .inr ⟨⟨x,p,rfl⟩,hg.2⟩
 | two i j=>obtain ⟨x,y,k,p,rfl,_⟩:=hg;exact .inl ⟨_,_,_,rfl⟩
set_option tactic.hygienic true in
theorem SS_loop (bs:Base K mg mb B) {tg:Tgt} {it:I} {body:SL} (h0:SI prog w B os₀ C n it) (h1:SSL prog w B os₀ C n body):SS prog w B os₀ C n (.loop tg it body):=by
 intro sc vars st hc A s H env ρ Q X tf f h
 refine bc fun nG=>?_
 obtain ⟨t,iv,b,p,rfl,hg,hc0,hc1⟩:=hc
 refine nG ?_
 refine wpAny_For (wpAny_mono (h0 sc vars iv hc0 A s H env ρ _ X f h) (fun xv s₁ h₁=>wpAny_mono h₁ (fun itv s₂ h₂=>?_) fun _ _ q=>EX.toS q) fun _ _ q=>EX.toS q) (noFold hc0)
 obtain ⟨v,u,it₀,H₂,rfl,m,hne,fuel,hq⟩:=h₂
 obtain ⟨bv,bu⟩:=m.offBase f.inv
 have ht:=tgt_kind hg
 have ht':IsTupE t∨(IsNamE t∧notEnumIt it₀ = true):=ht.imp id fun z=>⟨z.1,hne z.2⟩
 refine codeAny_forLoop_any (fun k s₃=>(X3 fun H₃ ρ₃ itc=>A7 (FR w B os₀ n A s₃ H₃ sc vars env ρ₃) (Ext (fun b=>own env b∨twoOf v u b) s₂.heap H₂ s₃.heap H₃) (ItR w s₃.heap H₃ v u itc) (H₃ v = none) (H₃ u = none) (notEnumIt itc = notEnumIt it₀) (loopW tg (fun ρ₁ H₂ Q₁=>swps C body ρ₁ H₂ Q₁ nox) k itc ρ₃ H₃ Q))) ?_ fuel ⟨H₂,ρ,it₀,m.frame f,Ext.refl _ _ _,m.it,m.freev,m.freeu,rfl,hq⟩
 rintro k s₃ ⟨H₃,ρ₃,itc,f3,x3,xi,fv,fu,hk,h3⟩
 have all:∀ {s₄:Shared} {H₄:AHeap},Ext (fun b=>own env b∨twoOf v u b) s₂.heap H₂ s₄.heap H₄→Ext (own env) s.heap H s₄.heap H₄:=fun x=>
  ((m.ext.own (own:=fun b=>own env b∨twoOf v u b)).trans x).widen fun b o e z=>z.elim id fun z=>by rcases z with rfl | rfl<;>(first | (rw [m.newv] at e;exact no1 e) | (rw [m.newu] at e;exact no1 e))
 cases k with
 | zero=>exact h3.elim
 | succ k=>
   unfold loopW at h3
   cases hn:nextA H₃ itc with
   | none=>rw [hn] at h3;exact h3.elim
   | some r=>
     rw [hn] at h3
     have ht'':IsTupE t∨(IsNamE t∧notEnumIt itc = true):=ht'.imp id fun z=>⟨z.1,by refine wat hk ?_;exact z.2⟩
     refine wp_turn f3.cx.handled f3.inv ht'' xi fv fu bv bu hn (fun hr s₄ t=>?_) fun y it' val s₄ hr t rv xi'=>?_
     · subst hr
       exact wpAny_pure ⟨H₃,ρ₃,.next,f3.side t.inv t.ext (twoOk xi) xi.side,all (x3.trans (t.ext.widen fun _ _ _ z=>.inr z)),.next,h3⟩
     · subst hr
       simp only at h3
       have f4:=f3.side t.inv t.ext (twoOk xi) xi.side
       split at h3
       · exact h3.elim
       · rename_i ρ₄ hb
         refine wp_bindT bs hg f4 rv hb fun s₅ f5 x5=>?_
         have no:∀ b,twoOf v u b→¬ own env b:=fun b hb q=>f4.ev.not_side q (xi'.side b hb)
         have xi5:=xi'.ext x5 f4.ev.ownOk fv fu (no v (.inl rfl)) (no u (.inr rfl))
         refine stCalm (h1 sc vars b hc1 A s₅ H₃ env ρ₄ _ nox tf f5 h3) fun fl s₆ hp=>?_
         obtain ⟨H₆,ρ₆,af,f6,x6,r6,q6⟩:=hp
         have no5:∀ b,twoOf v u b→¬ own env b:=fun b hb q=>f5.ev.not_side q (xi5.side b hb)
         have xi6:=xi5.ext x6 f5.ev.ownOk fv fu (no5 v (.inl rfl)) (no5 u (.inr rfl))
         obtain ⟨o1,w1,e1,_⟩:=xi5.live
         obtain ⟨o2,w2,e2,_⟩:=xi5.live2
         have fv6:=x6.free v o1 e1 fv (no5 v (.inl rfl))
         have fu6:=x6.free u o2 e2 fu (no5 u (.inr rfl))
         have x36:Ext (fun b=>own env b∨twoOf v u b) s₂.heap H₂ s₆.heap H₆:=x3.trans ((t.ext.widen fun _ _ _ z=>.inr z).trans ((x5.widen fun _ _ _ z=>.inl z).trans (x6.widen fun _ _ _ z=>.inl z)))
         have hk6:notEnumIt it' = notEnumIt it₀:=((nextA_kind hn).1).trans hk
         cases r6 with
         | next=>exact ⟨k,Nat.lt_succ_self k,H₆,ρ₆,it',f6,x36,xi6,fv6,fu6,hk6,q6⟩
         | cont=>exact ⟨k,Nat.lt_succ_self k,H₆,ρ₆,it',f6,x36,xi6,fv6,fu6,hk6,q6⟩
         | brk=>exact ⟨H₆,ρ₆,.next,f6,all x36,.next,q6⟩
         | ret rv=>exact ⟨H₆,ρ₆,.ret _,f6,all x36,.ret rv,q6⟩
theorem SS_try {body:SL} (h1:SSL prog w B os₀ C n body):SS prog w B os₀ C n (.try body):=by
 intro sc vars st hc A s H env ρ Q X tf f h
 refine bc fun nG=>?_
 obtain ⟨b,hs,p,rfl,hc⟩:=hc
 refine nG ?_
 refine wpAny_bind (wpAny_standAt ?_)
 unfold tryStmt
 refine wpAny_bind (wpAny_attempt (stCalm (h1 sc vars b hc A s H env ρ Q nox tf f h) fun fl s₁ hp=>?_))
 obtain ⟨H₁,ρ₁,af,f1,x1,r1,q1⟩:=hp
 cases r1 with
 | next=>exact wpAny_pure ⟨H₁,ρ₁,.next,f1,x1,.next,q1⟩
 | brk=>exact wpAny_pure ⟨H₁,ρ₁,.brk,f1,x1,.brk,q1⟩
 | cont=>exact wpAny_pure ⟨H₁,ρ₁,.cont,f1,x1,.cont,q1⟩
 | ret rv=>exact wpAny_pure ⟨H₁,ρ₁,.ret _,f1,x1,.ret rv,q1⟩
theorem VE_boot:bootBuiltins (Str.ofString "ValueError") = some (.type "ValueError"):=by decide +kernel
theorem VE_self:isSubtype (.type "ValueError") (.type "ValueError") = pure true:=by rw [isSubtype_type];kernel_rfl
theorem VE_base:isSubtype (.type "ValueError") (.type "BaseException") = pure true:=by rw [isSubtype_type];kernel_rfl
theorem VE_tup:isSubtype (.type ((Manifest.find? "ValueError").elim "type" fun x=>x.metatype)) (.type "tuple") = pure false:=by rw [isSubtype_type];kernel_rfl
theorem SS_raise (bs:Base K mg mb B):SS prog w B os₀ C n .raiseVE:=by
 intro sc vars st hc A s H env ρ Q X tf f h
 obtain ⟨x,q,p,rfl,hc⟩:=hc
 rw [Bool.and_eq_true,beq_iff_eq] at hc
 obtain ⟨hg,rfl⟩:=hc
 refine Raise_classB f.cx.handled excClass_ValueError VE_self (wp_builtin bs f.inv f.ev hg (bs.noB _ (by decide +kernel)) (by decide +kernel) VE_boot ⟨rfl,rfl⟩) fun h' e hx=>?_
 have x:ExtE s.heap H h' H:=ExtE.grow hx.keeps
 exact ⟨H,f.inv.grow hx.keeps rfl rfl,x.own,.inr ⟨e,s.heap,rfl,f.cx,hx,fun b o z=>⟨o,z⟩,f.inv.rep⟩,h⟩
end
section
variable {prog:Program} {w:World} {B:Heap} {os₀:OsState} {C:CallSem} {n:Nat} {A:Around} {s s':Shared} {H H':AHeap} {K:Frag} {mg mb:Str→Option Value}
variable {sc:Scope} {vars:List Str} {env:Env} {ρ:Loc} {X:AHeap→Prop} {Er:Value→Shared→Prop}
theorem flown {l:List Env} {base h':Heap} (cx:Cx B A s.heap H) (hl:A.frames = some l) (i0:INV w B os₀ s H) (i:INV w B os₀ s' H') (x:ExtE s.heap H s'.heap H') (st₀:base.StaysIn s'.heap) (st:base.StaysIn h') (up:s'.heap.UpToSlots h')
 (h5:∀ b o,s.heap.get? b = some o→b∉l.filterMap (·.frame)→∃ o',base.get? b = some o') (h6:∀ a o,H' a = some o→RO (w.params.followText "set-order") base H' a o):
 INV w B os₀ { s' with heap:=h' } H'∧ExtE s.heap H h' H':=by
 have fr:∀ b,b∈l.filterMap (·.frame)→B.get? b = none∧(X3 fun o es m=>A2 (s.heap.get? b = some o) (o.data = .dict es m)):=fun b hb=>by
  refine bc fun nG=>?_
  obtain ⟨e,he,hf⟩:=List.mem_filterMap.mp hb
  refine nG ?_
  obtain ⟨l',hl',hk⟩:=cx.frames
  rw [hl] at hl';obtain rfl:=Option.some.inj hl'
  obtain ⟨_,L,o,es,m,e1,e2,e3,e4,e5⟩:=hk e he
  rw [hf] at e1;obtain rfl:=Option.some.inj e1
  exact ⟨e2,o,es,m,e4,e5⟩
 have same:∀ b o,s.heap.get? b = some o→b∉l.filterMap (·.frame)→h'.get? b = s'.heap.get? b:=fun b o e nb=>by
  obtain ⟨o',e'⟩:=h5 b o e nb
  exact wat (st b o' e') (wat (st₀ b o' e') rfl)
 refine ⟨⟨fun b o e=>⟨?_,(i.base b o e).2⟩,fun a o e=>?_,i.gens,i.os⟩,⟨fun b o e nn _=>x.free b o e nn id,fun b o e nn _ nd=>?_,fun b o e nn _=>?_,fun b o e _=>?_⟩⟩
 · have e0:=(i0.base b o e).1
   have nb:b∉l.filterMap (·.frame):=fun hb=>by rw [(fr b hb).1] at e;exact no1 e
   exact (same b o e0 nb).trans (i.base b o e).1
 · have r:=h6 a o e
   obtain ⟨ob,q⟩:=r.live
   exact r.ext (ExtE.grow (H:=H') st) .nobody ((st a ob q).trans q.symm)
 · have nb:b∉l.filterMap (·.frame):=fun hb=>by
    obtain ⟨_,o',es,m,e',hd⟩:=fr b hb
    rw [e] at e';obtain rfl:=Option.some.inj e';exact nd es m hd
   exact (same b o e nb).trans (x.keep b o e nn id nd)
 · obtain ⟨sl,q⟩:=x.slots b o e nn id
   by_cases hb:b∈l.filterMap (·.frame)
   · refine bc fun nG=>?_
     obtain ⟨_,o',es,m,e',hd⟩:=fr b hb
     refine nG ?_
     rw [e] at e';obtain rfl:=Option.some.inj e'
     obtain ⟨sl',q'⟩:=up b _ q (fun vs z=>by rw [show ({ o with slots:=sl }:Obj).data = o.data from rfl,hd] at z;cases z)
     exact ⟨sl',q'⟩
   · exact ⟨sl,(same b o e hb).trans q⟩
 · obtain ⟨o1,q⟩:=x.live b o e id
   by_cases hb:b∈l.filterMap (·.frame)
   · obtain ⟨_,o',es,m,e',hd⟩:=fr b hb
     rw [e] at e';obtain rfl:=Option.some.inj e'
     by_cases hH:H b = none
     · obtain ⟨sl,q2⟩:=x.slots b o e hH id
       obtain ⟨sl',q'⟩:=up b _ q2 (fun vs z=>by rw [show ({ o with slots:=sl }:Obj).data = o.data from rfl,hd] at z;cases z)
       exact ⟨_,q'⟩
     · obtain ⟨en,he,hf⟩:=List.mem_filterMap.mp hb
       obtain ⟨l',hl',hk⟩:=cx.frames
       rw [hl] at hl';obtain rfl:=Option.some.inj hl'
       obtain ⟨_,L,o,es,m,e1,e2,e3,e4,e5⟩:=hk en he
       rw [hf] at e1;obtain rfl:=Option.some.inj e1
       exact absurd e3 hH
   · exact ⟨o1,(same b o e hb).trans q⟩
theorem SS_tryVE (bs:Base K mg mb B) {e:E} {z:Str} (hE:SE prog w B os₀ C n e):SS prog w B os₀ C n (.tryVE e z):=by
 intro sc vars st hc A s H env ρ Q X tf f h
 obtain ⟨v,rp,x,q,hh,hp,p,rfl,h0,⟨k1,p1,k2,p2,tk,tp,rp',rfl⟩,hv⟩:=hc
 rw [Bool.and_eq_true,beq_iff_eq] at h0
 obtain ⟨hg,rfl⟩:=h0
 have h:awp C e ρ H (fun av H₁=>Q (.ret av) ρ H₁) (fun H₁=>Q (.ret (.pair (.str z) .none)) ρ H₁):=h
 refine wpAny_Try_except ?_
 refine wpAny_bind (wpAny_Return_some (wpAny_mono (hE sc vars v hv A s H env ρ _ _ f h) (fun val s₁ h₁=>wpAny_pure ?_) fun er s₁ h₁=>?_))
 · refine bc fun nG=>?_
   obtain ⟨H₁,i₁,x₁,av,rv,hq⟩:=h₁
   refine nG ?_
   exact ⟨H₁,ρ,.ret av,f.ext i₁ x₁,x₁.own,.ret rv,hq⟩
 · refine bc fun nG=>?_
   obtain ⟨H₁,i₁,x₁,⟨l,ev,base,a0,hfr,rfl,hfl,h5,h6⟩,hX⟩:=h₁
   refine nG ?_
   refine bc fun nG=>?_
   obtain ⟨⟨outer,hout⟩,hloc⟩:=tf
   refine nG ?_
   rw [hout] at hfr
   obtain rfl:=Option.some.inj hfr
   refine wpAny_looks_onW hout hloc hfl fun h₄ hheld hsm₄=>?_
   refine wpAny_landsW hheld fun h₅ hfl₅ hsm₅=>?_
   obtain ⟨i5,x5⟩:=flown f.cx hout f.inv i₁ x₁ hfl.1 hfl₅.1 (hsm₄.trans hsm₅) h5 h6
   have f5:=f.ext i5 x5
   refine bc fun nG=>?_
   obtain ⟨ob,hob,hobc⟩:=hfl₅.there
   refine nG ?_
   refine wpAny_handleBy_builtin (X:="ValueError") (T:="ValueError") (b:=true) VE_base VE_tup VE_self (wp_builtin bs f5.inv f5.ev hg (bs.noB _ (by decide +kernel)) (by decide +kernel) VE_boot ⟨rfl,⟨ob,hob,hobc⟩,?_⟩)
   refine lands_againW hfl₅ fun h₆ hfl₆ hsm₆=>?_
   obtain ⟨i6,x6⟩:=flown f.cx hout f.inv i₁ x₁ hfl.1 hfl₆.1 ((hsm₄.trans hsm₅).trans hsm₆) h5 h6
   have f6:=f.ext i6 x6
   refine wpAny_bind (wpAny_Return_some (wpAny_Tuple (Calls.spliced_cons (wpAny_Constant_str (k:=k1) (pos:=p1) (Calls.spliced_cons (wpAny_Constant_none (k:=k2) (pos:=p2) (Calls.spliced_nil ?_)))))))
   refine ⟨by show 2≤sizeLine;refine wat sizeLine_eq ?_;decide,?_⟩
   refine bc fun nG=>?_
   obtain ⟨i7,x7,rvp⟩:=addTup (a:=.str z) (b:=.none) (x:=.str z s₁.toks) (y:=.none) (i6.toks (s₁.toks + 1)) .str .none (s₁.toks + 1)
   refine nG ?_
   have x67:ExtE s.heap H _ H₁:=Ext.trans x6 x7
   exact wpAny_pure ⟨H₁,ρ,.ret _,f.ext i7 x67,x67.own,.ret rvp,hX⟩
mutual
theorem sS (bs:Base K mg mb B) (op:Opp prog w B mg) (ok:CallOk prog w B os₀ n C):∀ st:S,SS prog w B os₀ C n st
 | .asg _ _=>SS_asg bs op ok
 | .asgN _ e=>SS_asgN bs (sE bs op ok e)
 | .sattr o _ e=>SS_sattr bs (sE bs op ok o) (sE bs op ok e)
 | .sitem o k e=>SS_sitem (sE bs op ok o) (sE bs op ok k) (sE bs op ok e)
 | .ex e=>SS_ex (sE bs op ok e)
 | .ite t a b=>SS_ite (sT bs op ok t) (sSL bs op ok a) (sSL bs op ok b)
 | .loop _ it body=>SS_loop bs (sI bs op ok it) (sSL bs op ok body)
 | .while t body=>SS_while (sT bs op ok t) (sSL bs op ok body)
 | .ret e=>SS_ret (sE bs op ok e)
 | .brk=>SS_brk
 | .cont=>SS_cont
 | .raiseVE=>SS_raise bs
 | .dead=>SS_dead
 | .try body=>SS_try (sSL bs op ok body)
 | .tryVE e _=>SS_tryVE bs (sE bs op ok e)
theorem sSL (bs:Base K mg mb B) (op:Opp prog w B mg) (ok:CallOk prog w B os₀ n C):∀ st:SL,SSL prog w B os₀ C n st
 | .nil=>SSL_nil
 | .cons st r=>SSL_cons (sS bs op ok st) (sSL bs op ok r)
end
theorem fmCongr {α β:Type} {f g:α→Option β}:∀ {l:List α},(∀ x∈l,f x = g x)→l.filterMap f = l.filterMap g
 | [],_=>rfl
 | a :: l,h=>by exact wat List.filterMap_cons (wat List.filterMap_cons (wat (h a List.mem_cons_self) (wat (fmCongr fun x hx=>h x (List.mem_cons_of_mem _ hx)) rfl)))
theorem zip_lookup:∀ {ks:List Str} {vs:List Value},ks.Nodup→vs.length = ks.length→(ks.filter fun k=>((ks.zip vs).lookup k).isNone) = []∧(ks.filterMap fun k=>((ks.zip vs).lookup k).map (k,·)) = ks.zip vs
 | [],_,_,_=>⟨rfl,rfl⟩
 | a :: ks,[],_,h=>by simp at h
 | a :: ks,u :: vs,hn,hl=>by
   obtain ⟨h1,h2⟩:=zip_lookup (List.nodup_cons.mp hn).2 (by simpa using hl)
   have e:∀ k∈ks,((a,u) :: ks.zip vs).lookup k = (ks.zip vs).lookup k:=fun k hk=>by
    exact wat List.lookup_cons (wat (beq_eq_false_iff_ne.mpr (fun q:k = a=>(List.nodup_cons.mp hn).1 (q▸hk))) rfl)
   have e0:((a,u) :: ks.zip vs).lookup a = some u:=by rw [List.lookup_cons,beq_self_eq_true]
   refine wat List.zip_cons_cons ?_
   constructor
   · rw [List.filter_cons,e0,List.filter_congr (q:=fun k=>((ks.zip vs).lookup k).isNone) (fun k hk=>by rw [e k hk]),h1];rfl
   · rw [List.filterMap_cons,e0,fmCongr (g:=fun k=>((ks.zip vs).lookup k).map (k,·)) (fun k hk=>by rw [e k hk]),h2];rfl
theorem forIn_empty {α β:Type} {l:List α} {b:β} {f:α→β→Sem (ForInStep β)} (h:l = []):forIn l b f = (pure b:Sem β):=by subst h;rfl
theorem eq_bind {α β:Type} {m:Sem α} {a:α} {f:α→Sem β} {r:Sem β} (h:m = pure a) (k:f a = r):(m >>= f) = r:=by subst h;exact k
theorem eq_neg {β:Type} {c:Prop} [Decidable c] {t e r:Sem β} (h:¬ c) (k:e = r):(if c then t else e) = r:=(if_neg h).trans k
theorem bindArgs_plain {fd:FuncData} {vals:List Value} (h1:fd.params.posonlyargs = []) (h2:fd.params.vararg = none) (h3:fd.params.kwonlyargs = []) (h4:fd.params.kwarg = none) (hd:fd.defaults = .none)
 (hn:(fd.params.args.map (·.arg)).Nodup) (hl:vals.length = (fd.params.args.map (·.arg)).length):bindArgs fd ⟨vals,[]⟩ = pure ((fd.params.args.map (·.arg)).zip vals):=by
 obtain ⟨name,qualname,⟨po,args,va,ko,kd,ka,df⟩,body,scope,globals,closure,defaults,kwdefaults,doc,pm,an,code,ct,bi⟩:=fd
 dsimp only at h1 h2 h3 h4 hd
 subst h1 h2 h3 h4 hd
 have zz:=zip_lookup (ks:=args.map (·.arg)) hn hl
 obtain ⟨z1,z2⟩:=zz
 refine eq_bind rfl ?_
 refine eq_bind (a:=none) rfl ?_
 refine eq_neg (fun h=>Nat.lt_irrefl _ (Nat.lt_of_lt_of_eq (of_decide_eq_true (Bool.and_eq_true _ _▸h).1) hl)) ?_
 have dn:∀ k:Nat,([]:List Value).drop k = []:=fun k=>List.drop_nil
 refine eq_neg ?_ ?_
 · show ¬ (!(List.filter (fun k=>(((args.map (·.arg)).zip vals).lookup k).isNone) (List.take ((args.map (·.arg)).length - (([]:List Value).drop (0 - (args.map (·.arg)).length)).length) (args.map (·.arg)))).isEmpty) = true
   rw [dn]
   show ¬ (!(List.filter (fun k=>(((args.map (·.arg)).zip vals).lookup k).isNone) (List.take (args.map (·.arg)).length (args.map (·.arg)))).isEmpty) = true
   rw [List.take_length,z1]
   exact Bool.false_ne_true
 refine eq_bind (forIn_empty ((congrArg (List.zip (List.drop _ _)) (dn _)).trans List.zip_nil_right)) ?_
 refine eq_bind (forIn_empty rfl) ?_
 refine eq_neg Bool.false_ne_true ?_
 show pure (List.filterMap (fun k=>(((args.map (·.arg)).zip vals).lookup k).map (k,·)) (args.map (·.arg) ++ [])) = _
 rw [List.append_nil,z2]
end
structure FdOk (F:FDef) (fd:FuncData) (b:List Stmt):Prop where
 body:fd.body = .stmts b
 tr:TrSL fd.scope F.vars F.body b
 pos:fd.params.posonlyargs = []
 va:fd.params.vararg = none
 kwo:fd.params.kwonlyargs = []
 kwa:fd.params.kwarg = none
 names:fd.params.args.map (·.arg) = F.vars.take F.params
 le:F.params≤F.vars.length
 nodup:F.vars.Nodup
 kinds:∀ x∈F.vars,fd.scope.names.lookup x = some .local∨fd.scope.names.lookup x = some .cell
 kind:fd.scope.kind = .function
 nco:fd.scope.isCoroutine = false
 ngen:fd.scope.isGenerator = false
 clo:fd.closure = []
 dflt:fd.defaults = .none
 glob:fd.globals = mainGlobals
 built:fd.builtins = builtinsNs
theorem isNone_eq {α:Type} {o:Option α} (h:o.isNone = true):o = none:=by cases o<;>first | rfl | exact nob h
theorem isEmpty_eq {α:Type} {l:List α} (h:l.isEmpty = true):l = []:=by cases l<;>first | rfl | exact nob h
set_option tactic.hygienic true in
theorem fdOk_spec {F:FDef} {fd:FuncData} (h:fdOk F fd = true):∃ b,FdOk F fd b:=by
 unfold fdOk at h
 simp only [Bool.and_eq_true] at h
 refine bc fun nG=>?_
 obtain ⟨⟨⟨⟨⟨⟨⟨⟨⟨⟨⟨⟨⟨⟨⟨⟨⟨⟨h1,h2⟩,h3⟩,h4⟩,h5⟩,h6⟩,h7⟩,h8⟩,h9⟩,h10⟩,h11⟩,h12⟩,h13⟩,h14⟩,h15⟩,h16⟩,h17⟩,h18⟩,h19⟩:=h
 refine nG ?_
 split at h1
 · rename_i b hb
   have tr:TrSL fd.scope F.vars F.body b:=by
    cases q:ckSL fd.scope F.vars F.body b with
    | none=>rw [q] at h1;exact nob h1
    | some r=>exact r.down
   refine ⟨b,hb,tr,isEmpty_eq h2,isNone_eq h3,isEmpty_eq h4,isNone_eq h5,beq_iff_eq.mp h7,decide_eq_true_eq.mp h8,decide_eq_true_eq.mp h9,fun x hx=>?_,beq_iff_eq.mp h12,by simpa using h13,by simpa using h14,isEmpty_eq h15,beq_iff_eq.mp h16,beq_iff_eq.mp h18,beq_iff_eq.mp h19⟩
   have:=List.all_eq_true.mp h10 x hx
   rw [Bool.or_eq_true] at this
   exact this.imp beq_iff_eq.mp beq_iff_eq.mp
 · exact nob h1
set_option tactic.hygienic true in
theorem cellsFrom_has {x:Str}:∀ {l:List (Str×NameKind)} {k:Nat} {acc:List (Str×Addr)},((x,.cell)∈l∨∃ c,acc.lookup x = some c)→∃ c,(cellsFrom k l acc).lookup x = some c
 | [],k,acc,h=>h.elim (fun q=>nomatch q) id
 | (m,kd) :: l,k,acc,h=>by
   unfold cellsFrom
   split
   · refine cellsFrom_has (l:=l) ?_
     rcases h with h | ⟨c,h⟩
     · rcases List.mem_cons.mp h with h | h
       · cases h;exact .inr ⟨k,by simp⟩
       · exact .inl h
     · refine .inr ?_
       refine wat List.lookup_cons ?_;split
       · exact ⟨_,rfl⟩
       · exact ⟨c,h⟩
   · rename_i hk
     refine cellsFrom_has (l:=l) ?_
     rcases h with h | h
     · rcases List.mem_cons.mp h with h | h
       · cases h;exact absurd rfl hk
       · exact .inl h
     · exact .inr h
theorem bindL_other {k:Str→Option NameKind} {x:Str}:∀ {bs:List (Str×Value)} {m:Str→Option Value},x∉bs.map (·.1)→bindL k bs m x = m x∧bindC k bs m x = m x
 | [],_,_=>⟨rfl,rfl⟩
 | (n,v) :: r,m,h=>by
   have hx:x≠n:=fun q=>h (by refine wat q ?_;simp)
   have hr:x∉r.map (·.1):=fun q=>h (List.mem_cons_of_mem _ q)
   unfold bindL bindC
   refine wat ((bindL_other hr).1) (wat ((bindL_other hr).2) ?_)
   constructor<;>(split<;>simp [hx])
theorem bindL_get {k:Str→Option NameKind} {x:Str} {v:Value}:∀ {bs:List (Str×Value)} {m:Str→Option Value},(bs.map (·.1)).Nodup→(x,v)∈bs→(k x = some .local→bindL k bs m x = some v)∧(k x≠some .local→bindC k bs m x = some v)
 | (n,u) :: r,m,hn,h=>by
   obtain ⟨h1,h2⟩:=List.nodup_cons.mp hn
   unfold bindL bindC
   rcases List.mem_cons.mp h with h | h
   · cases h
     refine wat ((bindL_other h1).1) (wat ((bindL_other h1).2) ?_)
     exact ⟨fun q=>by refine wat (if_pos q) ?_;simp,fun q=>by refine wat (if_neg q) ?_;simp⟩
   · exact ⟨(bindL_get h2 h).1,(bindL_get h2 h).2⟩
section
variable {prog:Program} {w:World} {B:Heap} {os₀:OsState} {C:CallSem} {n:Nat} {A:Around} {s s':Shared} {H H':AHeap} {K:Frag} {mg mb:Str→Option Value}
theorem entered {F:FDef} {fd:FuncData} {b:List Stmt} {fa:Addr} {args:List AV} {vals:List Value} {s₁:Shared} (ok:FdOk F fd b) (cx:Cx B A s.heap H) (rm:Room (n + 1) A) (i:INV w B os₀ s H) (r:RVs s.heap H args vals) (hl:args.length = F.params)
 (x:InCallC s (callEnvC fd s.heap.objs.size fa).locals (bindL (callEnvC fd s.heap.objs.size fa).kindOf ((fd.params.args.map (·.arg)).zip vals) fun _=>none) (callEnvC fd s.heap.objs.size fa).cells
   (bindC (callEnvC fd s.heap.objs.size fa).kindOf ((fd.params.args.map (·.arg)).zip vals) fun _=>none) s₁):
 FR w B os₀ n (A.deeper (callEnvC fd s.heap.objs.size fa)) s₁ H fd.scope F.vars (callEnvC fd s.heap.objs.size fa) (args.map some ++ List.replicate (F.vars.length - F.params) none)∧ExtE s.heap H s₁.heap H∧(∀ b,own (callEnvC fd s.heap.objs.size fa) b→s.heap.get? b = none):=by
 generalize hE:callEnvC fd s.heap.objs.size fa = E at x ⊢
 have eL:E.locals = s.heap.objs.size:=by refine wat hE.symm ?_;rfl
 have eS:E.scope = fd.scope:=by refine wat hE.symm ?_;rfl
 have eC:E.cells = cellsFrom (s.heap.objs.size + 1) fd.scope.names []:=by refine wat hE.symm ?_;rfl
 have eF:E.frame = some E.locals:=by refine wat hE.symm ?_;rfl
 have ek:E.kindOf = fun y=>fd.scope.names.lookup y:=by funext y;unfold Env.kindOf;exact wat eS rfl
 obtain ⟨h₁,tk,hs₁⟩:=x.toInCall.same
 have keep:=x.toInCall.keep
 have xe:ExtE s.heap H s₁.heap H:=ExtE.grow keep
 have inv:INV w B os₀ s₁ H:=i.grow keep (by exact wat hs₁ rfl) (by exact wat hs₁ rfl)
 have newL:∀ c,s.heap.objs.size≤c→s.heap.get? c = none:=fun c hc=>by
  cases q:s.heap.get? c with
  | none=>rfl
  | some o=>exact absurd (Heap.lt_size q) (Nat.not_lt.mpr hc)
 have cellNew:∀ y c,E.cells.lookup y = some c→s.heap.get? c = none:=fun y c e=>newL c (Nat.le_of_lt (by have:=x.above y c (mem_of_lookup e);rw [eL] at this;exact this))
 have dead:∀ b,own E b→s.heap.get? b = none:=by
  rintro b (rfl | ⟨y,e⟩)
  · exact newL _ (Nat.le_of_eq eL.symm)
  · exact cellNew y b e
 have offB:∀ b,s.heap.get? b = none→B.get? b = none:=fun b e=>by
  cases q:B.get? b with
  | none=>rfl
  | some o=>rw [i.keeps b o q] at e;exact no2 e
 have hlen:=r.length
 have hnl:(F.vars.take F.params).length = F.params:=by exact wat List.length_take (wat (Nat.min_eq_left ok.le) rfl)
 refine ⟨⟨⟨cx.handled,?_⟩,RoomF.entered rm E,inv,?_,fun b hb=>offB b (dead b hb)⟩,xe,dead⟩
 · obtain ⟨l,hf,hk⟩:=(cx.ext xe).frames
   refine ⟨E :: l,Around.frames_deeper hf,fun e he=>?_⟩
   rcases List.mem_cons.mp he with rfl | he
   · refine bc fun nG=>?_
     obtain ⟨o,es,m,ho,hd,_⟩:=x.toInCall.ns
     refine nG ?_
     exact ⟨by refine wat eS (wat ok.kind ?_);decide,e.locals,o,es,m,eF,offB _ (dead _ (.inl rfl)),i.fresh (dead _ (.inl rfl)),ho,hd⟩
   · exact hk e he
 · refine ⟨eS,ok.kind,by refine wat hE.symm ?_;exact ok.glob,by refine wat hE.symm ?_;exact ok.built,ok.nodup,?_,fun y hy=>?_,fun y c e=>⟨i.fresh (cellNew y c e),_,x.cell y c e⟩,fun y z c e1 e2=>name_of_addr x.apart (mem_of_lookup e1) (mem_of_lookup e2),i.fresh (dead _ (.inl rfl)),_,x.toInCall.ns,fun j y av hv hr=>?_⟩
   · rw [List.length_append,List.length_map,List.length_replicate,hl];have:=ok.le;exact Nat.add_sub_of_le ‹_›
   · rcases ok.kinds y hy with e | e
     · exact .inl e
     · refine bc fun nG=>?_
       obtain ⟨c,hc⟩:=cellsFrom_has (k:=s.heap.objs.size + 1) (acc:=[]) (.inl (lookup_mem' e))
       refine nG ?_
       exact .inr ⟨e,c,by refine wat eC ?_;exact hc⟩
   · have hj:j < args.length:=by
      rcases Nat.lt_or_ge j args.length with h | h
      · exact h
      · rw [List.getElem?_append_right (by simpa using h)] at hr
        rw [List.getElem?_replicate] at hr
        split at hr<;>cases hr
     rw [List.getElem?_append_left (by simpa using hj),List.getElem?_map] at hr
     refine bc fun nG=>?_
     obtain ⟨av',ha,hav⟩:=Option.map_eq_some_iff.mp hr
     refine nG ?_
     cases hav
     obtain ⟨v,hvv,rv⟩:=r.get ha
     have hname:(F.vars.take F.params)[j]? = some y:=by refine wat (List.getElem?_take) (wat (if_pos (by exact linLt [_,_,_] 1 (.v 2) (.v 1) [.eq 1 (.v 0) (.v 1),.lt 1 (.v 2) (.v 0)] rfl hl hj)) ?_);exact hv
     have hmem:(y,v)∈(fd.params.args.map (·.arg)).zip vals:=by
      refine wat ok.names ?_
      exact List.mem_iff_getElem?.mpr ⟨j,by rw [List.getElem?_zip_eq_some];exact ⟨hname,hvv⟩⟩
     have hnd:(((fd.params.args.map (·.arg)).zip vals).map (·.1)).Nodup:=by
      rw [ok.names,List.map_fst_zip (by rw [hnl,← hlen,hl];exact Nat.le_refl _)]
      exact (List.take_sublist _ _).nodup ok.nodup
     obtain ⟨b1,b2⟩:=bindL_get (k:=E.kindOf) (m:=fun _=>none) hnd hmem
     refine ⟨fun k=>⟨v,b1 (by refine wat ek ?_;exact k),rv.extE xe⟩,fun k c hc=>⟨v,?_,rv.extE xe⟩⟩
     have:=x.cell y c hc
     rw [b2 (by refine wat ek ?_;simp [k])] at this
     exact this
theorem left_by {fd:FuncData} {fa:Addr} {ev:Value} {s₁:Shared} {Q:AV→AHeap→Prop} {X:AHeap→Prop} {sc:Scope} {vars:List Str} {E:Env} {ρ:Loc} {R:Value→Shared→Prop} (cx:Cx B A s.heap H) (i:INV w B os₀ s H) (f:FR w B os₀ n (A.deeper E) s₁ H sc vars E ρ)
 (xe:ExtE s.heap H s₁.heap H) (dead:∀ b,own E b→s.heap.get? b = none) (eF:E.frame = some E.locals) (h:SX w B os₀ (A.deeper E) E s₁ H X ev s')
 (k:∀ s'' H'',INV w B os₀ s'' H''→ExtE s.heap H s''.heap H''→ExOk w A s.heap ev s'' H''→X H''→R ev s''):
 wpAny (model prog w) (A.deeper E) (leaving E ev) (fun _ s''=>R ev s'') (fun _ _=>False) s':=by
 obtain ⟨H',i',x',hx,hX⟩:=h
 obtain ⟨l,hf,hk⟩:=cx.frames
 have hf':(A.deeper E).frames = some (E :: l):=Around.frames_deeper hf
 have xs:ExtE s.heap H s'.heap H':=(xe.own.trans x').widen fun b o e q=>by rw [dead b q] at e;exact no1 e
 have notE:∀ b o,s.heap.get? b = some o→b∉l.filterMap (·.frame)→b∉(E :: l).filterMap (·.frame):=fun b o e nb hb=>by
  obtain ⟨en,he,hfr⟩:=List.mem_filterMap.mp hb
  rcases List.mem_cons.mp he with rfl | he
  · rw [eF] at hfr;obtain rfl:=Option.some.inj hfr;rw [dead _ (.inl rfl)] at e;exact no1 e
  · exact nb (List.mem_filterMap.mpr ⟨en,he,hfr⟩)
 have fin:∀ {base h':Heap} {evA:Addr} {a0:Value},ev = .ref evA→Heap.FlyingW base l evA (.type "ValueError") a0 h'→base.StaysIn s'.heap→s'.heap.UpToSlots h'→(∀ b o,s.heap.get? b = some o→b∉l.filterMap (·.frame)→∃ o',base.get? b = some o')→
  (∀ a o,H' a = some o→RO (w.params.followText "set-order") base H' a o)→R ev { s' with heap:=h' }:=fun e1 hfl st up h5 h6=>by
  obtain ⟨i2,x2⟩:=flown cx hf i i' xs st hfl.1 up h5 h6
  exact k _ H' i2 x2 ⟨l,_,_,_,hf,e1,hfl,h5,h6⟩ hX
 rcases hx with ⟨l',evA,base,a0,hl',rfl,hfl,h5,h6⟩ | ⟨evA,base,rfl,cb,hn,h5,h6⟩
 · rw [hf'] at hl';obtain rfl:=Option.some.inj hl'
   refine wpAny_leaves_onW hf' eF hfl fun h' hfl' up=>fin rfl hfl' hfl.1 up (fun b o e nb=>?_) h6
   obtain ⟨o1,e1⟩:=xe.live b o e id
   exact h5 b o1 e1 (notE b o e nb)
 · refine bc fun nG=>?_
   obtain ⟨ob,t,he,hcls,hd⟩:=hn.there
   refine nG ?_
   have hfb:∀ b,b∈(E :: l).filterMap (·.frame)→H' b = none∧(X3 fun o es m=>A2 (base.get? b = some o) (o.data = .dict es m)):=fun b hb=>by
    obtain ⟨en,hen,hfr⟩:=List.mem_filterMap.mp hb
    obtain ⟨l',hl',hk'⟩:=cb.frames
    rw [hf'] at hl';cases hl'
    refine bc fun nG=>?_
    obtain ⟨_,L,o,es,m,e1,e2,e3,e4,e5⟩:=hk' en hen
    refine nG ?_
    rw [hfr] at e1;obtain rfl:=Option.some.inj e1
    exact ⟨e3,o,es,m,e4,e5⟩
   have ff:∀ l₀:List Env,(∀ e∈l₀,e∈E :: l)→base.FunFrames (hideAll base ((E :: l).filterMap (·.frame))) l₀:=by
    intro l₀
    induction l₀ with
    | nil=>intro _;exact trivial
    | cons en r ih=>
      intro hin
      obtain ⟨l',hl',hk'⟩:=cb.frames
      rw [hf'] at hl';cases hl'
      have hen:=hin en List.mem_cons_self
      obtain ⟨kk,L,o,es,m,e1,e2,e3,e4,e5⟩:=hk' en hen
      refine ⟨?_,⟨L,o,e1,hideAll_none _ (List.mem_filterMap.mpr ⟨en,hen,e1⟩),e4,fun vs q=>by rw [e5] at q;cases q⟩,ih fun e he=>hin e (List.mem_cons_of_mem _ he)⟩
      first | exact kk | exact beq_eq_false_iff_ne.mpr kk | (simpa using kk)
   have st0:(hideAll base ((E :: l).filterMap (·.frame))).StaysIn s'.heap:=fun b o q=>hn.keeps b o (of_hideAll _ q)
   have ownF:OwnOk (fun b=>b∈(E :: l).filterMap (·.frame)) base:=by
    rintro b o hb e x y rfl
    obtain ⟨_,o',es,m,e',hd'⟩:=hfb b hb
    rw [e] at e';obtain rfl:=Option.some.inj e';cases hd'
   have hev:(hideAll base ((E :: l).filterMap (·.frame))).get? evA = none:=by
    cases q:(hideAll base ((E :: l).filterMap (·.frame))).get? evA with
    | none=>rfl
    | some o=>have:=of_hideAll _ q;rw [hn.new] at this;exact no1 this
   have hff:s'.heap.FunFrames (hideAll base ((E :: l).filterMap (·.frame))) (E :: l):=(ff (E :: l) fun _ h=>h).of_keeps fun b o hb _=>⟨o,hn.keeps b o hb,rfl⟩
   refine wpAny_leaving_firstW (a0:=t) hf' hff eF he st0 hev hd rfl rfl fun h' hL=>?_
   refine bc fun nG=>?_
   obtain ⟨k1,⟨_,_,k2⟩,k3,k4⟩:=hL
   refine nG ?_
   rw [hcls] at k3
   refine fin rfl ⟨k1,hev,k2,k3⟩ st0 k4 (fun b o e nb=>?_) fun a o e=>?_
   · obtain ⟨o1,e1⟩:=xe.live b o e id
     obtain ⟨o2,e2⟩:=h5 b o1 e1
     exact ⟨o2,hideAll_get _ e2 (notE b o e nb)⟩
   · have ro:=h6 a o e
     have ex:Ext (fun b=>b∈(E :: l).filterMap (·.frame)) base H' (hideAll base ((E :: l).filterMap (·.frame))) H':=
      ⟨fun _ _ _ nn _=>nn,fun b o e _ nb _=>hideAll_get _ e nb,fun b o e _ nb=>⟨o.slots,hideAll_get _ e nb⟩,fun b o e nb=>⟨o,hideAll_get _ e nb⟩⟩
     obtain ⟨ob',q⟩:=ro.live
     exact ro.ext ex ownF ((hideAll_get _ q (fun hb=>by rw [(hfb a hb).1] at e;exact no1 e)).trans q.symm)
theorem callOk_zero:CallOk prog w B os₀ 0 (callWp fns 0):=fun f args vals A s H Q X cx rm i r h=>h.elim
theorem call_def (bs:Base K mg mb B) (op:Opp prog w B mg) (ok:CallOk prog w B os₀ n (callWp fns n)) {F:FDef} {fa:Addr} {o:Obj} {fd:FuncData} (hB:B.get? fa = some o) (hdata:o.data = .func fd) (hfd:fdOk F fd = true) (hcd:B.CodeRec fd.code fd.qualname)
 {args:List AV} {vals:List Value} {Q:AV→AHeap→Prop} {X:AHeap→Prop} (cx:Cx B A s.heap H) (rm:Room (n + 1) A) (i:INV w B os₀ s H) (r:RVs s.heap H args vals) (h:bodyWp (callWp fns n) F args H Q X):
 codeAny (model prog w) A (.call (.ref fa) ⟨vals,[]⟩) (Back w B os₀ A s H Q X) s:=by
 refine bc fun nG=>?_
 obtain ⟨hl,hb⟩:=h
 refine nG ?_
 obtain ⟨b,fo⟩:=fdOk_spec hfd
 have hlen:=r.length
 have hnl:(F.vars.take F.params).length = F.params:=by exact wat List.length_take (wat (Nat.min_eq_left fo.le) rfl)
 have hargs:vals.length = (fd.params.args.map (·.arg)).length:=by exact wat fo.names (wat hnl (wat hlen.symm (wat hl rfl)))
 have hcd':s.heap.CodeRec fd.code fd.qualname:=hcd.keeps i.keeps
 refine codeAny_call_cells (by have:=rm.1;exact linLt [_,_,_] 1 (.v 0) (.v 2) [.lt 1 (.a (.a (.v 0) (.m 3 (.a (.v 1) (.n 1)))) (.n 20)) (.v 2)] rfl this) (i.keeps _ _ hB) hdata (bs.lim.keeps i.keeps) hcd' fo.body
  (bindArgs_plain fo.pos fo.va fo.kwo fo.kwa fo.dflt (by refine wat fo.names ?_;exact (List.take_sublist _ _).nodup fo.nodup) hargs) fo.clo (fun x hx=>?_) (fun s₁ x₁=>?_) fo.nco fo.ngen fo.kind
 · have hm:x.1∈F.vars:=by
    have:=(List.of_mem_zip hx).1
    rw [fo.names] at this
    exact List.mem_of_mem_take this
   rcases fo.kinds x.1 hm with e | e
   · exact .inl e
   · refine bc fun nG=>?_
     obtain ⟨c,hc⟩:=cellsFrom_has (k:=s.heap.objs.size + 1) (acc:=[]) (.inl (lookup_mem' e))
     refine nG ?_
     exact .inr ⟨e,by refine wat hc ?_;rfl⟩
 · refine bc fun nG=>?_
   obtain ⟨f1,xe,dead⟩:=entered fo cx rm i r hl x₁
   refine nG ?_
   refine bc fun nG=>?_
   obtain ⟨l,hf,_⟩:=cx.frames
   refine nG ?_
   have tf:TopF (A.deeper (callEnvC fd s.heap.objs.size fa)) (callEnvC fd s.heap.objs.size fa):=⟨⟨l,Around.frames_deeper hf⟩,rfl⟩
   refine wpAny_mono (sSL bs op ok F.body fd.scope F.vars b fo.tr _ s₁ H _ _ _ X tf f1 hb) (fun fl s₂ h₂=>?_) fun e s₂ h₂=>?_
   · obtain ⟨H₂,ρ₂,af,f2,x2,r2,q2⟩:=h₂
     have xs:ExtE s.heap H s₂.heap H₂:=(xe.own.trans x2).widen fun b o e q=>by rw [dead b q] at e;exact no1 e
     cases r2 with
     | next=>exact ⟨H₂,f2.inv,xs,.none,.none,q2⟩
     | brk=>exact q2.elim
     | cont=>exact q2.elim
     | ret rv=>exact ⟨H₂,f2.inv,xs,_,rv,q2⟩
   · exact wpAny_mono (left_by (fd:=fd) (fa:=fa) (Q:=Q) (R:=XE w B os₀ A s.heap H X) cx i f1 xe dead rfl h₂ fun s'' H'' i'' x'' e'' hX=>⟨H'',i'',x'',e'',hX⟩) (fun _ _ z=>z) fun _ _ z=>z.elim
theorem callOk_succ (bs:Base K mg mb B) (op:Opp prog w B mg) (ok:CallOk prog w B os₀ n (callWp fns n)):CallOk prog w B os₀ (n + 1) (callWp fns (n + 1)):=by
 intro f args vals A s H Q X cx rm i r h
 refine bc fun nG=>?_
 obtain ⟨o,fd,hB,hcls,hdata,hfd,hcd⟩:=bs.fn f
 refine nG ?_
 exact call_def bs op ok hB hdata hfd hcd cx rm i r h
theorem callOk (bs:Base K mg mb B) (op:Opp prog w B mg):∀ n,CallOk prog w B os₀ n (callWp fns n)
 | 0=>callOk_zero
 | n + 1=>callOk_succ bs op (callOk bs op n)
end
noncomputable def frag (h:Heap):Frag:=(List.range h.objs.size).filterMap fun a=>(h.get? a).map fun o=>(a,o)
set_option tactic.hygienic true in
theorem frag_in (h:Heap):(frag h).In h:=by
 intro a o e
 unfold frag at e
 have key:∀ l:List Nat,(l.filterMap fun a=>(h.get? a).map fun o=>(a,o)).lookup a = some o→h.get? a = some o:=by
  intro l
  induction l with
  | nil=>intro q;cases q
  | cons b l ih=>
    intro q
    cases hb:h.get? b with
    | none=>simp only [List.filterMap_cons,hb,Option.map_none] at q;exact ih q
    | some ob=>
      simp only [List.filterMap_cons,hb,Option.map_some,List.lookup_cons] at q
      split at q
      · rename_i hab
        obtain rfl:=Option.some.inj q
        refine wat (beq_iff_eq.mp hab) ?_;exact hb
      · exact ih q
 exact key _ e
noncomputable def codeB (h:Heap) (cd:Value) (q:Str):Bool:=match cd with
 | .ref c=>(match h.get? c with
   | some ⟨_,_,.fields vs,_⟩=>(match (vs:Array Value)[1]? with
     | some (Value.str z _)=>z == q
     | _=>false)
   | _=>false)
 | _=>false
set_option tactic.hygienic true in
theorem codeB_spec {h:Heap} {cd:Value} {q:Str} (e:codeB h cd q = true):h.CodeRec cd q:=by
 unfold codeB at e
 split at e
 · rename_i c
   split at e
   · rename_i cl di vs sl ho
     split at e
     · rename_i z t hv
       rw [beq_iff_eq] at e;subst e
       exact ⟨c,_,vs,t,rfl,ho,rfl,hv⟩
     · cases e
   · cases e
 · cases e
noncomputable def fnB (h:Heap) (F:FDef) (a:Addr):Bool:=match h.get? a with
 | some ⟨cl,_,.func fd,_⟩=>(cl == .type "function") && fdOk F fd && codeB h fd.code fd.qualname
 | _=>false
set_option tactic.hygienic true in
theorem fnB_spec {h:Heap} {F:FDef} {a:Addr} (e:fnB h F a = true):(X2 fun o fd=>A5 (h.get? a = some o) (o.cls = .type "function") (o.data = .func fd) (fdOk F fd = true) (h.CodeRec fd.code fd.qualname)):=by
 unfold fnB at e
 split at e
 · rename_i cl di fd sl ho
   rw [Bool.and_eq_true,Bool.and_eq_true,beq_iff_eq] at e
   exact ⟨_,fd,ho,e.1.1,rfl,e.1.2,codeB_spec e.2⟩
 · cases e
noncomputable def allFn:List Fn:=[.opponent_of,.format_vertex,.format_vertex_list,.move_from_vertex,.init,.make_group,.find_surrounded,.find_all,.is_empty,.play,.apply_setup,.occupied,.near,.breathing,.only,.moved,.rows,.stones,.ofColour,.order,.read,.tryPlay]
theorem allFn_all (f:Fn):f∈allFn:=by cases f<;>decide
noncomputable def allFld:List Fld:=[.side,.board_points,.board,.is_empty,.colour,.points,.is_surrounded]
theorem allFld_all (f:Fld):f∈allFld:=by cases f<;>decide
noncomputable def lawName:Str:=Str.ofString "law"
noncomputable def lawAt (h:Heap):Bool:=match h.nsMap mainGlobals lawName with
 | some (.ref a)=>fnB h F_law a
 | _=>false
noncomputable def headOk (h:Heap):Bool:=
 h.isNs mainGlobals && h.isNs builtinsNs && h.isNs cStatics && (h.nsMap cStatics "sys.recursionlimit").isNone && (h.get? sysModules).isSome &&
 biNames.all (fun x=>(h.nsMap mainGlobals x).isNone) &&
 (match h.nsMap mainGlobals (Str.ofString "column_letters") with | some (.str z _)=>z == colText | _=>false) &&
 (h.nsMap mainGlobals (Str.ofString "_opponents") == some (.ref 22)) &&
 allFn.all (fun f=>(f.isMeth || h.nsMap mainGlobals f.gname == some (.ref f.addr)) && fnB h (fns f) f.addr &&
  (!f.isMeth || ((findIn (frag h) (.ref boardC) f.gname == some (some (.ref f.addr))) && (typeIn (frag h) (.ref f.addr) == some (.type "function")) && plainGet (frag h) boardC f.gname))) &&
 (h.nsMap mainGlobals (Str.ofString "Board") == some (.ref boardC)) && (h.nsMap mainGlobals (Str.ofString "_Group") == some (.ref groupC)) && makesIn (frag h) boardC && makesIn (frag h) groupC &&
 (findIn (frag h) (.ref groupC) (Str.ofString "__init__") == some (some (.builtin "object.__init__"))) && keepIn (frag h) (.ref boardC) && keepIn (frag h) (.ref groupC) &&
 allFld.all (fun f=>attrOkK (frag h) boardC f.name && attrOkK (frag h) groupC f.name) && lawAt h
noncomputable def textOf:Value→Option Str
 | .str z _=>some z
 | _=>none
noncomputable def oppView (h:Heap):Bool×List (Int×Option Str×Option Str):=match h.get? 22 with
 | some ⟨cl,di,.dict es _,sl⟩=>((cl == .type "dict") && di.isNone && sl.isEmpty,es.toList.map fun e=>(e.hash,textOf e.key,textOf e.val))
 | _=>(false,[])
noncomputable def oppWant (w:World):Bool×List (Int×Option Str×Option Str):=(true,[(hashStr w (Str.ofString "b"),some (Str.ofString "b"),some (Str.ofString "w")),(hashStr w (Str.ofString "w"),some (Str.ofString "w"),some (Str.ofString "b"))])
set_option maxRecDepth 100000
set_option maxHeartbeats 8000000
open PySem.Challenge
noncomputable def qv:Program:=view pw_md0059_01 [22]
noncomputable def names0:List Str:=(pw_md0059_01.boundNames).filter (· ≠Str.ofString "law")
noncomputable def rowText:String:="special-get-raises"
noncomputable def isRow (r:String):Bool:=String.rec (fun b h=>decide (String.ofByteArray b h = rowText)) r
theorem row_is {r:String} (h:isRow r = true):r = rowText:=by cases r;exact of_decide_eq_true h
theorem rec_same {b x y:Bool} (h:b = true→y = x):(Bool.rec x y b:Bool) = x:=Bool.rec (motive:=fun b=>(b = true→y = x)→(Bool.rec x y b:Bool) = x) (fun _=>rfl) (fun h=>h rfl) b h
noncomputable def wf (w:World) (b:Bool):World:={ w with params:={ w.params with followText:=fun r=>Bool.rec (w.params.followText r) b (isRow r) } }
theorem wf_self (w:World):wf w (w.params.followText rowText) = w:=
 congrArg (fun f=>({ w with params:={ w.params with followText:=f } }:World)) (funext fun r=>rec_same fun h=>congrArg w.params.followText (row_is h).symm)
noncomputable def sel {α:Type} (b:Bool) (x y:α) (_:Bool):α:=Bool.rec x y b
noncomputable def nxt {α:Type} (s:Step) (f:Shared→Thread→α) (y:α) (_:Bool):α:=Step.rec (fun s t=>f s t) (fun _ _=>y) s
theorem sel_l {α β:Type} {c b:Bool} {u:Option α} {x:α} {v v' z:β} (h:sel c u none b = some x) (k:u = some x→v = z):sel c v v' b = z:=Bool.rec (motive:=fun c=>sel c u none b = some x→sel c v v' b = z) k (fun h=>absurd h.symm (Option.some_ne_none x)) c h
theorem sel_r {α β:Type} {c b:Bool} {u:Option α} {x:α} {v v' z:β} (h:sel c none u b = some x) (k:u = some x→v = z):sel c v' v b = z:=Bool.rec (motive:=fun c=>sel c none u b = some x→sel c v' v b = z) (fun h=>absurd h.symm (Option.some_ne_none x)) k c h
theorem sel_n {α β:Type} {b:Bool} {st:Step} {f:Shared→Thread→Option α} {g:Shared→Thread→β} {x:α} {y z:β} (h:nxt st f none b = some x) (k:∀ s t,f s t = some x→g s t = z):nxt st g y b = z:=Step.rec (motive:=fun st=>nxt st f none b = some x→nxt st g y b = z) k (fun _ _ h=>absurd h.symm (Option.some_ne_none x)) st h
noncomputable def pre (ok:Thread→Bool) (stp:Shared→Thread→Step) (n:Nat) (b:Bool):Shared→Thread→Option (Shared×Thread):=
 Nat.rec (motive:=fun _=>Shared→Thread→Option (Shared×Thread)) (fun s t=>some (s,t)) (fun _ ih s t=>sel (through t) (sel (ok t) none (nxt (stp s t) ih none b) b) none b) n
theorem run_eq {w:World} {p:Program} {n₀:Nat} {ann:Option Value} {n:Nat} {s:Shared} {t:Thread} {b:Bool}:topRun treeTable p w n₀ ann (n + 1) s t = sel (through t) (sel (stepOk n₀ ann t) none (nxt (step (denote treeTable) p w s t) (topRun treeTable p w n₀ ann n) none b) b) (some s) b:=by kernel_rfl
theorem sel_all {α β:Type} {c d b:Bool} {st:Step} {f:Shared→Thread→Option α} {g:Shared→Thread→β} {x:α} {y y' y'' z:β} (k:∀ s t,f s t = some x→g s t = z) (h:sel c (sel d none (nxt st f none b) b) none b = some x):sel c (sel d y' (nxt st g y b) b) y'' b = z:=sel_l h fun h=>sel_r h fun h=>sel_n h k
theorem pre_run {w:World} {p:Program} {n₀:Nat} {ann:Option Value} {b:Bool} {m k:Nat} {x:Shared×Thread}:∀ (s:Shared) (t:Thread),pre (stepOk n₀ ann) (step (denote treeTable) p w) k b s t = some x→topRun treeTable p w n₀ ann (m + k) s t = topRun treeTable p w n₀ ann m x.1 x.2:=
 Nat.rec (fun _ _ h=>congrArg (fun x=>topRun treeTable p w n₀ ann m x.1 x.2) (Option.some.inj h)) (fun _ ih _ _ h=>run_eq.trans (sel_all ih h)) k
noncomputable def bootS (w:World) (os:OsState):Shared:=⟨boot_heap w.params,⟨[]⟩,boot_drawn,boot_toks,os⟩
theorem opened {o:Option Shared} {a:Heap} {b:Array GenState} {c:Drawn} {d:Nat} (h:o.map (fun s=>(s.heap,s.gens,s.drawn,s.toks)) = some (a,b,c,d)):∃ os,o = some ⟨a,b,c,d,os⟩:=
 (Option.map_eq_some_iff.mp h).elim fun s z=>⟨s.os,z.1.trans (congrArg (fun x:Heap×Array GenState×Drawn×Nat=>some (Shared.mk x.1 x.2.1 x.2.2.1 x.2.2.2 s.os)) z.2)⟩
noncomputable def after (p:Program) (s₀ s₁:Shared):Option Shared:=Bool.rec none (some s₁) (staticsOk (importedModules p.main.body) s₀.heap s₁.heap && namesBound p s₁.heap && gensDone s₁ && laidKept s₀.heap s₁.heap)
noncomputable def annOf (s:Shared):Option Value:=s.heap.nsMap mainGlobals "__annotations__"
noncomputable def preB (ok:Nat→Option Value→Thread→Bool) (stp:Program→World→Shared→Thread→Step) (p:Program) (k:Nat) (w:World) (s:Shared) (b:Bool):Option (Shared×Thread):=
 pre (ok s.heap.objs.size (annOf s)) (stp p (wf w b)) k b s (topStub p)
noncomputable def fromB (p:Program) (w:World) (N:Nat) (s:Shared) (b:Bool):Option Shared:=Bool.rec none ((topRun treeTable p w s.heap.objs.size (annOf s) N s (topStub p)).bind (after p s)) b
theorem from_eq {p:Program} {w:World} {N:Nat} {s:Shared}:topFrom treeTable p w N s = fromB p w N s (s.heap.isNs mainGlobals && s.gens.size == 0):=by kernel_rfl
noncomputable def Sure (p:Program) (k m:Nat) {γ:Type} (φ:Shared→γ) (ok:Nat→Option Value→Thread→Bool) (stp:Program→World→Shared→Thread→Step) (run:Program→World→Nat→Option Value→Nat→Shared→Thread→Option Shared) (w:World) (s:Shared) (y:γ):Prop:=
 preB ok stp p k w s false = preB ok stp p k w s true∧(((preB ok stp p k w s false).bind fun x=>run p w s.heap.objs.size (annOf s) m x.1 x.2).bind (after p s)).map φ = some y
theorem left_at {γ:Type} {p:Program} {w:World} {k m:Nat} {s:Shared} {φ:Shared→γ} {y:γ} (h0:(s.heap.isNs mainGlobals && s.gens.size == 0) = true) (h:Sure p k m φ stepOk (step (denote treeTable)) (topRun treeTable) w s y):(topFrom treeTable p w (m + k) s).map φ = some y:=
 (Option.map_eq_some_iff.mp h.2).elim fun s₁ z=>(Option.bind_eq_some_iff.mp z.1).elim fun s₂ u=>(Option.bind_eq_some_iff.mp u.1).elim fun x v=>
 have hb:∀ b,preB stepOk (step (denote treeTable)) p k w s b = some x:=fun b=>Bool.rec v.1 (h.1.symm.trans v.1) b
 have hr:=pre_run (m:=m) _ _ ((congrArg (fun w=>pre _ (step (denote treeTable) p w) k _ s _) (wf_self w).symm).trans (hb _))
 (congrArg (Option.map φ) (from_eq.trans ((congrArg (fromB p w _ s) h0).trans ((congrArg (Option.bind · (after p s)) (hr.trans v.2)).trans u.2)))).trans (congrArg some z.2)
theorem left_boot {p q:Program} {loose:List Str} {Xt:Shared→Bool} {α:Type} {Yf:Shared→α} {Ya:World→α} {k m:Nat}
 (e:opening p = plainProg p.main.scope.names) (hN:Nat.ble 600 (m + k) = true) (f:∀ s,fenceModules? p s = some s)
 (h0:∀ w os,((bootS w os).heap.isNs mainGlobals && (bootS w os).gens.size == 0) = true)
 (h:∀ w os,Sure p k m (fun s=>(openSeen q loose (importedModules p.main.body) Xt true s,Yf s)) stepOk (step (denote treeTable)) (topRun treeTable) w (bootS w os) (openGood q loose,Ya w)):
 LeftO p q loose Xt Yf Ya (m + k):=fun w=>
 (opened (boot_open e hN f w)).elim fun os z=>(congrArg (fun o=>(Option.bind o _).map _) z).trans (left_at (h0 w os) (h w os))
theorem hl:LeftO pw_md0059_01 qv names0 (fun _=>true) (fun s=>(headOk s.heap,oppView s.heap)) (fun w=>(true,oppWant w)) (2908 + 92):=by
 refine left_boot rfl rfl (fun _=>rfl) (fun w os=>by kernel_rfl) ?_
 rw [Fast.te4187177175401517315,Fast.te6613529449190102663,Fast.te11892475500146522536,Fast.te14364793385576792824,Fast.te8437177126325714943,Fast.te14082659384304107361]
 exact fun w os=>⟨by kernel_rfl,by kernel_rfl⟩
set_option maxRecDepth 100000
open PySem.Challenge
theorem ns_eq {h h':Heap} {a:Addr} {m m':Str→Option Value} (x:h.Ns a m) (y:h'.Ns a m') (k:∀ b o,h.get? b = some o→h'.get? b = some o):m' = m:=by
 obtain ⟨o,es,ep,e,d,_,f⟩:=x
 obtain ⟨o',es',ep',e',d',_,f'⟩:=y
 rw [k _ _ e] at e'
 cases e'
 rw [d] at d'
 cases d'
 funext n
 exact wat (f n).symm (wat (f' n).symm rfl)
set_option tactic.hygienic true in
theorem base_of {h:Heap} {mg mb:Str→Option Value} (e:headOk h = true) (hg:h.Ns mainGlobals mg) (hb:h.Ns builtinsNs mb) (bi:∀ x:Str,x≠Str.ofString "__name__"→mb x = bootBuiltins x):Base (frag h) mg mb h∧mg (Str.ofString "_opponents") = some (.ref 22)∧∃ a,mg lawName = some (.ref a)∧fnB h F_law a = true:=by
 unfold headOk at e
 simp only [Bool.and_eq_true] at e
 obtain ⟨⟨⟨⟨⟨⟨⟨⟨⟨⟨⟨⟨⟨⟨⟨⟨⟨q1,q2⟩,q3⟩,q4⟩,q5⟩,q6⟩,q7⟩,q8⟩,q9⟩,q10⟩,q11⟩,q12⟩,q13⟩,q14⟩,q15⟩,q16⟩,q17⟩,q18⟩:=e
 have eg:mg = h.nsMap mainGlobals:=ns_eq (.of_isNs q1) hg fun _ _ e=>e
 subst eg
 have fn:=fun f=>List.all_eq_true.mp q9 f (allFn_all f)
 simp only [Bool.and_eq_true,Bool.or_eq_true,beq_iff_eq,Bool.not_eq_true'] at fn
 refine ⟨{ kin:=frag_in h,g:=hg,b:=hb,bi:=bi,lim:=⟨_,.of_isNs q3,Option.isNone_iff_eq_none.mp q4⟩,sysm:=Option.isSome_iff_exists.mp q5,
           noB:=fun x hx=>Option.isNone_iff_eq_none.mp (List.all_eq_true.mp q6 x hx),fnG:=fun f hf=>?_,fn:=fun f=>fnB_spec (fn f).1.2,col:=?_,meth:=fun f hf=>?_,
           cls:=⟨beq_iff_eq.mp q10,beq_iff_eq.mp q11,q12,q13,beq_iff_eq.mp q14,q15,q16⟩,attrs:=fun C f hC=>?_ },beq_iff_eq.mp q8,?_⟩
 · rcases (fn f).1.1 with q | q
   · rw [hf] at q;cases q
   · exact q
 · split at q7
   · rename_i z t hz
     rw [beq_iff_eq] at q7
     exact ⟨t,q7▸hz⟩
   · cases q7
 · rcases (fn f).2 with q | q
   · rw [hf] at q;cases q
   · exact ⟨q.1.1,q.1.2,q.2⟩
 · have:=List.all_eq_true.mp q17 f (allFld_all f)
   rw [Bool.and_eq_true] at this
   rcases hC with rfl | rfl
   · exact this.1
   · exact this.2
 · unfold lawAt at q18
   split at q18
   · rename_i a ha;exact ⟨a,ha,q18⟩
   · cases q18
theorem textOf_spec {v:Value} {z:Str} (h:textOf v = some z):∃ t,v = .str z t:=by
 cases v<;>first | (cases h;exact ⟨_,rfl⟩) | cases h
set_option tactic.hygienic true in
theorem opp_of {prog:Program} {w:World} {h:Heap} {mg:Str→Option Value} (e:oppView h = oppWant w) (hm:mg (Str.ofString "_opponents") = some (.ref 22)):Opp prog w h mg:=by
 unfold oppView oppWant at e
 split at e
 · rename_i cl di es n sl ho
   obtain ⟨e1,e2⟩:=Prod.mk.inj e
   simp only [Bool.and_eq_true,beq_iff_eq] at e1
   obtain ⟨⟨rfl,hd⟩,hs⟩:=e1
   obtain ⟨l⟩:=es
   simp only at e2
   match l,e2 with
   | [a,b],e2=>
     simp only [List.map_cons,List.map_nil,List.cons.injEq,Prod.mk.injEq,and_true] at e2
     obtain ⟨⟨a1,a2,a3⟩,b1,b2,b3⟩:=e2
     obtain ⟨t1,ka⟩:=textOf_spec a2
     obtain ⟨t2,va⟩:=textOf_spec a3
     obtain ⟨t3,kb⟩:=textOf_spec b2
     obtain ⟨t4,vb⟩:=textOf_spec b3
     refine ⟨22,fun k=>findBy Value.isStrOf #[a,b] k,t2,t4,hm,⟨_,_,n,ho,⟨rfl,Option.isNone_iff_eq_none.mp hd,by simpa using hs⟩,rfl,fun x hx=>?_,fun k=>rfl⟩,?_,?_⟩
     · simp only [List.mem_toArray,List.mem_cons,List.not_mem_nil,or_false] at hx
       rcases hx with rfl | rfl
       · exact ⟨Str.ofString "b",by refine wat ka ?_;simp [PySem.strKind,Value.isStrOf],a1⟩
       · exact ⟨Str.ofString "w",by refine wat kb ?_;simp [PySem.strKind,Value.isStrOf],b1⟩
     · simp [findBy,ka,Value.isStrOf,va]
     · have:(Str.ofString "b" == Str.ofString "w") = false:=by decide
       simp [findBy,ka,kb,Value.isStrOf,vb,this]
   | [],e2=>have:=congrArg List.length e2;simp at this
   | [_],e2=>have:=congrArg List.length e2;simp at this
   | _ :: _ :: _ :: _,e2=>have:=congrArg List.length e2;simp at this
 · cases (Prod.mk.inj e).1
theorem ints_shape {R:WRecords}:∀ {xs:List WData},WShape.hasItems R xs .int = true→∃ ns:List Int,xs = ns.map .int
 | [],_=>⟨[],rfl⟩
 | x :: xs,h=>by
   have h:(WShape.has R x .int && WShape.hasItems R xs .int) = true:=h
   rw [Bool.and_eq_true] at h
   obtain ⟨ns,rfl⟩:=ints_shape h.2
   have hx:=h.1
   cases x<;>first | exact ⟨_ :: ns,rfl⟩ | exact Bool.noConfusion (show false = true from hx)
theorem lay_ints {R:WRecords} {cl:Str→Option Addr} {P:Params} {ord:List DictEntry→List DictEntry}:∀ {ns:List Int} {s:Shared},(X2 fun vs tk=>A2 (layAllW R cl P ord (ns.map .int) s = some (vs,{ s with toks:=tk })) (∀ (h:Heap) (H:AHeap),RVs h H (ns.map .int) vs))
 | [],s=>⟨[],s.toks,rfl,fun _ _=>.nil⟩
 | n :: ns,s=>by
   obtain ⟨vs,tk,e,r⟩:=lay_ints (R:=R) (cl:=cl) (P:=P) (ord:=ord) (ns:=ns) (s:={ s with toks:=s.toks + 1 })
   refine ⟨.int n s.toks :: vs,tk,?_,fun h H=>.cons .int (r h H)⟩
   simp only [List.map_cons,layAllW,layW,e]
noncomputable def PlainLaw:Prop:=∀ (xs:List Int) (a:Addr) (g:Obj) (H:AHeap),xs.length≤63→H a = some (.rlist (xs.map .int) g)→(∀ b,b≠a→H b = none)→
 bodyWp (callWp fns 10) F_law [.ref a] H (fun v H'=>v = .bool true∧H' a = some (.rlist (xs.map .int) g)) nox
theorem law_call (hP:PlainLaw) {w:World} {s₀ s₁:Shared} {mg mb:Str→Option Value} (hok:headOk s₀.heap = true) (hv:oppView s₀.heap = oppWant w) (hg₁:s₁.heap.Ns mainGlobals mg) (hb₁:s₁.heap.Ns builtinsNs mb)
 (bi:∀ x:Str,x≠Str.ofString "__name__"→mb x = bootBuiltins x) {ord:List DictEntry→List DictEntry} {R:WRecords} {cl:Str→Option Addr} {P:Params} {xs:List Int} {vs:List Value} (hn:xs.length≤63) (hlay:layAllW R cl P ord [.list (xs.map .int)] s₀ = some (vs,s₁))
 (hgens:s₁.gens = #[]) {fa:Addr} (hfa:mg lawName = some (.ref fa)) {Q:Value→Shared→Prop} {E:Value→Shared→Prop}
 (q:∀ s',(∀ b o,s₁.heap.get? b = some o→s'.heap.get? b = some o)→s'.os = s₁.os→s'.gens = #[]→Q (.bool true) s'):
 wpAny (model pw_md0059_01 w) callerA (call (.ref fa) vs) Q E s₁:=by
 obtain ⟨ws,tk,e,rws⟩:=lay_ints (R:=R) (cl:=cl) (P:=P) (ord:=ord) (ns:=xs) (s:=s₀)
 simp only [layAllW,layW,e,Option.some.injEq,Prod.mk.injEq] at hlay
 obtain ⟨rfl,rfl⟩:=hlay
 have keep:∀ b o,s₀.heap.get? b = some o→(s₀.heap.push (listO ws 0)).get? b = some o:=fun b o e=>Heap.get?_push_of_some _ e
 have hg₀:s₀.heap.isNs mainGlobals = true∧s₀.heap.isNs builtinsNs = true:=by
  unfold headOk at hok
  simp only [Bool.and_eq_true] at hok
  obtain ⟨⟨⟨⟨⟨⟨⟨⟨⟨⟨⟨⟨⟨⟨⟨⟨⟨q1,q2⟩,q3⟩,q4⟩,q5⟩,q6⟩,q7⟩,q8⟩,q9⟩,q10⟩,q11⟩,q12⟩,q13⟩,q14⟩,q15⟩,q16⟩,q17⟩,q18⟩:=hok
  exact ⟨q1,q2⟩
 obtain rfl:=ns_eq (.of_isNs hg₀.1) hg₁ keep
 obtain rfl:=ns_eq (.of_isNs hg₀.2) hb₁ keep
 obtain ⟨bs,ho,a,ha,hf⟩:=base_of hok (.of_isNs hg₀.1) (.of_isNs hg₀.2) bi
 rw [hfa] at ha
 cases ha
 obtain ⟨o,fd,hB,hcls,hdata,hfd,hcd⟩:=fnB_spec hf
 have op:Opp pw_md0059_01 w s₀.heap _:=opp_of hv ho
 let H₀:AHeap:=fun b=>if b = s₀.heap.objs.size then some (.rlist (xs.map .int) (listO ws 0)) else none
 have hself:H₀ s₀.heap.objs.size = some (.rlist (xs.map .int) (listO ws 0)):=if_pos rfl
 have hother:∀ b,b≠s₀.heap.objs.size→H₀ b = none:=fun b h=>if_neg h
 have hget:(s₀.heap.push (listO ws 0)).get? s₀.heap.objs.size = some (listO ws 0):=Heap.get?_push_size _ rfl
 have inv:INV w s₀.heap s₀.os { s₀ with heap:=s₀.heap.push (listO ws 0),toks:=tk } H₀:=by
  refine ⟨fun b ob e=>⟨keep b ob e,hother b fun q=>?_⟩,fun b ob e=>?_,hgens,rfl⟩
  · subst q;rw [get?_size] at e;cases e
  · by_cases q:b = s₀.heap.objs.size
    · subst q;rw [hself] at e;cases e
      exact ⟨ws,0,hget,rfl,rws _ _⟩
    · rw [hother b q] at e;cases e
 have cx:Cx s₀.heap callerA (s₀.heap.push (listO ws 0)) H₀:=⟨rfl,[],rfl,fun _ h=>nomatch h⟩
 have rm:Room 11 callerA:=by constructor<;>decide
 refine wpAny_call (codeAny_mono (call_def (n:=10) bs op (callOk bs op 10) hB hdata hfd hcd cx rm inv (.cons .ref .nil) (hP xs _ _ H₀ hn hself hother)) fun r s' z=>?_)
 cases r with
 | error e=>obtain ⟨_,_,_,_,f⟩:=z;exact f.elim
 | ok fl=>
   cases fl with
   | ret v=>
     obtain ⟨H',i',x',av,rv,rfl,hs⟩:=z
     cases rv
     refine q s' (fun b ob e=>?_) i'.os i'.gens
     rcases Heap.get?_push_cases e with ⟨rfl,rfl⟩ | e
     · obtain ⟨vs',n',e',eg,_⟩:=i'.rep _ _ hs
       exact wat e' (wat eg.symm rfl)
     · exact i'.keeps b ob e
   | _=>exact z.elim
theorem pre63 {R:WRecords} {ds:List WData} (h:WTm.holds R (.and (.not (.lt (.lit (.int ((63:Nat):Int))) (.len (.arg 0)))) (.lit (.bool true))) { args:=[.list ds] } = true):ds.length≤63:=by
 simp only [WTm.holds,WTm.value,List.getElem?_cons_zero] at h
 by_cases hl:ds.length≤63
 · exact hl
 · exfalso
   have:(63:Int) < ds.length:=by omega
   simp [less?,Num.less?,this] at h
noncomputable def lawDef:DefRec:=match defOf qv lawName with
 | some x=>x.1
 | none=>⟨lawName,default,[],default,default⟩
theorem law_def:defOf qv rw_md0059_01.row.name = some (lawDef,[]):=by kernel_rfl
theorem law_the:rw_md0059_01.row.prog.theDef rw_md0059_01.row.name = some (lawDef.params,lawDef.body,lawDef.scope):=by kernel_rfl
theorem law_kw:kwWritten? lawDef.params.kwonlyargs lawDef.params.kw_defaults = some []:=by kernel_rfl
theorem law_said:rw_md0059_01.wellSaid = true:=by rw [Fast.te9446332074065402090];decide +kernel
theorem law_open:(chainsOk qv && opensWell rw_md0059_01.row.prog && (frees rw_md0059_01.row.toRowW && rw_md0059_01.row.within.isEmpty)) = true:=by decide +kernel
theorem law_bare:rw_md0059_01.row.prog.bare:=⟨rfl,rfl,rfl,rfl,rfl,by unfold Program.tablesWhole TablesWhole.wProgram TablesWhole.holds;rw [Fast.te6116379765354995101,Fast.te15985051520779696433];decide +kernel⟩
theorem law_wit:rw_md0059_01.row.toRowW.promised:=⟨[.list []],by decide +kernel,by decide +kernel⟩
theorem law_post (args ds:List WData):rw_md0059_01.row.claim.post args (.bool true) ds = true:=by kernel_rfl
theorem law_calm (args:List WData) (cls:ExcName):rw_md0059_01.row.claim.raises args cls = false:=by kernel_rfl
set_option tactic.hygienic true in
theorem law_holds_of (hP:PlainLaw):rw_md0059_01.Holds:=by
 refine holds_law law_said fun k1=>holds_openX (q:=qv) (loose:=names0) (Xt:=fun _=>true) (XP:=fun _ _=>True) hl (fun _ _=>trivial) (fun _ _ _ _ _=>trivial) law_def law_the law_kw (fun s _=>recFacts_nil rfl) rfl k1 law_open law_bare law_wit ?_
 intro w s₀ s₁ mg mb G Y a o pm cd doc dV kV hget hdata hcode hdf hmg hgens args vals as L hpre hlay hreads hwell hlow
 obtain ⟨hsh,hpr⟩:=pre_splitW hpre
 obtain ⟨d,r,rfl,hd,hr⟩:=hasAllW_cons hsh
 obtain rfl:=hasAllW_nil hr
 have hxs:∃ xs:List Int,d = .list (xs.map .int):=by
  cases d<;>first | exact Bool.noConfusion (show false = true from hd) | skip
  rename_i ds
  have hd':(WShape.hasItems rw_md0059_01.row.records ds .int || false) = true:=hd
  rw [Bool.or_false] at hd'
  obtain ⟨ns,rfl⟩:=ints_shape hd'
  exact ⟨ns,rfl⟩
 obtain ⟨xs,rfl⟩:=hxs
 have hn:xs.length≤63:=by
  have:=pre63 hpr
  rwa [List.length_map] at this
 obtain ⟨Y1,Y2⟩:=Prod.mk.inj Y
 obtain ⟨ord,hord,hlay'⟩:=L.laid
 refine law_call hP Y1 Y2 G.T.g G.T.b G.T.builtins hn hlay' hgens hmg fun s' hk hos hg=>?_
 exact ⟨.inl ⟨.bool true,.bool true,[],rfl,law_calm _,.bool true,law_post _ _,fun _=>⟨List.nodup_nil,fun _ h=>nomatch h⟩⟩,.of_keep hk,hos,.of_eq hg⟩
namespace Pl
@[reducible] noncomputable def oR (a:Addr):Option AV:=some (.ref a)
@[reducible] noncomputable def oI (a:Int):Option AV:=some (.int a)
@[reducible] noncomputable def oB (a:Bool):Option AV:=some (.bool a)
@[reducible] noncomputable def oP (p:Pt):Option AV:=some (.pt p)
@[reducible] noncomputable def l5 (a0 a1 a2 a3 a4:Option AV):Loc:=[a0,a1,a2,a3,a4]
@[reducible] noncomputable def l8 (a0 a1 a2 a3 a4 a5 a6 a7:Option AV):Loc:=[a0,a1,a2,a3,a4,a5,a6,a7]
@[reducible] noncomputable def l10 (a0 a1 a2 a3 a4 a5 a6 a7 a8 a9:Option AV):Loc:=[a0,a1,a2,a3,a4,a5,a6,a7,a8,a9]
@[reducible] noncomputable def l12 (a0 a1 a2 a3 a4 a5 a6 a7 a8 a9 a10 a11:Option AV):Loc:=[a0,a1,a2,a3,a4,a5,a6,a7,a8,a9,a10,a11]
@[reducible] noncomputable def l15 (a0 a1 a2 a3 a4 a5 a6 a7 a8 a9 a10 a11 a12 a13 a14:Option AV):Loc:=[a0,a1,a2,a3,a4,a5,a6,a7,a8,a9,a10,a11,a12,a13,a14]
@[reducible] noncomputable def l29 (a0 a1 a2 a3 a4 a5 a6 a7 a8 a9 a10 a11 a12 a13 a14 a15 a16 a17 a18 a19 a20 a21 a22 a23 a24 a25 a26 a27 a28:Option AV):Loc:=[a0,a1,a2,a3,a4,a5,a6,a7,a8,a9,a10,a11,a12,a13,a14,a15,a16,a17,a18,a19,a20,a21,a22,a23,a24,a25,a26,a27,a28]
@[reducible] noncomputable def thenS (C:CallSem) (r:SL) (S:SQ) (X:AHeap→Prop):SQ:=fun f ρ₁ H₁=>match f with
  | .next=>swps C r ρ₁ H₁ S X
  | f=>S f ρ₁ H₁
@[reducible] noncomputable def retS (Q:AV→AHeap→Prop):SQ:=fun fl _ H'=>match fl with | .ret v=>Q v H' | .next=>Q .none H' | _=>False
@[reducible] noncomputable def loopP (C:CallSem) (tg:Tgt) (body:SL) (it₀:It) (ρ:Loc) (H₁:AHeap) (S:SQ):Prop:=∃ n,loopW tg (fun ρ₁ H₂ Q₁=>swps C body ρ₁ H₂ Q₁ nox) n it₀ ρ H₁ S
@[reducible] noncomputable def pairQ2 (Q:AV→AHeap→Prop) (x:AV):AV→AHeap→Prop:=fun y H₂=>Q (.pair x y) H₂
@[reducible] noncomputable def pairQ (C:CallSem) (b:E) (ρ:Loc) (Q:AV→AHeap→Prop) (X:AHeap→Prop):AV→AHeap→Prop:=fun x H₁=>awp C b ρ H₁ (pairQ2 Q x) X
@[reducible] noncomputable def listQ (Q:AV→AHeap→Prop):List AV→AHeap→Prop:=fun xs H'=>NewR H' Q (.list xs)
@[reducible] noncomputable def binQ2 (op:Operator) (Q:AV→AHeap→Prop) (x:AV):AV→AHeap→Prop:=fun y H₂=>BinR H₂ Q op x y
@[reducible] noncomputable def binQ (C:CallSem) (b:E) (ρ:Loc) (op:Operator) (Q:AV→AHeap→Prop) (X:AHeap→Prop):AV→AHeap→Prop:=fun x H₁=>awp C b ρ H₁ (binQ2 op Q x) X
@[reducible] noncomputable def cmpQ2 (op:CmpOp) (Q:Bool→AHeap→Prop) (x:AV):AV→AHeap→Prop:=fun y H₂=>CQ H₂ op x y Q
@[reducible] noncomputable def cmpQ (C:CallSem) (b:E) (ρ:Loc) (op:CmpOp) (Q:Bool→AHeap→Prop) (X:AHeap→Prop):AV→AHeap→Prop:=fun x H₁=>awp C b ρ H₁ (cmpQ2 op Q x) X
@[reducible] noncomputable def boolQ (Q:AV→AHeap→Prop):Bool→AHeap→Prop:=fun r H=>Q (.bool r) H
@[reducible] noncomputable def callQ (C:CallSem) (f:Fn) (Q:AV→AHeap→Prop) (X:AHeap→Prop):List AV→AHeap→Prop:=fun vs H₁=>C f vs H₁ Q X
@[reducible] noncomputable def methQ2 (C:CallSem) (f:Fn) (Q:AV→AHeap→Prop) (X:AHeap→Prop) (v:AV):List AV→AHeap→Prop:=fun vs H₂=>C f (v :: vs) H₂ Q X
@[reducible] noncomputable def methQ (C:CallSem) (f:Fn) (args:EL) (ρ:Loc) (Q:AV→AHeap→Prop) (X:AHeap→Prop):AV→AHeap→Prop:=fun v H₁=>IsBoard H₁ v∧awps C args ρ H₁ (methQ2 C f Q X v) X
@[reducible] noncomputable def biQ (b:Bi) (Q:AV→AHeap→Prop):List AV→AHeap→Prop:=fun vs H₁=>BiR H₁ Q b vs
@[reducible] noncomputable def bmQ2 (b:Bm) (Q:AV→AHeap→Prop) (v:AV):List AV→AHeap→Prop:=fun vs H₂=>BmR H₂ Q b v vs
@[reducible] noncomputable def bmQ (C:CallSem) (b:Bm) (args:EL) (ρ:Loc) (Q:AV→AHeap→Prop) (X:AHeap→Prop):AV→AHeap→Prop:=fun v H₁=>kindOk H₁ b v∧awps C args ρ H₁ (bmQ2 b Q v) X
@[reducible] noncomputable def attrQ (f:Fld) (Q:AV→AHeap→Prop):AV→AHeap→Prop:=fun v H₁=>AttrQ H₁ v f Q
@[reducible] noncomputable def subQ2 (Q:AV→AHeap→Prop) (x:AV):AV→AHeap→Prop:=fun y H₂=>SubQ H₂ x y Q
@[reducible] noncomputable def subQ (C:CallSem) (i:E) (ρ:Loc) (Q:AV→AHeap→Prop) (X:AHeap→Prop):AV→AHeap→Prop:=fun x H₁=>awp C i ρ H₁ (subQ2 Q x) X
@[reducible] noncomputable def truQ (Q:Bool→AHeap→Prop):AV→AHeap→Prop:=fun v H₁=>TQ H₁ v Q
@[reducible] noncomputable def pushQ (Qs:List AV→AHeap→Prop) (v:AV):List AV→AHeap→Prop:=fun vs H₂=>Qs (v :: vs) H₂
@[reducible] noncomputable def consQ (C:CallSem) (es:EL) (ρ:Loc) (Qs:List AV→AHeap→Prop) (X:AHeap→Prop):AV→AHeap→Prop:=fun v H₁=>awps C es ρ H₁ (pushQ Qs v) X
@[reducible] noncomputable def notQ (Q:Bool→AHeap→Prop):Bool→AHeap→Prop:=fun r H₁=>Q (!r) H₁
@[reducible] noncomputable def allQ (C:CallSem) (ts:TL) (ρ:Loc) (Q:Bool→AHeap→Prop) (X:AHeap→Prop):Bool→AHeap→Prop:=fun r H₁=>if r then awpAll C ts ρ H₁ Q X else Q false H₁
@[reducible] noncomputable def anyQ (C:CallSem) (ts:TL) (ρ:Loc) (Q:Bool→AHeap→Prop) (X:AHeap→Prop):Bool→AHeap→Prop:=fun r H₁=>if r then Q true H₁ else awpAny C ts ρ H₁ Q X
@[reducible] noncomputable def iteS (C:CallSem) (a b:SL) (ρ:Loc) (S:SQ) (X:AHeap→Prop):Bool→AHeap→Prop:=fun r H₁=>if r then swps C a ρ H₁ S X else swps C b ρ H₁ S X
@[reducible] noncomputable def chainQ3 (C:CallSem) (c:E) (ρ:Loc) (o₂:CmpOp) (Q:Bool→AHeap→Prop) (X:AHeap→Prop) (y:AV):Bool→AHeap→Prop:=fun r H₃=>if r then awp C c ρ H₃ (cmpQ2 o₂ Q y) X else Q false H₃
@[reducible] noncomputable def chainQ2 (C:CallSem) (c:E) (ρ:Loc) (o₁ o₂:CmpOp) (Q:Bool→AHeap→Prop) (X:AHeap→Prop) (x:AV):AV→AHeap→Prop:=fun y H₂=>CQ H₂ o₁ x y (chainQ3 C c ρ o₂ Q X y)
@[reducible] noncomputable def chainQ (C:CallSem) (b c:E) (ρ:Loc) (o₁ o₂:CmpOp) (Q:Bool→AHeap→Prop) (X:AHeap→Prop):AV→AHeap→Prop:=fun x H₁=>awp C b ρ H₁ (chainQ2 C c ρ o₁ o₂ Q X x) X
@[reducible] noncomputable def iteQ (Q:It→AHeap→Prop):AV→AHeap→Prop:=fun v H₁=>IterR H₁ (fun it=>Q it H₁) v
@[reducible] noncomputable def nextQ (S:SQ) (ρ:Loc):AHeap→Prop:=fun H₁=>S .next ρ H₁
@[reducible] noncomputable def asgQ (S:SQ) (i:Nat) (ρ:Loc):AV→AHeap→Prop:=fun v H₁=>S .next (ρ.set i (some v)) H₁
@[reducible] noncomputable def asgNQ2 (S:SQ) (is:List Nat) (ρ:Loc):List AV→AHeap→Prop:=fun vs H₂=>S .next (setAll is vs ρ) H₂
@[reducible] noncomputable def asgNQ (S:SQ) (is:List Nat) (ρ:Loc):AV→AHeap→Prop:=fun v H₁=>UnpQ H₁ is.length v (asgNQ2 S is ρ)
@[reducible] noncomputable def setQ2 (f:Fld) (S:SQ) (ρ:Loc) (u:AV):AV→AHeap→Prop:=fun v H₂=>SetQ H₂ v f u (nextQ S ρ)
@[reducible] noncomputable def setQ (C:CallSem) (o:E) (ρ:Loc) (f:Fld) (S:SQ) (X:AHeap→Prop):AV→AHeap→Prop:=fun u H₁=>awp C o ρ H₁ (setQ2 f S ρ u) X
@[reducible] noncomputable def itemQ3 (S:SQ) (ρ:Loc) (u v:AV):AV→AHeap→Prop:=fun kv H₃=>ItemR H₃ (nextQ S ρ) v kv u
@[reducible] noncomputable def itemQ2 (C:CallSem) (k:E) (ρ:Loc) (S:SQ) (X:AHeap→Prop) (u:AV):AV→AHeap→Prop:=fun v H₂=>awp C k ρ H₂ (itemQ3 S ρ u v) X
@[reducible] noncomputable def itemQ (C:CallSem) (o k:E) (ρ:Loc) (S:SQ) (X:AHeap→Prop):AV→AHeap→Prop:=fun u H₁=>awp C o ρ H₁ (itemQ2 C k ρ S X u) X
@[reducible] noncomputable def exQ (S:SQ) (ρ:Loc):AV→AHeap→Prop:=fun _ H₁=>S .next ρ H₁
@[reducible] noncomputable def retQ (S:SQ) (ρ:Loc):AV→AHeap→Prop:=fun v H₁=>S (.ret v) ρ H₁
@[reducible] noncomputable def loopQ (C:CallSem) (tg:Tgt) (body:SL) (ρ:Loc) (S:SQ):It→AHeap→Prop:=fun it₀ H₁=>loopP C tg body it₀ ρ H₁ S
@[reducible] noncomputable def accQ (acc:List AV) (K:List AV→AHeap→Prop):AV→AHeap→Prop:=fun v H₃=>acc.length < 1000∧K (acc ++ [v]) H₃
@[reducible] noncomputable def emitQ (C:CallSem) (elt:E) (ρ:Loc) (acc:List AV) (K:List AV→AHeap→Prop):Bool→AHeap→Prop:=fun r H₂=>if r then awp C elt ρ H₂ (accQ acc K) nox else K acc H₂
@[reducible] noncomputable def emitC (C:CallSem) (cond:T) (elt:E) (env:Loc):AV→List AV→AHeap→(List AV→AHeap→Prop)→Prop:=fun x acc H' K=>awpT C cond (some x :: env) H' (emitQ C elt (some x :: env) acc K) nox
@[reducible] noncomputable def compQ (C:CallSem) (cond:T) (elt:E) (env:Loc) (Q:AV→AHeap→Prop):It→AHeap→Prop:=fun it₀ H₁=>notSetIt it₀ = true∧∃ n,turns (emitC C cond elt env) n it₀ [] H₁ (listQ Q)
section
variable {C:CallSem} {ρ:Loc} {H:AHeap} {X:AHeap→Prop} {Q:AV→AHeap→Prop}
theorem x_var {i:Nat} {v:AV} (h:ρ[i]? = some (some v)) (q:Q v H):awp C (.var i) ρ H Q X:=⟨v,h,q⟩
theorem x_none (q:Q .none H):awp C .none ρ H Q X:=q
theorem x_bool {b:Bool} (q:Q (.bool b) H):awp C (.bool b) ρ H Q X:=q
theorem x_int {i:Int} (q:Q (.int i) H):awp C (.int i) ρ H Q X:=q
theorem x_str {s:Str} (q:Q (.str s) H):awp C (.str s) ρ H Q X:=q
theorem x_gstr {s:Str} (q:Q (.str s) H):awp C (.gstr s) ρ H Q X:=q
theorem x_pair {a b:E} (h:awp C a ρ H (pairQ C b ρ Q X) X):awp C (.pair a b) ρ H Q X:=h
theorem x_list {es:EL} (h:awps C es ρ H (listQ Q) X):awp C (.list es) ρ H Q X:=h
theorem x_dict0 (h:∀ a g,H a = none→Q (.ref a) (H.set a (.dict [] g))):awp C .dict0 ρ H Q X:=h
theorem x_bin {op:Operator} {a b:E} (h:awp C a ρ H (binQ C b ρ op Q X) X):awp C (.bin op a b) ρ H Q X:=h
theorem x_cmp {op:CmpOp} {a b:E} (h:awp C a ρ H (cmpQ C b ρ op (boolQ Q) X) X):awp C (.cmp a op b) ρ H Q X:=h
theorem x_andv {a b:E} (h:awp C a ρ H (fun x H₁=>TQ H₁ x (fun r H₂=>if r then awp C b ρ H₂ Q X else Q x H₂)) X):awp C (.andv a b) ρ H Q X:=h
theorem x_notv {a:E} (h:awp C a ρ H (fun x H₁=>TQ H₁ x (fun r H₂=>Q (.bool (!r)) H₂)) X):awp C (.notv a) ρ H Q X:=h
theorem x_ite {t:T} {a b:E} (h:awpT C t ρ H (fun r H₁=>if r then awp C a ρ H₁ Q X else awp C b ρ H₁ Q X) X):awp C (.ite t a b) ρ H Q X:=h
theorem x_call {f:Fn} {args:EL} (h:awps C args ρ H (callQ C f Q X) X):awp C (.call f args) ρ H Q X:=h
theorem x_meth {f:Fn} {o:E} {args:EL} (h:awp C o ρ H (methQ C f args ρ Q X) X):awp C (.meth f o args) ρ H Q X:=h
theorem x_newGroup (h:∀ a dx,H a = none→H dx = none→a≠dx→Q (.ref a) ((H.set dx (.ns fun _=>none)).set a (.inst groupC dx))):awp C .newGroup ρ H Q X:=h
theorem x_newBoard {e:E} (h:awp C e ρ H (fun v H₁=>∀ a dx,H₁ a = none→H₁ dx = none→a≠dx→
 C .init [.ref a,v] ((H₁.set dx (.ns fun _=>none)).set a (.inst boardC dx)) (fun r H₂=>r = .none∧Q (.ref a) H₂) X) X):awp C (.newBoard e) ρ H Q X:=h
theorem x_bi {b:Bi} {args:EL} (h:awps C args ρ H (biQ b Q) X):awp C (.bi b args) ρ H Q X:=h
theorem x_bm {b:Bm} {o:E} {args:EL} (h:awp C o ρ H (bmQ C b args ρ Q X) X):awp C (.bm b o args) ρ H Q X:=h
theorem x_attr {o:E} {f:Fld} (h:awp C o ρ H (attrQ f Q) X):awp C (.attr o f) ρ H Q X:=h
theorem x_sub {o i:E} (h:awp C o ρ H (subQ C i ρ Q X) X):awp C (.sub o i) ρ H Q X:=h
theorem x_opp {e:E} (h:awp C e ρ H (fun v H'=>(v = .str (Str.ofString "b")∧Q (.str (Str.ofString "w")) H')∨(v = .str (Str.ofString "w")∧Q (.str (Str.ofString "b")) H')) X):awp C (.opp e) ρ H Q X:=h
theorem x_sliceTo {o hi:E} (h:awp C o ρ H (fun x H₁=>awp C hi ρ H₁ (fun y H₂=>∃ n,y = .int n∧SliceR H₂ Q x 0 (some n)) X) X):awp C (.sliceTo o hi) ρ H Q X:=h
theorem x_sliceFrom {o lo:E} (h:awp C o ρ H (fun x H₁=>awp C lo ρ H₁ (fun y H₂=>∃ n,y = .int n∧SliceR H₂ Q x n none) X) X):awp C (.sliceFrom o lo) ρ H Q X:=h
theorem x_slice {o lo hi:E} (h:awp C o ρ H (fun x H₁=>awp C lo ρ H₁ (fun y H₂=>awp C hi ρ H₂ (fun z H₃=>(X2 fun n m=>A3 (y = .int n) (z = .int m) (SliceR H₃ Q x n (some m)))) X) X) X):awp C (.slice o lo hi) ρ H Q X:=h
theorem x_comp {elt:E} {it:I} {cond:T} {caps:List Nat} (h:awpI C it ρ H (compQ C cond elt (caps.map fun i=>(ρ[i]?).join) Q) X):awp C (.comp elt it cond caps) ρ H Q X:=h
theorem x_comp2 {elt:E} {i₁ i₂:I} {caps:List Nat} (h:awpI C i₁ ρ H (fun it₀ H₁=>notSetIt it₀ = true∧∃ n,turns (fun x acc H' K=>
 awpI C i₂ (some x :: none :: caps.map fun i=>(ρ[i]?).join) H' (fun it₁ H₂=>notSetIt it₁ = true∧∃ m,turns (fun y acc' H'' K'=>
  awp C elt (some x :: some y :: caps.map fun i=>(ρ[i]?).join) H'' (fun v H₃=>acc'.length < 1000∧K' (acc' ++ [v]) H₃) nox) m it₁ acc H₂ K) nox) n it₀ [] H₁
 (fun xs H₂=>NewR H₂ Q (.list xs))) X):awp C (.comp2 elt i₁ i₂ caps) ρ H Q X:=h
theorem x_joinmap {e:E} (h:awp C e ρ H (fun v H₁=>(X2 fun a xs=>A3 (v = .ref a) (H₁ a = some (.list xs)) (∃ n,turns (fun x acc H' K=>C .format_vertex [x] H' (fun r H''=>acc.length < 100∧(∃ s,r = .str s∧s.length≤10)∧K (acc ++ [r]) H'') nox) n (.list a 0) [] H₁ (fun vs H₂=>
 Q (.str (Txt.join (Str.ofString ",") (vs.filterMap fun | .str s=>some s | _=>none))) H₂)))) X):awp C (.joinmap e) ρ H Q X:=h
theorem if_tt {A B:Prop} (h:A):if true = true then A else B:=by refine wat (if_pos rfl) ?_;exact h
theorem if_ff {A B:Prop} (h:B):if false = true then A else B:=by refine wat (if_neg (by decide)) ?_;exact h
theorem if_dec {p:Prop} [Decidable p] {A B:Prop} (h1:p→A) (h2:¬p→B):if decide p = true then A else B:=by
 by_cases h:p
 · refine wat (if_pos (decide_eq_true h)) ?_;exact h1 h
 · refine wat (if_neg (by simpa using h)) ?_;exact h2 h
theorem if_not {p:Prop} [Decidable p] {A B:Prop} (h1:¬p→A) (h2:p→B):if (!decide p) = true then A else B:=by
 by_cases h:p
 · refine wat (if_neg (by simpa using h)) ?_;exact h2 h
 · refine wat (if_pos (by simpa using h)) ?_;exact h1 h
theorem if_bool {r:Bool} {A B:Prop} (h1:r = true→A) (h2:r = false→B):if r = true then A else B:=by
 cases r with
 | true=>exact h1 rfl
 | false=>exact h2 rfl
variable {Qs:List AV→AHeap→Prop}
theorem xs_nil (q:Qs [] H):awps C .nil ρ H Qs X:=q
theorem xs_cons {e:E} {es:EL} (h:awp C e ρ H (consQ C es ρ Qs X) X):awps C (.cons e es) ρ H Qs X:=h
variable {Qt:Bool→AHeap→Prop}
theorem t_e {e:E} (h:awp C e ρ H (truQ Qt) X):awpT C (.e e) ρ H Qt X:=h
theorem t_not {t:T} (h:awpT C t ρ H (notQ Qt) X):awpT C (.not t) ρ H Qt X:=h
theorem t_and {ts:TL} (h:awpAll C ts ρ H Qt X):awpT C (.and ts) ρ H Qt X:=h
theorem t_or {ts:TL} (h:awpAny C ts ρ H Qt X):awpT C (.or ts) ρ H Qt X:=h
theorem t_cmp {a b:E} {op:CmpOp} (h:awp C a ρ H (cmpQ C b ρ op Qt X) X):awpT C (.cmp a op b) ρ H Qt X:=h
theorem t_chain {a b c:E} {o₁ o₂:CmpOp} (h:awp C a ρ H (chainQ C b c ρ o₁ o₂ Qt X) X):awpT C (.chain a o₁ b o₂ c) ρ H Qt X:=h
theorem t_all_nil (q:Qt true H):awpAll C .nil ρ H Qt X:=q
theorem t_all_cons {t:T} {ts:TL} (h:awpT C t ρ H (allQ C ts ρ Qt X) X):awpAll C (.cons t ts) ρ H Qt X:=h
theorem t_any_nil (q:Qt false H):awpAny C .nil ρ H Qt X:=q
theorem t_any_cons {t:T} {ts:TL} (h:awpT C t ρ H (anyQ C ts ρ Qt X) X):awpAny C (.cons t ts) ρ H Qt X:=h
variable {Qi:It→AHeap→Prop}
theorem i_e {e:E} (h:awp C e ρ H (iteQ Qi) X):awpI C (.e e) ρ H Qi X:=h
theorem i_range {e:E} (h:awp C e ρ H (fun v H₁=>(X1 fun n=>A4 (v = .int n) (-1000≤n) (n≤1000) (Qi (.ints (rangeL 0 n 1)) H₁))) X):awpI C (.range e) ρ H Qi X:=h
theorem i_range3 {a b c:E} (h:awp C a ρ H (fun x H₁=>awp C b ρ H₁ (fun y H₂=>awp C c ρ H₂ (fun z H₃=>(X3 fun lo hi st=>A10 (x = .int lo) (y = .int hi) (z = .int st) (0≤lo) (lo≤1000) (0≤hi) (hi≤1000) (1≤st) (st≤1000) (Qi (.ints (rangeL lo hi st)) H₃))) X) X) X):awpI C (.range3 a b c) ρ H Qi X:=h
theorem i_enum {e:E} (h:awp C e ρ H (fun v H₁=>(X2 fun a xs=>A3 (v = .ref a) (H₁ a = some (.list xs)) (Qi (.enum a 0) H₁))) X):awpI C (.enum e) ρ H Qi X:=h
variable {S:SQ}
theorem s_asg {i:Nat} {e:E} (h:awp C e ρ H (asgQ S i ρ) X):swp C (.asg i e) ρ H S X:=h
theorem s_asgN {is:List Nat} {e:E} (h:awp C e ρ H (asgNQ S is ρ) X):swp C (.asgN is e) ρ H S X:=h
theorem s_sattr {o e:E} {f:Fld} (h:awp C e ρ H (setQ C o ρ f S X) X):swp C (.sattr o f e) ρ H S X:=h
theorem s_sitem {o k e:E} (h:awp C e ρ H (itemQ C o k ρ S X) X):swp C (.sitem o k e) ρ H S X:=h
theorem s_ex {e:E} (h:awp C e ρ H (exQ S ρ) X):swp C (.ex e) ρ H S X:=h
theorem s_ite {t:T} {a b:SL} (h:awpT C t ρ H (iteS C a b ρ S X) X):swp C (.ite t a b) ρ H S X:=h
theorem s_loop {tg:Tgt} {it:I} {body:SL} (h:awpI C it ρ H (loopQ C tg body ρ S) X):swp C (.loop tg it body) ρ H S X:=h
theorem s_while {t:T} {body:SL} (h:∃ n,whileW (fun ρ₁ H₁ Q₁=>awpT C t ρ₁ H₁ Q₁ nox) (fun ρ₁ H₁ Q₁=>swps C body ρ₁ H₁ Q₁ nox) n ρ H S):swp C (.while t body) ρ H S X:=h
theorem s_ret {e:E} (h:awp C e ρ H (retQ S ρ) X):swp C (.ret e) ρ H S X:=h
theorem s_brk (q:S .brk ρ H):swp C .brk ρ H S X:=q
theorem s_cont (q:S .cont ρ H):swp C .cont ρ H S X:=q
theorem s_raise (q:X H):swp C .raiseVE ρ H S X:=q
theorem s_try {body:SL} (h:swps C body ρ H S nox):swp C (.try body) ρ H S X:=h
theorem s_tryVE {e:E} {z:Str} (h:awp C e ρ H (fun v H₁=>S (.ret v) ρ H₁) (fun H₁=>S (.ret (.pair (.str z) .none)) ρ H₁)):swp C (.tryVE e z) ρ H S X:=h
theorem ss_nil (q:S .next ρ H):swps C .nil ρ H S X:=q
theorem ss_step {s:Internal.S} {r:SL} (h:swp C s ρ H (thenS C r S X) X):swps C (.cons s r) ρ H S X:=h
end
theorem loop_rule {tg:Tgt} {body:Loc→AHeap→SQ→Prop} {Q:SQ} (inv:Nat→It→Loc→AHeap→Prop)
 (step:∀ m it ρ H,inv m it ρ H→(nextA H it = some none∧Q .next ρ H)∨(X3 fun x it' ρ₁=>A3 (nextA H it = some (some (x,it'))) (bindT tg x ρ = some ρ₁) (∀ R:SQ,(∀ m' ρ₂ H₂,m' < m→inv m' it' ρ₂ H₂→R .next ρ₂ H₂∧R .cont ρ₂ H₂)→(∀ ρ₂ H₂,Q .next ρ₂ H₂→R .brk ρ₂ H₂)→(∀ v ρ₂ H₂,Q (.ret v) ρ₂ H₂→R (.ret v) ρ₂ H₂)→body ρ₁ H R))):
 ∀ n m it ρ H,m < n→inv m it ρ H→loopW tg body n it ρ H Q
 | 0,m,it,ρ,H,h,_=>absurd h (Nat.not_lt_zero m)
 | n + 1,m,it,ρ,H,h,i=>by
   rcases step m it ρ H i with ⟨e,q⟩ | ⟨x,it',ρ₁,e,eb,k⟩
   · unfold loopW;refine wat e ?_;exact q
   · unfold loopW;refine wat e ?_;simp only [eb]
     exact k _ (fun m' ρ₂ H₂ hm i'=>⟨loop_rule inv step n m' it' ρ₂ H₂ (by exact linLt [_,_,_] 1 (.v 2) (.v 1) [.lt 1 (.v 0) (.a (.v 1) (.n 1)),.lt 1 (.v 2) (.v 0)] rfl h hm) i',loop_rule inv step n m' it' ρ₂ H₂ (by exact linLt [_,_,_] 1 (.v 2) (.v 1) [.lt 1 (.v 0) (.a (.v 1) (.n 1)),.lt 1 (.v 2) (.v 0)] rfl h hm) i'⟩) (fun _ _ q=>q) fun _ _ _ q=>q
theorem while_rule {test:Loc→AHeap→(Bool→AHeap→Prop)→Prop} {body:Loc→AHeap→SQ→Prop} {Q:SQ} (inv:Nat→Loc→AHeap→Prop)
 (step:∀ m ρ H,inv m ρ H→∀ R:Bool→AHeap→Prop,(∀ H₁,Q .next ρ H₁→R false H₁)→(∀ H₁,(∀ R:SQ,(∀ m' ρ₂ H₂,m' < m→inv m' ρ₂ H₂→R .next ρ₂ H₂∧R .cont ρ₂ H₂)→body ρ H₁ R)→R true H₁)→test ρ H R):
 ∀ n m ρ H,m < n→inv m ρ H→whileW test body n ρ H Q
 | 0,m,ρ,H,h,_=>absurd h (Nat.not_lt_zero m)
 | n + 1,m,ρ,H,h,i=>by
   unfold whileW
   refine step m ρ H i _ (fun H₁ q=>by simpa using q) fun H₁ k=>?_
   refine wat (if_pos rfl) ?_
   exact k _ fun m' ρ₂ H₂ hm i'=>⟨while_rule inv step n m' ρ₂ H₂ (by exact linLt [_,_,_] 1 (.v 2) (.v 1) [.lt 1 (.v 0) (.a (.v 1) (.n 1)),.lt 1 (.v 2) (.v 0)] rfl h hm) i',while_rule inv step n m' ρ₂ H₂ (by exact linLt [_,_,_] 1 (.v 2) (.v 1) [.lt 1 (.v 0) (.a (.v 1) (.n 1)),.lt 1 (.v 2) (.v 0)] rfl h hm) i'⟩
theorem turns_rule {emit:AV→List AV→AHeap→(List AV→AHeap→Prop)→Prop} {K:List AV→AHeap→Prop} (inv:Nat→It→List AV→AHeap→Prop)
 (step:∀ m it acc H,inv m it acc H→(nextA H it = some none∧K acc H)∨(X2 fun x it'=>A2 (nextA H it = some (some (x,it'))) (∀ R:List AV→AHeap→Prop,(∀ m' acc' H',m' < m→inv m' it' acc' H'→R acc' H')→emit x acc H R))):
 ∀ n m it acc H,m < n→inv m it acc H→turns emit n it acc H K
 | 0,m,it,acc,H,h,_=>absurd h (Nat.not_lt_zero m)
 | n + 1,m,it,acc,H,h,i=>by
   rcases step m it acc H i with ⟨e,q⟩ | ⟨x,it',e,k⟩
   · unfold turns;refine wat e ?_;exact q
   · unfold turns;refine wat e ?_
     exact k _ fun m' acc' H' hm i'=>turns_rule inv step n m' it' acc' H' (by exact linLt [_,_,_] 1 (.v 2) (.v 1) [.lt 1 (.v 0) (.a (.v 1) (.n 1)),.lt 1 (.v 2) (.v 0)] rfl h hm) i'
noncomputable def Grow (H H':AHeap):Prop:=∀ b o,H b = some o→H' b = some o
theorem Grow.refl (H:AHeap):Grow H H:=fun _ _ e=>e
theorem Grow.trans {H H₁ H₂:AHeap} (x:Grow H H₁) (y:Grow H₁ H₂):Grow H H₂:=fun b o e=>y b o (x b o e)
theorem Grow.new {H:AHeap} {a:Addr} {o:AO} (h:H a = none):Grow H (H.set a o):=fun b ob e=>by rw [AHeap.set_ne];exact e;rintro rfl;rw [h] at e;cases e
theorem Grow.fresh {H H':AHeap} (x:Grow H H') {a:Addr} (h:H' a = none):H a = none:=by
 cases e:H a with
 | none=>rfl
 | some o=>rw [x a o e] at h;cases h
noncomputable def Keep (S:List Addr) (H H':AHeap):Prop:=∀ b o,b∉S→H b = some o→H' b = some o
theorem Keep.refl (S:List Addr) (H:AHeap):Keep S H H:=fun _ _ _ e=>e
theorem Keep.trans {S:List Addr} {H H₁ H₂:AHeap} (x:Keep S H H₁) (y:Keep S H₁ H₂):Keep S H H₂:=fun b o n e=>y b o n (x b o n e)
theorem Grow.keep {S:List Addr} {H H':AHeap} (x:Grow H H'):Keep S H H':=fun b o _ e=>x b o e
theorem Keep.put {S:List Addr} {H:AHeap} {a:Addr} {o:AO} (h:a∈S):Keep S H (H.set a o):=fun b ob n e=>by rw [AHeap.set_ne];exact e;rintro rfl;exact n h
theorem Keep.mono {S T:List Addr} {H H':AHeap} (x:Keep S H H') (h:∀ a∈S,a∈T):Keep T H H':=fun b o n e=>x b o (fun m=>n (h b m)) e
theorem new_intro {H:AHeap} {Q:AV→AHeap→Prop} {o:AO} (h:∀ a H',H a = none→H' a = some o→Grow H H'→Q (.ref a) H'):NewR H Q o:=
 fun a ha=>h a _ ha (AHeap.set_self ..) (Grow.new ha)
variable {H:AHeap} {Q:AV→AHeap→Prop} {X:AHeap→Prop}
theorem c_call {n:Nat} {f:Fn} {args:List AV} (hl:args.length = (fns f).params)
 (h:swps (callWp fns n) (fns f).body (args.map some ++ List.replicate ((fns f).vars.length - (fns f).params) none) H (retS Q) X):callWp fns (n + 1) f args H Q X:=⟨hl,h⟩
noncomputable def inside (side:Int) (q:Pt):Bool:=(decide (0≤q.1) && decide (q.1 < side)) && (decide (0≤q.2) && decide (q.2 < side))
noncomputable def around (p:Pt):List Pt:=[(p.1 - 1,p.2),(p.1 + 1,p.2),(p.1,p.2 - 1),(p.1,p.2 + 1)]
noncomputable def nbrs (side:Int) (p:Pt):List Pt:=(around p).filter (inside side)
noncomputable def Walk (A:AHeap→Prop) (mk:Nat→It) (xs:List AV):Prop:=∀ H,A H→∀ i,nextA H (mk i) = match xs[i]? with
 | some x=>some (some (x,mk (i + 1)))
 | none=>some none
theorem walk_list (a:Addr) (xs:List AV):Walk (fun H=>H a = some (.list xs)) (.list a) xs:=fun H h i=>by
 refine wat (nextA_list h) ?_;cases xs[i]?<;>rfl
theorem walk_dict (a:Addr) (es:List (Pt×AV)) (g:Obj):Walk (fun H=>H a = some (.dict es g)) (.dict a es g) (es.map fun e=>.pt e.1):=fun H h i=>by
 refine wat (nextA_dict h) (wat (List.getElem?_map) ?_);cases es[i]?<;>rfl
theorem walk_set (a:Addr) (S:List Pt) (g:Obj) (S':List Pt):Walk (fun H=>H a = some (.set S g)) (fun i=>.set a S g (S'.drop i)) (S'.map AV.pt):=fun H h i=>by
 refine wat (nextA_set h) (wat (List.getElem?_map) ?_)
 cases e:S'[i]? with
 | none=>refine wat (List.drop_eq_nil_of_le (List.getElem?_eq_none_iff.mp e)) ?_;rfl
 | some x=>
   obtain ⟨hi,rfl⟩:=List.getElem?_eq_some_iff.mp e
   refine wat (List.drop_eq_getElem_cons hi) ?_;rfl
theorem walk_ints (ns:List Int):Walk (fun _=>True) (fun i=>.ints (ns.drop i)) (ns.map .int):=fun H _ i=>by
 simp only [List.getElem?_map]
 cases e:ns[i]? with
 | none=>refine wat (List.drop_eq_nil_of_le (List.getElem?_eq_none_iff.mp e)) ?_;rfl
 | some x=>
   obtain ⟨hi,rfl⟩:=List.getElem?_eq_some_iff.mp e
   refine wat (List.drop_eq_getElem_cons hi) ?_;rfl
theorem comp_rule {α:Type} {enc:α→AV} {emit:AV→List AV→AHeap→(List AV→AHeap→Prop)→Prop} {K:List AV→AHeap→Prop} {H:AHeap} {A:AHeap→Prop} {mk:Nat→It} (ps:List α) (f:α→Option AV) (wk:Walk A mk (ps.map enc)) (hA:∀ H',Grow H H'→A H')
 (step:∀ p∈ps,∀ acc H' (R:List AV→AHeap→Prop),Grow H H'→acc.length≤ps.length→(∀ H'',Grow H H''→R (acc ++ (f p).toList) H'')→emit (enc p) acc H' R) (k:∀ H',Grow H H'→K (ps.filterMap f) H'):∃ n,turns emit n (mk 0) [] H K:=by
 refine ⟨ps.length + 1,turns_rule (fun m it acc H'=>Grow H H'∧(X1 fun i=>A4 (it = mk i) (i≤ps.length) (m = ps.length - i) (acc = (ps.take i).filterMap f))) ?_ _ ps.length _ _ _ (Nat.lt_succ_self _) ⟨.refl H,0,rfl,Nat.zero_le _,rfl,by simp⟩⟩
 rintro m it acc H' ⟨hg,i,rfl,hi,rfl,rfl⟩
 have hn:=wk H' (hA H' hg) i
 rw [List.getElem?_map] at hn
 cases e:ps[i]? with
 | none=>
   rw [e] at hn
   refine .inl ⟨hn,?_⟩
   refine wat (List.take_of_length_le (List.getElem?_eq_none_iff.mp e)) ?_
   exact k H' hg
 | some x=>
   rw [e] at hn
   refine bc fun nG=>?_
   obtain ⟨h,rfl⟩:=List.getElem?_eq_some_iff.mp e
   refine nG ?_
   refine .inr ⟨_,_,hn,fun R hR=>step _ (List.getElem_mem h) _ H' R hg ?_ fun H'' hg''=>hR (ps.length - (i + 1)) _ H'' (by exact Nat.sub_succ_lt_self _ _ ‹_›) ⟨hg'',i + 1,rfl,h,rfl,?_⟩⟩
   · exact Nat.le_trans (List.length_filterMap_le _ _) (Nat.le_trans (List.length_take_le ..) ‹_›)
   · refine wat (List.take_succ_eq_append_getElem h) (wat List.filterMap_append ?_)
     simp only [List.filterMap_cons,List.filterMap_nil]
     cases f ps[i]<;>rfl
theorem filterMap_if {α β:Type} (b:α→Bool) (out:α→β):∀ ps:List α,ps.filterMap (fun p=>if b p then some (out p) else none) = (ps.filter b).map out
 | []=>rfl
 | p :: ps=>by
   have ih:=filterMap_if b out ps
   by_cases h:b p = true<;>simp [h,ih]
theorem comp_filter {α:Type} {enc:α→AV} {emit:AV→List AV→AHeap→(List AV→AHeap→Prop)→Prop} {Q:AV→AHeap→Prop} {H:AHeap} {A:AHeap→Prop} {mk:Nat→It} (ps:List α) (b:α→Bool) (out:α→AV) (wk:Walk A mk (ps.map enc)) (hA:∀ H',Grow H H'→A H') (hl:ps.length < 1000)
 (step:∀ p∈ps,∀ acc H' (R:List AV→AHeap→Prop),Grow H H'→acc.length < 1000→(b p = false→∀ H'',Grow H' H''→R acc H'')→(b p = true→∀ H'',Grow H' H''→R (acc ++ [out p]) H'')→emit (enc p) acc H' R)
 (k:∀ a H',H a = none→H' a = some (.list ((ps.filter b).map out))→Grow H H'→Q (.ref a) H'):∃ n,turns emit n (mk 0) [] H fun xs H'=>NewR H' Q (.list xs):=by
 refine comp_rule ps (fun p=>if b p then some (out p) else none) wk hA (fun p hp acc H' R g hacc hR=>step p hp acc H' R g (Nat.lt_of_le_of_lt hacc hl) (fun hb H'' g'=>?_) fun hb H'' g'=>?_) fun H' g=>new_intro fun a H'' ha h g'=>?_
 · have:=hR H'' (g.trans g');rw [hb] at this;simpa using this
 · have:=hR H'' (g.trans g');rw [hb] at this;simpa using this
 · exact k a H'' (g.fresh ha) (by rw [h,filterMap_if]) (g.trans g')
inductive StepW (tg:Tgt) (body:Loc→AHeap→SQ→Prop) (x:AV) (ρ:Loc) (H:AHeap) (R:SQ):Prop
 | mk (ρ₁:Loc):bindT tg x ρ = some ρ₁→body ρ₁ H R→StepW tg body x ρ H R
theorem for_rule {tg:Tgt} {body:Loc→AHeap→SQ→Prop} {Q:SQ} {A:AHeap→Prop} {mk:Nat→It} {xs:List AV} (inv:Nat→Loc→AHeap→Prop) (wk:Walk A mk xs) {ρ:Loc} {H:AHeap} (h0:inv 0 ρ H) (hA:∀ i ρ H,inv i ρ H→A H)
 (step:∀ i x ρ H,xs[i]? = some x→inv i ρ H→∀ R:SQ,(∀ ρ₂ H₂,inv (i + 1) ρ₂ H₂→R .next ρ₂ H₂∧R .cont ρ₂ H₂)→(∀ ρ₂ H₂,Q .next ρ₂ H₂→R .brk ρ₂ H₂)→(∀ v ρ₂ H₂,Q (.ret v) ρ₂ H₂→R (.ret v) ρ₂ H₂)→StepW tg body x ρ H R)
 (fin:∀ ρ H,inv xs.length ρ H→Q .next ρ H):∃ n,loopW tg body n (mk 0) ρ H Q:=by
 refine ⟨xs.length + 1,loop_rule (fun m it ρ H=>(X1 fun i=>A4 (it = mk i) (i≤xs.length) (m = xs.length - i) (inv i ρ H))) ?_ _ xs.length _ _ _ (Nat.lt_succ_self _) ⟨0,rfl,Nat.zero_le _,rfl,h0⟩⟩
 rintro m it ρ H ⟨i,rfl,hi,rfl,hv⟩
 have hn:=wk H (hA i ρ H hv) i
 cases e:xs[i]? with
 | none=>
   rw [e] at hn
   have:i = xs.length:=Nat.le_antisymm hi (List.getElem?_eq_none_iff.mp e)
   exact .inl ⟨hn,fin ρ H (this▸hv)⟩
 | some x=>
   rw [e] at hn
   have hlt:=(List.getElem?_eq_some_iff.mp e).1
   refine bc fun nG=>?_
   obtain ⟨ρ₁,hb,_⟩:=step i x ρ H e hv (fun _ _ _=>True) (fun _ _ _=>⟨trivial,trivial⟩) (fun _ _ _=>trivial) (fun _ _ _ _=>trivial)
   refine nG ?_
   refine .inr ⟨x,_,ρ₁,hn,hb,fun R r1 r2 r3=>?_⟩
   obtain ⟨ρ₂,hb₂,k⟩:=step i x ρ H e hv R (fun ρ₂ H₂ hv'=>r1 (xs.length - (i + 1)) ρ₂ H₂ (by exact Nat.sub_succ_lt_self _ _ ‹_›) ⟨i + 1,rfl,hlt,rfl,hv'⟩) r2 r3
   rw [hb] at hb₂
   obtain rfl:=Option.some.inj hb₂
   exact k
theorem c_near {n:Nat} {p:Pt} {side:Int} (q:∀ a H',H a = none→H' a = some (.list ((nbrs side p).map AV.pt))→Grow H H'→Q (.ref a) H'):callWp fns (n + 1) .near [.pt p,.int side] H Q X:=by
 refine c_call rfl ?_
 refine ss_step (s_asgN (x_var rfl ⟨_,UnpackR.pair _ _,(ss_step (s_asg (x_list (xs_cons (x_pair (x_bin (x_var rfl (x_int (BinR.subI (x_var rfl (xs_cons (x_pair (x_bin (x_var rfl (x_int (BinR.addI (x_var rfl (xs_cons (x_pair (x_var rfl (x_bin (x_var rfl (x_int (BinR.subI (xs_cons (x_pair (x_var rfl (x_bin (x_var rfl (x_int (BinR.addI (xs_nil ?_))))))))))))))))))))))))))))))))⟩))
 refine new_intro fun a H₁ ha h₁ g₁=>?_
 refine ss_step (s_ret (x_comp (i_e (x_var rfl ?_))))
 refine .list h₁ ⟨rfl,comp_filter (enc:=AV.pt) (around p) (inside side) AV.pt (walk_list a _) (fun H' g=>g _ _ h₁) (show 4 < 1000 by decide) (fun x hx acc H' R g hl' no yes=>?_) fun a' H₂ ha' h₂ g₂=>q a' H₂ (g₁.fresh ha') h₂ (g₁.trans g₂)⟩
 have no:inside side x = false→R acc H':=fun h=>no h H' (.refl _)
 refine t_and (t_all_cons (t_chain (x_int (x_sub (x_var rfl (x_int ⟨_,SubR.fst _ _,⟨_,CmpR.leI _ _,?_⟩⟩))))))
 refine if_dec (fun h1=>?_) fun h1=>no (by simp [inside,h1])
 refine x_var rfl ⟨_,CmpR.ltI _ _,?_⟩
 refine if_dec (fun h2=>?_) fun h2=>no (by simp [inside,h2])
 refine t_all_cons (t_chain (x_int (x_sub (x_var rfl (x_int ⟨_,SubR.snd _ _,⟨_,CmpR.leI _ _,?_⟩⟩)))))
 refine if_dec (fun h3=>?_) fun h3=>no (by simp [inside,h3])
 refine x_var rfl ⟨_,CmpR.ltI _ _,?_⟩
 refine if_dec (fun h4=>?_) fun h4=>no (by simp [inside,h4])
 refine t_all_nil (if_tt (x_var rfl ?_))
 exact ⟨hl',yes (by simp [inside,h1,h2,h3,h4]) H' (.refl _)⟩
inductive Col where
 | b | w
 deriving DecidableEq
noncomputable def Col.s:Col→Str
 | .b=>Str.ofString "b"
 | .w=>Str.ofString "w"
@[reducible] noncomputable def Col.av (c:Col):AV:=.str c.s
noncomputable def Col.opp:Col→Col
 | .b=>.w
 | .w=>.b
theorem Col.s_inj {c d:Col} (h:c.s = d.s):c = d:=by
 cases c<;>cases d<;>first | rfl | exact absurd h (by decide)
@[reducible] noncomputable def oC (c:Col):Option AV:=some c.av
abbrev Stones:=List (Pt×Col)
noncomputable def avs (es:Stones):List (Pt×AV):=es.map fun e=>(e.1,e.2.av)
theorem avs_lookup (es:Stones) (p:Pt):(avs es).lookup p = (es.lookup p).map Col.av:=by
 induction es with
 | nil=>rfl
 | cons e es ih=>
   obtain ⟨q,c⟩:=e
   simp only [avs,List.map_cons,List.lookup_cons] at ih ⊢
   by_cases h:(p == q) = true
   · simp [h]
   · simp only [h];exact ih
theorem avs_keys (es:Stones):(avs es).map (fun e=>AV.pt e.1) = (es.map (·.1)).map AV.pt:=by
 simp [avs,List.map_map]
noncomputable def DictAt (H:AHeap) (d:Addr) (es:Stones):Prop:=∃ g,H d = some (.dict (avs es) g)
theorem DictAt.grow {H H':AHeap} {d:Addr} {es:Stones} (h:DictAt H d es) (g:Grow H H'):DictAt H' d es:=let ⟨o,e⟩:=h;⟨o,g _ _ e⟩
theorem c_rows {n:Nat} {d pa:Addr} {es:Stones} {ps:List Pt} (hd:DictAt H d es) (hp:H pa = some (.list (ps.map AV.pt))) (hl:ps.length < 1000)
 (q:∀ a H',H a = none→H' a = some (.list (ps.filterMap fun p=>(es.lookup p).map fun c=>.pair c.av (.pt p)))→Grow H H'→Q (.ref a) H'):callWp fns (n + 1) .rows [.ref d,.ref pa] H Q X:=by
 refine c_call rfl ?_
 refine ss_step (s_ret (x_comp (i_e (x_var rfl ?_))))
 refine bc fun nG=>?_
 obtain ⟨g,hd⟩:=hd
 refine nG ?_
 refine .list hp ⟨rfl,comp_rule (enc:=AV.pt) ps (fun p=>(es.lookup p).map fun c=>.pair c.av (.pt p)) (walk_list pa _) (fun H' g=>g _ _ hp) (fun x hx acc H' R g hacc hR=>?_) fun H' g=>new_intro fun a H'' ha h g'=>?_⟩
 · refine t_cmp (x_var rfl (x_var rfl ?_))
   have hd':=g _ _ hd
   refine ⟨_,.in (.dict hd'),?_⟩
   rw [avs_lookup,Option.isSome_map]
   have hR:=hR H' g
   cases hc:es.lookup x with
   | none=>rw [hc] at hR;exact if_ff (by simpa using hR)
   | some c=>
     rw [hc] at hR
     refine if_tt ?_
     refine x_pair (x_sub (x_var rfl (x_var rfl ?_)))
     refine ⟨_,.dict hd' (by rw [avs_lookup,hc];rfl),?_⟩
     refine x_var rfl ?_
     exact ⟨Nat.lt_of_le_of_lt hacc hl,hR⟩
 · exact q a H'' (g.fresh ha) h (g.trans g')
theorem Col.plain (c:Col):c.av.plain = true:=by cases c<;>decide +kernel
theorem look_plain (es:Stones) (p:Pt):(((avs es).lookup p).getD .none).plain = true:=by
 rw [avs_lookup]
 cases es.lookup p with
 | none=>rfl
 | some c=>exact c.plain
theorem look_eq (es:Stones) (p:Pt) (c:Col):decide (((avs es).lookup p).getD .none = c.av) = decide (es.lookup p = some c):=by
 rw [avs_lookup,decide_eq_decide]
 cases es.lookup p with
 | none=>simp
 | some d=>
   simp only [Option.map_some,Option.getD_some,AV.str.injEq,Option.some.injEq]
   exact ⟨Col.s_inj,fun h=>by exact wat h rfl⟩
theorem c_ofColour {n:Nat} {d pa:Addr} {es:Stones} {ps:List Pt} {c:Col} (hd:DictAt H d es) (hp:H pa = some (.list (ps.map AV.pt))) (hl:ps.length < 1000)
 (q:∀ a H',H a = none→H' a = some (.list ((ps.filter fun p=>decide (es.lookup p = some c)).map AV.pt))→Grow H H'→Q (.ref a) H'):callWp fns (n + 1) .ofColour [.ref d,.ref pa,c.av] H Q X:=by
 refine c_call rfl ?_
 refine ss_step (s_ret (x_comp (i_e (x_var rfl ?_))))
 refine bc fun nG=>?_
 obtain ⟨g,hd⟩:=hd
 refine nG ?_
 refine .list hp ⟨rfl,comp_filter (enc:=AV.pt) ps (fun p=>decide (es.lookup p = some c)) AV.pt (walk_list pa _) (fun H' g=>g _ _ hp) hl (fun x hx acc H' R g hl' no yes=>?_) q⟩
 refine t_cmp (x_bm (x_var rfl ?_))
 have hd':=g _ _ hd
 refine ⟨⟨_,_,_,rfl,hd'⟩,?_⟩
 refine xs_cons (x_var rfl (xs_nil ?_))
 refine .get hd' ?_
 refine x_var rfl ?_
 refine ⟨_,.eq (.plain (look_plain es x) c.plain),?_⟩
 refine wat (look_eq es x c) ?_
 refine if_dec (fun h=>?_) fun h=>no (by simp [h]) H' (.refl _)
 refine x_var rfl ?_
 exact ⟨hl',yes (by simp [h]) H' (.refl _)⟩
noncomputable def HasAt (H:AHeap) (k:AV) (b:Pt→Bool):Prop:=∀ H' p,Grow H H'→InR H' (.pt p) k (b p)
theorem pt_inj {p q:Pt} (h:AV.pt p = AV.pt q):p = q:=by
 obtain ⟨a,b⟩:=p;obtain ⟨c,d⟩:=q
 simp only [AV.pair.injEq,AV.int.injEq] at h
 exact Prod.ext h.1 h.2
theorem pt_mem {p:Pt} {ps:List Pt}:AV.pt p∈ps.map AV.pt↔p∈ps:=by
 rw [List.mem_map]
 exact ⟨fun ⟨q,hq,e⟩=>pt_inj e▸hq,fun h=>⟨p,h,rfl⟩⟩
theorem pts_plain (ps:List Pt):(ps.map AV.pt).all AV.plain = true:=by
 rw [List.all_eq_true]
 intro x hx
 obtain ⟨p,_,rfl⟩:=List.mem_map.mp hx
 rfl
theorem HasAt.list {H:AHeap} {a:Addr} {ps:List Pt} (h:H a = some (.list (ps.map AV.pt))):HasAt H (.ref a) fun p=>decide (p∈ps):=fun H' p g=>by
 have:=InR.list (H:=H') (x:=AV.pt p) (g _ _ h) rfl (pts_plain ps)
 rwa [show decide (AV.pt p∈ps.map AV.pt) = decide (p∈ps) from by rw [decide_eq_decide];exact pt_mem] at this
theorem HasAt.dict {H:AHeap} {d:Addr} {es:Stones} (h:DictAt H d es):HasAt H (.ref d) fun p=>(es.lookup p).isSome:=fun H' p g=>by
 obtain ⟨o,h⟩:=h
 have:=InR.dict (H:=H') (r:=p.1) (c:=p.2) (g _ _ h)
 rwa [avs_lookup,Option.isSome_map] at this
theorem putD_new {es:Stones} {p:Pt} {c:Col} (h:es.lookup p = none):putD (avs es) p c.av = avs (es ++ [(p,c)]):=by
 unfold putD
 rw [avs_lookup,h]
 simp [avs]
theorem nodup_look {es:Stones} (hn:(es.map (·.1)).Nodup) {i:Nat} {e:Pt×Col} (h:es[i]? = some e):es.lookup e.1 = some e.2:=by
 induction es generalizing i with
 | nil=>simp at h
 | cons x es ih=>
   obtain ⟨p,c⟩:=x
   simp only [List.map_cons,List.nodup_cons] at hn
   cases i with
   | zero=>simp at h;subst h;simp [List.lookup_cons]
   | succ i=>
     have h':es[i]? = some e:=by simpa using h
     have:e.1≠p:=by
      rintro rfl
      exact hn.1 (List.mem_map.mpr ⟨e,List.mem_of_getElem? h',rfl⟩)
     simp only [List.lookup_cons,beq_eq_false_iff_ne.mpr this]
     exact ih hn.2 h'
theorem look_none {es:Stones} {p:Pt}:es.lookup p = none↔p∉es.map (·.1):=by
 induction es with
 | nil=>simp
 | cons x es ih=>
   obtain ⟨q,c⟩:=x
   by_cases h:p = q
   · subst h;simp [List.lookup_cons]
   · simp [List.lookup_cons,beq_eq_false_iff_ne.mpr h,h,ih]
theorem Grow.put {H H':AHeap} (g:Grow H H') {a:Addr} (ha:H a = none) (o:AO):Grow H (H'.set a o):=fun b ob e=>by
 refine wat (AHeap.set_ne _ _ (by rintro rfl;rw [ha] at e;cases e)) ?_;exact g b ob e
theorem walk_key {es:Stones} {i:Nat} {x:AV} (h:((avs es).map fun e=>AV.pt e.1)[i]? = some x):∃ e,es[i]? = some e∧x = .pt e.1:=by
 simp only [avs,List.map_map,List.getElem?_map,Option.map_eq_some_iff] at h
 refine bc fun nG=>?_
 obtain ⟨e,he,rfl⟩:=h
 refine nG ?_
 exact ⟨e,he,rfl⟩
set_option tactic.hygienic true in
theorem fresh_key {es:Stones} (hn:(es.map (·.1)).Nodup) {i:Nat} {e:Pt×Col} (h:es[i]? = some e) (b:Pt×Col→Bool):((es.take i).filter b).lookup e.1 = none:=by
 rw [look_none]
 intro hm
 obtain ⟨f,hf,he⟩:=List.mem_map.mp hm
 have hf:=(List.mem_filter.mp hf).1
 obtain ⟨j,hj⟩:=List.mem_iff_getElem?.mp hf
 rw [List.getElem?_take] at hj
 split at hj
 · rename_i hlt
   have h1:(es.map (·.1))[j]? = some e.1:=by refine wat (List.getElem?_map) (wat hj ?_);simp [he]
   have h2:(es.map (·.1))[i]? = some e.1:=by refine wat (List.getElem?_map) (wat h ?_);rfl
   have:=(List.getElem?_inj (List.getElem?_eq_some_iff.mp h1).1 hn).mp (h1.trans h2.symm)
   exact linF [_,_] [.lt 1 (.v 0) (.v 1),.ge 1 (.v 0) (.v 1)] rfl hlt this
 · cases hj
theorem c_only {n:Nat} {d:Addr} {k:AV} {b:Pt→Bool} {es:Stones} (hd:DictAt H d es) (hn:(es.map (·.1)).Nodup) (hl:es.length < 1000) (hk:HasAt H k b)
 (q:∀ a H',H a = none→DictAt H' a (es.filter fun e=>b e.1)→Grow H H'→Q (.ref a) H'):callWp fns (n + 1) .only [.ref d,k] H Q X:=by
 refine c_call rfl ?_
 refine ss_step (s_asg (x_dict0 ?_))
 intro a g₀ ha
 obtain ⟨g,hd⟩:=hd
 have g1:Grow H (H.set a (.dict [] g₀)):=Grow.new ha
 refine ss_step (s_loop (i_e (x_var rfl ?_)))
 refine .dict (g1 _ _ hd) ?_
 refine for_rule (fun i ρ H'=>(X1 fun w=>A3 (ρ = [some (.ref d),some k,some (.ref a),w]) (DictAt H' a ((es.take i).filter fun e=>b e.1)) (Grow H H'))) (walk_dict d (avs es) g) ⟨_,rfl,⟨g₀,by simpa [avs] using AHeap.set_self H a _⟩,g1⟩ (fun i ρ H' h=>by obtain ⟨_,_,_,g⟩:=h;exact g _ _ hd) (fun i x ρ H' hx hi R r1 r2 r3=>?_) fun ρ H' hi=>?_
 · obtain ⟨w,rfl,⟨g₂,ha₂⟩,gr⟩:=hi
   obtain ⟨e,he,rfl⟩:=walk_key hx
   have hlt:=(List.getElem?_eq_some_iff.mp he).1
   refine ⟨_,rfl,?_⟩
   refine ss_step (s_ite (t_cmp (x_var rfl (x_var rfl ?_))))
   refine ⟨_,.in (hk H' e.1 gr),?_⟩
   refine if_bool (fun h=>?_) fun h=>?_
   · refine ss_step (s_sitem (x_sub (x_var rfl (x_var rfl ?_))))
     refine ⟨_,.dict (gr _ _ hd) (by rw [avs_lookup,nodup_look hn he];rfl),?_⟩
     refine x_var rfl (x_var rfl ?_)
     refine .dict ha₂ (by simp only [avs,List.length_map];exact Nat.le_trans (List.length_filter_le ..) (Nat.le_trans (List.length_take_le ..) (by exact linLe [_,_] 1 (.v 1) (.n 1000) [.lt 1 (.v 0) (.n 1000),.lt 1 (.v 1) (.v 0)] rfl hl hlt))) fun g'=>?_
     refine ss_nil (ss_nil ?_)
     refine (r1 _ _ ⟨_,rfl,⟨g',?_⟩,gr.put ha _⟩).1
     rw [AHeap.set_self,putD_new (fresh_key hn he _),List.take_add_one,he,List.filter_append]
     simp [h]
   · refine ss_nil (ss_nil ?_)
     refine (r1 _ _ ⟨_,rfl,⟨g₂,?_⟩,gr⟩).1
     rw [ha₂,List.take_add_one,he,List.filter_append]
     simp [h]
 · obtain ⟨w,rfl,ha₂,gr⟩:=hi
   refine ss_step (s_ret (x_var rfl ?_))
   refine q a H' ha ?_ gr
   rwa [show ((avs es).map fun e=>AV.pt e.1).length = es.length from by simp [avs],List.take_length] at ha₂
theorem walk_enum (a:Addr) (xs:List AV):Walk (fun H=>H a = some (.list xs)) (.enum a) (xs.mapIdx fun (i:Nat) x=>.pair (.int i) x):=fun H h i=>by
 refine wat (nextA_enum h) (wat (List.getElem?_mapIdx) ?_)
 cases xs[i]?<;>rfl
theorem c_order {n:Nat} {ta na:Addr} {ps:List Pt} {ns:List Int} (ht:H ta = some (.list (ps.map AV.pt))) (hn:H na = some (.list (ns.map .int))) (hl:ps.length≤ns.length) (hl':ps.length < 100)
 (q:∀ a H' (L:List Pt),H a = none→L.Perm ps→H' a = some (.list (L.map AV.pt))→Grow H H'→Q (.ref a) H'):callWp fns (n + 1) .order [.ref ta,.ref na] H Q X:=by
 refine c_call rfl ?_
 refine ss_step (s_asg (x_list (xs_nil ?_)))
 refine new_intro fun a H₁ ha h₁ g₁=>?_
 refine ss_step (s_loop (i_enum (x_var rfl ?_)))
 refine ⟨_,_,rfl,g₁ _ _ ht,?_⟩
 refine for_rule (fun i ρ H'=>(X2 fun w w'=>A3 (ρ = (l5 (oR ta) (oR na) (oR a) w w')) ((∃ L:List Pt,L.Perm (ps.take i)∧H' a = some (.list (L.map AV.pt)))) (Grow H H'))) (walk_enum ta (ps.map AV.pt)) ⟨_,_,rfl,⟨[],.refl _,h₁⟩,g₁⟩ (fun i ρ H' h=>by obtain ⟨_,_,_,_,g⟩:=h;exact g _ _ ht) (fun i x ρ H' hx hi R r1 r2 r3=>?_) fun ρ H' hi=>?_
 · obtain ⟨w,w',rfl,⟨L,hL,hLa⟩,gr⟩:=hi
   rw [List.getElem?_mapIdx,List.getElem?_map,Option.map_map] at hx
   obtain ⟨p,hp,rfl⟩:=Option.map_eq_some_iff.mp hx
   have hlt:=(List.getElem?_eq_some_iff.mp hp).1
   have hln:L.length = i:=by refine wat hL.length_eq (wat List.length_take ?_);exact Nat.le_antisymm (linLe [_,_] 1 (.v 0) (.v 1) [.le 1 (.v 0) (.v 1)] rfl (Nat.min_le_left i ps.length)) (linLe [_,_] 1 (.v 1) (.v 0) [.ge 1 (.v 0) (.v 1)] rfl (Nat.min_eq_left (linLe [_,_] 1 (.v 0) (.v 1) [.lt 1 (.v 0) (.v 1)] rfl hlt)))
   refine ⟨_,rfl,?_⟩
   refine ss_step (s_ex (x_bm (x_var rfl ?_)))
   refine ⟨⟨_,_,rfl,hLa⟩,?_⟩
   refine xs_cons (x_bin (x_sub (x_var rfl (x_var rfl ?_))))
   refine ⟨_,.list (gr _ _ hn) (Int.natCast_nonneg i) (by omega) (by rw [Int.toNat_natCast,List.getElem?_map,List.getElem?_eq_getElem (by exact Nat.lt_of_lt_of_le ‹_› ‹_›)];rfl),?_⟩
   refine x_bin (x_var rfl (x_int (BinR.addI ?_)))
   refine .modI (by omega) (by omega) ?_
   refine xs_cons (x_var rfl (xs_nil ?_))
   generalize hk:(ns[i]'(by exact Nat.lt_of_lt_of_le ‹_› ‹_›)) % ((i:Int) + 1) = k
   have h0:0≤k:=hk▸Int.emod_nonneg _ (by omega)
   have h1:k < (i:Int) + 1:=hk▸Int.emod_lt_of_pos _ (by omega)
   refine .insert hLa h0 (by rw [List.length_map];omega) (by rw [List.length_map];exact linLe [_,_,_] 1 (.v 2) (.n 1000) [.lt 1 (.v 0) (.n 100),.lt 1 (.v 1) (.v 0),.eq 1 (.v 2) (.v 1)] rfl hl' hlt hln) ?_
   refine ss_nil ?_
   refine (r1 _ _ ⟨_,_,rfl,⟨L.take k.toNat ++ p :: L.drop k.toNat,?_,?_⟩,gr.put ha _⟩).1
   · refine wat List.take_add_one (wat hp ?_)
     refine List.perm_middle.trans ?_
     rw [List.take_append_drop]
     exact (List.perm_append_singleton p _).symm.trans (hL.append_right [p])
   · rw [AHeap.set_self]
     simp [List.map_take,List.map_drop]
 · obtain ⟨w,w',rfl,⟨L,hL,hLa⟩,gr⟩:=hi
   refine ss_step (s_ret (x_var rfl ?_))
   rw [List.length_mapIdx,List.length_map,List.take_length] at hL
   exact q a H' L ha hL hLa gr
theorem nodup_len {α:Type} [DecidableEq α]:∀ {l m:List α},l.Nodup→(∀ x∈l,x∈m)→l.length≤m.length
 | [],_,_,_=>Nat.zero_le _
 | x :: l,m,hn,h=>by
   rw [List.nodup_cons] at hn
   have hx:=h x List.mem_cons_self
   have:=nodup_len (m:=m.erase x) hn.2 fun y hy=>(List.mem_erase_of_ne (by rintro rfl;exact hn.1 hy)).mpr (h y (List.mem_cons_of_mem _ hy))
   rw [List.length_erase_of_mem hx] at this
   have:=List.length_pos_of_mem hx
   simp only [List.length_cons];omega
theorem bw_at:∀ k:Int,k = 0∨k = 1→∃ c:Col,AV.str (strAt (Str.ofString "bw") k.toNat) = c.av:=by
 rintro k (rfl | rfl)
 · exact ⟨.b,by decide +kernel⟩
 · exact ⟨.w,by decide +kernel⟩
theorem c_stones {n:Nat} {m:Int} {pa:Addr} {ps:List Pt} (hp:H pa = some (.list (ps.map AV.pt))) (hn:ps.Nodup) (hl:ps.length < 1000)
 (q:∀ a H' (es:Stones),H a = none→DictAt H' a es→(es.map (·.1)).Nodup→(∀ p∈es.map (·.1),p∈ps)→Grow H H'→Q (.ref a) H'):callWp fns (n + 1) .stones [.int m,.ref pa] H Q X:=by
 refine c_call rfl ?_
 refine ss_step (s_asg (x_dict0 ?_))
 intro a g₀ ha
 have g1:Grow H (H.set a (.dict [] g₀)):=Grow.new ha
 refine ss_step (s_asg (x_bin (x_bin (x_bin (x_var rfl (x_int (BinR.addI (x_int (BinR.mulI (by decide +kernel) (x_int (BinR.modI (by decide) (by decide) (ss_step (s_loop (i_e (x_var rfl ?_)))))))))))))))
 refine .list (g1 _ _ hp) ?_
 refine for_rule (fun i ρ H'=>(X2 fun k w=>A3 (ρ = [some (.int k),some (.ref pa),some (.ref a),w]) (((X1 fun (es:Stones)=>A3 (DictAt H' a es) ((es.map (·.1)).Nodup) (∀ p∈es.map (·.1),p∈ps.take i)))) (Grow H H'))) (walk_list pa (ps.map AV.pt)) ⟨_,_,rfl,⟨[],⟨g₀,AHeap.set_self ..⟩,List.nodup_nil,fun _ h=>nomatch h⟩,g1⟩ (fun i ρ H' h=>by obtain ⟨_,_,_,_,g⟩:=h;exact g _ _ hp) (fun i x ρ H' hx hi R r1 r2 r3=>?_) fun ρ H' hi=>?_
 · obtain ⟨k,w,rfl,⟨es,⟨g₂,ha₂⟩,hes,hsub⟩,gr⟩:=hi
   rw [List.getElem?_map] at hx
   obtain ⟨p,hpi,rfl⟩:=Option.map_eq_some_iff.mp hx
   have hlt:=(List.getElem?_eq_some_iff.mp hpi).1
   have hnp:p∉ps.take i:=by
    intro hm
    obtain ⟨j,hj⟩:=List.mem_iff_getElem?.mp hm
    rw [List.getElem?_take] at hj
    split at hj
    · have:=(List.getElem?_inj (List.getElem?_eq_some_iff.mp hj).1 hn).mp (hj.trans hpi.symm)
      omega
    · exact no1 hj
   have hsub':∀ q∈es.map (·.1),q∈ps.take (i + 1):=fun q hq=>by refine wat List.take_add_one ?_;exact List.mem_append_left _ (hsub q hq)
   refine ⟨_,rfl,?_⟩
   refine ss_step (s_ite (t_e (x_bin (x_var rfl (x_int (BinR.modI (by decide) (by decide) ⟨_,TruthR.int _,?_⟩))))))
   refine if_bool (fun h=>?_) fun h=>?_
   · refine ss_step (s_sitem (x_sub (x_str (x_bin (x_bin (x_var rfl (x_int (BinR.modI (by decide) (by decide) (x_int (BinR.subI ?_))))))))))
     have hk:k % 3 - 1 = 0∨k % 3 - 1 = 1:=by
      have:k % 3≠0:=by simpa using h
      omega
     refine ⟨_,.str (by omega) (by omega) (by rcases hk with e | e<;>rw [e]<;>decide +kernel),?_⟩
     obtain ⟨c,hc⟩:=bw_at _ hk
     refine wat hc ?_
     refine x_var rfl (x_var rfl ?_)
     have hlen:es.length≤1000:=by
      have h2:(es.map (·.1)).length≤(ps.take i).length:=nodup_len hes hsub
      simp only [List.length_map,List.length_take] at h2;exact linLe [_,_,_,_] 1 (.v 2) (.n 1000) [.lt 1 (.v 0) (.n 1000),.lt 1 (.v 1) (.v 0),.le 1 (.v 2) (.v 3),.le 1 (.v 3) (.v 1)] rfl hl hlt h2 (Nat.min_le_left i ps.length)
     refine .dict ha₂ (by simpa [avs] using hlen) fun g'=>?_
     refine ss_nil (ss_step (s_asg (x_bin (x_var rfl (x_int (BinR.divI (by decide) (by decide) (ss_nil ?_)))))))
     refine (r1 _ _ ⟨_,_,rfl,⟨es ++ [(p,c)],⟨g',?_⟩,?_,?_⟩,gr.put ha _⟩).1
     · rw [AHeap.set_self,putD_new (look_none.mpr fun h=>hnp (hsub p h))]
     · rw [List.map_append,List.nodup_append]
       exact ⟨hes,by simp,fun z hz y hy=>by simp at hy;subst hy;rintro rfl;exact hnp (hsub _ hz)⟩
     · intro q hq
       rw [List.map_append] at hq
       rcases List.mem_append.mp hq with hq | hq
       · exact hsub' q hq
       · simp at hq;subst hq;refine wat List.take_add_one (wat hpi ?_);simp
   · refine ss_nil (ss_step (s_asg (x_bin (x_var rfl (x_int (BinR.divI (by decide) (by decide) (ss_nil ?_)))))))
     exact (r1 _ _ ⟨_,_,rfl,⟨es,⟨g₂,ha₂⟩,hes,hsub'⟩,gr⟩).1
 · refine bc fun nG=>?_
   obtain ⟨k,w,rfl,⟨es,hd,hes,hsub⟩,gr⟩:=hi
   refine nG ?_
   refine ss_step (s_ret (x_var rfl ?_))
   exact q a H' es ha hd hes (fun p hp=>List.mem_of_mem_take (hsub p hp)) gr
noncomputable def pts (n:Nat):List Pt:=(List.range n).flatMap fun (r:Nat)=>(List.range n).map fun (c:Nat)=>((r:Int),(c:Int))
noncomputable def cell:Option Col→AV
 | none=>.none
 | some c=>c.av
theorem cell_plain (o:Option Col):(cell o).plain = true:=by
 cases o with
 | none=>rfl
 | some c=>exact c.plain
abbrev Pos:=Pt→Option Col
noncomputable def upd (σ:Pos) (p:Pt) (o:Option Col):Pos:=fun q=>if q = p then o else σ q
noncomputable def rowOf (n:Nat) (σ:Pos) (r:Nat):List AV:=(List.range n).map fun (c:Nat)=>cell (σ ((r:Int),(c:Int)))
structure Bd where
 a:Addr
 dx:Addr
 bp:Addr
 bl:Addr
 rows:List Addr
noncomputable def Bd.all (B:Bd):List Addr:=B.a :: B.dx :: B.bp :: B.bl :: B.rows
structure BoardAt (H:AHeap) (B:Bd) (n:Nat) (σ:Pos) (e:Bool):Prop where
 inst:H B.a = some (.inst boardC B.dx)
 ns:∃ fs,H B.dx = some (.ns fs)∧fs .side = some (.int n)∧fs .board_points = some (.ref B.bp)∧fs .board = some (.ref B.bl)∧fs .is_empty = some (.bool e)
 points:H B.bp = some (.list ((pts n).map AV.pt))
 board:H B.bl = some (.list (B.rows.map .ref))
 len:B.rows.length = n
 row:∀ r ra,B.rows[r]? = some ra→H ra = some (.list (rowOf n σ r))
 nodup:B.all.Nodup
 small:n≤4
theorem BoardAt.isBoard {H:AHeap} {B:Bd} {n:Nat} {σ:Pos} {e:Bool} (b:BoardAt H B n σ e):IsBoard H (.ref B.a):=⟨_,_,_,rfl,b.inst,b.ns.choose_spec.1⟩
theorem BoardAt.keep {H H':AHeap} {B:Bd} {n:Nat} {σ:Pos} {e:Bool} (b:BoardAt H B n σ e) (k:∀ a o,a∈B.all→H a = some o→H' a = some o):BoardAt H' B n σ e:=by
 obtain ⟨fs,h1,h2⟩:=b.ns
 refine ⟨k _ _ (by simp [Bd.all]) b.inst,⟨fs,k _ _ (by simp [Bd.all]) h1,h2⟩,k _ _ (by simp [Bd.all]) b.points,k _ _ (by simp [Bd.all]) b.board,b.len,fun r ra h=>k _ _ ?_ (b.row r ra h),b.nodup,b.small⟩
 simp only [Bd.all,List.mem_cons]
 exact .inr (.inr (.inr (.inr (List.mem_of_getElem? h))))
theorem BoardAt.grow {H H':AHeap} {B:Bd} {n:Nat} {σ:Pos} {e:Bool} (b:BoardAt H B n σ e) (g:Grow H H'):BoardAt H' B n σ e:=b.keep fun a o _ h=>g a o h
theorem BoardAt.same {H:AHeap} {B:Bd} {n:Nat} {σ τ:Pos} {e:Bool} (b:BoardAt H B n σ e) (h:∀ p,inside n p = true→σ p = τ p):BoardAt H B n τ e:=by
 refine { b with row:=fun r ra hr=>?_ }
 refine wat (b.row r ra hr) ?_
 have hlt:=(List.getElem?_eq_some_iff.mp hr).1
 have:=b.len
 congr 2
 refine List.map_congr_left fun c hc=>?_
 rw [h]
 simp only [List.mem_range] at hc
 simp [inside];exact ⟨linLt [_,_,_] 1 (.v 0) (.v 2) [.lt 1 (.v 0) (.v 1),.eq 1 (.v 1) (.v 2)] rfl hlt this,linLt [_,_] 1 (.v 0) (.v 1) [.lt 1 (.v 0) (.v 1)] rfl hc⟩
theorem inside_spec {n:Nat} {p:Pt} (h:inside n p = true):(X2 fun (r c:Nat)=>A3 (p = ((r:Int),(c:Int))) (r < n) (c < n)):=by
 simp only [inside,Bool.and_eq_true,decide_eq_true_eq] at h
 obtain ⟨a,b⟩:=p
 exact ⟨a.toNat,b.toNat,Prod.ext (by simp;omega) (by simp;omega),by simp at h;omega,by simp at h;omega⟩
theorem mem_pts {n:Nat} {p:Pt}:p∈pts n↔inside n p = true:=by
 constructor
 · intro h
   simp only [pts,List.mem_flatMap,List.mem_map,List.mem_range] at h
   obtain ⟨r,hr,c,hc,rfl⟩:=h
   simp [inside];exact ⟨linLt [_,_] 1 (.v 0) (.v 1) [.lt 1 (.v 0) (.v 1)] rfl hr,linLt [_,_] 1 (.v 0) (.v 1) [.lt 1 (.v 0) (.v 1)] rfl hc⟩
 · intro h
   obtain ⟨r,c,rfl,hr,hc⟩:=inside_spec h
   simp only [pts,List.mem_flatMap,List.mem_map,List.mem_range]
   exact ⟨r,hr,c,hc,rfl⟩
section
variable {C:CallSem} {ρ:Loc} {H:AHeap} {X:AHeap→Prop} {Q:AV→AHeap→Prop} {S:SQ} {B:Bd} {n:Nat} {σ:Pos} {e:Bool}
theorem x_cell {ov rv cv:Nat} {p:Pt} (b:BoardAt H B n σ e) (h0:ρ[ov]? = some (some (.ref B.a))) (h1:ρ[rv]? = some (some (.int p.1))) (h2:ρ[cv]? = some (some (.int p.2))) (hi:inside n p = true) (q:Q (cell (σ p)) H):
 awp C (.sub (.sub (.attr (.var ov) .board) (.var rv)) (.var cv)) ρ H Q X:=by
 refine bc fun nG=>?_
 obtain ⟨r,c,rfl,hr,hc⟩:=inside_spec hi
 refine nG ?_
 refine bc fun nG=>?_
 obtain ⟨fs,k1,_,_,k2,_⟩:=b.ns
 refine nG ?_
 have hs:=b.small
 have hrl:r < B.rows.length:=by refine wat b.len ?_;exact hr
 refine x_sub (x_sub (x_attr (x_var h0 ⟨_,_,_,.mk b.inst k1,k2,x_var h1 ⟨_,.list b.board (Int.natCast_nonneg r) (by omega) (by rw [Int.toNat_natCast,List.getElem?_map,List.getElem?_eq_getElem hrl];rfl),x_var h2 ⟨_,.list (b.row r _ (List.getElem?_eq_getElem hrl)) (Int.natCast_nonneg c) (by omega) ?_,q⟩⟩⟩)))
 simp [rowOf,hc]
theorem x_side {ov:Nat} (b:BoardAt H B n σ e) (h0:ρ[ov]? = some (some (.ref B.a))) (q:Q (.int n) H):awp C (.attr (.var ov) .side) ρ H Q X:=by
 obtain ⟨fs,k1,k2,_⟩:=b.ns
 exact x_attr (x_var h0 ⟨_,_,_,.mk b.inst k1,k2,q⟩)
theorem x_points {ov:Nat} (b:BoardAt H B n σ e) (h0:ρ[ov]? = some (some (.ref B.a))) (q:Q (.ref B.bp) H):awp C (.attr (.var ov) .board_points) ρ H Q X:=by
 obtain ⟨fs,k1,_,k2,_⟩:=b.ns
 exact x_attr (x_var h0 ⟨_,_,_,.mk b.inst k1,k2,q⟩)
theorem x_empty {ov:Nat} (b:BoardAt H B n σ e) (h0:ρ[ov]? = some (some (.ref B.a))) (q:Q (.bool e) H):awp C (.attr (.var ov) .is_empty) ρ H Q X:=by
 obtain ⟨fs,k1,_,_,_,k2⟩:=b.ns
 exact x_attr (x_var h0 ⟨_,_,_,.mk b.inst k1,k2,q⟩)
theorem BoardAt.put (b:BoardAt H B n σ e) {r c:Nat} (hr:r < n) (hc:c < n) {ra:Addr} (hra:B.rows[r]? = some ra) (o:Option Col):BoardAt (H.set ra (.list ((rowOf n σ r).set c (cell o)))) B n (upd σ ((r:Int),(c:Int)) o) e:=by
 obtain ⟨fs,k1,k2⟩:=b.ns
 have nd:=b.nodup
 simp only [Bd.all,List.nodup_cons,List.mem_cons,not_or] at nd
 refine bc fun nG=>?_
 obtain ⟨⟨_,_,_,n1⟩,⟨_,_,n2⟩,⟨_,n3⟩,n4,n5⟩:=nd
 refine nG ?_
 have hm:=List.mem_of_getElem? hra
 have ne:∀ x,x∉B.rows→x≠ra:=fun x hx h=>hx (h▸hm)
 refine ⟨by refine wat (AHeap.set_ne _ _ (ne _ n1)) ?_;exact b.inst,⟨fs,by refine wat (AHeap.set_ne _ _ (ne _ n2)) ?_;exact k1,k2⟩,by refine wat (AHeap.set_ne _ _ (ne _ n3)) ?_;exact b.points,by refine wat (AHeap.set_ne _ _ (ne _ n4)) ?_;exact b.board,b.len,fun r' ra' h'=>?_,b.nodup,b.small⟩
 by_cases q:r' = r
 · subst q
   rw [hra] at h';cases h'
   rw [AHeap.set_self]
   congr 2
   apply List.ext_getElem?
   intro j
   simp only [rowOf,List.getElem?_set,List.length_map,List.length_range,List.getElem?_map]
   by_cases hj:c = j
   · subst hj
     simp [hc,upd]
   · refine wat (if_neg hj) ?_
     by_cases hjn:j < n
     · have:¬ (j:Int) = (c:Int):=by omega
       simp [hjn,upd,this]
     · simp [hjn]
 · have:ra'≠ra:=by
    rintro rfl
    exact q ((List.getElem?_inj (List.getElem?_eq_some_iff.mp h').1 n5).mp (h'.trans hra.symm))
   refine wat (AHeap.set_ne _ _ this) (wat (b.row r' ra' h') ?_)
   congr 2
   refine List.map_congr_left fun j hj=>?_
   have:((r':Int),(j:Int))≠((r:Int),(c:Int)):=fun h=>q (by have:=congrArg Prod.fst h;simp only at this;omega)
   simp [upd,this]
theorem s_put {ov rv cv:Nat} {ex:E} {p:Pt} {o:Option Col} (b:BoardAt H B n σ e) (h0:ρ[ov]? = some (some (.ref B.a))) (h1:ρ[rv]? = some (some (.int p.1))) (h2:ρ[cv]? = some (some (.int p.2))) (hi:inside n p = true)
 (he:∀ Q':AV→AHeap→Prop,Q' (cell o) H→awp C ex ρ H Q' X) (q:∀ H',BoardAt H' B n (upd σ p o) e→Keep B.rows H H'→(∀ a,H a = none→H' a = none)→S .next ρ H'):
 swp C (.sitem (.sub (.attr (.var ov) .board) (.var rv)) (.var cv) ex) ρ H S X:=by
 refine bc fun nG=>?_
 obtain ⟨r,c,rfl,hr,hc⟩:=inside_spec hi
 refine nG ?_
 refine bc fun nG=>?_
 obtain ⟨fs,k1,_,_,k2,_⟩:=b.ns
 refine nG ?_
 have hs:=b.small
 have hrl:r < B.rows.length:=by refine wat b.len ?_;exact hr
 have hra:=List.getElem?_eq_getElem hrl
 have hrow:=b.row r _ hra
 refine s_sitem (he _ (x_sub (x_attr (x_var h0 ⟨_,_,_,.mk b.inst k1,k2,x_var h1 ⟨_,.list b.board (Int.natCast_nonneg r) (by omega) (by rw [Int.toNat_natCast,List.getElem?_map,hra];rfl),x_var h2 (.list hrow (Int.natCast_nonneg c) (by simp [rowOf];exact hc) (by simp [rowOf];exact Nat.le_trans ‹_› (by decide)) ?_)⟩⟩))))
 refine q _ (b.put hr hc hra o) (Keep.put (List.mem_of_getElem? hra)) fun a ha=>?_
 refine wat (AHeap.set_ne _ _ (by rintro rfl;rw [hrow] at ha;exact no2 ha)) ?_
 exact ha
end
theorem c_isEmpty {k n:Nat} {B:Bd} {σ:Pos} {e:Bool} (b:BoardAt H B n σ e) (q:Q (.bool e) H):callWp fns (k + 1) .is_empty [.ref B.a] H Q X:=by
 refine c_call rfl ?_
 exact ss_step (s_ret (x_empty b rfl q))
noncomputable def occ (n:Nat) (σ:Pos):List AV:=(pts n).filterMap fun p=>(σ p).map fun c=>.pair c.av (.pt p)
theorem c_occupied {k n:Nat} {B:Bd} {σ:Pos} {e:Bool} (b:BoardAt H B n σ e)
 (q:∀ a H',H a = none→H' a = some (.list (occ n σ))→Grow H H'→Q (.ref a) H'):callWp fns (k + 1) .occupied [.ref B.a] H Q X:=by
 refine c_call rfl ?_
 refine ss_step (s_asg (x_list (xs_nil ?_)))
 refine new_intro fun a H₁ ha h₁ g₁=>?_
 refine ss_step (s_loop (i_e (x_points (b.grow g₁) rfl (.list (g₁ _ _ b.points) ?_))))
 refine for_rule (fun i ρ H'=>(X3 fun w w' w''=>A3 (ρ = (l5 (oR B.a) (oR a) w w' w'')) (H' a = some (.list (((pts n).take i).filterMap fun p=>(σ p).map fun c=>.pair c.av (.pt p)))) (Grow H H'))) (walk_list B.bp _) ⟨_,_,_,rfl,h₁,g₁⟩ (fun i ρ H' h=>by obtain ⟨_,_,_,_,_,g⟩:=h;exact g _ _ b.points) (fun i x ρ H' hx hi R r1 r2 r3=>?_) fun ρ H' hi=>?_
 · obtain ⟨w,w',w'',rfl,hla,gr⟩:=hi
   rw [List.getElem?_map] at hx
   obtain ⟨p,hp,rfl⟩:=Option.map_eq_some_iff.mp hx
   have hin:=mem_pts.mp (List.mem_of_getElem? hp)
   have hlen:(pts n).length≤16:=by
    have:=b.small
    rcases n with _ | _ | _ | _ | _ | n<;>first | decide | omega
   refine ⟨_,rfl,?_⟩
   refine ss_step (s_asg (x_cell (p:=p) (b.grow gr) rfl rfl rfl hin ?_))
   refine ss_step (s_ite (t_cmp (x_var rfl (x_none ⟨_,CmpR.isNot _,?_⟩))))
   cases hc:σ p with
   | none=>
     refine if_ff ?_
     refine ss_nil (ss_nil ?_)
     refine (r1 _ _ ⟨_,_,_,rfl,?_,gr⟩).1
     refine wat hla (wat List.take_add_one (wat hp (wat List.filterMap_append ?_)));simp [hc]
   | some c=>
     refine if_tt ?_
     refine ss_step (s_ex (x_bm (x_var rfl ?_)))
     refine ⟨⟨_,_,rfl,hla⟩,?_⟩
     refine xs_cons (x_pair (x_var rfl (x_pair (x_var rfl (x_var rfl (xs_nil ?_))))))
     refine .append hla (Nat.le_trans (List.length_filterMap_le ..) (by refine wat List.length_take ?_;exact linLe [_,_] 1 (.v 1) (.n 1000) [.le 1 (.v 0) (.n 16),.le 1 (.v 1) (.v 0)] rfl hlen (Nat.min_le_right i ((pts n).length)))) ?_
     refine ss_nil (ss_nil ?_)
     refine (r1 _ _ ⟨_,_,_,rfl,?_,gr.put ha _⟩).1
     rw [AHeap.set_self,List.take_add_one,hp,List.filterMap_append];simp [hc,cell]
 · refine bc fun nG=>?_
   obtain ⟨w,w',w'',rfl,hla,gr⟩:=hi
   refine nG ?_
   refine ss_step (s_ret (x_var rfl ?_))
   refine q a H' ha ?_ gr
   rw [hla,List.length_map,List.take_length];rfl
theorem if_nb {r:Bool} {A B:Prop} (h1:r = false→A) (h2:r = true→B):if (!r) = true then A else B:=by
 cases r with
 | true=>exact h2 rfl
 | false=>exact h1 rfl
theorem t_inside {C:CallSem} {ρ:Loc} {H:AHeap} {X:AHeap→Prop} {Qt:Bool→AHeap→Prop} {B:Bd} {n:Nat} {σ:Pos} {e:Bool} {i j:Nat} {p:Pt} (b:BoardAt H B n σ e) (h0:ρ[0]? = some (some (.ref B.a))) (hi:ρ[i]? = some (some (.int p.1))) (hj:ρ[j]? = some (some (.int p.2))) (q:Qt (inside n p) H):
 awpT C (.and (.cons (.chain (.int 0) .LtE (.var i) .Lt (.attr (.var 0) .side)) (.cons (.chain (.int 0) .LtE (.var j) .Lt (.attr (.var 0) .side)) .nil))) ρ H Qt X:=by
 have no:¬ inside n p = true→Qt false H:=fun h=>by rw [Bool.not_eq_true] at h;exact h▸q
 refine t_and (t_all_cons (t_chain (x_int (x_var hi ⟨_,.leI _ _,if_dec (fun h1=>x_side b h0 ⟨_,.ltI _ _,if_dec (fun h2=>?_) fun h2=>?_⟩) fun h1=>?_⟩))))
 · refine t_all_cons (t_chain (x_int (x_var hj ⟨_,.leI _ _,if_dec (fun h3=>x_side b h0 ⟨_,.ltI _ _,if_dec (fun h4=>?_) fun h4=>?_⟩) fun h3=>?_⟩)))
   · exact t_all_nil ((show inside n p = true by simp [inside,h1,h2,h3,h4])▸q)
   · exact no (by simp [inside];omega)
   · exact if_ff (no (by simp [inside];omega))
 · exact no (by simp [inside];omega)
 · exact if_ff (no (by simp [inside];omega))
structure IsGroup (n:Nat) (σ:Pos) (c:Col) (p₀:Pt) (S:List Pt):Prop where
 here:p₀∈S
 mem:∀ p∈S,inside n p = true∧σ p = some c
 closed:∀ p∈S,∀ q∈nbrs n p,σ q = some c→q∈S
 least:∀ T:Pt→Prop,T p₀→(∀ p q,T p→q∈nbrs n p→σ q = some c→T q)→∀ p∈S,T p
 nodup:S.Nodup
structure GroupAt (H:AHeap) (a dx pa:Addr) (c:Col) (S:List Pt) (sur:Bool):Prop where
 inst:H a = some (.inst groupC dx)
 ns:∃ fs,H dx = some (.ns fs)∧fs .colour = some c.av∧fs .points = some (.ref pa)∧fs .is_surrounded = some (.bool sur)
 set:∃ g,H pa = some (.set S g)
theorem GroupAt.keep {H H':AHeap} {a dx pa:Addr} {c:Col} {S:List Pt} {sur:Bool} (h:GroupAt H a dx pa c S sur) (k:∀ b,b = a∨b = dx∨b = pa→∀ o,H b = some o→H' b = some o):GroupAt H' a dx pa c S sur:=by
 refine bc fun nG=>?_
 obtain ⟨h1,⟨fs,h2,h3⟩,g,h4⟩:=h
 refine nG ?_
 exact ⟨k _ (.inl rfl) _ h1,⟨fs,k _ (.inr (.inl rfl)) _ h2,h3⟩,g,k _ (.inr (.inr rfl)) _ h4⟩
theorem GroupAt.grow {H H':AHeap} {a dx pa:Addr} {c:Col} {S:List Pt} {sur:Bool} (h:GroupAt H a dx pa c S sur) (g:Grow H H'):GroupAt H' a dx pa c S sur:=h.keep fun b _ o e=>g b o e
theorem mem_nbrs {n:Nat} {p q:Pt}:q∈nbrs n p↔q∈around p∧inside n q = true:=by simp [nbrs]
theorem pts_len {n:Nat} (h:n≤4):(pts n).length≤16:=by
 rcases n with _ | _ | _ | _ | _ | n<;>first | decide | lia
structure MG (H H':AHeap) (n:Nat) (σ:Pos) (c:Col) (p₀:Pt) (pa ta:Addr) (P T:List Pt):Prop where
 setP:∃ g,H' pa = some (.set P g)
 setT:∃ g,H' ta = some (.set T g)
 grow:Grow H H'
 nP:P.Nodup
 nT:T.Nodup
 apart:∀ x∈P,x∉T
 start:p₀∈P∨p₀∈T
 good:∀ x,x∈P∨x∈T→inside n x = true∧σ x = some c
 least:∀ U:Pt→Prop,U p₀→(∀ p q,U p→q∈nbrs n p→σ q = some c→U q)→∀ p,p∈P∨p∈T→U p
theorem MG.size {H H':AHeap} {n:Nat} {σ:Pos} {c:Col} {p₀:Pt} {pa ta:Addr} {P T:List Pt} (m:MG H H' n σ c p₀ pa ta P T) (hn:n≤4):P.length + T.length≤16:=by
 have:=nodup_len (l:=P ++ T) (m:=pts n) (List.nodup_append.mpr ⟨m.nP,m.nT,fun x hx y hy=>by rintro rfl;exact m.apart x hx hy⟩) fun x hx=>mem_pts.mpr (m.good x (List.mem_append.mp hx)).1
 have h2:=pts_len hn
 rw [List.length_append] at this;exact Nat.le_trans ‹_› ‹_›
theorem c_make_group {k n:Nat} {B:Bd} {σ:Pos} {e:Bool} {p₀:Pt} {c:Col} (b:BoardAt H B n σ e) (hi:inside n p₀ = true) (hc:σ p₀ = some c)
 (q:∀ a dx pa H' S sur,H a = none→H dx = none→H pa = none→GroupAt H' a dx pa c S sur→IsGroup n σ c p₀ S→(sur = true↔∀ p∈S,∀ q∈nbrs n p,σ q≠none)→Grow H H'→Q (.ref a) H'):callWp fns (k + 1) .make_group [.ref B.a,.int p₀.1,.int p₀.2,c.av] H Q X:=by
 refine c_call rfl ?_
 refine ss_step (s_asg (x_bi (xs_nil ?_)))
 refine .set fun pa g₁ hpa=>?_
 have gr1:Grow H (H.set pa (.set [] g₁)):=Grow.new hpa
 have hpa1:=AHeap.set_self H pa (.set [] g₁)
 generalize H.set pa (.set [] g₁) = H₁ at gr1 hpa1
 refine ss_step (s_asg (x_bool (ss_step (s_asg (x_bi (xs_nil ?_))))))
 refine .set fun ta g₂ hta=>?_
 have gr2:Grow H₁ (H₁.set ta (.set [] g₂)):=Grow.new hta
 have hta2:=AHeap.set_self H₁ ta (.set [] g₂)
 generalize H₁.set ta (.set [] g₂) = H₂ at gr2 hta2
 have nta:pa≠ta:=by rintro rfl;rw [hpa1] at hta;exact no2 hta
 have hta0:H ta = none:=gr1.fresh hta
 refine ss_step (s_ex (x_bm (x_var rfl ?_)))
 refine ⟨⟨_,_,_,rfl,hta2⟩,?_⟩
 refine xs_cons (x_pair (x_var rfl (x_var rfl (xs_nil ?_))))
 refine .add hta2 (by simp) (by simp) fun g₃=>?_
 have hta3:=AHeap.set_self H₂ ta (.set ([] ++ [(p₀.1,p₀.2)]) g₃)
 have hpa3:(H₂.set ta (.set ([] ++ [(p₀.1,p₀.2)]) g₃)) pa = some (.set [] g₁):=by refine wat (AHeap.set_ne _ _ nta) ?_;exact gr2 _ _ hpa1
 have gr3:Grow H (H₂.set ta (.set ([] ++ [(p₀.1,p₀.2)]) g₃)):=(gr1.trans gr2).put hta0 _
 generalize H₂.set ta (.set ([] ++ [(p₀.1,p₀.2)]) g₃) = H₃ at hta3 hpa3 gr3
 have m0:MG H H₃ n σ c p₀ pa ta [] [p₀]:=⟨⟨_,hpa3⟩,⟨_,hta3⟩,gr3,List.nodup_nil,by simp,fun _ h=>(nomatch h),.inr (by simp),fun x hx=>by simp at hx;subst hx;exact ⟨hi,hc⟩,fun U h0 _ p hp=>by simp at hp;subst hp;exact h0⟩
 refine ss_step (s_while ?_)
 refine ⟨17,while_rule (fun m ρ H'=>(X11 fun P T fl w₁ w₂ w₃ w₄ w₅ w₆ w₇ w₈=>A5 (ρ = (l15 (oR B.a) (oI p₀.1) (oI p₀.2) (oC c) (oR pa) (oB fl) (oR ta) w₁ w₂ w₃ w₄ w₅ w₆ w₇ w₈)) (MG H H' n σ c p₀ pa ta P T) ((∀ p∈P,∀ q∈nbrs n p,σ q = some c→q∈P∨q∈T)) ((fl = true↔∀ p∈P,∀ q∈nbrs n p,σ q≠none)) (m = 16 - P.length))) ?_ _ 16 _ _ (by decide) ⟨[],[p₀],true,_,_,_,_,_,_,_,_,rfl,m0,fun _ h=>(nomatch h),by simp,rfl⟩⟩
 rintro m ρ H' ⟨P,T,fl,w₁,w₂,w₃,w₄,w₅,w₆,w₇,w₈,rfl,mg,cl,hfl,rfl⟩ R rf rt
 obtain ⟨gT,hT⟩:=mg.setT
 obtain ⟨gP,hP⟩:=mg.setP
 refine t_e (x_var rfl ⟨_,.set hT,?_⟩)
 cases T with
 | nil=>
   refine rf H' ?_
   refine ss_step (s_asg (x_newGroup ?_))
   intro a dx ha hdx hne
   have hPd:pa≠dx:=by rintro rfl;rw [hP] at hdx;exact no2 hdx
   have hPa:pa≠a:=by rintro rfl;rw [hP] at ha;exact no2 ha
   have gr5:Grow H ((H'.set dx (.ns fun _=>none)).set a (.inst groupC dx)):=(mg.grow.put (mg.grow.fresh hdx) _).put (mg.grow.fresh ha) _
   have hin:((H'.set dx (.ns fun _=>none)).set a (.inst groupC dx)) a = some (.inst groupC dx):=AHeap.set_self ..
   have hns:((H'.set dx (.ns fun _=>none)).set a (.inst groupC dx)) dx = some (.ns fun _=>none):=by rw [AHeap.set_ne _ _ hne.symm,AHeap.set_self]
   have hP5:((H'.set dx (.ns fun _=>none)).set a (.inst groupC dx)) pa = some (.set P gP):=by refine wat (AHeap.set_ne _ _ hPa) (wat (AHeap.set_ne _ _ hPd) ?_);exact hP
   generalize (H'.set dx (.ns fun _=>none)).set a (.inst groupC dx) = H₅ at gr5 hin hns hP5
   refine ss_step (s_sattr (x_var rfl (x_var rfl ?_)))
   refine ⟨_,_,.mk hin hns,?_⟩
   refine ss_step (s_sattr (x_var rfl (x_var rfl ?_)))
   refine ⟨_,_,.mk ((AHeap.set_ne _ _ hne).trans hin) (AHeap.set_self ..),?_⟩
   refine ss_step (s_sattr (x_var rfl (x_var rfl ?_)))
   refine ⟨_,_,.mk ((AHeap.set_ne _ _ hne).trans ((AHeap.set_ne _ _ hne).trans hin)) (AHeap.set_self ..),?_⟩
   refine ss_step (s_ret (x_var rfl ?_))
   refine q a dx pa _ P fl (mg.grow.fresh ha) (mg.grow.fresh hdx) hpa ⟨(AHeap.set_ne _ _ hne).trans ((AHeap.set_ne _ _ hne).trans ((AHeap.set_ne _ _ hne).trans hin)),⟨_,AHeap.set_self .., by simp,by simp,by simp⟩,gP,(AHeap.set_ne _ _ hPd).trans ((AHeap.set_ne _ _ hPd).trans ((AHeap.set_ne _ _ hPd).trans hP5))⟩ ?_ hfl
    (((gr5.put (mg.grow.fresh hdx) _).put (mg.grow.fresh hdx) _).put (mg.grow.fresh hdx) _)
   exact ⟨mg.start.elim id fun h=>(nomatch h),fun p hp=>mg.good p (.inl hp),fun p hp q hq hs=>(cl p hp q hq hs).elim id fun h=>(nomatch h),fun U h0 hs p hp=>mg.least U h0 hs p (.inl hp),mg.nP⟩
 | cons t T=>
   refine rt H' fun R' r'=>?_
   have hsz:=mg.size b.small
   refine ss_step (s_asg (x_bm (x_var rfl ?_)))
   refine ⟨⟨_,_,_,rfl,hT⟩,?_⟩
   refine xs_nil ?_
   refine .spop hT (by simp) fun x hx g'=>?_
   have hxP:x∉P:=fun h=>mg.apart x h hx
   have hta0:H ta = none:=hta0
   have gr5:Grow H (H'.set ta (.set ((t :: T).erase x) g')):=mg.grow.put hta0 _
   have hT5:=AHeap.set_self H' ta (.set ((t :: T).erase x) g')
   have hP5:(H'.set ta (.set ((t :: T).erase x) g')) pa = some (.set P gP):=(AHeap.set_ne _ _ nta).trans hP
   generalize H'.set ta (.set ((t :: T).erase x) g') = H₅ at gr5 hT5 hP5
   refine ss_step (s_ex (x_bm (x_var rfl ?_)))
   refine ⟨⟨_,_,_,rfl,hP5⟩,?_⟩
   refine xs_cons (x_var rfl (xs_nil ?_))
   refine .add (r:=x.1) (c:=x.2) hP5 hxP (by simp only [List.length_cons] at hsz;exact linLe [_,_] 1 (.v 0) (.n 15) [.le 1 (.a (.v 0) (.a (.v 1) (.n 1))) (.n 16)] rfl hsz) fun g''=>?_
   have gr6:Grow H (H₅.set pa (.set (P ++ [(x.1,x.2)]) g'')):=gr5.put hpa _
   have hP6:=AHeap.set_self H₅ pa (.set (P ++ [(x.1,x.2)]) g'')
   have hT6:(H₅.set pa (.set (P ++ [(x.1,x.2)]) g'')) ta = some (.set ((t :: T).erase x) g'):=(AHeap.set_ne _ _ nta.symm).trans hT5
   generalize H₅.set pa (.set (P ++ [(x.1,x.2)]) g'') = H₆ at gr6 hP6 hT6
   refine ss_step (s_asgN (x_var rfl ⟨_,UnpackR.pair _ _,(ss_step (s_loop (i_e (x_list (xs_cons (x_pair (x_bin (x_var rfl (x_int (BinR.subI (x_var rfl (xs_cons (x_pair (x_bin (x_var rfl (x_int (BinR.addI (x_var rfl (xs_cons (x_pair (x_var rfl (x_bin (x_var rfl (x_int (BinR.subI (xs_cons (x_pair (x_var rfl (x_bin (x_var rfl (x_int (BinR.addI (xs_nil ?_)))))))))))))))))))))))))))))))))⟩))
   refine new_intro fun la H₇ hla h₇ g₇=>?_
   have m7:MG H H₇ n σ c p₀ pa ta (P ++ [x]) ((t :: T).erase x):=by
    have hsub:∀ y,y∈P ++ [x]∨y∈(t :: T).erase x→y∈P∨y∈t :: T:=fun y hy=>by
     rcases hy with hy | hy
     · rcases List.mem_append.mp hy with hy | hy
       · exact .inl hy
       · simp at hy;subst hy;exact .inr hx
     · exact .inr (List.mem_of_mem_erase hy)
    refine ⟨⟨_,g₇ _ _ hP6⟩,⟨_,g₇ _ _ hT6⟩,gr6.trans g₇,?_,mg.nT.erase _,fun y hy hy'=>?_,?_,fun y hy=>mg.good y (hsub y hy),fun U h0 hs y hy=>mg.least U h0 hs y (hsub y hy)⟩
    · rw [List.nodup_append]
      exact ⟨mg.nP,by simp,fun y hy z hz=>by simp at hz;subst hz;rintro rfl;exact hxP hy⟩
    · have hm:=List.mem_of_mem_erase hy'
      rcases List.mem_append.mp hy with hy | hy
      · exact mg.apart y hy hm
      · simp at hy;subst hy
        exact (List.Nodup.not_mem_erase mg.nT) hy'
    · rcases mg.start with h | h
      · exact .inl (List.mem_append_left _ h)
      · by_cases hq:p₀ = x
        · exact .inl (List.mem_append_right _ (by simp [hq]))
        · exact .inr ((List.mem_erase_of_ne hq).mpr h)
   refine .list h₇ ?_
   refine for_rule (fun i ρ H₈=>(X6 fun T' fl' v₁ v₂ v₃ v₄=>A6 (ρ = (l15 (oR B.a) (oI p₀.1) (oI p₀.2) (oC c) (oR pa) (oB fl') (oR ta) (oP x) (oI x.1) (oI x.2) v₁ v₂ v₃ v₄ w₈)) (MG H H₈ n σ c p₀ pa ta (P ++ [x]) T') ((∀ y∈(t :: T).erase x,y∈T')) ((∀ y∈(around x).take i,inside n y = true→σ y = some c→y∈P ++ [x]∨y∈T')) ((fl' = true↔fl = true∧∀ y∈(around x).take i,inside n y = true→σ y≠none)) (H₈ la = some (.list ((around x).map AV.pt))))) (walk_list la ((around x).map AV.pt)) ⟨_,fl,_,_,_,_,rfl,m7,fun _ h=>h,fun _ h=>(nomatch h),by simp,h₇⟩ (fun i ρ H₈ h=>by obtain ⟨_,_,_,_,_,_,_,_,_,_,_,h⟩:=h;exact h) (fun i y ρ H₈ hy h R r1 r2 r3=>?_) fun ρ H₈ h=>?_
   · obtain ⟨T',fl',v₁,v₂,v₃,v₄,rfl,m8,hT',hcl,hf',hla8⟩:=h
     rw [List.getElem?_map] at hy
     obtain ⟨z,hz,rfl⟩:=Option.map_eq_some_iff.mp hy
     have htake:(around x).take (i + 1) = (around x).take i ++ [z]:=by refine wat List.take_add_one (wat hz ?_);rfl
     have b8:=b.grow m8.grow
     have hsz8:=m8.size b.small
     obtain ⟨gT8,hT8⟩:=m8.setT
     obtain ⟨gP8,hP8⟩:=m8.setP
     have hlt:la≠ta:=by rintro rfl;rw [hT8] at hla8;exact clash hla8 rfl
     have sameF:∀ fl'',(fl'' = true↔fl' = true∧(inside n z = true→σ z≠none))→(fl'' = true↔fl = true∧∀ y∈(around x).take (i + 1),inside n y = true→σ y≠none):=fun fl'' h2=>by
      rw [h2,hf',htake]
      constructor
      · rintro ⟨⟨k1,k2⟩,k3⟩
        refine ⟨k1,fun y hy=>?_⟩
        rcases List.mem_append.mp hy with hy | hy
        · exact k2 y hy
        · simp at hy;subst hy;exact k3
      · rintro ⟨k1,k2⟩
        exact ⟨⟨k1,fun y hy=>k2 y (List.mem_append_left _ hy)⟩,k2 z (List.mem_append_right _ (by simp))⟩
     have same:∀ fl'',(inside n z = true→σ z = some c→z∈P ++ [x]∨z∈T')→(fl'' = true↔fl' = true∧(inside n z = true→σ z≠none))→(∀ y∈(around x).take (i + 1),inside n y = true→σ y = some c→y∈P ++ [x]∨y∈T')∧(fl'' = true↔fl = true∧∀ y∈(around x).take (i + 1),inside n y = true→σ y≠none):=fun fl'' h1 h2=>by
      refine ⟨fun y hy=>?_,sameF fl'' h2⟩
      rw [htake] at hy
      rcases List.mem_append.mp hy with hy | hy
      · exact hcl y hy
      · simp at hy;subst hy;exact h1
     refine ⟨_,rfl,ss_step (s_asgN (x_var rfl ⟨_,.pair _ _,ss_step (s_ite (t_not (t_inside (p:=z) b8 rfl rfl rfl (if_nb (fun ho=>?_) fun ho=>?_))))⟩))⟩
     · refine ss_step (s_cont ?_)
       obtain ⟨k1,k2⟩:=same fl' (fun h=>by rw [ho] at h;exact nob h) (by simp [ho])
       exact (r1 _ _ ⟨T',fl',_,_,_,_,rfl,m8,hT',k1,k2,hla8⟩).2
     · refine ss_nil (ss_step (s_asg (x_cell (p:=z) b8 rfl rfl rfl ho ?_)))
       refine ss_step (s_ite (t_cmp (x_var rfl (x_none ⟨_,CmpR.is _,?_⟩))))
       cases hs:σ z with
       | none=>
         refine if_dec (fun _=>?_) fun h=>absurd rfl h
         refine ss_step (s_asg (x_bool (ss_nil (ss_nil ?_))))
         obtain ⟨k1,k2⟩:=same false (fun _ h=>by rw [hs] at h;exact no1 h) (by simp [ho,hs])
         exact (r1 _ _ ⟨T',false,_,_,_,_,rfl,m8,hT',k1,k2,hla8⟩).1
       | some d=>
         refine if_dec (fun h=>by cases h) fun _=>?_
         refine ss_step (s_ite (t_cmp (x_var rfl (x_var rfl ?_))))
         refine ⟨_,.eq (.plain (cell_plain (some d)) c.plain),if_dec (fun h=>?_) fun h=>?_⟩
         · have hdc:d = c:=Col.s_inj (by simpa [cell] using h)
           subst hdc
           refine ss_step (s_ite (t_cmp (x_var rfl (x_var rfl ?_))))
           refine ⟨_,.notIn (.set (r:=z.1) (c:=z.2) hP8),if_not (fun hn=>?_) fun hn=>?_⟩
           · refine ss_step (s_ex (x_bm (x_var rfl ?_)))
             refine ⟨⟨_,_,_,rfl,hT8⟩,?_⟩
             refine xs_cons (x_var rfl (xs_nil ?_))
             by_cases hzT:z∈T'
             · refine .addIn (r:=z.1) (c:=z.2) hT8 hzT ?_
               refine ss_nil (ss_nil (ss_nil (ss_nil ?_)))
               obtain ⟨k1,k2⟩:=same fl' (fun _ _=>.inr hzT) (by simp [hs])
               exact (r1 _ _ ⟨T',fl',_,_,_,_,rfl,m8,hT',k1,k2,hla8⟩).1
             · refine .add (r:=z.1) (c:=z.2) hT8 hzT (by simp only [List.length_append,List.length_singleton] at hsz8;exact linLe [_,_] 1 (.v 1) (.n 15) [.le 1 (.a (.a (.v 0) (.n 1)) (.v 1)) (.n 16)] rfl hsz8) fun g₉=>?_
               refine ss_nil (ss_nil (ss_nil (ss_nil ?_)))
               have hla9:(H₈.set ta (.set (T' ++ [(z.1,z.2)]) g₉)) la = some (.list ((around x).map AV.pt)):=(AHeap.set_ne _ _ hlt).trans hla8
               have hP9:(H₈.set ta (.set (T' ++ [(z.1,z.2)]) g₉)) pa = some (.set (P ++ [x]) gP8):=(AHeap.set_ne _ _ nta).trans hP8
               have m9:MG H (H₈.set ta (.set (T' ++ [(z.1,z.2)]) g₉)) n σ d p₀ pa ta (P ++ [x]) (T' ++ [z]):=by
                refine ⟨⟨_,hP9⟩,⟨_,AHeap.set_self ..⟩,m8.grow.put hta0 _,m8.nP,?_,fun u hu hu'=>?_,m8.start.imp id (List.mem_append_left _),fun y hy=>?_,fun U h0 hst y hy=>?_⟩
                · rw [List.nodup_append]
                  exact ⟨m8.nT,by simp,fun u hu w hw=>by simp at hw;subst hw;rintro rfl;exact hzT hu⟩
                · rcases List.mem_append.mp hu' with hu' | hu'
                  · exact m8.apart u hu hu'
                  · simp at hu';subst hu';exact hn hu
                · rcases hy with hy | hy
                  · exact m8.good y (.inl hy)
                  · rcases List.mem_append.mp hy with hy | hy
                    · exact m8.good y (.inr hy)
                    · simp at hy;subst hy;exact ⟨ho,hs⟩
                · rcases hy with hy | hy
                  · exact m8.least U h0 hst y (.inl hy)
                  · rcases List.mem_append.mp hy with hy | hy
                    · exact m8.least U h0 hst y (.inr hy)
                    · simp at hy;subst hy
                      exact hst x _ (m8.least U h0 hst x (.inl (List.mem_append_right _ (by simp)))) (mem_nbrs.mpr ⟨List.mem_of_getElem? hz,ho⟩) hs
               refine (r1 _ _ ⟨T' ++ [z],fl',_,_,_,_,rfl,m9,fun y hy=>List.mem_append_left _ (hT' y hy),?_,?_,hla9⟩).1
               · intro y hy hy1 hy2
                 rw [htake] at hy
                 rcases List.mem_append.mp hy with hy | hy
                 · exact (hcl y hy hy1 hy2).imp id (List.mem_append_left _)
                 · exact .inr (List.mem_append_right _ hy)
               · exact sameF fl' (by simp [hs])
           · refine ss_nil (ss_nil (ss_nil (ss_nil ?_)))
             refine bc fun nG=>?_
             obtain ⟨k1,k2⟩:=same fl' (fun _ _=>.inl hn) (by simp [hs])
             refine nG ?_
             exact (r1 _ _ ⟨T',fl',_,_,_,_,rfl,m8,hT',k1,k2,hla8⟩).1
         · refine ss_nil (ss_nil (ss_nil ?_))
           obtain ⟨k1,k2⟩:=same fl' (fun _ hh=>by rw [hs] at hh;cases hh;exact absurd rfl h) (by simp [hs])
           exact (r1 _ _ ⟨T',fl',_,_,_,_,rfl,m8,hT',k1,k2,hla8⟩).1
   · obtain ⟨T',fl',v₁,v₂,v₃,v₄,rfl,m8,hT',hcl,hf',hla8⟩:=h
     refine ss_nil ?_
     have e4:(around x).take ((around x).map AV.pt).length = around x:=by rw [List.length_map,List.take_length]
     have hlen:(P ++ [x]).length = P.length + 1:=by simp
     refine (r' (16 - (P ++ [x]).length) _ _ (by simp only [List.length_cons] at hsz;exact linLt [_,_,_,_] 1 (.v 3) (.v 2) [.ge 1 (.v 0) (.a (.v 1) (.n 1)),.le 1 (.n 16) (.a (.v 2) (.v 1)),.eq 1 (.a (.v 3) (.v 0)) (.n 16)] rfl hlen (le_sub 16 P.length) (Nat.sub_add_cancel (linLe [_,_,_] 1 (.v 2) (.n 16) [.le 1 (.a (.v 0) (.a (.v 1) (.n 1))) (.n 16),.eq 1 (.v 2) (.a (.v 0) (.n 1))] rfl hsz hlen))) ⟨P ++ [x],T',fl',_,_,_,_,_,_,_,_,rfl,m8,fun p hp y hy hs=>?_,?_,rfl⟩).1
     · rcases List.mem_append.mp hp with hp | hp
       · rcases cl p hp y hy hs with h | h
         · exact .inl (List.mem_append_left _ h)
         · by_cases hyx:y = x
           · exact .inl (List.mem_append_right _ (by simp [hyx]))
           · exact .inr (hT' y ((List.mem_erase_of_ne hyx).mpr h))
       · simp at hp;subst hp
         exact hcl y (mem_nbrs.mp hy).1 (mem_nbrs.mp hy).2 hs
     · rw [hf',hfl]
       constructor
       · rintro ⟨k1,k2⟩ p hp y hy
         rcases List.mem_append.mp hp with hp | hp
         · exact k1 p hp y hy
         · simp at hp;subst hp
           exact k2 y (mem_nbrs.mp hy).1 (mem_nbrs.mp hy).2
       · intro k
         exact ⟨fun p hp=>k p (List.mem_append_left _ hp),fun y hy hi=>k x (List.mem_append_right _ (by simp)) y (mem_nbrs.mpr ⟨hy,hi⟩)⟩
theorem nbrs_symm {n:Nat} {p q:Pt} (h:q∈nbrs n p) (hp:inside n p = true):p∈nbrs n q:=by
 rw [mem_nbrs] at h ⊢
 refine ⟨?_,hp⟩
 obtain ⟨a,b⟩:=p
 have h:=h.1
 simp only [around,List.mem_cons,List.not_mem_nil,or_false] at h ⊢
 rcases h with rfl | rfl | rfl | rfl
 · exact .inr (.inl (Prod.ext (by simp) rfl))
 · exact .inl (Prod.ext (by simp) rfl)
 · exact .inr (.inr (.inr (Prod.ext rfl (by simp))))
 · exact .inr (.inr (.inl (Prod.ext rfl (by simp))))
theorem IsGroup.meet {n:Nat} {σ:Pos} {c d:Col} {p q:Pt} {S T:List Pt} (g:IsGroup n σ c p S) (h:IsGroup n σ d q T) {x:Pt} (hx:x∈S) (hx':x∈T):∀ y∈T,y∈S:=by
 have hcd:d = c:=by
  have:=(g.mem x hx).2.symm.trans (h.mem x hx').2
  exact (Option.some.inj this).symm
 subst hcd
 have hq:q∈S:=by
  refine Classical.byContradiction fun hn=>?_
  have:=h.least (fun y=>y∉S∧inside n y = true∧σ y = some d) ⟨hn,h.mem q h.here⟩ (fun y z hy hz hs=>⟨fun hzS=>?_,(mem_nbrs.mp hz).2,hs⟩) x hx'
  · exact this.1 hx
  · exact hy.1 (g.closed z hzS y (nbrs_symm hz hy.2.1) hy.2.2)
 exact h.least (· ∈S) hq fun y z hy hz hs=>g.closed y hy z hz hs
noncomputable def NoAir (n:Nat) (σ:Pos) (S:List Pt):Prop:=∀ p∈S,∀ q∈nbrs n p,σ q≠none
abbrev Gs:=List (Addr×Col×List Pt)
structure Found (n:Nat) (σ:Pos) (gs:Gs) (hs:List Pt):Prop where
 nodup:hs.Nodup
 ins:∀ x∈hs,inside n x = true
 grp:∀ x∈hs,(X3 fun c p S=>A3 (IsGroup n σ c p S) (x∈S) (∀ y∈S,y∈hs))
 each:∀ g∈gs,(∃ p,IsGroup n σ g.2.1 p g.2.2)∧(∀ y∈g.2.2,y∈hs)∧NoAir n σ g.2.2
 dead:∀ x∈hs,(∀ c p S,IsGroup n σ c p S→x∈S→NoAir n σ S)→∃ g∈gs,x∈g.2.2
 disj:gs.Pairwise fun g h=>∀ x∈g.2.2,x∉h.2.2
theorem Found.nil (n:Nat) (σ:Pos):Found n σ [] []:=⟨.nil,fun _ h=>(nomatch h),fun _ h=>(nomatch h),fun _ h=>(nomatch h),fun _ h=>(nomatch h),.nil⟩
theorem Found.step {n:Nat} {σ:Pos} {gs:Gs} {hs:List Pt} {c:Col} {p:Pt} {S:List Pt} {a:Addr} {sur:Bool} (f:Found n σ gs hs) (hp:p∉hs) (g:IsGroup n σ c p S) (hsur:sur = true↔NoAir n σ S):
 Found n σ (if sur then gs ++ [(a,c,S)] else gs) (hs ++ S.filter (· ∉hs))∧p∈hs ++ S.filter (· ∉hs):=by
 have apart:∀ x∈S,x∉hs:=fun x hx hx'=>by
  obtain ⟨d,q,T,gT,hxT,hT⟩:=f.grp x hx'
  exact hp (hT p (gT.meet g hxT hx p g.here))
 have e:S.filter (· ∉hs) = S:=List.filter_eq_self.mpr fun x hx=>by simpa using apart x hx
 refine wat e ?_
 have memg:∀ h:Addr×Col×List Pt,h∈(if sur = true then gs ++ [(a,c,S)] else gs)↔h∈gs∨(sur = true∧h = (a,c,S)):=fun h=>by
  cases sur<;>simp
 refine ⟨⟨?_,fun x hx=>?_,fun x hx=>?_,fun h hh=>?_,fun x hx hd=>?_,?_⟩,List.mem_append_right _ g.here⟩
 · rw [List.nodup_append]
   exact ⟨f.nodup,g.nodup,fun x hx y hy=>by rintro rfl;exact apart x hy hx⟩
 · rcases List.mem_append.mp hx with hx | hx
   · exact f.ins x hx
   · exact (g.mem x hx).1
 · rcases List.mem_append.mp hx with hx | hx
   · refine bc fun nG=>?_
     obtain ⟨d,q,T,h1,h2,h3⟩:=f.grp x hx
     refine nG ?_
     exact ⟨d,q,T,h1,h2,fun y hy=>List.mem_append_left _ (h3 y hy)⟩
   · exact ⟨c,p,S,g,hx,fun y hy=>List.mem_append_right _ hy⟩
 · rcases (memg h).mp hh with hh | ⟨h1,rfl⟩
   · obtain ⟨k1,k2,k3⟩:=f.each h hh
     exact ⟨k1,fun y hy=>List.mem_append_left _ (k2 y hy),k3⟩
   · exact ⟨⟨p,g⟩,fun y hy=>List.mem_append_right _ hy,hsur.mp h1⟩
 · rcases List.mem_append.mp hx with hx | hx
   · refine bc fun nG=>?_
     obtain ⟨h,k1,k2⟩:=f.dead x hx hd
     refine nG ?_
     exact ⟨h,(memg h).mpr (.inl k1),k2⟩
   · exact ⟨(a,c,S),(memg _).mpr (.inr ⟨hsur.mpr (hd c p S g hx),rfl⟩),hx⟩
 · cases sur with
   | false=>exact f.disj
   | true=>
     rw [if_pos rfl,List.pairwise_append]
     refine ⟨f.disj,List.pairwise_singleton .., fun h hh k hk x hx hx'=>?_⟩
     simp at hk;subst hk
     exact apart x hx' ((f.each h hh).2.1 x hx)
structure Search (H H':AHeap) (n:Nat) (σ:Pos) (sa ha:Addr) (gs:Gs) (hs:List Pt):Prop where
 list:H' sa = some (.list (gs.map fun g=>.ref g.1))
 set:∃ g,H' ha = some (.set hs g)
 grow:Grow H H'
 at_:∀ g∈gs,(X2 fun dx pa=>A4 (H dx = none) (H pa = none) (pa≠ha) (GroupAt H' g.1 dx pa g.2.1 g.2.2 true))
 found:Found n σ gs hs
theorem Found.size {n:Nat} {σ:Pos} {gs:Gs} {hs:List Pt} (f:Found n σ gs hs) (hn:n≤4):hs.length≤16:=
 Nat.le_trans (nodup_len f.nodup fun x hx=>mem_pts.mpr (f.ins x hx)) (pts_len hn)
theorem Found.short {n:Nat} {σ:Pos}:∀ {gs:Gs} {hs:List Pt},Found n σ gs hs→gs.length≤hs.length
 | gs,hs,f=>by
   have:∀ l:Gs,l.Pairwise (fun g h=>∀ x∈g.2.2,x∉h.2.2)→(∀ g∈l,∃ x∈g.2.2,x∈hs)→(X1 fun (m:List Pt)=>A4 (m.length = l.length) (m.Nodup) ((∀ x∈m,x∈hs)) (∀ x∈m,∃ g∈l,x∈g.2.2)):=by
    intro l
    induction l with
    | nil=>intro _ _;exact ⟨[],rfl,.nil,fun _ h=>(nomatch h),fun _ h=>(nomatch h)⟩
    | cons g l ih=>
      intro hp hx
      rw [List.pairwise_cons] at hp
      obtain ⟨m,h1,h2,h3,h4⟩:=ih hp.2 fun k hk=>hx k (List.mem_cons_of_mem _ hk)
      refine bc fun nG=>?_
      obtain ⟨x,hxg,hxh⟩:=hx g List.mem_cons_self
      refine nG ?_
      refine ⟨x :: m,by simp [h1],List.nodup_cons.mpr ⟨fun hm=>?_,h2⟩,fun y hy=>?_,fun y hy=>?_⟩
      · obtain ⟨k,hk,hxk⟩:=h4 x hm
        exact hp.1 k hk x hxg hxk
      · rcases List.mem_cons.mp hy with rfl | hy
        · exact hxh
        · exact h3 y hy
      · rcases List.mem_cons.mp hy with rfl | hy
        · exact ⟨g,List.mem_cons_self,hxg⟩
        · obtain ⟨k,hk,hyk⟩:=h4 y hy
          exact ⟨k,List.mem_cons_of_mem _ hk,hyk⟩
   obtain ⟨m,h1,h2,h3,_⟩:=this gs f.disj fun g hg=>by
    obtain ⟨⟨p,hp⟩,hsub,_⟩:=f.each g hg
    exact ⟨p,hp.here,hsub p hp.here⟩
   refine wat h1.symm ?_
   exact nodup_len h2 h3
theorem Search.later {H H' H'':AHeap} {n:Nat} {σ:Pos} {sa ha:Addr} {gs:Gs} {hs:List Pt} (s:Search H H' n σ sa ha gs hs) (g:Grow H' H''):Search H H'' n σ sa ha gs hs:=
 ⟨g _ _ s.list,let ⟨o,h⟩:=s.set;⟨o,g _ _ h⟩,s.grow.trans g,fun x hx=>let ⟨dx,pa,h1,h2,h3,h4⟩:=s.at_ x hx;⟨dx,pa,h1,h2,h3,h4.grow g⟩,s.found⟩
theorem Search.base {H H₀ H':AHeap} {n:Nat} {σ:Pos} {sa ha:Addr} {gs:Gs} {hs:List Pt} (s:Search H₀ H' n σ sa ha gs hs) (g:Grow H H₀):Search H H' n σ sa ha gs hs:=
 ⟨s.list,s.set,g.trans s.grow,fun x hx=>let ⟨dx,pa,h1,h2,h3,h4⟩:=s.at_ x hx;⟨dx,pa,g.fresh h1,g.fresh h2,h3,h4⟩,s.found⟩
theorem search_tail {C:CallSem} {ρ:Loc} {X:AHeap→Prop} {K:SQ} {gi si hi:Nat} {H H':AHeap} {n:Nat} {σ:Pos} {sa ha a dx pa:Addr} {gs:Gs} {hs:List Pt} {c:Col} {p:Pt} {S:List Pt} {sur:Bool}
 (h1:ρ[gi]? = some (some (.ref a))) (h2:ρ[si]? = some (some (.ref sa))) (h3:ρ[hi]? = some (some (.ref ha))) (s:Search H H' n σ sa ha gs hs) (hn:n≤4) (hsa:H sa = none) (hha:H ha = none)
 (gat:GroupAt H' a dx pa c S sur) (hdx:H dx = none) (hpa:H pa = none) (hph:pa≠ha) (isg:IsGroup n σ c p S) (hp:p∉hs) (hsur:sur = true↔NoAir n σ S)
 (q:∀ H'',Search H H'' n σ sa ha (if sur then gs ++ [(a,c,S)] else gs) (hs ++ S.filter (· ∉hs))→p∈hs ++ S.filter (· ∉hs)→K .next ρ H''):
 swps C (.cons (.ite (.e (.attr (.var gi) .is_surrounded)) (.cons (.ex (.bm .append (.var si) (.cons (.var gi) .nil))) .nil) .nil) (.cons (.ex (.bm .update (.var hi) (.cons (.attr (.var gi) .points) .nil))) .nil)) ρ H' K X:=by
 refine bc fun nG=>?_
 obtain ⟨fs,hfs,fc,fp,fsu⟩:=gat.ns
 refine nG ?_
 obtain ⟨gP,hgP⟩:=gat.set
 obtain ⟨gS,hS⟩:=s.set
 have fst:=s.found.step (a:=a) hp isg hsur
 have hsz:hs.length + (S.filter (· ∉hs)).length≤16:=by
  have:=fst.1.size hn
  rwa [List.length_append] at this
 have hshort:=s.found.short
 have hsh:sa≠ha:=by intro h;have:=s.list;rw [h,hS] at this;exact clash this rfl
 have upd:∀ H₁ gs',H₁ sa = some (.list (gs'.map fun g=>AV.ref g.1))→H₁ ha = some (.set hs gS)→H₁ pa = some (.set S gP)→H₁ a = some (.inst groupC dx)→H₁ dx = some (.ns fs)→Grow H H₁→(∀ g∈gs',(X2 fun dx pa=>A4 (H dx = none) (H pa = none) (pa≠ha) (GroupAt H₁ g.1 dx pa g.2.1 g.2.2 true)))→Found n σ gs' (hs ++ S.filter (· ∉hs))→
  gs' = (if sur then gs ++ [(a,c,S)] else gs)→swps C (.cons (.ex (.bm .update (.var hi) (.cons (.attr (.var gi) .points) .nil))) .nil) ρ H₁ K X:=by
  intro H₁ gs' k1 k2 k3 k4 k5 k6 k7 k8 k9
  refine ss_step (s_ex (x_bm (x_var h3 ⟨⟨_,_,_,rfl,k2⟩,xs_cons (x_attr (x_var h1 ⟨_,_,_,.mk k4 k5,fp,xs_nil (.update k2 k3 hph.symm hsz fun g'=>ss_nil (q _ ?_ fst.2))⟩))⟩)))
  refine wat k9.symm ?_
  refine ⟨(AHeap.set_ne _ _ hsh).trans k1,⟨_,AHeap.set_self ..⟩,k6.put hha _,fun g hg=>?_,k8⟩
  obtain ⟨dx',pa',e1,e2,e3,e4⟩:=k7 g hg
  refine ⟨dx',pa',e1,e2,e3,e4.keep fun b hb o ho=>(AHeap.set_ne _ _ ?_).trans ho⟩
  rintro rfl
  rcases hb with rfl | rfl | rfl
  · have:=e4.inst;rw [k2] at this;exact clash this rfl
  · obtain ⟨_,h,_⟩:=e4.ns;rw [k2] at h;exact clash h rfl
  · exact e3 rfl
 refine ss_step (s_ite (t_e (x_attr (x_var h1 ⟨_,_,_,.mk gat.inst hfs,fsu,_,.bool _,if_bool (fun e=>?_) fun e=>?_⟩))))
 · subst e
   refine ss_step (s_ex (x_bm (x_var h2 ⟨⟨_,_,rfl,s.list⟩,xs_cons (x_var h1 (xs_nil (.append s.list (by rw [List.length_map];have:=s.found.size hn;exact linLe [_,_] 1 (.v 0) (.n 1000) [.le 1 (.v 0) (.v 1),.le 1 (.v 1) (.n 16)] rfl hshort this) (ss_nil ?_))))⟩)))
   have nesa:∀ b o,H' b = some o→(∀ xs,o≠.list xs)→(H'.set sa (.list (gs.map (fun g=>AV.ref g.1) ++ [AV.ref a]))) b = some o:=fun b o h hx=>(AHeap.set_ne _ _ (by rintro rfl;rw [s.list] at h;cases h;exact hx _ rfl)).trans h
   refine upd _ (gs ++ [(a,c,S)]) ((AHeap.set_self ..).trans (by simp)) (nesa _ _ hS fun _ h=>by cases h) (nesa _ _ hgP fun _ h=>by cases h) (nesa _ _ gat.inst fun _ h=>by cases h) (nesa _ _ hfs fun _ h=>by cases h) (s.grow.put hsa _) (fun g hg=>?_) (by simpa using fst.1) (by simp)
   have old:∀ g dx pa,GroupAt H' g dx pa c S true→True:=fun _ _ _ _=>trivial
   rcases List.mem_append.mp hg with hg | hg
   · refine bc fun nG=>?_
     obtain ⟨dx',pa',e1,e2,e3,e4⟩:=s.at_ g hg
     refine nG ?_
     refine ⟨dx',pa',e1,e2,e3,e4.keep fun b hb o ho=>nesa b o ho fun xs hx=>?_⟩
     subst hx
     rcases hb with rfl | rfl | rfl
     · have:=e4.inst;rw [ho] at this;exact clash this rfl
     · obtain ⟨_,h,_⟩:=e4.ns;rw [ho] at h;exact clash h rfl
     · obtain ⟨_,h⟩:=e4.set;rw [ho] at h;exact clash h rfl
   · simp at hg;subst hg
     refine ⟨dx,pa,hdx,hpa,hph,gat.keep fun b hb o ho=>nesa b o ho fun xs hx=>?_⟩
     subst hx
     rcases hb with rfl | rfl | rfl
     · have:=gat.inst;rw [ho] at this;exact clash this rfl
     · obtain ⟨_,h,_⟩:=gat.ns;rw [ho] at h;exact clash h rfl
     · obtain ⟨_,h⟩:=gat.set;rw [ho] at h;exact clash h rfl
 · subst e
   exact ss_nil (upd H' gs s.list hS hgP gat.inst hfs s.grow s.at_ (by simpa using fst.1) rfl)
theorem c_find_all {k n:Nat} {B:Bd} {σ:Pos} {e:Bool} (b:BoardAt H B n σ e)
 (q:∀ sa ha H' gs hs,H sa = none→Search H H' n σ sa ha gs hs→(∀ p,inside n p = true→σ p≠none→p∈hs)→Q (.ref sa) H'):callWp fns (k + 2) .find_all [.ref B.a] H Q X:=by
 refine c_call rfl ?_
 refine ss_step (s_asg (x_list (xs_nil ?_)))
 refine new_intro fun sa H₁ hsa h₁ g₁=>?_
 refine ss_step (s_asg (x_bi (xs_nil ?_)))
 refine .set fun ha g₂ hha=>?_
 have gr2:Grow H (H₁.set ha (.set [] g₂)):=g₁.trans (Grow.new hha)
 have hs2:=AHeap.set_self H₁ ha (.set [] g₂)
 have hl2:(H₁.set ha (.set [] g₂)) sa = some (.list []):=Grow.new hha _ _ h₁
 generalize H₁.set ha (.set [] g₂) = H₂ at gr2 hs2 hl2
 have hsh:sa≠ha:=by rintro rfl;rw [hs2] at hl2;exact clash hl2 rfl
 have hha0:H ha = none:=g₁.fresh hha
 refine ss_step (s_loop (i_e (x_points (b.grow gr2) rfl (.list (gr2 _ _ b.points) ?_))))
 refine for_rule (fun i ρ H'=>(X7 fun gs hs w₁ w₂ w₃ w₄ w₅=>A3 (ρ = (l8 (oR B.a) (oR sa) (oR ha) w₁ w₂ w₃ w₄ w₅)) (Search H H' n σ sa ha gs hs) (∀ p∈(pts n).take i,σ p≠none→p∈hs))) (walk_list B.bp ((pts n).map AV.pt))
  ⟨[],[],_,_,_,_,_,rfl,⟨hl2,⟨_,hs2⟩,gr2,fun _ h=>(nomatch h),.nil n σ⟩,fun _ h=>(nomatch h)⟩ (fun i ρ H' h=>?_) (fun i x ρ H' hx h R r1 r2 r3=>?_) fun ρ H' h=>?_
 · obtain ⟨gs,hs,_,_,_,_,_,_,s,_⟩:=h
   exact s.grow _ _ b.points
 · obtain ⟨gs,hs,w₁,w₂,w₃,w₄,w₅,rfl,s,hcov⟩:=h
   rw [List.getElem?_map] at hx
   obtain ⟨p,hp,rfl⟩:=Option.map_eq_some_iff.mp hx
   have hin:=mem_pts.mp (List.mem_of_getElem? hp)
   have b':=b.grow s.grow
   have htake:(pts n).take (i + 1) = (pts n).take i ++ [p]:=by refine wat List.take_add_one (wat hp ?_);rfl
   have cov:∀ hs':List Pt,(∀ y∈hs,y∈hs')→(σ p≠none→p∈hs')→∀ y∈(pts n).take (i + 1),σ y≠none→y∈hs':=fun hs' h1 h2 y hy hs=>by
    rw [htake] at hy
    rcases List.mem_append.mp hy with hy | hy
    · exact h1 y (hcov y hy hs)
    · simp at hy;subst hy;exact h2 hs
   obtain ⟨gS,hS⟩:=s.set
   refine ⟨_,rfl,ss_step (s_asg (x_cell (p:=p) b' rfl rfl rfl hin ?_))⟩
   refine ss_step (s_ite (t_cmp (x_var rfl (x_none ⟨_,CmpR.is _,?_⟩))))
   cases hc:σ p with
   | none=>
     refine if_dec (fun _=>?_) fun h=>absurd rfl h
     refine ss_step (s_cont ?_)
     exact (r1 _ _ ⟨gs,hs,_,_,_,_,_,rfl,s,cov hs (fun _ h=>h) fun h=>absurd hc h⟩).2
   | some c=>
     refine if_dec (fun h=>by cases h) fun _=>?_
     refine ss_nil (ss_step (s_asg (x_pair (x_var rfl (x_var rfl (ss_step (s_ite (t_cmp (x_var rfl (x_var rfl ?_))))))))))
     refine ⟨_,.in (.set (r:=p.1) (c:=p.2) hS),if_dec (fun hm=>?_) fun hm=>?_⟩
     · refine ss_step (s_cont ?_)
       exact (r1 _ _ ⟨gs,hs,_,_,_,_,_,rfl,s,cov hs (fun _ h=>h) fun _=>hm⟩).2
     · refine ss_nil (ss_step (s_asg (x_meth (x_var rfl ?_))))
       refine ⟨b'.isBoard,?_⟩
       refine xs_cons (x_var rfl (xs_cons (x_var rfl (xs_cons (x_var rfl (xs_nil ?_))))))
       refine c_make_group b' hin hc fun a dx pa H₃ S sur ha3 hdx3 hpa3 gat isg hsur gr3=>?_
       have hpah:pa≠ha:=by rintro rfl;rw [hS] at hpa3;exact no2 hpa3
       refine search_tail (gi:=7) (si:=1) (hi:=2) rfl rfl rfl (s.later gr3) b.small hsa hha0 gat (s.grow.fresh hdx3) (s.grow.fresh hpa3) hpah isg hm hsur fun H₄ s4 hp4=>?_
       exact (r1 _ _ ⟨_,_,_,_,_,_,_,rfl,s4,cov _ (fun y hy=>List.mem_append_left _ hy) fun _=>hp4⟩).1
 · obtain ⟨gs,hs,w₁,w₂,w₃,w₄,w₅,rfl,s,hcov⟩:=h
   refine ss_step (s_ret (x_var rfl ?_))
   refine q sa ha H' gs hs hsa s fun p hp hσ=>hcov p ?_ hσ
   rw [List.length_map,List.take_length]
   exact mem_pts.mpr hp
theorem c_find_surrounded {k n:Nat} {B:Bd} {σ:Pos} {e:Bool} {p₀:Pt} (b:BoardAt H B n σ e)
 (q:∀ sa ha H' gs hs,H sa = none→Search H H' n σ sa ha gs hs→(∀ p∈p₀ :: around p₀,inside n p = true→σ p≠none→p∈hs)→Q (.ref sa) H'):callWp fns (k + 2) .find_surrounded [.ref B.a,.int p₀.1,.int p₀.2] H Q X:=by
 refine c_call rfl ?_
 refine ss_step (s_asg (x_list (xs_nil ?_)))
 refine new_intro fun sa H₁ hsa h₁ g₁=>?_
 refine ss_step (s_asg (x_bi (xs_nil ?_)))
 refine .set fun ha g₂ hha=>?_
 have gr2:Grow H (H₁.set ha (.set [] g₂)):=g₁.trans (Grow.new hha)
 have hs2:=AHeap.set_self H₁ ha (.set [] g₂)
 have hl2:(H₁.set ha (.set [] g₂)) sa = some (.list []):=Grow.new hha _ _ h₁
 generalize H₁.set ha (.set [] g₂) = H₂ at gr2 hs2 hl2
 have hha0:H ha = none:=g₁.fresh hha
 refine ss_step (s_loop (i_e (x_list (xs_cons (x_pair (x_var rfl (x_var rfl (xs_cons (x_pair (x_bin (x_var rfl (x_int (BinR.subI (x_var rfl (xs_cons (x_pair (x_bin (x_var rfl (x_int (BinR.addI (x_var rfl (xs_cons (x_pair (x_var rfl (x_bin (x_var rfl (x_int (BinR.subI (xs_cons (x_pair (x_var rfl (x_bin (x_var rfl (x_int (BinR.addI (xs_nil ?_))))))))))))))))))))))))))))))))))))
 refine new_intro fun la H₃ hla h₃ g₃=>?_
 have hla0:H la = none:=gr2.fresh hla
 have hls:la≠sa:=by rintro rfl;rw [hl2] at hla;exact no2 hla
 have hlh:la≠ha:=by rintro rfl;rw [hs2] at hla;exact no2 hla
 have gb:Grow H (H.set la (.list ((p₀ :: around p₀).map AV.pt))):=Grow.new hla0
 have gb3:Grow (H.set la (.list ((p₀ :: around p₀).map AV.pt))) H₃:=fun b o h=>by
  by_cases hb:b = la
  · subst hb;rw [AHeap.set_self] at h;cases h;exact h₃
  · rw [AHeap.set_ne _ _ hb] at h;exact g₃ _ _ (gr2 _ _ h)
 have hsa':(H.set la (.list ((p₀ :: around p₀).map AV.pt))) sa = none:=(AHeap.set_ne _ _ hls.symm).trans hsa
 have hha':(H.set la (.list ((p₀ :: around p₀).map AV.pt))) ha = none:=(AHeap.set_ne _ _ hlh.symm).trans hha0
 have hlab:=AHeap.set_self H la (.list ((p₀ :: around p₀).map AV.pt))
 generalize H.set la (.list ((p₀ :: around p₀).map AV.pt)) = Hb at gb gb3 hsa' hha' hlab
 have bb:=b.grow gb
 refine .list h₃ ?_
 refine for_rule (fun i ρ H'=>(X7 fun gs hs w₁ w₂ w₃ w₄ w₅=>A3 (ρ = (l10 (oR B.a) (oI p₀.1) (oI p₀.2) (oR sa) (oR ha) w₁ w₂ w₃ w₄ w₅)) (Search Hb H' n σ sa ha gs hs) ((∀ p∈(p₀ :: around p₀).take i,inside n p = true→σ p≠none→p∈hs))))
  (walk_list la ((p₀ :: around p₀).map AV.pt)) ⟨[],[],_,_,_,_,_,rfl,⟨g₃ _ _ hl2,⟨_,g₃ _ _ hs2⟩,gb3,fun _ h=>(nomatch h),.nil n σ⟩,fun _ h=>(nomatch h)⟩ (fun i ρ H' h=>?_) (fun i x ρ H' hx h R r1 r2 r3=>?_) fun ρ H' h=>?_
 · obtain ⟨gs,hs,_,_,_,_,_,_,s,_⟩:=h
   exact s.grow _ _ hlab
 · obtain ⟨gs,hs,w₁,w₂,w₃,w₄,w₅,rfl,s,hcov⟩:=h
   rw [List.getElem?_map] at hx
   obtain ⟨p,hp,rfl⟩:=Option.map_eq_some_iff.mp hx
   have b':=bb.grow s.grow
   have htake:(p₀ :: around p₀).take (i + 1) = (p₀ :: around p₀).take i ++ [p]:=by refine wat List.take_add_one (wat hp ?_);rfl
   have cov:∀ hs':List Pt,(∀ y∈hs,y∈hs')→(inside n p = true→σ p≠none→p∈hs')→∀ y∈(p₀ :: around p₀).take (i + 1),inside n y = true→σ y≠none→y∈hs':=fun hs' h1 h2 y hy hi hs=>by
    rw [htake] at hy
    rcases List.mem_append.mp hy with hy | hy
    · exact h1 y (hcov y hy hi hs)
    · simp at hy;subst hy;exact h2 hi hs
   obtain ⟨gS,hS⟩:=s.set
   refine ⟨_,rfl,ss_step (s_ite (t_not (t_inside (p:=p) b' rfl rfl rfl (if_nb (fun hin=>?_) fun hin=>?_))))⟩
   · refine ss_step (s_cont ?_)
     exact (r1 _ _ ⟨gs,hs,_,_,_,_,_,rfl,s,cov hs (fun _ h=>h) (fun h=>by rw [hin] at h;exact nob h)⟩).2
   refine ss_nil (ss_step (s_asg (x_cell (p:=p) b' rfl rfl rfl hin ?_)))
   refine ss_step (s_ite (t_cmp (x_var rfl (x_none ⟨_,CmpR.is _,?_⟩))))
   cases hc:σ p with
   | none=>
     refine if_dec (fun _=>?_) fun h=>absurd rfl h
     refine ss_step (s_cont ?_)
     exact (r1 _ _ ⟨gs,hs,_,_,_,_,_,rfl,s,cov hs (fun _ h=>h) (fun _ h=>absurd hc h)⟩).2
   | some c=>
     refine if_dec (fun h=>by cases h) fun _=>?_
     refine ss_nil (ss_step (s_asg (x_pair (x_var rfl (x_var rfl (ss_step (s_ite (t_cmp (x_var rfl (x_var rfl ?_))))))))))
     refine ⟨_,.in (.set (r:=p.1) (c:=p.2) hS),if_dec (fun hm=>?_) fun hm=>?_⟩
     · refine ss_step (s_cont ?_)
       exact (r1 _ _ ⟨gs,hs,_,_,_,_,_,rfl,s,cov hs (fun _ h=>h) (fun _ _=>hm)⟩).2
     · refine ss_nil (ss_step (s_asg (x_meth (x_var rfl ?_))))
       refine ⟨b'.isBoard,?_⟩
       refine xs_cons (x_var rfl (xs_cons (x_var rfl (xs_cons (x_var rfl (xs_nil ?_))))))
       refine c_make_group b' hin hc fun a dx pa H₄ S sur ha3 hdx3 hpa3 gat isg hsur gr3=>?_
       have hpah:pa≠ha:=by rintro rfl;rw [hS] at hpa3;exact no2 hpa3
       refine search_tail (gi:=9) (si:=3) (hi:=4) rfl rfl rfl (s.later gr3) b.small hsa' hha' gat (s.grow.fresh hdx3) (s.grow.fresh hpa3) hpah isg hm hsur fun H₅ s5 hp5=>?_
       exact (r1 _ _ ⟨_,_,_,_,_,_,_,rfl,s5,cov _ (fun y hy=>List.mem_append_left _ hy) fun _ _=>hp5⟩).1
 · refine bc fun nG=>?_
   obtain ⟨gs,hs,w₁,w₂,w₃,w₄,w₅,rfl,s,hcov⟩:=h
   refine nG ?_
   refine ss_step (s_ret (x_var rfl ?_))
   refine q sa ha H' gs hs hsa (s.base gb) ?_
   exact hcov
noncomputable def upds (σ:Pos) (ps:List Pt) (o:Option Col):Pos:=fun q=>if q∈ps then o else σ q
theorem put_loop {C:CallSem} {B:Bd} {n:Nat} {σ:Pos} {e:Bool} {H:AHeap} {S:SQ} {r c:Nat} {ex:E} {o:Option Col} {A:AHeap→Prop} {mk:Nat→It} {u₀ v₀:Option AV} (mkρ:Option AV→Option AV→Loc) (ps:List Pt) (wk:Walk A mk (ps.map AV.pt)) (hA:∀ H',Keep B.rows H H'→A H')
 (hb:∀ u v p,bindT (.two r c) (AV.pt p) (mkρ u v) = some (mkρ (some (.int p.1)) (some (.int p.2)))) (h0:∀ u v,(mkρ u v)[0]? = some (some (.ref B.a))) (hr:∀ x y,(mkρ (some x) (some y))[r]? = some (some x)) (hc:∀ x y,(mkρ (some x) (some y))[c]? = some (some y))
 (hin:∀ p∈ps,inside n p = true) (he:∀ u v H' (Q':AV→AHeap→Prop),Q' (cell o) H'→awp C ex (mkρ u v) H' Q' nox) (b:BoardAt H B n σ e)
 (fin:∀ u v H',BoardAt H' B n (upds σ ps o) e→Keep B.rows H H'→S .next (mkρ u v) H'):
 ∃ m,loopW (.two r c) (fun ρ₁ H₂ Q₁=>swps C (.cons (.sitem (.sub (.attr (.var 0) .board) (.var r)) (.var c) ex) .nil) ρ₁ H₂ Q₁ nox) m (mk 0) (mkρ u₀ v₀) H S:=by
 refine for_rule (fun i ρ H'=>(X2 fun u v=>A3 (ρ = mkρ u v) (BoardAt H' B n (upds σ (ps.take i) o) e) (Keep B.rows H H'))) wk ⟨_,_,rfl,b.same fun p _=>by simp [upds],.refl _ _⟩ (fun i ρ H' h=>hA H' (by obtain ⟨_,_,_,_,k⟩:=h;exact k)) (fun i x ρ H' hx h R r1 r2 r3=>?_) fun ρ H' h=>?_
 · obtain ⟨u,v,rfl,b',kp⟩:=h
   rw [List.getElem?_map] at hx
   obtain ⟨p,hp,rfl⟩:=Option.map_eq_some_iff.mp hx
   refine ⟨_,hb u v p,ss_step (s_put (p:=p) (o:=o) b' (h0 _ _) (hr _ _) (hc _ _) (hin p (List.mem_of_getElem? hp)) (fun Q' hq=>he _ _ _ Q' hq) fun H'' b'' k'' _=>ss_nil (r1 _ _ ⟨_,_,rfl,b''.same fun q _=>?_,kp.trans k''⟩).1)⟩
   refine wat List.take_add_one (wat hp ?_)
   simp only [upd,upds,Option.toList_some,List.mem_append,List.mem_singleton]
   by_cases h1:q = p
   · simp [h1]
   · simp [h1]
 · obtain ⟨u,v,rfl,b',kp⟩:=h
   rw [List.length_map,List.take_length] at b'
   exact fin u v H' b' kp
theorem BoardAt.setEmpty {H:AHeap} {B:Bd} {n:Nat} {σ:Pos} {e:Bool} (b:BoardAt H B n σ e) {fs:Fld→Option AV} (hf:H B.dx = some (.ns fs)) (e':Bool):BoardAt (H.set B.dx (.ns fun g=>if g = .is_empty then some (.bool e') else fs g)) B n σ e':=by
 refine bc fun nG=>?_
 obtain ⟨fs',k1,k2,k3,k4,_⟩:=b.ns
 refine nG ?_
 rw [hf] at k1;cases k1
 have nd:=b.nodup
 simp only [Bd.all,List.nodup_cons,List.mem_cons,not_or] at nd
 refine bc fun nG=>?_
 obtain ⟨⟨n0,_,_,_⟩,⟨n1,n2,n3⟩,_⟩:=nd
 refine nG ?_
 exact ⟨(AHeap.set_ne _ _ n0).trans b.inst,⟨_,AHeap.set_self .., by simp [k2],by simp [k3],by simp [k4],by simp⟩,(AHeap.set_ne _ _ (Ne.symm n1)).trans b.points,(AHeap.set_ne _ _ (Ne.symm n2)).trans b.board,b.len,fun r ra h=>(AHeap.set_ne _ _ (by rintro rfl;exact n3 (List.mem_of_getElem? h))).trans (b.row r ra h),b.nodup,b.small⟩
theorem s_setEmpty {C:CallSem} {ρ:Loc} {H:AHeap} {X:AHeap→Prop} {S:SQ} {B:Bd} {n:Nat} {σ:Pos} {e e':Bool} {ov:Nat} (b:BoardAt H B n σ e) (h0:ρ[ov]? = some (some (.ref B.a))) (q:∀ H',BoardAt H' B n σ e'→Keep [B.dx] H H'→S .next ρ H'):swp C (.sattr (.var ov) .is_empty (.bool e')) ρ H S X:=by
 obtain ⟨fs,k1,_⟩:=b.ns
 exact s_sattr (x_bool (x_var h0 ⟨_,_,.mk b.inst k1,q _ (b.setEmpty k1 e') (Keep.put (by simp))⟩))
structure Cleaned (n:Nat) (σ τ:Pos):Prop where
 stay:∀ p,inside n p = true→∀ c S,IsGroup n σ c p S→¬ NoAir n σ S→τ p = σ p
 go:∀ p,inside n p = true→∀ c S,IsGroup n σ c p S→NoAir n σ S→τ p = none
 bare:∀ p,inside n p = true→σ p = none→τ p = none
noncomputable def drop (σ:Pos) (gs:Gs):Pos:=upds σ (gs.flatMap fun g=>g.2.2) none
theorem drop_in {σ:Pos} {gs:Gs} {p:Pt} (h:∃ g∈gs,p∈g.2.2):drop σ gs p = none:=by
 unfold drop upds
 exact wat (if_pos (List.mem_flatMap.mpr h)) rfl
theorem drop_out {σ:Pos} {gs:Gs} {p:Pt} (h:¬ ∃ g∈gs,p∈g.2.2):drop σ gs p = σ p:=by
 unfold drop upds
 exact wat (if_neg (fun m=>h (List.mem_flatMap.mp m))) rfl
theorem NoAir.sub {n:Nat} {σ:Pos} {S T:List Pt} (h:NoAir n σ S) (k:∀ x∈T,x∈S):NoAir n σ T:=fun p hp=>h p (k p hp)
theorem Found.cleaned {n:Nat} {σ:Pos} {gs:Gs} {hs:List Pt} (f:Found n σ gs hs) (cov:∀ p,inside n p = true→σ p≠none→p∈hs):Cleaned n σ (drop σ gs):=by
 refine ⟨fun p hp c S g hS=>drop_out ?_,fun p hp c S g hS=>drop_in ?_,fun p hp h=>?_⟩
 · rintro ⟨x,hx,hpx⟩
   obtain ⟨⟨y,gy⟩,_,hno⟩:=f.each x hx
   exact hS (hno.sub (gy.meet g hpx g.here))
 · have hs:=(g.mem p g.here).2
   exact f.dead p (cov p hp (by refine wat hs ?_;simp)) fun d q T gT hpT=>hS.sub (g.meet gT g.here hpT)
 · by_cases hh:∃ g∈gs,p∈g.2.2
   · exact drop_in hh
   · refine wat (drop_out hh) ?_;exact h
theorem Found.same {n:Nat} {σ:Pos} {gs:Gs} {hs:List Pt} (f:Found n σ gs hs):gs = []↔∀ p,inside n p = true→drop σ gs p = σ p:=by
 constructor
 · rintro rfl p _
   exact drop_out (by simp)
 · intro h
   cases gs with
   | nil=>rfl
   | cons g gs=>
     obtain ⟨⟨p,gp⟩,_⟩:=f.each g List.mem_cons_self
     obtain ⟨h1,h2⟩:=gp.mem p gp.here
     have:=h p h1
     rw [drop_in ⟨g,List.mem_cons_self,gp.here⟩,h2] at this
     exact no1 this
theorem BoardAt.notRow {H:AHeap} {B:Bd} {n:Nat} {σ:Pos} {e:Bool} (b:BoardAt H B n σ e) {a:Addr} {o:AO} (h:H a = some o) (ho:∀ xs,o≠.list xs):a∉B.rows:=fun hm=>by
 obtain ⟨r,hr⟩:=List.mem_iff_getElem?.mp hm
 rw [b.row r a hr] at h;cases h;exact ho _ rfl
theorem GroupAt.keepRows {H H':AHeap} {B:Bd} {n:Nat} {σ:Pos} {e:Bool} (b:BoardAt H B n σ e) {a dx pa:Addr} {c:Col} {S:List Pt} {sur:Bool} (g:GroupAt H a dx pa c S sur) (k:Keep B.rows H H'):GroupAt H' a dx pa c S sur:=g.keep fun x hx o ho=>k x o (b.notRow ho fun xs hxs=>by
 subst hxs
 rcases hx with rfl | rfl | rfl
 · have:=g.inst;rw [ho] at this;exact clash this rfl
 · obtain ⟨_,h,_⟩:=g.ns;rw [ho] at h;exact clash h rfl
 · obtain ⟨_,h⟩:=g.set;rw [ho] at h;exact clash h rfl) ho
theorem drop_more {σ:Pos} {gs:Gs} {g:Addr×Col×List Pt} {S':List Pt} (h:S'.Perm g.2.2) (p:Pt):upds (drop σ gs) S' none p = drop σ (gs ++ [g]) p:=by
 by_cases h1:p∈S'
 · refine wat (drop_in ⟨g,by simp,h.mem_iff.mp h1⟩) ?_
   simp [upds,h1]
 · have e:upds (drop σ gs) S' none p = drop σ gs p:=by simp [upds,h1]
   refine wat e ?_
   by_cases h2:∃ x∈gs,p∈x.2.2
   · refine wat (drop_in h2) ?_
     refine bc fun nG=>?_
     obtain ⟨x,hx,hp⟩:=h2
     refine nG ?_
     exact (drop_in ⟨x,List.mem_append_left _ hx,hp⟩).symm
   · rw [drop_out h2,drop_out]
     rintro ⟨x,hx,hp⟩
     rcases List.mem_append.mp hx with hx | hx
     · exact h2 ⟨x,hx,hp⟩
     · simp at hx;subst hx;exact h1 (h.mem_iff.mpr hp)
theorem c_apply_setup {k n:Nat} {B:Bd} {σ:Pos} {e:Bool} {ba wa ea:Addr} {bs ws es:List Pt} (b:BoardAt H B n σ e)
 (hb:H ba = some (.list (bs.map AV.pt))) (hw:H wa = some (.list (ws.map AV.pt))) (he:H ea = some (.list (es.map AV.pt))) (ib:∀ p∈bs,inside n p = true) (iw:∀ p∈ws,inside n p = true) (ie:∀ p∈es,inside n p = true)
 (lb:bs.length≤16) (lw:ws.length≤16) (le:es.length≤16) (nb:ba∉B.rows) (nw:wa∉B.rows) (ne:ea∉B.rows)
 (q:∀ H' τ e' r,BoardAt H' B n τ e'→Cleaned n (upds (upds (upds σ bs (some .b)) ws (some .w)) es none) τ→(e' = true↔∀ p,inside n p = true→τ p = none)→
   (r = true↔∀ p,inside n p = true→τ p = upds (upds (upds σ bs (some .b)) ws (some .w)) es none p)→Keep (B.dx :: B.rows) H H'→Q (.bool r) H'):callWp fns (k + 3) .apply_setup [.ref B.a,.ref ba,.ref wa,.ref ea] H Q X:=by
 refine c_call rfl ?_
 refine ss_step (s_loop (i_e (x_bin (x_bin (x_bi (xs_cons (x_var rfl (xs_nil ?_))))))))
 refine .list hb (by rw [List.length_map];exact Nat.le_trans ‹_› (by decide)) (new_intro fun a1 H₁ ha1 h₁ g₁=>?_)
 refine x_bi (xs_cons (x_var rfl (xs_nil ?_)))
 refine .list (g₁ _ _ hw) (by rw [List.length_map];exact Nat.le_trans ‹_› (by decide)) (new_intro fun a2 H₂ ha2 h₂ g₂=>?_)
 refine .addL (.inl (g₂ _ _ h₁)) h₂ (by simp only [List.length_map];exact linLe [_,_] 1 (.a (.v 0) (.v 1)) (.n 1000) [.le 1 (.v 0) (.n 16),.le 1 (.v 1) (.n 16)] rfl lb lw) (new_intro fun a3 H₃ ha3 h₃ g₃=>?_)
 refine x_bi (xs_cons (x_var rfl (xs_nil ?_)))
 have gr3:=(g₁.trans g₂).trans g₃
 refine .list (gr3 _ _ he) (by rw [List.length_map];exact Nat.le_trans ‹_› (by decide)) (new_intro fun a4 H₄ ha4 h₄ g₄=>?_)
 refine .addL (.inl (g₄ _ _ h₃)) h₄ (by simp only [List.length_map,List.length_append];exact linLe [_,_,_] 1 (.a (.a (.v 0) (.v 1)) (.v 2)) (.n 1000) [.le 1 (.v 0) (.n 16),.le 1 (.v 1) (.n 16),.le 1 (.v 2) (.n 16)] rfl lb lw le) (new_intro fun a5 H₅ ha5 h₅ g₅=>?_)
 have gr5:Grow H H₅:=(gr3.trans g₄).trans g₅
 rw [← List.map_append,← List.map_append] at h₅
 refine .list h₅ ?_
 have b5:=b.grow gr5
 refine for_rule (fun i ρ H'=>(X2 fun u v=>A2 (ρ = (l8 (oR B.a) (oR ba) (oR wa) (oR ea) u v none none)) (H' = H₅))) (walk_list a5 ((bs ++ ws ++ es).map AV.pt)) ⟨_,_,rfl,rfl⟩ (fun i ρ H' h=>by obtain ⟨_,_,_,e⟩:=h;exact e▸h₅) (fun i x ρ H' hx h R r1 r2 r3=>?_) fun ρ H' h=>?_
 · obtain ⟨u,v,rfl,rfl⟩:=h
   rw [List.getElem?_map] at hx
   obtain ⟨p,hp,rfl⟩:=Option.map_eq_some_iff.mp hx
   have hin:inside n p = true:=by
    have:=List.mem_of_getElem? hp
    simp only [List.mem_append] at this
    rcases this with (h | h) | h
    · exact ib p h
    · exact iw p h
    · exact ie p h
   have hin':=hin
   simp only [inside,Bool.and_eq_true,decide_eq_true_eq] at hin'
   refine bc fun nG=>?_
   obtain ⟨⟨i1,i2⟩,i3,i4⟩:=hin'
   refine nG ?_
   refine ⟨_,rfl,?_⟩
   refine ss_step (s_ite (t_or (t_any_cons (t_cmp (x_var rfl (x_int ⟨_,CmpR.ltI _ _,?_⟩))))))
   refine if_dec (fun h=>absurd h (by omega)) fun _=>?_
   refine t_any_cons (t_cmp (x_var rfl (x_int ⟨_,CmpR.ltI _ _,?_⟩)))
   refine if_dec (fun h=>absurd h (by omega)) fun _=>?_
   refine t_any_cons (t_cmp (x_var rfl (x_side b5 rfl ⟨_,.geI _ _,if_dec (fun h=>absurd h (by omega)) fun _=>?_⟩)))
   refine t_any_cons (t_cmp (x_var rfl (x_side b5 rfl ⟨_,.geI _ _,if_dec (fun h=>absurd h (by omega)) fun _=>?_⟩)))
   refine t_any_nil (if_ff (ss_nil (ss_nil ?_)))
   exact (r1 _ _ ⟨_,_,rfl,rfl⟩).1
 refine bc fun nG=>?_
 obtain ⟨u,v,rfl,rfl⟩:=h
 refine nG ?_
 have kb:H' ba = some (.list (bs.map AV.pt)):=gr5 _ _ hb
 have kw:H' wa = some (.list (ws.map AV.pt)):=gr5 _ _ hw
 have ke:H' ea = some (.list (es.map AV.pt)):=gr5 _ _ he
 refine ss_step (s_loop (i_e (x_var rfl (.list kb ?_))))
 refine put_loop (o:=some .b) (fun u v=>(l8 (oR B.a) (oR ba) (oR wa) (oR ea) u v none none)) bs (walk_list ba _) (fun H'' g=>g _ _ nb kb) (fun _ _ _=>rfl) (fun _ _=>rfl) (fun _ _=>rfl) (fun _ _=>rfl) ib (fun _ _ _ _ q=>x_str q) b5 fun u v H₆ b6 k6=>?_
 refine ss_step (s_loop (i_e (x_var rfl (.list (k6 _ _ nw kw) ?_))))
 refine put_loop (o:=some .w) (fun u v=>(l8 (oR B.a) (oR ba) (oR wa) (oR ea) u v none none)) ws (walk_list wa _) (fun H'' g=>g _ _ nw (k6 _ _ nw kw)) (fun _ _ _=>rfl) (fun _ _=>rfl) (fun _ _=>rfl) (fun _ _=>rfl) iw (fun _ _ _ _ q=>x_str q) b6 fun u v H₇ b7 k7=>?_
 have k57:=k6.trans k7
 refine ss_step (s_loop (i_e (x_var rfl (.list (k57 _ _ ne ke) ?_))))
 refine put_loop (o:=none) (fun u v=>(l8 (oR B.a) (oR ba) (oR wa) (oR ea) u v none none)) es (walk_list ea _) (fun H'' g=>g _ _ ne (k57 _ _ ne ke)) (fun _ _ _=>rfl) (fun _ _=>rfl) (fun _ _=>rfl) (fun _ _=>rfl) ie (fun _ _ _ _ q=>x_none q) b7 fun u v H₈ b8 k8=>?_
 have k58:=k57.trans k8
 generalize hσ:upds (upds (upds σ bs (some .b)) ws (some .w)) es none = σ₁ at b8 q
 refine ss_step (s_asg (x_meth (x_var rfl ?_)))
 refine ⟨b8.isBoard,?_⟩
 refine xs_nil ?_
 refine c_find_all b8 fun sa ha H₉ gs hs hsa s cov=>?_
 have b9:=b8.grow s.grow
 have hcl:=s.found.cleaned cov
 have hsm:=s.found.same
 have nsa:sa∉B.rows:=fun h=>by
  refine bc fun nG=>?_
  obtain ⟨r,hr⟩:=List.mem_iff_getElem?.mp h
  refine nG ?_
  rw [b8.row r sa hr] at hsa;exact no2 hsa
 have k59:Keep B.rows H H₉:=(gr5.keep.trans k58).trans s.grow.keep
 refine ss_step (s_loop (i_e (x_var rfl ?_)))
 refine .list s.list ?_
 refine for_rule (fun i ρ H'=>(X3 fun u v w=>A3 (ρ = (l8 (oR B.a) (oR ba) (oR wa) (oR ea) u v (oR sa) w)) (BoardAt H' B n (drop σ₁ (gs.take i)) e) (Keep B.rows H₉ H'))) (walk_list sa (gs.map fun g=>AV.ref g.1)) ⟨_,_,_,rfl,b9.same fun p _=>(drop_out (by simp)).symm,.refl _ _⟩ (fun i ρ H' h=>by obtain ⟨_,_,_,_,_,g⟩:=h;exact g _ _ nsa s.list) (fun i x ρ H' hx h R r1 r2 r3=>?_) fun ρ H' h=>?_
 · obtain ⟨u,v,w,rfl,b',k'⟩:=h
   rw [List.getElem?_map] at hx
   obtain ⟨g,hg,rfl⟩:=Option.map_eq_some_iff.mp hx
   have hgm:=List.mem_of_getElem? hg
   refine bc fun nG=>?_
   obtain ⟨dx,pa,_,_,_,gat⟩:=s.at_ g hgm
   refine nG ?_
   have gat':=gat.keepRows b9 k'
   refine bc fun nG=>?_
   obtain ⟨fs,hfs,_,fp,_⟩:=gat'.ns
   refine nG ?_
   obtain ⟨gP,hgP⟩:=gat'.set
   have npa:=b'.notRow hgP fun xs h=>by cases h
   obtain ⟨⟨p₁,gp⟩,_⟩:=s.found.each g hgm
   refine ⟨_,rfl,ss_step (s_loop (i_e (x_attr (x_var rfl ⟨_,_,_,.mk gat'.inst hfs,fp,.set hgP fun S' hS'=>?_⟩))))⟩
   refine put_loop (o:=none) (mk:=fun i=>.set pa g.2.2 gP (S'.drop i)) (fun u v=>(l8 (oR B.a) (oR ba) (oR wa) (oR ea) u v (oR sa) (oR g.1))) S' (walk_set pa _ gP S') (fun H'' k=>k _ _ npa hgP) (fun _ _ _=>rfl) (fun _ _=>rfl) (fun _ _=>rfl) (fun _ _=>rfl) (fun p hp=>(gp.mem p (hS'.mem_iff.mp hp)).1) (fun _ _ _ _ q=>x_none q) b' fun u v H'' b'' k''=>?_
   refine ss_nil (r1 _ _ ⟨_,_,_,rfl,b''.same fun p _=>?_,k'.trans k''⟩).1
   refine wat List.take_add_one (wat hg ?_)
   exact drop_more hS' p
 obtain ⟨u,v,w,rfl,b10,k10⟩:=h
 rw [List.length_map,List.take_length] at b10
 have k5a:=k59.trans k10
 refine ss_step (s_setEmpty b10 rfl fun H₁₁ b11 k11=>?_)
 have kk:Keep (B.dx :: B.rows) H H₁₁:=(k5a.mono fun a h=>List.mem_cons_of_mem _ h).trans (k11.mono fun a h=>by simp at h;subst h;simp)
 have hsaL:H₁₁ sa = some (.list (gs.map fun g=>AV.ref g.1)):=k11 _ _ (by
  have:=b10.ns.choose_spec.1
  have hs:=k10 _ _ nsa s.list
  intro hm
  simp at hm;subst hm
  rw [this] at hs;exact clash hs rfl) (k10 _ _ nsa s.list)
 have fin:∀ u v w H' e',BoardAt H' B n (drop σ₁ gs) e'→(e' = true↔∀ p,inside n p = true→drop σ₁ gs p = none)→Keep [B.dx] H₁₁ H'→
  swps (callWp fns (k + 2)) (.cons (.ret (.notv (.var 6))) .nil) (l8 (oR B.a) (oR ba) (oR wa) (oR ea) u v (oR sa) w) H' (fun fl x H'=>match fl with | .ret v=>Q v H' | .next=>Q .none H' | x=>False) X:=by
  intro u v w H' e' bF he' kF
  have hsaF:=kF _ _ (by
   have:=b11.ns.choose_spec.1
   intro hm
   simp at hm;subst hm
   rw [this] at hsaL;exact clash hsaL rfl) hsaL
  refine ss_step (s_ret (x_notv (x_var rfl ⟨_,.list hsaF (by rw [List.length_map];have:=s.found.short;have:=s.found.size b.small;omega),q _ _ _ _ bF hcl he' ?_ (kk.trans (kF.mono fun a h=>by simp at h;subst h;simp))⟩)))
  rw [← hsm]
  cases gs<;>simp
 refine ss_step (s_loop (i_e (x_points b11 rfl (.list b11.points ?_))))
 refine for_rule (fun i ρ H'=>(X2 fun u v=>A3 (ρ = (l8 (oR B.a) (oR ba) (oR wa) (oR ea) u v (oR sa) w)) (H' = H₁₁) (∀ p∈(pts n).take i,drop σ₁ gs p = none))) (walk_list B.bp ((pts n).map AV.pt)) ⟨_,_,rfl,rfl,fun _ h=>(nomatch h)⟩ (fun i ρ H' h=>by obtain ⟨_,_,_,e,_⟩:=h;exact e▸b11.points) (fun i x ρ H' hx h R r1 r2 r3=>?_) fun ρ H' h=>?_
 · obtain ⟨u,v,rfl,rfl,hno⟩:=h
   rw [List.getElem?_map] at hx
   obtain ⟨p,hp,rfl⟩:=Option.map_eq_some_iff.mp hx
   have hin:=mem_pts.mp (List.mem_of_getElem? hp)
   refine ⟨_,rfl,ss_step (s_ite (t_cmp (x_cell (p:=p) b11 rfl rfl rfl hin (x_none ⟨_,.isNot _,if_not (fun h=>?_) fun h=>?_⟩))))⟩
   · refine ss_step (s_setEmpty (e':=false) b11 rfl fun H₁₂ b12 k12=>?_)
     refine ss_step (s_brk ?_)
     refine r2 _ _ (fin _ _ _ _ _ b12 ⟨fun h=>(nob h),fun hh=>?_⟩ k12)
     rw [hh p hin] at h
     exact absurd rfl h
   · refine ss_nil (ss_nil ?_)
     refine (r1 _ _ ⟨_,_,rfl,rfl,fun y hy=>?_⟩).1
     rw [List.take_add_one,hp] at hy
     rcases List.mem_append.mp hy with hy | hy
     · exact hno y hy
     · simp at hy;subst hy
       cases hd:drop σ₁ gs y with
       | none=>rfl
       | some c=>rw [hd] at h;cases h
 · obtain ⟨u,v,rfl,rfl,hno⟩:=h
   rw [List.length_map,List.take_length] at hno
   exact fin _ _ _ _ _ b11 ⟨fun _ p hp=>hno p (mem_pts.mpr hp),fun _=>rfl⟩ (.refl _ _)
theorem c_opponent {k:Nat} {c:Col} (q:Q c.opp.av H):callWp fns (k + 1) .opponent_of [c.av] H Q X:=by
 refine c_call rfl ?_
 refine ss_step (s_try (ss_step (s_ret (x_opp (x_var rfl ?_)))))
 cases c with
 | b=>exact .inl ⟨rfl,q⟩
 | w=>exact .inr ⟨rfl,q⟩
inductive Outcome (n:Nat) (σ₁:Pos) (c:Col):Gs→Pos→Bool→AV→Prop
 | none:Outcome n σ₁ c [] (drop σ₁ []) false .none
 | one (g:Addr×Col×List Pt):Outcome n σ₁ c [g] (drop σ₁ [g]) (decide (g.2.2.length = n * n)) .none
 | more {gs:Gs}:2≤gs.length→(∀ f x o,(gs.filter fun g=>decide (g.2.1 = c.opp)) = [f]→f.2.2 = [x]→(gs.filter fun g=>decide (g.2.1 = c)).head? = some o→o.2.2.length≠1)→Outcome n σ₁ c gs (drop σ₁ (gs.filter fun g=>decide (g.2.1 = c.opp))) false .none
 | ko {gs:Gs} {f o:Addr×Col×List Pt} {x:Pt}:2≤gs.length→(gs.filter fun g=>decide (g.2.1 = c.opp)) = [f]→f.2.2 = [x]→(gs.filter fun g=>decide (g.2.1 = c)).head? = some o→o.2.2.length = 1→Outcome n σ₁ c gs (drop σ₁ (gs.filter fun g=>decide (g.2.1 = c.opp))) false (.pt x)
theorem capture_loop {C:CallSem} {B:Bd} {n:Nat} {σ₁:Pos} {e:Bool} {sa:Addr} {gs:Gs} {H₉:AHeap} {S:SQ} {gv rv cv:Nat} {w₀ u₀ v₀:Option AV} (mkρ:Option AV→Option AV→Option AV→Loc) (b9:BoardAt H₉ B n σ₁ e) (hl:H₉ sa = some (.list (gs.map fun g=>AV.ref g.1))) (nsa:sa∉B.rows)
 (gat:∀ g∈gs,∃ dx pa,GroupAt H₉ g.1 dx pa g.2.1 g.2.2 true) (ins:∀ g∈gs,∀ p∈g.2.2,inside n p = true)
 (hg:∀ w u v x,bindT (.one gv) x (mkρ w u v) = some (mkρ (some x) u v)) (hgv:∀ x u v,(mkρ (some x) u v)[gv]? = some (some x)) (hb:∀ w u v p,bindT (.two rv cv) (AV.pt p) (mkρ w u v) = some (mkρ w (some (.int p.1)) (some (.int p.2)))) (h0:∀ w u v,(mkρ w u v)[0]? = some (some (.ref B.a)))
 (hr:∀ w x y,(mkρ w (some x) (some y))[rv]? = some (some x)) (hc:∀ w x y,(mkρ w (some x) (some y))[cv]? = some (some y))
 (fin:∀ w u v H',BoardAt H' B n (drop σ₁ gs) e→Keep B.rows H₉ H'→S .next (mkρ w u v) H'):
 ∃ m,loopW (.one gv) (fun ρ₁ H₂ Q₁=>swps C (.cons (.loop (.two rv cv) (.e (.attr (.var gv) .points)) (.cons (.sitem (.sub (.attr (.var 0) .board) (.var rv)) (.var cv) .none) .nil)) .nil) ρ₁ H₂ Q₁ nox) m (.list sa 0) (mkρ w₀ u₀ v₀) H₉ S:=by
 refine for_rule (fun i ρ H'=>(X3 fun w u v=>A3 (ρ = mkρ w u v) (BoardAt H' B n (drop σ₁ (gs.take i)) e) (Keep B.rows H₉ H'))) (walk_list sa (gs.map fun g=>AV.ref g.1)) ⟨_,_,_,rfl,b9.same fun p _=>(drop_out (by simp)).symm,.refl _ _⟩ (fun i ρ H' h=>by obtain ⟨_,_,_,_,_,g⟩:=h;exact g _ _ nsa hl) (fun i x ρ H' hx h R r1 r2 r3=>?_) fun ρ H' h=>?_
 · obtain ⟨w,u,v,rfl,b',k'⟩:=h
   rw [List.getElem?_map] at hx
   obtain ⟨g,hg',rfl⟩:=Option.map_eq_some_iff.mp hx
   have hgm:=List.mem_of_getElem? hg'
   refine bc fun nG=>?_
   obtain ⟨dx,pa,ga⟩:=gat g hgm
   refine nG ?_
   have gat':=ga.keepRows b9 k'
   refine bc fun nG=>?_
   obtain ⟨fs,hfs,_,fp,_⟩:=gat'.ns
   refine nG ?_
   obtain ⟨gP,hgP⟩:=gat'.set
   have npa:=b'.notRow hgP fun xs h=>by cases h
   refine ⟨_,hg w u v _,ss_step (s_loop (i_e (x_attr (x_var (hgv _ u v) ⟨_,_,_,.mk gat'.inst hfs,fp,.set hgP fun S' hS'=>?_⟩))))⟩
   refine put_loop (o:=none) (mk:=fun i=>.set pa g.2.2 gP (S'.drop i)) (fun u v=>mkρ (some (.ref g.1)) u v) S' (walk_set pa _ gP S') (fun H'' k=>k _ _ npa hgP) (fun u v p=>hb _ u v p) (fun u v=>h0 _ u v) (fun x y=>hr _ x y) (fun x y=>hc _ x y) (fun p hp=>ins g hgm p (hS'.mem_iff.mp hp)) (fun _ _ _ _ q=>x_none q) b' fun u v H'' b'' k''=>?_
   refine ss_nil (r1 _ _ ⟨_,_,_,rfl,b''.same fun p _=>?_,k'.trans k''⟩).1
   refine wat List.take_add_one (wat hg' ?_)
   exact drop_more hS' p
 · obtain ⟨w,u,v,rfl,b',k'⟩:=h
   rw [List.length_map,List.take_length] at b'
   exact fin w u v H' b' k'
theorem c_play_refused {k n:Nat} {B:Bd} {σ:Pos} {e:Bool} {p:Pt} {c d:Col} (b:BoardAt H B n σ e) (hi:inside n p = true) (hd:σ p = some d) (x:X H):
 callWp fns (k + 3) .play [.ref B.a,.int p.1,.int p.2,c.av] H Q X:=by
 have hi':=hi
 simp only [inside,Bool.and_eq_true,decide_eq_true_eq] at hi'
 refine c_call rfl ?_
 dsimp only [fns,F_play]
 refine ss_step (s_ite (t_or (t_any_cons (t_cmp (x_var rfl (x_int ⟨_,CmpR.ltI _ _,?_⟩))))))
 refine if_dec (fun h=>absurd h (by omega)) fun _=>?_
 refine t_any_cons (t_cmp (x_var rfl (x_int ⟨_,CmpR.ltI _ _,?_⟩)))
 refine if_dec (fun h=>absurd h (by omega)) fun _=>?_
 refine t_any_nil (if_ff (ss_nil (ss_step (s_asg (x_call (xs_cons (x_var rfl (xs_nil ?_))))))))
 refine c_opponent ?_
 refine ss_step (s_ite (t_cmp (x_cell (p:=p) b rfl rfl rfl hi (x_none ⟨_,.isNot _,if_not (fun h=>ss_step (s_raise x)) fun h=>?_⟩))))
 rw [hd] at h;cases h
theorem c_play_told {k n:Nat} {B:Bd} {σ:Pos} {e:Bool} {p:Pt} {c:Col} (b:BoardAt H B n σ e) (hi:inside n p = true) (hσ:σ p = none)
 (q:∀ H' gs hs τ e' v,Found n (upd σ p (some c)) gs hs→(∀ x∈p :: around p,inside n x = true→upd σ p (some c) x≠none→x∈hs)→Outcome n (upd σ p (some c)) c gs τ e' v→BoardAt H' B n τ e'→Keep (B.dx :: B.rows) H H'→Q v H'):
 callWp fns (k + 3) .play [.ref B.a,.int p.1,.int p.2,c.av] H Q X:=by
 have hi':=hi
 simp only [inside,Bool.and_eq_true,decide_eq_true_eq] at hi'
 refine c_call rfl ?_
 dsimp only [fns,F_play]
 refine ss_step (s_ite (t_or (t_any_cons (t_cmp (x_var rfl (x_int ⟨_,CmpR.ltI _ _,?_⟩))))))
 refine if_dec (fun h=>absurd h (by omega)) fun _=>?_
 refine t_any_cons (t_cmp (x_var rfl (x_int ⟨_,CmpR.ltI _ _,?_⟩)))
 refine if_dec (fun h=>absurd h (by omega)) fun _=>?_
 refine t_any_nil (if_ff (ss_nil (ss_step (s_asg (x_call (xs_cons (x_var rfl (xs_nil ?_))))))))
 refine c_opponent ?_
 refine ss_step (s_ite (t_cmp (x_cell (p:=p) b rfl rfl rfl hi (x_none ⟨_,.isNot _,if_not (fun h=>absurd (by refine wat hσ ?_;rfl) h) fun h=>ss_nil ?_⟩))))
 refine ss_step (s_put (p:=p) (o:=some c) b rfl rfl rfl hi (fun Q' hq=>x_var rfl hq) fun H₁ b₁ k₁ _=>?_)
 refine ss_step (s_setEmpty (e':=false) b₁ rfl fun H₂ b₂ k₂=>?_)
 generalize hσ₁:upd σ p (some c) = σ₁ at b₁ b₂ q
 have k02:Keep (B.dx :: B.rows) H H₂:=(k₁.mono fun a h=>List.mem_cons_of_mem _ h).trans (k₂.mono fun a h=>by simp at h;subst h;simp)
 refine ss_step (s_asg (x_meth (x_var rfl ?_)))
 refine ⟨b₂.isBoard,?_⟩
 refine xs_cons (x_var rfl (xs_cons (x_var rfl (xs_nil ?_))))
 refine c_find_surrounded b₂ fun sa ha H₉ gs hs hsa s cov=>?_
 have b9:=b₂.grow s.grow
 have k09:Keep (B.dx :: B.rows) H H₉:=k02.trans s.grow.keep
 have nsa:sa∉B.rows:=fun h=>by
  obtain ⟨r,hr⟩:=List.mem_iff_getElem?.mp h
  rw [b₂.row r sa hr] at hsa;exact no2 hsa
 have hlen:gs.length≤16:=Nat.le_trans s.found.short (s.found.size b.small)
 have ins:∀ g∈gs,∀ x∈g.2.2,inside n x = true:=fun g hg x hx=>by
  refine bc fun nG=>?_
  obtain ⟨⟨y,gy⟩,_⟩:=s.found.each g hg
  refine nG ?_
  exact (gy.mem x hx).1
 have ndx:∀ g∈gs,∀ b o,H₉ b = some o→(∀ fs,o≠.ns fs)→True:=fun _ _ _ _ _ _=>trivial
 refine ss_step (s_asg (x_none (ss_step (s_ite (t_e (x_var rfl ?_))))))
 refine ⟨_,.list s.list (by rw [List.length_map];exact Nat.le_trans ‹_› (by decide)),if_bool (fun hne=>?_) fun hne=>?_⟩
 · refine ss_step (s_ite (t_cmp (x_bi (xs_cons (x_var rfl (xs_nil (.lenL s.list (by rw [List.length_map];exact Nat.le_trans ‹_› (by decide)) (x_int ⟨_,.eq (.plain rfl rfl),if_dec (fun h1=>?_) fun h1=>?_⟩))))))))
   · have h1':gs.length = 1:=by
      simp only [AV.int.injEq,List.length_map] at h1;omega
     obtain ⟨g,rfl⟩:∃ g,gs = [g]:=by
      match gs,h1' with
      | [g],_=>exact ⟨g,rfl⟩
     obtain ⟨dx,pa,hdx,hpa,_,gat⟩:=s.at_ g (by simp)
     refine bc fun nG=>?_
     obtain ⟨fs,hfs,_,fp,_⟩:=gat.ns
     refine nG ?_
     refine bc fun nG=>?_
     obtain ⟨gP,hgP⟩:=gat.set
     refine nG ?_
     refine ss_step (s_asg (x_var rfl (ss_step (s_ite (t_cmp (x_bi (xs_cons (x_attr (x_sub (x_var rfl (x_int ?_)))))))))))
     refine ⟨_,.list s.list (by decide) (by decide) rfl,?_⟩
     refine ⟨_,_,_,.mk gat.inst hfs,fp,?_⟩
     refine xs_nil ?_
     refine .lenS hgP ?_
     refine x_bin (x_side b9 rfl (x_side b9 rfl (.mulI ?_ ⟨_,.eq (.plain rfl rfl),?_⟩)))
     · have:=b.small
       rcases n with _ | _ | _ | _ | _ | n<;>first | decide +kernel | omega
     obtain ⟨fsB,hB9,_⟩:=b9.ns
     have ndx:dx≠B.dx:=by intro h;obtain ⟨_,h2,_⟩:=b₂.ns;rw [← h,hdx] at h2;exact no1 h2
     have kd:∀ H',Keep [B.dx] H₉ H'→H' sa = some (.list ([g].map fun g=>AV.ref g.1))∧GroupAt H' g.1 dx pa g.2.1 g.2.2 true:=fun H' k=>by
      refine ⟨k _ _ (by simp only [List.mem_singleton];intro h;have:=s.list;rw [h,hB9] at this;exact clash this rfl) s.list,gat.keep fun x hx o ho=>k _ _ (by
       simp only [List.mem_singleton]
       intro h
       rcases hx with hx | hx | hx
       · have:=gat.inst;rw [← hx,h,hB9] at this;exact clash this rfl
       · exact ndx (hx.symm.trans h)
       · rw [← hx,h,hB9] at hgP;exact clash hgP rfl) ho⟩
     refine if_dec (fun h2=>?_) fun h2=>?_
     · refine ss_step (s_setEmpty (e':=true) b9 rfl fun H₁₀ b10 k10=>?_)
       refine bc fun nG=>?_
       obtain ⟨l10,g10⟩:=kd H₁₀ k10
       refine nG ?_
       refine ss_nil (ss_nil (ss_step (s_loop (i_e (x_var rfl ?_)))))
       refine .list l10 (capture_loop (fun w u v=>(l12 (oR B.a) (oI p.1) (oI p.2) (oC c) (oC c.opp) (oR sa) (some .none) (oR sa) none w u v)) b10 l10 nsa (fun x hx=>by simp at hx;subst hx;exact ⟨_,_,g10⟩) ins (fun _ _ _ _=>rfl) (fun _ _ _=>rfl) (fun _ _ _ _=>rfl) (fun _ _ _=>rfl) (fun _ _ _=>rfl) (fun _ _ _=>rfl) fun w u v H₁₁ b11 k11=>?_)
       refine ss_nil (ss_step (s_ret (x_var rfl ?_)))
       have he:decide (g.2.2.length = n * n) = true:=by
        refine wat decide_eq_true_eq ?_;simp only [AV.int.injEq] at h2;exact_mod_cast h2
       exact q _ _ _ _ _ _ s.found cov (.one g) (he▸b11) ((k09.trans (k10.mono fun a h=>by simp at h;subst h;simp)).trans (k11.mono fun a h=>List.mem_cons_of_mem _ h))
     · refine bc fun nG=>?_
       obtain ⟨l10,g10⟩:=kd H₉ (.refl _ _)
       refine nG ?_
       refine ss_nil (ss_nil (ss_step (s_loop (i_e (x_var rfl ?_)))))
       refine .list l10 (capture_loop (fun w u v=>(l12 (oR B.a) (oI p.1) (oI p.2) (oC c) (oC c.opp) (oR sa) (some .none) (oR sa) none w u v)) b9 l10 nsa (fun x hx=>by simp at hx;subst hx;exact ⟨_,_,g10⟩) ins (fun _ _ _ _=>rfl) (fun _ _ _=>rfl) (fun _ _ _ _=>rfl) (fun _ _ _=>rfl) (fun _ _ _=>rfl) (fun _ _ _=>rfl) fun w u v H₁₁ b11 k11=>?_)
       refine ss_nil (ss_step (s_ret (x_var rfl ?_)))
       have he:decide (g.2.2.length = n * n) = false:=by
        rw [decide_eq_false_iff_not];intro hh;exact h2 (by rw [hh];simp)
       exact q _ _ _ _ _ _ s.found cov (.one g) (he▸b11) (k09.trans (k11.mono fun a h=>List.mem_cons_of_mem _ h))
   · have h2:2≤gs.length:=by
      have:gs.length≠0:=fun h=>by have:=List.length_eq_zero_iff.mp h;subst this;simp at hne
      simp only [AV.int.injEq,List.length_map] at h1;lia
     refine ss_step (s_asg (x_comp (i_e (x_var rfl ?_))))
     have colour:∀ (H':AHeap) (d:Col),Grow H₉ H'→∀ g∈gs,(X2 fun dx fs=>A2 (AttrAt H' (.ref g.1) dx fs) (fs .colour = some g.2.1.av)):=fun H' d gr g hg=>by
      obtain ⟨dx,pa,_,_,_,gat⟩:=s.at_ g hg
      refine bc fun nG=>?_
      obtain ⟨fs,hfs,fc,_⟩:=(gat.grow gr).ns
      refine nG ?_
      exact ⟨dx,fs,.mk (gat.grow gr).inst hfs,fc⟩
     have points:∀ (H':AHeap),Grow H₉ H'→∀ g∈gs,(X4 fun dx fs pa gP=>A3 (AttrAt H' (.ref g.1) dx fs) (fs .points = some (.ref pa)) (H' pa = some (.set g.2.2 gP))):=fun H' gr g hg=>by
      obtain ⟨dx,pa,_,_,_,gat⟩:=s.at_ g hg
      refine bc fun nG=>?_
      obtain ⟨fs,hfs,_,fp,_⟩:=(gat.grow gr).ns
      refine nG ?_
      obtain ⟨gP,hgP⟩:=(gat.grow gr).set
      exact ⟨dx,fs,pa,gP,.mk (gat.grow gr).inst hfs,fp,hgP⟩
     refine .list s.list ⟨rfl,comp_filter (enc:=fun g:Addr×Col×List Pt=>AV.ref g.1) gs (fun g=>decide (g.2.1 = c.opp)) (fun g=>AV.ref g.1) (walk_list sa _) (fun H' g=>g _ _ s.list) (by exact Nat.lt_of_le_of_lt ‹_› (by decide)) (fun g hg acc H' R gr hl' no yes=>?_) fun ca H₁₀ hca h₁₀ g₁₀=>?_⟩
     · obtain ⟨dx,fs,ha,fc⟩:=colour H' c.opp gr g hg
       refine t_cmp (x_attr (x_var rfl ⟨_,_,_,ha,fc,x_var rfl ⟨_,.eq (.plain (Col.plain _) (Col.plain _)),if_dec (fun h=>x_var rfl ⟨hl',yes (by simp only [decide_eq_true_eq];exact Col.s_inj (by simpa using h)) H' (.refl _)⟩) fun h=>no (by simp only [decide_eq_false_iff_not];intro hh;exact h (by exact wat hh rfl)) H' (.refl _)⟩⟩))
     generalize hF:(gs.filter fun g=>decide (g.2.1 = c.opp)) = F at h₁₀
     have subF:∀ g∈F,g∈gs:=fun g hg=>by rw [← hF] at hg;exact (List.mem_filter.mp hg).1
     have lenF:F.length≤16:=by refine wat hF.symm ?_;exact Nat.le_trans (List.length_filter_le ..) hlen
     have nca:ca∉B.rows:=fun h=>by
      obtain ⟨r,hr⟩:=List.mem_iff_getElem?.mp h
      rw [b9.row r ca hr] at hca;exact no2 hca
     have fin:∀ (H':AHeap) (w₈:Option AV) (v:AV) (S:SQ),Grow H₁₀ H'→(∀ w u v' H'',BoardAt H'' B n (drop σ₁ F) false→Keep (B.dx :: B.rows) H H''→S .next (l12 (oR B.a) (oI p.1) (oI p.2) (oC c) (oC c.opp) (oR sa) (some v) (oR ca) w₈ w u v') H'')→
      ∃ m,loopW (.one 9) (fun ρ₁ H₂ Q₁=>swps (callWp fns (k + 2)) (.cons (.loop (.two 10 11) (.e (.attr (.var 9) .points)) (.cons (.sitem (.sub (.attr (.var 0) .board) (.var 10)) (.var 11) .none) .nil)) .nil) ρ₁ H₂ Q₁ nox) m (.list ca 0) (l12 (oR B.a) (oI p.1) (oI p.2) (oC c) (oC c.opp) (oR sa) (some v) (oR ca) w₈ none none none) H' S:=by
      intro H' w₈ v S gr k'
      have bF:=b9.grow (g₁₀.trans gr)
      refine capture_loop (fun w u v'=>(l12 (oR B.a) (oI p.1) (oI p.2) (oC c) (oC c.opp) (oR sa) (some v) (oR ca) w₈ w u v')) bF (gr _ _ h₁₀) nca (fun x hx=>?_) (fun x hx=>ins x (subF x hx)) (fun _ _ _ _=>rfl) (fun _ _ _=>rfl) (fun _ _ _ _=>rfl) (fun _ _ _=>rfl) (fun _ _ _=>rfl) (fun _ _ _=>rfl) fun w u v' H'' b'' k''=>?_
      · refine bc fun nG=>?_
        obtain ⟨dx,pa,_,_,_,gat⟩:=s.at_ x (subF x hx)
        refine nG ?_
        exact ⟨dx,pa,gat.grow (g₁₀.trans gr)⟩
      · exact k' w u v' H'' b'' ((k09.trans (g₁₀.trans gr).keep).trans (k''.mono fun a h=>List.mem_cons_of_mem _ h))
     refine ss_step (s_ite (t_and (t_all_cons (t_cmp (x_bi (xs_cons (x_var rfl (xs_nil (.lenL h₁₀ (by rw [List.length_map];exact Nat.le_trans ‹_› (by decide)) (x_int ⟨_,.eq (.plain rfl rfl),if_dec (fun l1=>?_) fun l1=>if_ff ?_⟩))))))))))
     · have l1':F.length = 1:=by simp only [AV.int.injEq,List.length_map] at l1;lia
       obtain ⟨f,rfl⟩:∃ f,F = [f]:=by
        match F,l1' with
        | [f],_=>exact ⟨f,rfl⟩
       have hf:=subF f (by simp)
       obtain ⟨dx,fs,pa,gP,hat,fp,hpaP⟩:=points H₁₀ g₁₀ f hf
       refine t_all_cons (t_cmp (x_bi (xs_cons (x_attr (x_sub (x_var rfl (x_int ⟨_,.list h₁₀ (by decide) (by decide) rfl,⟨_,_,_,hat,fp,xs_nil (.lenS hpaP (x_int ⟨_,.eq (.plain rfl rfl),if_dec (fun l2=>t_all_nil (if_tt ?_)) fun l2=>if_ff ?_⟩))⟩⟩)))))))
       · obtain ⟨x,hx⟩:∃ x,f.2.2 = [x]:=by
          have l2':f.2.2.length = 1:=by simp only [AV.int.injEq] at l2;lia
          match f.2.2,l2' with
          | [x],_=>exact ⟨x,rfl⟩
         refine ss_step (s_asg (x_comp (i_e (x_var rfl ?_))))
         refine .list (g₁₀ _ _ s.list) ⟨rfl,comp_filter (enc:=fun g:Addr×Col×List Pt=>AV.ref g.1) gs (fun g=>decide (g.2.1 = c)) (fun g=>AV.ref g.1) (walk_list sa _) (fun H' g=>g _ _ (g₁₀ _ _ s.list)) (by exact Nat.lt_of_le_of_lt ‹_› (by decide)) (fun g hg acc H' R gr hl' no yes=>?_) fun oa H₁₁ hoa h₁₁ g₁₁=>?_⟩
         · obtain ⟨dx,fs,ha,fc⟩:=colour H' c (g₁₀.trans gr) g hg
           refine t_cmp (x_attr (x_var rfl ⟨_,_,_,ha,fc,x_var rfl ⟨_,.eq (.plain (Col.plain _) (Col.plain _)),if_dec (fun h=>x_var rfl ⟨hl',yes (by simp only [decide_eq_true_eq];exact Col.s_inj (by simpa using h)) H' (.refl _)⟩) fun h=>no (by simp only [decide_eq_false_iff_not];intro hh;exact h (by exact wat hh rfl)) H' (.refl _)⟩⟩))
         obtain ⟨o,O,hO⟩:∃ o O,(gs.filter fun g=>decide (g.2.1 = c)) = o :: O:=by
          cases hO:(gs.filter fun g=>decide (g.2.1 = c)) with
          | cons o O=>exact ⟨o,O,rfl⟩
          | nil=>
            exfalso
            have:gs.filter (fun g=>decide (g.2.1 = c.opp)) = gs:=List.filter_eq_self.mpr fun g hg=>by
             have h1:=List.filter_eq_nil_iff.mp hO g hg
             simp only [decide_eq_true_eq] at h1 ⊢
             revert h1
             cases g.2.1<;>cases c<;>simp [Col.opp]
            rw [this] at hF
            rw [hF] at h2
            simp at h2
         rw [hO] at h₁₁
         have ho:o∈gs:=by
          have:o∈gs.filter fun g=>decide (g.2.1 = c):=by refine wat hO ?_;exact List.mem_cons_self
          exact (List.mem_filter.mp this).1
         obtain ⟨dxo,fso,pao,gPo,hato,fpo,hpao⟩:=points H₁₁ (g₁₀.trans g₁₁) o ho
         refine bc fun nG=>?_
         obtain ⟨dx',fs',pa',gP',hat',fp',hpa'⟩:=points H₁₁ (g₁₀.trans g₁₁) f hf
         refine nG ?_
         rw [hx] at hpa'
         refine ss_step (s_ite (t_cmp (x_bi (xs_cons (x_attr (x_sub (x_var rfl (x_int ⟨_,.list h₁₁ (by decide) (by decide) rfl,⟨_,_,_,hato,fpo,xs_nil (.lenS hpao (x_int ⟨_,.eq (.plain rfl rfl),if_dec (fun l3=>?_) fun l3=>?_⟩))⟩⟩))))))))
         · refine ss_step (s_asgN (x_attr (x_sub (x_var rfl (x_int ⟨_,.list (g₁₁ _ _ h₁₀) (by decide) (by decide) rfl,⟨_,_,_,hat',fp',_,.set hpa',?_⟩⟩)))))
           refine ss_nil (ss_nil (ss_nil (ss_step (s_loop (i_e (x_var rfl ?_))))))
           refine .list (g₁₁ _ _ h₁₀) (fin H₁₁ (some (.ref oa)) (.pt x) _ g₁₁ fun w u v' H'' b'' k''=>?_)
           refine ss_nil (ss_step (s_ret (x_var rfl ?_)))
           have out:=Outcome.ko (n:=n) (σ₁:=σ₁) (c:=c) h2 hF hx (by refine wat hO ?_;rfl) (show o.2.2.length = 1 by simp only [AV.int.injEq] at l3;omega)
           rw [hF] at out
           exact q _ _ _ _ _ _ s.found cov out b'' k''
         · refine ss_nil (ss_nil (ss_nil (ss_step (s_loop (i_e (x_var rfl ?_))))))
           refine .list (g₁₁ _ _ h₁₀) (fin H₁₁ (some (.ref oa)) .none _ g₁₁ fun w u v' H'' b'' k''=>?_)
           refine ss_nil (ss_step (s_ret (x_var rfl ?_)))
           have out:=Outcome.more (n:=n) (σ₁:=σ₁) (c:=c) h2 fun f' x' o' _ _ ho'=>by
            rw [hO] at ho'
            obtain rfl:=Option.some.inj ho'
            intro hl
            exact l3 (by refine wat hl ?_;rfl)
           rw [hF] at out
           exact q _ _ _ _ _ _ s.found cov out b'' k''
       · refine ss_nil (ss_nil (ss_step (s_loop (i_e (x_var rfl ?_)))))
         refine .list h₁₀ (fin H₁₀ none .none _ (.refl _) fun w u v' H'' b'' k''=>?_)
         refine ss_nil (ss_step (s_ret (x_var rfl ?_)))
         have out:=Outcome.more (n:=n) (σ₁:=σ₁) (c:=c) h2 fun f' x' o' hf' hx' _=>by
          rw [hF] at hf'
          cases hf'
          exact absurd (by refine wat hx' ?_;rfl) l2
         rw [hF] at out
         exact q _ _ _ _ _ _ s.found cov out b'' k''
     · refine ss_nil (ss_nil (ss_step (s_loop (i_e (x_var rfl ?_)))))
       refine .list h₁₀ (fin H₁₀ none .none _ (.refl _) fun w u v' H'' b'' k''=>?_)
       refine ss_nil (ss_step (s_ret (x_var rfl ?_)))
       have out:=Outcome.more (n:=n) (σ₁:=σ₁) (c:=c) h2 fun f' x' o' hf' hx' _=>by
        rw [hF] at hf'
        subst hf'
        exact absurd rfl l1
       rw [hF] at out
       exact q _ _ _ _ _ _ s.found cov out b'' k''
 · have h0:gs = []:=by cases gs with
    | nil=>rfl
    | cons g gs=>simp at hne
   subst h0
   refine ss_nil (ss_step (s_ret (x_var rfl ?_)))
   exact q _ _ _ _ _ _ s.found cov .none (b9.same fun x _=>(drop_out (by simp)).symm) k09
noncomputable def told (v:AV):AV:=.pair (.str (Str.ofString "told")) v
noncomputable def refused:AV:=.pair (.str (Str.ofString "refused")) .none
theorem c_try {k n:Nat} {B:Bd} {σ:Pos} {e:Bool} {p:Pt} {c:Col} (b:BoardAt H B n σ e) (hi:inside n p = true)
 (q0:σ p≠none→Q refused H)
 (q:σ p = none→∀ H' gs hs τ e' v,Found n (upd σ p (some c)) gs hs→(∀ x∈p :: around p,inside n x = true→upd σ p (some c) x≠none→x∈hs)→Outcome n (upd σ p (some c)) c gs τ e' v→BoardAt H' B n τ e'→Keep (B.dx :: B.rows) H H'→Q (told v) H'):
 callWp fns (k + 4) .tryPlay [.ref B.a,.pt p,c.av] H Q X:=by
 refine c_call rfl ?_
 refine ss_step (s_tryVE (x_pair (x_str (x_meth (x_var rfl ?_)))))
 refine ⟨b.isBoard,?_⟩
 refine xs_cons (x_sub (x_var rfl (x_int ⟨_,SubR.fst _ _,(xs_cons (x_sub (x_var rfl (x_int ⟨_,SubR.snd _ _,(xs_cons (x_var rfl (xs_nil ?_)))⟩))))⟩)))
 cases hσ:σ p with
 | some d=>
   refine c_play_refused b hi hσ ?_
   exact q0 (by refine wat hσ ?_;simp)
 | none=>
   refine c_play_told b hi hσ fun H' gs hs τ e' v f cov out b' k'=>?_
   exact q hσ H' gs hs τ e' v f cov out b' k'
noncomputable def nats (n:Nat):List Int:=(List.range n).map fun (k:Nat)=>(k:Int)
theorem rangeL_nat (n:Nat):rangeL 0 n 1 = nats n:=by
 unfold rangeL nats
 refine wat (show (((n:Int) - 0 + 1 - 1) / 1).toNat = n by simp) ?_
 refine List.map_congr_left fun k _=>by lia
theorem nats_get {n i:Nat}:((nats n).map AV.int)[i]? = if i < n then some (.int i) else none:=by
 simp only [nats,List.map_map,List.getElem?_map]
 by_cases h:i < n<;>simp [h]
noncomputable def rowPts (n r:Nat):List AV:=(List.range n).map fun (c:Nat)=>AV.pt ((r:Int),(c:Int))
theorem pts_rows (n:Nat):(pts n).map AV.pt = (List.range n).flatMap (rowPts n):=by
 simp only [pts,List.map_flatMap,List.map_map];rfl
theorem rows_len {n:Nat} (hn:n≤4) (r:Nat):((List.range r).flatMap (rowPts n)).length = r * n:=by
 induction r with
 | zero=>simp
 | succ r ih=>rw [List.range_succ,List.flatMap_append,List.length_append,ih];simp [rowPts];rw [Nat.add_mul];exact Nat.le_antisymm (linLe [_,_] 1 (.a (.v 0) (.v 1)) (.a (.v 0) (.m 1 (.v 1))) [] rfl) (linLe [_,_] 1 (.a (.v 0) (.m 1 (.v 1))) (.a (.v 0) (.v 1)) [] rfl)
theorem pts_turns {C:CallSem} {caps:Loc} {n:Nat} {H:AHeap} {K:List AV→AHeap→Prop} (hn:n≤4) (hcap:caps[0]? = some (some (.int n))) (k:K ((pts n).map AV.pt) H):
 ∃ m,turns (fun x acc H' K=>awpI C (.range (.var 2)) (some x :: none :: caps) H' (fun it₁ H₂=>notSetIt it₁ = true∧∃ m,turns (fun y acc' H'' K'=>
  awp C (.pair (.var 0) (.var 1)) (some x :: some y :: caps) H'' (fun v H₃=>acc'.length < 1000∧K' (acc' ++ [v]) H₃) nox) m it₁ acc H₂ K) nox) m (.ints (rangeL 0 n 1)) [] H K:=by
 rw [rangeL_nat]
 refine ⟨n + 1,turns_rule (fun m it acc H'=>H' = H∧(X1 fun r=>A4 (it = .ints ((nats n).drop r)) (r≤n) (m = n - r) (acc = (List.range r).flatMap (rowPts n)))) ?_ _ n _ _ _ (Nat.lt_succ_self _) ⟨rfl,0,rfl,Nat.zero_le _,rfl,rfl⟩⟩
 rintro m it acc H' ⟨rfl,r,rfl,hr,rfl,rfl⟩
 have hw:=walk_ints (nats n) H' trivial r
 rw [nats_get] at hw
 by_cases hrn:r < n
 · rw [if_pos hrn] at hw
   refine .inr ⟨_,_,hw,fun R hR=>i_range (x_var (by simpa using hcap) ⟨_,rfl,by lia,by lia,rfl,?_⟩)⟩
   rw [rangeL_nat]
   refine ⟨n + 1,turns_rule (fun m it acc H''=>H'' = H'∧(X1 fun c=>A4 (it = .ints ((nats n).drop c)) (c≤n) (m = n - c) (acc = (List.range r).flatMap (rowPts n) ++ (rowPts n r).take c))) ?_ _ n _ _ _ (Nat.lt_succ_self _) ⟨rfl,0,rfl,Nat.zero_le _,rfl,by simp⟩⟩
   rintro m it acc H'' ⟨rfl,c,rfl,hc,rfl,rfl⟩
   have hw':=walk_ints (nats n) H'' trivial c
   rw [nats_get] at hw'
   by_cases hcn:c < n
   · rw [if_pos hcn] at hw'
     refine .inr ⟨_,_,hw',fun R' hR'=>x_pair (x_var rfl (x_var rfl ⟨?_,hR' (n - (c + 1)) _ _ (by exact Nat.sub_succ_lt_self _ _ ‹_›) ⟨rfl,c + 1,rfl,hcn,rfl,?_⟩⟩))⟩
     · rw [List.length_append,rows_len hn,List.length_take]
       have:r * n≤4 * 4:=Nat.mul_le_mul (by exact Nat.le_trans ‹_› ‹_›) hn
       exact linLt [_,_,_,_] 1 (.a (.v 2) (.v 3)) (.n 1000) [.le 1 (.v 0) (.n 4),.le 1 (.v 1) (.v 0),.le 1 (.v 2) (.n (4 * 4)),.le 1 (.v 3) (.v 1)] rfl hn hc this (Nat.min_le_left c ((rowPts n r).length))
     · rw [List.take_add_one,List.append_assoc]
       congr 2
       simp [rowPts,hcn]
   · rw [if_neg hcn] at hw'
     refine .inl ⟨hw',hR (n - (r + 1)) _ _ (by exact Nat.sub_succ_lt_self _ _ ‹_›) ⟨rfl,r + 1,rfl,hrn,rfl,?_⟩⟩
     refine wat List.range_succ (wat List.flatMap_append ?_)
     congr 1
     refine wat (List.take_of_length_le (by simp [rowPts];exact linLe [_,_] 1 (.v 1) (.v 0) [.nlt 1 (.v 0) (.v 1)] rfl hcn)) ?_
     simp
 · rw [if_neg hrn] at hw
   have:r = n:=by exact Nat.le_antisymm (linLe [_,_] 1 (.v 0) (.v 1) [.le 1 (.v 0) (.v 1)] rfl hr) (linLe [_,_] 1 (.v 1) (.v 0) [.nlt 1 (.v 0) (.v 1)] rfl hrn)
   subst this
   exact .inl ⟨hw,by rw [← pts_rows];exact k⟩
theorem c_init {k n:Nat} {a dx:Addr} (hn:2≤n) (hn4:n≤4) (hi:H a = some (.inst boardC dx)) (hs:H dx = some (.ns fun _=>none))
 (q:∀ (B:Bd) H',B.a = a→BoardAt H' B n (fun _=>none) true→Keep [dx] H H'→(∀ x∈B.all,x = a∨x = dx∨H x = none)→Q .none H'):callWp fns (k + 1) .init [.ref a,.int n] H Q X:=by
 have hne:a≠dx:=by rintro rfl;rw [hi] at hs;exact clash hs rfl
 refine c_call rfl ?_
 refine ss_step (s_sattr (x_var rfl (x_var rfl ⟨_,_,.mk hi hs,?_⟩)))
 have i1:=(AHeap.set_ne H (.ns fun g=>if g = .side then some (.int n) else none) hne).trans hi
 have s1:=AHeap.set_self H dx (.ns fun g=>if g = .side then some (.int n) else none)
 have k1:Keep [dx] H (H.set dx (.ns fun g=>if g = .side then some (.int n) else none)):=Keep.put (by simp)
 have n1:∀ x,(H.set dx (.ns fun g=>if g = .side then some (.int n) else none)) x = none→H x = none:=fun x h=>by
  by_cases hx:x = dx
  · subst hx;rw [AHeap.set_self] at h;exact no2 h
  · rwa [AHeap.set_ne _ _ hx] at h
 generalize H.set dx (.ns fun g=>if g = .side then some (.int n) else none) = H₁ at i1 s1 k1 n1
 refine ss_step (s_ite (t_cmp (x_var rfl (x_int ⟨_,.ltI _ _,if_dec (fun h=>absurd h (by omega)) fun _=>ss_nil ?_⟩))))
 refine ss_step (s_sattr (x_comp2 (i_range (x_var rfl ⟨_,rfl,by omega,by omega,rfl,pts_turns hn4 rfl (new_intro fun bp H₂ hbp h2 g2=>x_var rfl ⟨_,_,.mk (g2 _ _ i1) (g2 _ _ s1),?_⟩)⟩))))
 have nbp:bp≠dx:=by rintro rfl;rw [s1] at hbp;exact no2 hbp
 generalize hf2:(fun g=>if g = Fld.board_points then some (AV.ref bp) else if g = .side then some (.int n) else none) = f2
 have i3:=(AHeap.set_ne H₂ (.ns f2) hne).trans (g2 _ _ i1)
 have s3:=AHeap.set_self H₂ dx (.ns f2)
 have p3:=(AHeap.set_ne H₂ (.ns f2) nbp).trans h2
 have k3:Keep [dx] H (H₂.set dx (.ns f2)):=(k1.trans g2.keep).trans (Keep.put (by simp))
 have n3:∀ x,(H₂.set dx (.ns f2)) x = none→H x = none:=fun x h=>by
  by_cases hx:x = dx
  · subst hx;rw [AHeap.set_self] at h;exact no2 h
  · rw [AHeap.set_ne _ _ hx] at h;exact n1 x (g2.fresh h)
 have hbp0:=n1 bp hbp
 generalize H₂.set dx (.ns f2) = H₃ at i3 s3 p3 k3 n3
 refine ss_step (s_sattr (x_list (xs_nil (new_intro fun bl H₄ hbl h4 g4=>x_var rfl ⟨_,_,.mk (g4 _ _ i3) (g4 _ _ s3),?_⟩))))
 have nbl:bl≠dx:=by rintro rfl;rw [s3] at hbl;exact no2 hbl
 have nbb:bp≠bl:=by rintro rfl;rw [p3] at hbl;exact no2 hbl
 generalize hf3:(fun g=>if g = Fld.board then some (AV.ref bl) else f2 g) = f3
 have i5:=(AHeap.set_ne H₄ (.ns f3) hne).trans (g4 _ _ i3)
 have s5:=AHeap.set_self H₄ dx (.ns f3)
 have p5:=(AHeap.set_ne H₄ (.ns f3) nbp).trans (g4 _ _ p3)
 have l5:=(AHeap.set_ne H₄ (.ns f3) nbl).trans h4
 have k5:Keep [dx] H (H₄.set dx (.ns f3)):=(k3.trans g4.keep).trans (Keep.put (by simp))
 have n5:∀ x,(H₄.set dx (.ns f3)) x = none→H x = none:=fun x h=>by
  by_cases hx:x = dx
  · subst hx;rw [AHeap.set_self] at h;exact no2 h
  · rw [AHeap.set_ne _ _ hx] at h;exact n3 x (g4.fresh h)
 have hbl0:=n3 bl hbl
 generalize H₄.set dx (.ns f3) = H₅ at i5 s5 p5 l5 k5 n5
 have nba:bp≠a:=by rintro rfl;rw [i5] at p5;exact clash p5 rfl
 have nla:bl≠a:=by rintro rfl;rw [i5] at l5;exact clash l5 rfl
 have f3b:f3 .board = some (.ref bl):=by refine wat hf3.symm ?_;rfl
 refine ss_step (s_loop (i_range (x_var rfl ⟨_,rfl,by omega,by omega,?_⟩)))
 rw [rangeL_nat]
 refine for_rule (fun i ρ H'=>∃ w,ρ = [some (.ref a),some (.int n),w]∧(X1 fun (rows:List Addr)=>A5 (rows.length = i) (rows.Nodup) (H' bl = some (.list (rows.map .ref))) ((∀ ra∈rows,H' ra = some (.list (List.replicate n .none))∧H₅ ra = none)) ((∀ b o,b≠bl→H₅ b = some o→H' b = some o)))) (walk_ints (nats n)) ⟨_,rfl,[],rfl,.nil,l5,fun _ h=>(nomatch h),fun _ _ _ h=>h⟩ (fun _ _ _ _=>trivial) (fun i x ρ H' hx h R r1 r2 r3=>?_) fun ρ H' h=>?_
 · obtain ⟨w,rfl,rows,hl,hnd,hbl',hrows,hk⟩:=h
   rw [nats_get] at hx
   have hin:i < n:=by
    by_cases h:i < n
    · exact h
    · rw [if_neg h] at hx;exact no1 hx
   have ndx:dx≠bl:=nbl.symm
   refine ⟨_,rfl,?_⟩
   refine ss_step (s_ex (x_bm (x_attr (x_var rfl ?_))))
   refine ⟨_,_,_,.mk (hk _ _ nla.symm i5) (hk _ _ ndx s5),f3b,⟨_,_,rfl,hbl'⟩,?_⟩
   refine xs_cons (x_bin (x_list (xs_cons (x_none (xs_nil ?_)))))
   refine new_intro fun t H₆ ht h6 g6=>?_
   refine x_var rfl ?_
   refine .mulL h6 (by omega) (by omega) (new_intro fun ra H₇ hra h7 g7=>?_)
   refine xs_nil ?_
   refine .append (g7 _ _ (g6 _ _ hbl')) (by rw [List.length_map];exact linLe [_,_,_] 1 (.v 1) (.n 1000) [.le 1 (.v 0) (.n 4),.eq 1 (.v 1) (.v 2),.lt 1 (.v 2) (.v 0)] rfl hn4 hl hin) ?_
   refine ss_nil ?_
   have g67:=g6.trans g7
   have hra':H' ra = none:=g6.fresh hra
   have nrl:ra≠bl:=by rintro rfl;rw [hbl'] at hra';exact no2 hra'
   refine (r1 _ _ ⟨_,rfl,rows ++ [ra],by simp [hl],?_,?_,fun x hx=>?_,fun b o hb ho=>?_⟩).1
   · rw [List.nodup_append]
     exact ⟨hnd,by simp,fun x hx y hy=>by simp at hy;subst hy;rintro rfl;rw [(hrows x hx).1] at hra';exact no2 hra'⟩
   · rw [AHeap.set_self];simp
   · rcases List.mem_append.mp hx with hx | hx
     · have hxl:x≠bl:=by intro h;have:=(hrows x hx).2;rw [h,l5] at this;exact no2 this
       exact ⟨(AHeap.set_ne _ _ hxl).trans (g67 _ _ (hrows x hx).1),(hrows x hx).2⟩
     · simp at hx;subst hx
       refine ⟨(AHeap.set_ne _ _ nrl).trans (by simpa using h7),?_⟩
       cases h5:H₅ x with
       | none=>rfl
       | some o=>rw [hk x o nrl h5] at hra';exact no2 hra'
   · exact (AHeap.set_ne _ _ hb).trans (g67 _ _ (hk b o hb ho))
 · obtain ⟨w,rfl,rows,hl,hnd,hbl',hrows,hk⟩:=h
   have hl':rows.length = n:=by refine wat hl ?_;simp [nats]
   have i6:=hk _ _ nla.symm i5
   have s6:=hk _ _ nbl.symm s5
   refine ss_step (s_sattr (x_bool (x_var rfl ⟨_,_,.mk i6 s6,ss_nil ?_⟩)))
   have nr:∀ x o,H₅ x = some o→x∉rows:=fun x o h hm=>by have:=(hrows x hm).2;rw [h] at this;exact no2 this
   refine q ⟨a,dx,bp,bl,rows⟩ _ rfl ⟨(AHeap.set_ne _ _ hne).trans i6,⟨_,AHeap.set_self .., by refine wat hf3.symm (wat hf2.symm ?_);rfl,by refine wat hf3.symm (wat hf2.symm ?_);rfl,by refine wat hf3.symm ?_;rfl,rfl⟩,(AHeap.set_ne _ _ nbp).trans (hk _ _ nbb p5),(AHeap.set_ne _ _ nbl).trans hbl',hl',fun r ra hr=>?_,?_,hn4⟩ ?_ fun x hx=>?_
   · have hm:=List.mem_of_getElem? hr
     refine (AHeap.set_ne _ _ (by rintro rfl;exact nr _ _ s5 hm)).trans ((hrows ra hm).1.trans ?_)
     congr 2
     unfold rowOf
     simp only [cell]
     exact wat List.map_const' (wat List.length_range rfl)
   · simp only [Bd.all,List.nodup_cons,List.mem_cons,not_or]
     exact ⟨⟨hne,nba.symm,nla.symm,nr _ _ i5⟩,⟨nbp.symm,nbl.symm,nr _ _ s5⟩,⟨nbb,nr _ _ p5⟩,nr _ _ l5,hnd⟩
   · intro b o hb ho
     simp only [List.mem_singleton] at hb
     have hbb:b≠bl:=by rintro rfl;rw [hbl0] at ho;exact no1 ho
     exact (AHeap.set_ne _ _ hb).trans (hk b o hbb (k5 b o (by simpa using hb) ho))
   · simp only [Bd.all,List.mem_cons] at hx
     rcases hx with rfl | rfl | rfl | rfl | hx
     · exact .inl rfl
     · exact .inr (.inl rfl)
     · exact .inr (.inr hbp0)
     · exact .inr (.inr hbl0)
     · exact .inr (.inr (n5 x (hrows x hx).2))
noncomputable def vtx (p:Pt):Str:=strAt (Str.ofString "ABCDEFGHJKLMNOPQRSTUVWXYZ") p.2.toNat ++ Str.ofString (toString (p.1 + 1))
theorem small_pt {p:Pt} (h:inside 4 p = true):p∈pts 4:=mem_pts.mpr h
theorem vtx_len:∀ p∈pts 4,(Str.ofString (toString (p.1 + 1))).length = 1:=by decide +kernel
theorem c_format_vertex {k:Nat} {p:Pt} (hi:inside 4 p = true) (q:Q (.str (vtx p)) H):callWp fns (k + 1) .format_vertex [.pt p] H Q X:=by
 have hi':=hi
 simp only [inside,Bool.and_eq_true,decide_eq_true_eq] at hi'
 refine c_call rfl ?_
 dsimp only [fns,F_format_vertex]
 refine ss_step (s_ite (t_cmp (x_var rfl (x_none ⟨_,CmpR.is _,?_⟩))))
 refine if_dec (fun h=>by cases h) fun _=>?_
 refine ss_nil (ss_step (s_asgN (x_var rfl ⟨_,UnpackR.pair _ _,(ss_step (s_ite (t_or (t_any_cons (t_not (t_chain (x_int (x_var rfl ⟨_,CmpR.leI _ _,?_⟩))))))))⟩)))
 refine if_dec (fun _=>?_) fun h=>absurd h (by omega)
 refine x_int ⟨_,CmpR.ltI _ _,?_⟩
 refine if_not (fun h=>absurd h (by simp;omega)) fun _=>?_
 refine t_any_cons (t_not (t_chain (x_int (x_var rfl ⟨_,CmpR.leI _ _,?_⟩))))
 refine if_dec (fun _=>?_) fun h=>absurd h (by omega)
 refine x_int ⟨_,CmpR.ltI _ _,?_⟩
 refine if_not (fun h=>absurd h (by simp;omega)) fun _=>?_
 refine t_any_nil (if_ff (ss_nil (ss_step (s_ret (x_bin (x_sub (x_gstr (x_var rfl ?_))))))))
 refine ⟨_,.str (by omega) (by omega) ?_,?_⟩
 · have:(Str.ofString "ABCDEFGHJKLMNOPQRSTUVWXYZ").length = 25:=by decide +kernel
   refine wat this ?_;omega
 refine x_bi (xs_cons (x_bin (x_var rfl (x_int (BinR.addI (xs_nil ?_))))))
 refine .str (by omega) (by omega) ?_
 refine .addS (show 1≤100 by decide) (by refine wat (vtx_len p (small_pt hi)) ?_;decide) ?_
 exact q
theorem vtx_short:∀ p∈pts 4,(vtx p).length≤10:=by decide +kernel
theorem strs_map (ps:List Pt):(ps.filterMap fun p=>some (AV.str (vtx p))).filterMap (fun | .str s=>some s | _=>none) = ps.map vtx:=by
 induction ps with
 | nil=>rfl
 | cons p ps ih=>simp only [List.filterMap_cons,List.map_cons] at ih ⊢; exact wat ih rfl
theorem c_format_vertex_list {k:Nat} {la:Addr} {ps:List Pt} (hp:H la = some (.list (ps.map AV.pt))) (hi:∀ p∈ps,inside 4 p = true) (hl:ps.length < 100)
 (q:∀ H',Grow H H'→Q (.str (Txt.join (Str.ofString ",") (ps.map vtx))) H'):callWp fns (k + 2) .format_vertex_list [.ref la] H Q X:=by
 refine c_call rfl ?_
 dsimp only [fns,F_format_vertex_list]
 refine ss_step (s_ret (x_joinmap (x_var rfl ⟨_,_,rfl,hp,?_⟩)))
 refine comp_rule (enc:=AV.pt) ps (fun p=>some (.str (vtx p))) (walk_list la _) (fun H' g=>g _ _ hp) (fun p hp acc H' R g hacc hR=>?_) fun H' g=>?_
 · refine c_format_vertex (hi p hp) ⟨Nat.lt_of_le_of_lt hacc hl,⟨_,rfl,vtx_short p (small_pt (hi p hp))⟩,hR H' g⟩
 · have:=q H' g
   rw [← strs_map] at this
   exact this
noncomputable def Legal (n:Nat) (σ:Pos):Prop:=∀ c p S,IsGroup n σ c p S→¬ NoAir n σ S
theorem Legal.fewer {n:Nat} {σ τ:Pos} (h:Legal n σ) (k:∀ p,τ p = none∨τ p = σ p):Legal n τ:=fun c p S g na=>by
 have up:∀ x,τ x≠none→σ x = τ x:=fun x hx=>((k x).resolve_left hx).symm
 have upc:∀ x d,τ x = some d→σ x = some d:=fun x d hx=>(up x (by refine wat hx ?_;simp)).trans hx
 refine h c p S ⟨g.here,fun x hx=>⟨(g.mem x hx).1,upc x c (g.mem x hx).2⟩,fun x hx y hy hs=>g.closed x hx y hy ?_,fun T h0 hT x hx=>g.least T h0 (fun a b ha hb hs=>hT a b ha hb (upc b c hs)) x hx,g.nodup⟩ fun x hx y hy=>?_
 · refine wat (up y (na x hx y hy)).symm ?_;exact hs
 · refine wat (up y (na x hx y hy)) ?_;exact na x hx y hy
structure Liv (n:Nat) (es:Stones) (L:List Pt):Prop where
 nodup:L.Nodup
 key:∀ p∈L,∃ c,es.lookup p = some c
 start:∀ p c q,es.lookup p = some c→q∈nbrs n p→es.lookup q = none→p∈L
 least:∀ T:Pt→Prop,(∀ p c q,es.lookup p = some c→q∈nbrs n p→es.lookup q = none→T p)→(∀ p q c,T p→es.lookup p = some c→es.lookup q = some c→q∈nbrs n p→T q)→∀ p∈L,T p
theorem look_mem {es:Stones} {p:Pt} {c:Col} (h:es.lookup p = some c):p∈es.map (·.1):=by
 apply Classical.byContradiction
 intro hn
 rw [look_none.mpr hn] at h;cases h
theorem Liv.size {n:Nat} {es:Stones} {L:List Pt} (v:Liv n es L):L.length≤es.length:=by
 have:=nodup_len v.nodup fun p hp=>look_mem (v.key p hp).choose_spec
 simpa using this
theorem Liv.more {n:Nat} {es:Stones} {L:List Pt} {x y:Pt} {c:Col} (v:Liv n es L) (hx:x∈L) (hc:es.lookup x = some c) (hy:es.lookup y = some c) (hn:y∈nbrs n x) (hnew:y∉L):Liv n es (L ++ [y]):=by
 refine ⟨?_,fun p hp=>?_,fun p d q h1 h2 h3=>List.mem_append_left _ (v.start p d q h1 h2 h3),fun T h1 h2 p hp=>?_⟩
 · rw [List.nodup_append]
   exact ⟨v.nodup,by simp,fun a ha b hb=>by simp at hb;subst hb;rintro rfl;exact hnew ha⟩
 · rcases List.mem_append.mp hp with hp | hp
   · exact v.key p hp
   · simp at hp;subst hp;exact ⟨c,hy⟩
 · rcases List.mem_append.mp hp with hp | hp
   · exact v.least T h1 h2 p hp
   · simp at hp;subst hp;exact h2 x p c (v.least T h1 h2 x hx) hc hy hn
theorem any_filter {α β:Type} (f:α→β) (p:α→Bool):∀ l:List α,(!((l.filter p).map f).isEmpty) = l.any p
 | []=>rfl
 | x :: l=>by
   have:=any_filter f p l
   by_cases h:p x = true<;>simp [h]<;>simpa using this
theorem c_breathing {k n:Nat} {d:Addr} {es:Stones} (hd:DictAt H d es) (hn:(es.map (·.1)).Nodup) (hl:es.length≤16)
 (q:∀ a H' L,H a = none→H' a = some (.list (L.map AV.pt))→Liv n es L→(∀ x∈L,∀ y∈nbrs n x,es.lookup y = es.lookup x→y∈L)→Grow H H'→Q (.ref a) H'):callWp fns (k + 2) .breathing [.ref d,.int n] H Q X:=by
 refine c_call rfl ?_
 refine ss_step (s_asg (x_comp (i_e (x_var rfl ?_))))
 refine bc fun nG=>?_
 obtain ⟨gd,hd⟩:=hd
 refine nG ?_
 have wk:=walk_dict d (avs es) gd
 rw [avs_keys] at wk
 refine .dict hd ⟨rfl,comp_filter (enc:=AV.pt) (es.map (·.1)) (fun p=>(nbrs n p).any fun q=>decide (es.lookup q = none)) AV.pt wk (fun H' g=>g _ _ hd) (by rw [List.length_map];exact Nat.lt_of_le_of_lt ‹_› (by decide)) (fun x hx acc H' R g hl' no yes=>?_) fun la H₁ hla h₁ g₁=>?_⟩
 · refine t_e (x_comp (i_e (x_call (xs_cons (x_var rfl (xs_cons (x_var rfl (xs_nil ?_))))))))
   refine c_near fun na H₂ hna h₂ g₂=>?_
   refine .list h₂ ⟨rfl,comp_filter (enc:=AV.pt) (nbrs n x) (fun q=>decide (es.lookup q = none)) AV.pt (walk_list na _) (fun H' g=>g _ _ h₂) (Nat.lt_of_le_of_lt (List.length_filter_le ..) (show 4 < 1000 by decide)) (fun y hy acc' H₃ R' g₃ hl'' no' yes'=>?_) fun fa H₄ hfa h₄ g₄=>?_⟩
   · refine t_cmp (x_var rfl (x_var rfl ?_))
     refine ⟨_,.notIn (.dict (r:=y.1) (c:=y.2) (g₃ _ _ (g₂ _ _ (g _ _ hd)))),?_⟩
     rw [avs_lookup,Option.isSome_map]
     cases hc:es.lookup y with
     | none=>
       refine if_tt ?_
       refine x_var rfl ?_
       exact ⟨hl'',yes' (by simp [hc]) _ (.refl _)⟩
     | some c=>exact if_ff (no' (by simp [hc]) _ (.refl _))
   · refine ⟨_,.list h₄ (by rw [List.length_map];exact Nat.le_trans (List.length_filter_le ..) (Nat.le_trans (List.length_filter_le ..) (show 4≤1000 by decide))),?_⟩
     have gr:=g₂.trans g₄
     refine wat (show (!(((nbrs n x).filter fun q=>decide (es.lookup q = none)).map AV.pt).isEmpty) = (nbrs n x).any (fun q=>decide (es.lookup q = none)) from any_filter ..) ?_
     refine if_bool (fun h=>?_) fun h=>no h _ gr
     refine x_var rfl ?_
     exact ⟨hl',yes h _ gr⟩
 have v0:Liv n es ((es.map (·.1)).filter fun p=>(nbrs n p).any fun q=>decide (es.lookup q = none)):=by
  refine ⟨hn.filter _,fun p hp=>?_,fun p c q h1 h2 h3=>?_,fun T h1 _ p hp=>?_⟩
  · rw [List.mem_filter] at hp
    cases hc:es.lookup p with
    | none=>exact absurd hp.1 (look_none.mp hc)
    | some c=>exact ⟨c,rfl⟩
  · rw [List.mem_filter]
    refine ⟨look_mem h1,?_⟩
    rw [List.any_eq_true]
    exact ⟨q,h2,by simp [h3]⟩
  · rw [List.mem_filter,List.any_eq_true] at hp
    refine bc fun nG=>?_
    obtain ⟨hp,q,hq,hqn⟩:=hp
    refine nG ?_
    cases hc:es.lookup p with
    | none=>exact absurd hp (look_none.mp hc)
    | some c=>exact h1 p c q hc hq (by simpa using hqn)
 generalize (es.map (·.1)).filter (fun p=>(nbrs n p).any fun q=>decide (es.lookup q = none)) = L₀ at h₁ v0
 refine ss_step (s_loop (i_e (x_var rfl ?_)))
 refine .list h₁ ?_
 refine ⟨18,loop_rule (fun m it ρ H'=>(X4 fun L i w w'=>A8 (it = .list la i) (ρ = (l5 (oR d) (oI n) (oR la) w w')) (Liv n es L) (i≤L.length) (m = 17 - i) ((∀ x∈L.take i,∀ y∈nbrs n x,es.lookup y = es.lookup x→y∈L)) (H' la = some (.list (L.map AV.pt))) (Grow H H'))) ?_ _ 17 _ _ _ (by decide) ⟨L₀,0,_,_,rfl,rfl,v0,Nat.zero_le _,rfl,fun _ h=>(nomatch h),h₁,g₁⟩⟩
 rintro m it ρ H' ⟨L,i,w,w',rfl,rfl,v,hi,rfl,cl,hL,gr⟩
 have hwk:=walk_list la (L.map AV.pt) H' hL i
 rw [List.getElem?_map] at hwk
 have hsz:=v.size
 cases hx:L[i]? with
 | none=>
   rw [hx] at hwk
   refine .inl ⟨hwk,?_⟩
   refine ss_step (s_ret (x_var rfl ?_))
   rw [List.take_of_length_le (List.getElem?_eq_none_iff.mp hx)] at cl
   exact q la H' L hla hL v cl gr
 | some x=>
   rw [hx] at hwk
   obtain ⟨hlt,hxe⟩:=List.getElem?_eq_some_iff.mp hx
   have hxL:x∈L:=List.mem_of_getElem? hx
   obtain ⟨c,hc⟩:=v.key x hxL
   refine .inr ⟨_,_,_,hwk,rfl,fun R r'=>?_⟩
   intro _ _
   refine ss_step (s_loop (i_e (x_call (xs_cons (x_var rfl (xs_cons (x_var rfl (xs_nil ?_))))))))
   refine c_near fun na H₂ hna h₂ g₂=>?_
   have hne:na≠la:=by rintro rfl;rw [hL] at hna;cases hna
   refine .list h₂ ?_
   refine for_rule (fun j ρ H₃=>(X2 fun L' w'=>A7 (ρ = (l5 (oR d) (oI n) (oR la) (oP x) w')) (Liv n es L') (L <+: L') ((∀ y∈(nbrs n x).take j,es.lookup y = es.lookup x→y∈L')) (H₃ la = some (.list (L'.map AV.pt))) (H₃ na = some (.list ((nbrs n x).map AV.pt))) (Grow H H₃))) (walk_list na ((nbrs n x).map AV.pt)) ⟨L,_,rfl,v,List.prefix_refl _,fun _ h=>(nomatch h),g₂ _ _ hL,h₂,gr.trans g₂⟩ (fun j ρ H₃ h=>by obtain ⟨_,_,_,_,_,_,_,h,_⟩:=h;exact h) (fun j y ρ H₃ hy h R r1 r2 r3=>?_) fun ρ H₃ h=>?_
   · obtain ⟨L',w',rfl,v',pre,cl',hL',hna',gr'⟩:=h
     rw [List.getElem?_map] at hy
     obtain ⟨z,hz,rfl⟩:=Option.map_eq_some_iff.mp hy
     have hzn:=List.mem_of_getElem? hz
     have htake:(nbrs n x).take (j + 1) = (nbrs n x).take j ++ [z]:=by refine wat List.take_add_one (wat hz ?_);rfl
     have hd':=gr' _ _ hd
     have stay:(es.lookup z = es.lookup x→z∈L')→∀ y∈(nbrs n x).take (j + 1),es.lookup y = es.lookup x→y∈L':=fun h y hy=>by
      rw [htake] at hy
      rcases List.mem_append.mp hy with hy | hy
      · exact cl' y hy
      · simp at hy;subst hy;exact h
     refine ⟨_,rfl,?_⟩
     refine ss_step (s_ite (t_and (t_all_cons (t_cmp (x_var rfl (x_var rfl ?_))))))
     refine ⟨_,.in (.dict (r:=z.1) (c:=z.2) hd'),?_⟩
     rw [avs_lookup,Option.isSome_map]
     cases hzc:es.lookup z with
     | none=>
       refine if_ff (if_ff ?_)
       refine ss_nil (ss_nil ?_)
       exact (r1 _ _ ⟨L',_,rfl,v',pre,stay (fun h=>by rw [hzc,hc] at h;cases h),hL',hna',gr'⟩).1
     | some c'=>
       refine if_tt ?_
       refine t_all_cons (t_cmp (x_sub (x_var rfl (x_var rfl ?_))))
       refine ⟨_,.dict hd' (by rw [avs_lookup,hzc];rfl),?_⟩
       refine x_sub (x_var rfl (x_var rfl ?_))
       refine ⟨_,.dict hd' (by rw [avs_lookup,hc];rfl),?_⟩
       refine ⟨_,.eq (.plain c'.plain c.plain),if_dec (fun h=>?_) fun h=>?_⟩
       · have hcc:c' = c:=Col.s_inj (by simpa using h)
         subst hcc
         refine t_all_cons (t_cmp (x_var rfl (x_var rfl ?_)))
         refine ⟨_,.notIn (HasAt.list hL' H₃ z (.refl _)),if_not (fun hnew=>?_) fun hin=>?_⟩
         · refine t_all_nil (if_tt (ss_step (s_ex (x_bm (x_var rfl ?_)))))
           refine ⟨⟨_,_,rfl,hL'⟩,?_⟩
           refine xs_cons (x_var rfl (xs_nil ?_))
           have:=v'.size
           refine .append hL' (by rw [List.length_map];exact linLe [_,_] 1 (.v 1) (.n 1000) [.le 1 (.v 0) (.n 16),.le 1 (.v 1) (.v 0)] rfl hl this) ?_
           refine ss_nil (ss_nil ?_)
           refine (r1 _ _ ⟨L' ++ [z],_,rfl,v'.more (pre.subset hxL) hc hzc hzn hnew,pre.trans (List.prefix_append ..),fun y hy hyc=>?_,by rw [AHeap.set_self];simp,(AHeap.set_ne _ _ hne).trans hna',gr'.put hla _⟩).1
           rw [htake] at hy
           rcases List.mem_append.mp hy with hy | hy
           · exact List.mem_append_left _ (cl' y hy hyc)
           · exact List.mem_append_right _ hy
         · refine if_ff (ss_nil (ss_nil ?_))
           exact (r1 _ _ ⟨L',_,rfl,v',pre,stay (fun _=>hin),hL',hna',gr'⟩).1
       · refine if_ff (ss_nil (ss_nil ?_))
         exact (r1 _ _ ⟨L',_,rfl,v',pre,stay (fun h'=>by rw [hzc,hc] at h';cases h';exact absurd rfl h),hL',hna',gr'⟩).1
   · obtain ⟨L',w',rfl,v',pre,cl',hL',hna',gr'⟩:=h
     rw [List.length_map,List.take_length] at cl'
     refine ss_nil ?_
     obtain ⟨t,rfl⟩:=pre
     refine (r' (17 - (i + 1)) _ _ (by exact linLt [_,_,_] 1 (.v 2) (.v 0) [.le 1 (.n 17) (.a (.v 0) (.v 1)),.eq 1 (.a (.v 2) (.a (.v 1) (.n 1))) (.n 17)] rfl (le_sub 17 i) (Nat.sub_add_cancel (linLe [_,_,_] 1 (.a (.v 2) (.n 1)) (.n 17) [.le 1 (.v 0) (.n 16),.le 1 (.v 1) (.v 0),.lt 1 (.v 2) (.v 1)] rfl hl hsz hlt))) ⟨L ++ t,i + 1,_,_,rfl,rfl,v',by refine wat List.length_append ?_;exact linLe [_,_,_] 1 (.a (.v 0) (.n 1)) (.a (.v 1) (.v 2)) [.lt 1 (.v 0) (.v 1)] rfl hlt,rfl,fun y hy u hu hus=>?_,hL',gr'⟩).1
     rw [List.take_append_of_le_length (by exact Nat.succ_le_of_lt ‹_›),List.take_add_one,hx] at hy
     rcases List.mem_append.mp hy with hy | hy
     · exact List.mem_append_left _ (cl y hy u hu hus)
     · simp at hy;subst hy
       exact cl' u hu hus
theorem look_filter (b:Pt→Bool) (x:Pt):∀ es:Stones,(es.filter fun e=>b e.1).lookup x = if b x then es.lookup x else none
 | []=>by simp
 | (p,c) :: es=>by
   have ih:=look_filter b x es
   by_cases hx:x = p
   · subst hx
     by_cases h:b x = true
     · simp [h,List.lookup_cons]
     · simp [h,ih]
   · by_cases h:b p = true
     · simp [h,List.lookup_cons,beq_eq_false_iff_ne.mpr hx,ih]
     · simp [h,List.lookup_cons,beq_eq_false_iff_ne.mpr hx,ih]
theorem filter_all {es:Stones}:(es.filter fun e=>(es.lookup e.1).isSome) = es:=by
 rw [List.filter_eq_self]
 intro e he
 cases h:es.lookup e.1 with
 | none=>exact absurd (List.mem_map_of_mem he) (look_none.mp h)
 | some c=>rfl
theorem nodup_filter {es:Stones} (h:(es.map (·.1)).Nodup) (b:Pt×Col→Bool):((es.filter b).map (·.1)).Nodup:=h.sublist (List.filter_sublist.map _)
inductive Ruled (n:Nat) (σ₁:Pos) (c:Col) (L:List Pt):Pos→Prop
 | foes {τ:Pos}:((X2 fun y d=>A3 (σ₁ y = some d) (d≠c) (y∉L)))→(∀ x,τ x = if σ₁ x≠some c∧x∉L then none else σ₁ x)→Ruled n σ₁ c L τ
 | own {τ:Pos}:(∀ y d,σ₁ y = some d→d≠c→y∈L)→(∀ x,τ x = if x∈L then σ₁ x else none)→Ruled n σ₁ c L τ
theorem c_moved {k n:Nat} {d:Addr} {p:Pt} {c:Col} {es:Stones} (hd:DictAt H d es) (hn:(es.map (·.1)).Nodup) (hl:es.length≤15) (hp:es.lookup p = none)
 (q:∀ a H' es' L,H a = none→DictAt H' a es'→(es'.map (·.1)).Nodup→es'.length≤16→Liv n (es ++ [(p,c)]) L→(∀ x∈L,∀ y∈nbrs n x,(es ++ [(p,c)]).lookup y = (es ++ [(p,c)]).lookup x→y∈L)→Ruled n (fun x=>(es ++ [(p,c)]).lookup x) c L (fun x=>es'.lookup x)→Grow H H'→Q (.ref a) H'):
 callWp fns (k + 3) .moved [.ref d,.int n,.pt p,c.av] H Q X:=by
 refine c_call rfl ?_
 refine ss_step (s_asg (x_call (xs_cons (x_var rfl (xs_cons (x_var rfl (xs_nil ?_)))))))
 refine c_only hd hn (by exact Nat.lt_of_le_of_lt ‹_› (by decide)) (.dict hd) fun a H₁ ha h₁ g₁=>?_
 rw [filter_all] at h₁
 obtain ⟨gd,h₁⟩:=h₁
 refine ss_step (s_sitem (x_var rfl (x_var rfl (x_var rfl ?_))))
 refine .dict h₁ (by simp [avs];exact Nat.le_trans ‹_› (by decide)) fun gd'=>?_
 refine wat (show ((p.1,p.2):Pt) = p from rfl) (wat (putD_new hp) ?_)
 have h₂:=AHeap.set_self H₁ a (.dict (avs (es ++ [(p,c)])) gd')
 have g₂:Grow H (H₁.set a (.dict (avs (es ++ [(p,c)])) gd')):=g₁.put ha _
 have hn2:((es ++ [(p,c)]).map (·.1)).Nodup:=by
  rw [List.map_append,List.nodup_append]
  exact ⟨hn,by simp,fun x hx y hy=>by simp at hy;subst hy;rintro rfl;exact look_none.mp hp hx⟩
 have hl2:(es ++ [(p,c)]).length≤16:=by simp;assumption
 generalize H₁.set a (.dict (avs (es ++ [(p,c)])) gd') = H₂ at h₂ g₂
 clear h₁ g₁
 generalize es ++ [(p,c)] = es₁ at h₂ hn2 hl2 q
 have d₂:DictAt H₂ a es₁:=⟨gd',h₂⟩
 refine ss_step (s_asg (x_call (xs_cons (x_var rfl (xs_cons (x_var rfl (xs_nil ?_)))))))
 refine c_breathing d₂ hn2 hl2 fun la H₃ L hla h₃ v cl g₃=>?_
 refine ss_step (s_asg (x_comp (i_e (x_var rfl ?_))))
 have wk:=walk_dict a (avs es₁) gd'
 rw [avs_keys] at wk
 have d₃:=g₃ _ _ h₂
 refine .dict d₃ ⟨rfl,comp_filter (enc:=AV.pt) (es₁.map (·.1)) (fun x=>decide (es₁.lookup x≠some c) && decide (x∉L)) AV.pt wk (fun H' g=>g _ _ d₃) (by rw [List.length_map];exact Nat.lt_of_le_of_lt ‹_› (by decide)) (fun x hx acc H' R g hl' no yes=>?_) fun fa H₄ hfa h₄ g₄=>?_⟩
 · refine t_and (t_all_cons (t_cmp (x_sub (x_var rfl (x_var rfl ?_)))))
   cases hc:es₁.lookup x with
   | none=>exact absurd hx (look_none.mp hc)
   | some c'=>
     refine ⟨_,.dict (r:=x.1) (c:=x.2) (g _ _ d₃) (by rw [avs_lookup];show Option.map _ (es₁.lookup x) = _;rw [hc];rfl),?_⟩
     refine x_var rfl ?_
     refine ⟨_,.ne (.plain c'.plain c.plain),if_not (fun h=>?_) fun h=>?_⟩
     · have hcc:c'≠c:=fun e=>h (by exact wat e rfl)
       refine t_all_cons (t_cmp (x_var rfl (x_var rfl ?_)))
       refine ⟨_,.notIn (HasAt.list (g _ _ h₃) H' x (.refl _)),if_not (fun h'=>?_) fun h'=>?_⟩
       · refine t_all_nil (if_tt (x_var rfl ?_))
         exact ⟨hl',yes (by simp [hc,hcc,h']) _ (.refl _)⟩
       · exact no (by simp [h']) _ (.refl _)
     · have hcc:c' = c:=Col.s_inj (by simpa using h)
       exact no (by simp [hc,hcc]) _ (.refl _)
 · have g24:=g₂.trans (g₃.trans g₄)
   refine ss_step (s_ite (t_e (x_var rfl ?_)))
   refine ⟨_,.list h₄ (by rw [List.length_map];exact Nat.le_trans (List.length_filter_le ..) (by rw [List.length_map];exact Nat.le_trans ‹_› (by decide))),?_⟩
   rw [any_filter]
   refine if_bool (fun hany=>?_) fun hno=>?_
   · rw [List.any_eq_true] at hany
     refine bc fun nG=>?_
     obtain ⟨y,hy,hyf⟩:=hany
     refine nG ?_
     refine ss_step (s_ret (x_call (xs_cons (x_var rfl (xs_cons (x_comp (i_e (x_var rfl ?_))))))))
     have d₄:=g₄ _ _ d₃
     refine .dict d₄ ⟨rfl,comp_filter (enc:=AV.pt) (es₁.map (·.1)) (fun x=>!decide (x∈(es₁.map (·.1)).filter fun x=>decide (es₁.lookup x≠some c) && decide (x∉L))) AV.pt wk (fun H' g=>g _ _ d₄) (by rw [List.length_map];exact Nat.lt_of_le_of_lt ‹_› (by decide)) (fun x hx acc H' R g hl' no yes=>?_) fun ka H₅ hka h₅ g₅=>?_⟩
     · refine t_cmp (x_var rfl (x_var rfl ?_))
       refine ⟨_,.notIn (HasAt.list (g _ _ h₄) H' x (.refl _)),if_bool (fun h=>?_) fun h=>no h _ (.refl _)⟩
       refine x_var rfl ?_
       exact ⟨hl',yes h _ (.refl _)⟩
     · refine xs_nil ?_
       refine c_only ⟨_,g₅ _ _ d₄⟩ hn2 (by exact Nat.lt_of_le_of_lt ‹_› (by decide)) (.list h₅) fun ra H₆ hra h₆ g₆=>?_
       have gg:=g24.trans g₅
       refine q ra H₆ _ L (gg.fresh hra) h₆ (nodup_filter hn2 _) (Nat.le_trans (List.length_filter_le ..) hl2) v cl (.foes ?_ fun x=>?_) (gg.trans g₆)
       · simp only [Bool.and_eq_true,decide_eq_true_eq] at hyf
         cases hc:es₁.lookup y with
         | none=>exact absurd hy (look_none.mp hc)
         | some c'=>exact ⟨y,c',hc,fun e=>hyf.1 (by exact wat hc (wat e rfl)),hyf.2⟩
       · show List.lookup x _ = _
         rw [look_filter (fun x=>decide (x∈((es₁.map (·.1)).filter fun x=>!decide (x∈(es₁.map (·.1)).filter fun x=>decide (es₁.lookup x≠some c) && decide (x∉L)))))]
         simp only [List.mem_filter,Bool.not_eq_true',decide_eq_false_iff_not,decide_eq_true_eq,Bool.and_eq_true]
         by_cases hx:x∈es₁.map (·.1)
         · by_cases h:es₁.lookup x≠some c∧x∉L
           · exact wat (if_neg (fun hh=>hh.2 ⟨hx,h⟩)) (wat (if_pos h) rfl)
           · exact wat (if_pos ⟨hx,fun hh=>h hh.2⟩) (wat (if_neg h) rfl)
         · refine wat (look_none.mpr hx) ?_;simp
   · refine ss_nil (ss_step (s_ret (x_call (xs_cons (x_var rfl (xs_cons (x_var rfl (xs_nil ?_))))))))
     refine c_only ⟨_,g₄ _ _ d₃⟩ hn2 (by exact Nat.lt_of_le_of_lt ‹_› (by decide)) (.list (g₄ _ _ h₃)) fun ra H₆ hra h₆ g₆=>?_
     refine q ra H₆ _ L (g24.fresh hra) h₆ (nodup_filter hn2 _) (Nat.le_trans (List.length_filter_le ..) hl2) v cl (.own (fun y c' hy hyc=>?_) fun x=>?_) (g24.trans g₆)
     · rw [List.any_eq_false] at hno
       have:=hno y (look_mem hy)
       simp only [Bool.and_eq_true,decide_eq_true_eq,not_and] at this
       exact Classical.byContradiction fun hh=>this (by refine wat hy ?_;intro e;cases e;exact hyc rfl) hh
     · show List.lookup x _ = _
       rw [look_filter (fun x=>decide (x∈L))]
       simp
noncomputable def low (p:Pt):Str:=⟨#[97 + p.2.toNat,49 + p.1.toNat]⟩
theorem vtx_low:∀ p∈pts 4,(⟨(vtx p).cps.map fun c=>if 65≤c∧c≤90 then c + 32 else c⟩:Str) = low p:=by decide +kernel
theorem vtx_ascii:∀ p∈pts 4,(vtx p).cps.all (· < 128) = true:=by decide +kernel
theorem low_ok:∀ p∈pts 4,(AV.str (low p)).plain = true∧(AV.str (strAt (low p) 0)).plain = true∧decide (AV.str (low p) = AV.str (Str.ofString "pass")) = false∧decide (AV.str (strAt (low p) 0) = AV.str (Str.ofString "i")) = false:=by decide +kernel
theorem c_vertex {k n:Nat} {p:Pt} (hn:n≤4) (hi:inside n p = true) (q:Q (.pt p) H):callWp fns (k + 1) .move_from_vertex [.str (vtx p),.int n] H Q X:=by
 obtain ⟨r,c,rfl,hr,hc⟩:=inside_spec hi
 have hp4:(((r:Int),(c:Int)):Pt)∈pts 4:=by
  refine mem_pts.mpr ?_
  simp only [inside,Bool.and_eq_true,decide_eq_true_eq]
  omega
 have hlen:=vtx_short _ hp4
 refine bc fun nG=>?_
 obtain ⟨o1,o2,o3,o4⟩:=low_ok _ hp4
 refine nG ?_
 refine c_call rfl ?_
 refine ss_step (s_ite (t_not (t_chain (x_int (x_var rfl ⟨_,CmpR.ltI _ _,?_⟩)))))
 refine if_dec (fun _=>?_) fun h=>absurd (show (0:Int) < n by omega) h
 refine x_int ⟨_,CmpR.leI _ _,?_⟩
 refine wat (show decide ((n:Int)≤25) = true from by simp;omega) ?_
 refine if_ff ?_
 refine ss_nil (ss_step (s_try (ss_step (s_asg (x_bm (x_var rfl ?_))))))
 refine ⟨⟨_,rfl⟩,?_⟩
 refine xs_nil ?_
 refine .lower (by exact Nat.le_trans ‹_› (by decide)) (vtx_ascii _ hp4) ?_
 refine wat (vtx_low _ hp4) ?_
 refine ss_nil (ss_step (s_ite (t_cmp (x_var rfl (x_str ?_)))))
 refine ⟨_,.eq (.plain o1 (by decide +kernel)),?_⟩
 refine if_ff (ss_nil (ss_step (s_try (ss_step (s_asg (x_sub (x_var rfl (x_int ?_))))))))
 refine ⟨_,.str (by decide) (by decide) (by show (0:Int) < ((2:Nat):Int);decide),?_⟩
 refine ss_step (s_ite (t_or (t_any_cons (t_not (t_chain (x_str (x_var rfl ?_)))))))
 refine ⟨_,.leS (x:=97) (y:=97 + c) rfl rfl,?_⟩
 refine if_dec (fun _=>?_) fun h=>absurd (show 97≤97 + c by exact Nat.le_add_right _ _) h
 refine x_str ?_
 refine ⟨_,.leS (x:=97 + c) (y:=122) rfl rfl,?_⟩
 refine wat (show decide (97 + c≤122) = true from by simp;exact linLe [_,_] 1 (.a (.n 97) (.v 1)) (.n 122) [.le 1 (.v 0) (.n 4),.lt 1 (.v 1) (.v 0)] rfl hn hc) ?_
 refine if_ff ?_
 refine t_any_cons (t_cmp (x_var rfl (x_str ?_)))
 refine ⟨_,.eq (.plain o2 (by decide +kernel)),?_⟩
 refine wat (show Int.toNat 0 = 0 from rfl) (wat o4 ?_)
 refine if_ff (t_any_nil (if_ff (ss_nil (ss_step (s_ite (t_cmp (x_var rfl (x_str ?_))))))))
 refine ⟨_,.gtS (x:=97 + c) (y:=105) rfl rfl,?_⟩
 refine wat (show decide (97 + c > 105) = false from by simp;exact linLe [_,_] 1 (.a (.n 97) (.v 1)) (.n 105) [.le 1 (.v 0) (.n 4),.lt 1 (.v 1) (.v 0)] rfl hn hc) ?_
 refine if_ff (ss_step (s_asg (x_bin (x_bi (xs_cons (x_var rfl (xs_nil ?_)))))))
 refine .ord (c:=97 + c) rfl ?_
 refine x_bi (xs_cons (x_str (xs_nil ?_)))
 refine .ord (c:=97) rfl ?_
 refine BinR.subI (ss_nil (ss_step (s_asg (x_bin (x_bi (xs_cons (x_sliceFrom (x_var rfl (x_int ?_)))))))))
 refine ⟨_,rfl,.str (by decide) (by show 2≤100;decide) ?_⟩
 refine xs_nil ?_
 refine .int (c:=49 + r) rfl (by exact linLe [_] 1 (.n 48) (.a (.n 49) (.v 0)) [] rfl) (by exact linLe [_,_] 1 (.a (.n 49) (.v 1)) (.n 57) [.le 1 (.v 0) (.n 4),.lt 1 (.v 1) (.v 0)] rfl hn hr) ?_
 refine x_int (BinR.subI (ss_step (s_ite (t_cmp (x_var rfl (x_int ⟨_,CmpR.ltI _ _,?_⟩))))))
 refine if_dec (fun h=>absurd h (by omega)) fun _=>?_
 refine ss_nil (ss_nil (ss_step (s_ite (t_not (t_and (t_all_cons (t_cmp (x_var rfl (x_var rfl ⟨_,CmpR.ltI _ _,?_⟩)))))))))
 refine wat (show decide ((((97 + c:Nat):Int)) - ((97:Nat):Int) < n) = true from by simp;omega) ?_
 refine if_tt (t_all_cons (t_cmp (x_var rfl (x_var rfl ⟨_,CmpR.ltI _ _,?_⟩))))
 refine wat (show decide ((((49 + r - 48:Nat):Int)) - 1 < n) = true from by simp;omega) ?_
 refine if_tt (t_all_nil ?_)
 refine if_ff ?_
 refine ss_nil (ss_step (s_ret (x_pair (x_var rfl (x_var rfl ?_)))))
 rwa [show (((49 + r - 48:Nat):Int)) - 1 = r from by omega,show (((97 + c:Nat):Int)) - ((97:Nat):Int) = c from by omega]
theorem str_app (a b:Str):(a ++ b).cps.toList = a.cps.toList ++ b.cps.toList:=by
 show (a.cps ++ b.cps).toList = _
 simp
theorem join_inj (c:Nat):∀ ps qs:List Str,ps≠[]→qs≠[]→(∀ p∈ps,c∉p.cps.toList)→(∀ p∈qs,c∉p.cps.toList)→Str.join ⟨#[c]⟩ ps = Str.join ⟨#[c]⟩ qs→ps = qs
 | [],_,h,_,_,_,_=>absurd rfl h
 | _,[],_,h,_,_,_=>absurd rfl h
 | [p],[q],_,_,_,_,e=>by
   have:p = q:=e
   exact wat this rfl
 | [p],q :: q' :: qs,_,_,hp,_,e=>by
   have e:p = q ++ ⟨#[c]⟩ ++ Str.join ⟨#[c]⟩ (q' :: qs):=e
   refine absurd ?_ (hp p (by simp))
   rw [e,str_app,str_app]
   simp
 | p :: p' :: ps,[q],_,_,_,hq,e=>by
   have e:p ++ ⟨#[c]⟩ ++ Str.join ⟨#[c]⟩ (p' :: ps) = q:=e
   refine absurd ?_ (hq q (by simp))
   rw [← e,str_app,str_app]
   simp
 | p :: p' :: ps,q :: q' :: qs,_,_,hp,hq,e=>by
   have e:p ++ ⟨#[c]⟩ ++ Str.join ⟨#[c]⟩ (p' :: ps) = q ++ ⟨#[c]⟩ ++ Str.join ⟨#[c]⟩ (q' :: qs):=e
   have e':=congrArg (fun z:Str=>z.cps.toList) e
   simp only [str_app,List.append_assoc] at e'
   have e'':p.cps.toList ++ c :: (Str.join ⟨#[c]⟩ (p' :: ps)).cps.toList = q.cps.toList ++ c :: (Str.join ⟨#[c]⟩ (q' :: qs)).cps.toList:=e'
   have hp0:=hp p (by simp)
   have hq0:=hq q (by simp)
   have key:∀ a a' b b':List Nat,c∉a→c∉a'→a ++ c :: b = a' ++ c :: b'→a = a'∧b = b':=by
    intro a
    induction a with
    | nil=>
      intro a' b b' _ h' e
      cases a' with
      | nil=>exact ⟨rfl,(List.cons.inj e).2⟩
      | cons x a'=>exact absurd (by refine wat ((List.cons.inj e).1) ?_;simp) h'
    | cons y a ih=>
      intro a' b b' h h' e
      cases a' with
      | nil=>exact absurd (by refine wat ((List.cons.inj e).1).symm ?_;simp) h
      | cons x a'=>
        obtain ⟨e1,e2⟩:=List.cons.inj e
        obtain ⟨i1,i2⟩:=ih a' b b' (fun h1=>h (List.mem_cons_of_mem _ h1)) (fun h1=>h' (List.mem_cons_of_mem _ h1)) e2
        exact ⟨by exact wat e1 (wat i1 rfl),i2⟩
   obtain ⟨k1,k2⟩:=key _ _ _ _ hp0 hq0 e''
   have h1:p = q:=Str.ext' (Array.toList_inj.mp k1)
   have h2:Str.join ⟨#[c]⟩ (p' :: ps) = Str.join ⟨#[c]⟩ (q' :: qs):=Str.ext' (Array.toList_inj.mp k2)
   exact wat h1 (wat (join_inj c (p' :: ps) (q' :: qs) (by simp) (by simp) (fun x hx=>hp x (List.mem_cons_of_mem _ hx)) (fun x hx=>hq x (List.mem_cons_of_mem _ hx)) h2) rfl)
theorem comma_eq:Str.ofString "," = ⟨#[44]⟩:=by decide +kernel
theorem vtx_free:∀ p∈pts 4,(44:Nat)∉(vtx p).cps.toList:=by decide +kernel
theorem vtx_two:∀ p∈pts 4,(vtx p).length = 2:=by decide +kernel
theorem split_vtx {ps:List Pt} (h:ps≠[]) (hi:∀ p∈ps,p∈pts 4):Txt.split (Txt.join (Str.ofString ",") (ps.map vtx)) (Str.ofString ",") = ps.map vtx:=by
 refine wat comma_eq ?_
 refine join_inj 44 _ _ (fun e=>?_) (by simpa using h) (StrLaws.split_free _ 44) (fun p hp=>?_) ?_
 · have:=split_pos (Txt.join ⟨#[44]⟩ (ps.map vtx)) ⟨#[44]⟩
   rw [e] at this
   exact absurd this (by decide)
 · obtain ⟨q,hq,rfl⟩:=List.mem_map.mp hp
   exact vtx_free q (hi q hq)
 · rw [StrLaws.join_split]
   exact StrLaws.glued_eq_join _ _
theorem join_pos (sep x:Str):∀ r:List Str,x.length≤(Str.join sep (x :: r)).length
 | []=>Nat.le_refl _
 | y :: r=>by
   show x.length≤(x ++ sep ++ Str.join sep (y :: r)).length
   rw [Str.length_append,Str.length_append]
   exact linLe [_,_,_] 1 (.v 0) (.a (.a (.v 0) (.v 1)) (.v 2)) [] rfl
theorem join_len {ps:List Pt} (hi:∀ p∈ps,p∈pts 4):(Txt.join (Str.ofString ",") (ps.map vtx)).length≤3 * ps.length∧((Txt.join (Str.ofString ",") (ps.map vtx)).length != 0) = !ps.isEmpty:=by
 have e:Txt.join (Str.ofString ",") (ps.map vtx) = Str.join (Str.ofString ",") (ps.map vtx):=StrLaws.glued_eq_join _ _
 refine wat e ?_
 constructor
 · have h:=StrLaws.join_length_le (Str.ofString ",") (ps.map vtx)
   have h1:∀ l:List Pt,(∀ p∈l,p∈pts 4)→((l.map vtx).map (·.length)).sum = 2 * l.length:=by
    intro l
    induction l with
    | nil=>intro _;rfl
    | cons p l ih=>
      intro hl
      simp only [List.map_cons,List.sum_cons,List.length_cons,ih fun q hq=>hl q (List.mem_cons_of_mem _ hq),vtx_two p (hl p (by simp))]
      exact Nat.le_antisymm (linLe [_] 1 (.a (.n 2) (.m 2 (.v 0))) (.m 2 (.a (.v 0) (.n 1))) [] rfl) (linLe [_] 1 (.m 2 (.a (.v 0) (.n 1))) (.a (.n 2) (.m 2 (.v 0))) [] rfl)
   rw [h1 ps hi,List.length_map,show (Str.ofString ",").length = 1 from by decide +kernel] at h
   exact linLe [_,_] 1 (.v 0) (.m 3 (.v 1)) [.le 1 (.v 0) (.a (.m 2 (.v 1)) (.r (.v 1) 1))] rfl h
 · cases ps with
   | nil=>rfl
   | cons p ps=>
     have:=join_pos (Str.ofString ",") (vtx p) (ps.map vtx)
     rw [vtx_two p (hi p (by simp))] at this
     simp only [List.map_cons,List.isEmpty_cons,Bool.not_false,bne_iff_ne,ne_eq]
     exact Nat.ne_of_gt (linLt [_] 1 (.n 0) (.v 0) [.le 1 (.n 2) (.v 0)] rfl this)
theorem t_tt {C:CallSem} {ρ:Loc} {H:AHeap} {Qt:Bool→AHeap→Prop} {X:AHeap→Prop} (q:Qt true H):awpT C .tt ρ H Qt X:=q
theorem filterMap_some {α β:Type} (f:α→β):∀ l:List α,l.filterMap (fun x=>some (f x)) = l.map f
 | []=>rfl
 | x :: l=>by simp
theorem c_read {k n:Nat} {ps:List Pt} (hn:n≤4) (hi:∀ p∈ps,inside n p = true) (hl:ps.length≤16)
 (q:∀ a H',H a = none→H' a = some (.list (ps.map AV.pt))→Grow H H'→Q (.ref a) H'):callWp fns (k + 2) .read [.str (Txt.join (Str.ofString ",") (ps.map vtx)),.int n] H Q X:=by
 have h4:∀ p∈ps,p∈pts 4:=fun p hp=>by
  obtain ⟨r,c,rfl,hr,hc⟩:=inside_spec (hi p hp)
  refine mem_pts.mpr ?_
  simp only [inside,Bool.and_eq_true,decide_eq_true_eq]
  lia
 obtain ⟨l1,l2⟩:=join_len h4
 refine c_call rfl ?_
 refine ss_step (s_ret (x_ite (t_e (x_var rfl ?_))))
 refine ⟨_,.str (by exact linLe [_,_] 1 (.v 1) (.n 1000) [.le 3 (.v 0) (.n 16),.le 1 (.v 1) (.m 3 (.v 0))] rfl hl l1),?_⟩
 refine wat l2 ?_
 by_cases hps:ps = []
 · subst hps
   refine if_ff ?_
   refine x_list (xs_nil ?_)
   exact new_intro q
 · refine wat (show ps.isEmpty = false from by cases ps<;>first | exact absurd rfl hps | rfl) ?_
   refine if_tt ?_
   refine x_comp (i_e (x_bm (x_var rfl ?_)))
   refine ⟨⟨_,rfl⟩,?_⟩
   refine xs_cons (x_str (xs_nil ?_))
   refine .split (by exact linLe [_,_] 1 (.v 1) (.n 1000) [.le 3 (.v 0) (.n 16),.le 1 (.v 1) (.m 3 (.v 0))] rfl hl l1) (by decide +kernel) (by rw [split_vtx hps h4,List.length_map];exact Nat.le_trans ‹_› (by decide)) ?_
   refine wat (split_vtx hps h4) ?_
   refine new_intro fun sa H₁ hsa h₁ g₁=>?_
   rw [List.map_map] at h₁
   refine .list h₁ ⟨rfl,?_⟩
   refine comp_rule (enc:=fun p=>AV.str (vtx p)) ps (fun p=>some (AV.pt p)) (walk_list sa _) (fun H' g=>g _ _ h₁) (fun p hp acc H' R g hacc hR=>?_) fun H' g=>new_intro fun a H'' ha h g'=>?_
   · refine t_tt (if_tt ?_)
     refine x_call (xs_cons (x_var rfl (xs_cons (x_var rfl (xs_nil ?_)))))
     refine c_vertex hn (hi p hp) ?_
     exact ⟨by exact linLt [_,_] 1 (.v 1) (.n 1000) [.le 1 (.v 0) (.n 16),.le 1 (.v 1) (.v 0)] rfl hl hacc,hR H' g⟩
   · exact q a H'' ((g₁.trans g).fresh ha) (by rw [h,filterMap_some]) ((g₁.trans g).trans g')
theorem pts_nodup (n:Nat):(pts n).Nodup:=by
 unfold pts List.Nodup
 rw [List.pairwise_flatMap]
 constructor
 · intro r _
   rw [List.pairwise_map]
   exact List.Pairwise.imp (fun h e=>h (by simp at e;omega)) List.nodup_range
 · exact List.Pairwise.imp (fun h x hx y hy e=>h (by
    obtain ⟨_,_,rfl⟩:=List.mem_map.mp hx
    obtain ⟨_,_,rfl⟩:=List.mem_map.mp hy
    simp at e;omega)) List.nodup_range
open Classical in
theorem exists_group {n:Nat} {σ:Pos} {p:Pt} {c:Col} (hi:inside n p = true) (hc:σ p = some c):∃ S,IsGroup n σ c p S:=by
 refine ⟨(pts n).filter fun q=>decide (∀ T:Pt→Prop,T p→(∀ a b,T a→b∈nbrs n a→σ b = some c→T b)→T q),?_,?_,?_,?_,(pts_nodup n).filter _⟩
 · rw [List.mem_filter]
   exact ⟨mem_pts.mpr hi,by simpa using fun T h _=>h⟩
 · intro q hq
   rw [List.mem_filter,decide_eq_true_eq] at hq
   exact hq.2 (fun q=>inside n q = true∧σ q = some c) ⟨hi,hc⟩ fun a b _ hb hs=>⟨(mem_nbrs.mp hb).2,hs⟩
 · intro a ha b hb hs
   rw [List.mem_filter,decide_eq_true_eq] at ha ⊢
   exact ⟨mem_pts.mpr (mem_nbrs.mp hb).2,fun T h0 hT=>hT a b (ha.2 T h0 hT) hb hs⟩
 · intro T h0 hT q hq
   rw [List.mem_filter,decide_eq_true_eq] at hq
   exact hq.2 T h0 hT
noncomputable def Dead (n:Nat) (σ:Pos) (x:Pt):Prop:=(X2 fun c S=>A2 (IsGroup n σ c x S) (NoAir n σ S))
theorem IsGroup.swap {n:Nat} {σ:Pos} {c:Col} {p q:Pt} {S:List Pt} (g:IsGroup n σ c p S) (h:q∈S):IsGroup n σ c q S:=by
 obtain ⟨hq1,hq2⟩:=g.mem q h
 obtain ⟨T,t⟩:=exists_group hq1 hq2
 refine ⟨h,g.mem,g.closed,fun U h0 hU x hx=>t.least U h0 hU x (t.meet g t.here h x hx),g.nodup⟩
theorem IsGroup.col {n:Nat} {σ:Pos} {c d:Col} {p q:Pt} {S:List Pt} (g:IsGroup n σ c p S) (h:q∈S) (e:σ q = some d):d = c:=by
 rw [(g.mem q h).2] at e;exact (Option.some.inj e).symm
theorem Dead.of {n:Nat} {σ:Pos} {c:Col} {p x:Pt} {S:List Pt} (g:IsGroup n σ c p S) (na:NoAir n σ S) (h:x∈S):Dead n σ x:=⟨c,S,g.swap h,na⟩
theorem Dead.all {n:Nat} {σ:Pos} {c:Col} {p x:Pt} {S:List Pt} (d:Dead n σ x) (g:IsGroup n σ c p S) (h:x∈S):NoAir n σ S:=by
 obtain ⟨c',S',g',na⟩:=d
 exact na.sub (g'.meet g g'.here h)
theorem Legal.noDead {n:Nat} {σ:Pos} (h:Legal n σ) {x:Pt}:¬ Dead n σ x:=fun ⟨c,S,g,na⟩=>h c x S g na
theorem Liv.mem {n:Nat} {es:Stones} {L:List Pt} (v:Liv n es L) (hin:∀ p c,es.lookup p = some c→inside n p = true) (cl:∀ x∈L,∀ y∈nbrs n x,es.lookup y = es.lookup x→y∈L) {p:Pt} {c:Col} (hp:es.lookup p = some c):
 p∈L↔¬ Dead n (fun x=>es.lookup x) p:=by
 constructor
 · refine v.least (fun x=>¬ Dead n (fun x=>es.lookup x) x) (fun a d q ha hq hn=>?_) (fun a b d ha h1 h2 hb hd=>ha ?_) p
   · rintro ⟨d,S,g,na⟩
     exact na a g.here q hq hn
   · obtain ⟨d',S,g,na⟩:=hd
     have e:=g.col g.here h2
     subst e
     exact Dead.of g na (g.closed b g.here a (nbrs_symm hb (hin a d h1)) h1)
 · intro hd
   obtain ⟨S,g⟩:=exists_group (σ:=fun x=>es.lookup x) (hin p c hp) hp
   have na:¬ NoAir n (fun x=>es.lookup x) S:=fun na=>hd ⟨c,S,g,na⟩
   apply Classical.byContradiction
   intro hL
   refine na fun y hy q hq hn=>hL ?_
   have hyL:=v.start y c q (g.mem y hy).2 hq hn
   refine ((g.swap hy).least (fun x=>x∈L∧es.lookup x = some c) ⟨hyL,(g.mem y hy).2⟩ (fun a b ha hb hs=>⟨cl a ha.1 b hb ?_,hs⟩) p g.here).1
   refine wat ha.2 ?_;exact hs
theorem Cleaned.told {n:Nat} {σ τ:Pos} (h:Cleaned n σ τ) {p:Pt} (hi:inside n p = true):(Dead n σ p→τ p = none)∧(¬ Dead n σ p→τ p = σ p):=by
 constructor
 · rintro ⟨c,S,g,na⟩
   exact h.go p hi c S g na
 · intro hd
   cases hc:σ p with
   | none=>exact h.bare p hi hc
   | some c=>
     obtain ⟨S,g⟩:=exists_group hi hc
     refine wat hc.symm ?_
     exact h.stay p hi c S g fun na=>hd ⟨c,S,g,na⟩
theorem Legal.drop {n:Nat} {σ τ:Pos} (D:Pt→Prop) (h1:∀ x,inside n x = true→D x→τ x = none) (h2:∀ x,inside n x = true→¬ D x→τ x = σ x)
 (h:∀ c p S,IsGroup n σ c p S→NoAir n σ S→∃ y∈S,D y∨∃ q∈nbrs n y,D q):Legal n τ:=fun c p S g na=>by
 have nD:∀ x,inside n x = true→τ x≠none→¬ D x:=fun x hx ht hd=>ht (h1 x hx hd)
 have sD:∀ x∈S,¬ D x:=fun x hx=>nD x (g.mem x hx).1 (by refine wat ((g.mem x hx).2) ?_;simp)
 have qD:∀ x∈S,∀ q∈nbrs n x,¬ D q:=fun x hx q hq=>nD q (mem_nbrs.mp hq).2 (na x hx q hq)
 have gσ:IsGroup n σ c p S:=by
  refine ⟨g.here,fun x hx=>⟨(g.mem x hx).1,?_⟩,fun x hx q hq hs=>g.closed x hx q hq ?_,fun T h0 hT x hx=>?_,g.nodup⟩
  · refine wat (h2 x (g.mem x hx).1 (sD x hx)).symm ?_;exact (g.mem x hx).2
  · refine wat (h2 q (mem_nbrs.mp hq).2 (qD x hx q hq)) ?_;exact hs
  · refine (g.least (fun y=>y∈S∧T y) ⟨g.here,h0⟩ (fun a b ha hb hs=>?_) x hx).2
    have hb':=(mem_nbrs.mp hb).2
    exact ⟨g.closed a ha.1 b hb hs,hT a b ha.2 hb (by rw [← h2 b hb' (nD b hb' (by rw [hs];simp))];exact hs)⟩
 obtain ⟨y,hy,hd⟩:=h c p S gσ fun x hx q hq=>by
  refine wat (h2 q (mem_nbrs.mp hq).2 (qD x hx q hq)).symm ?_;exact na x hx q hq
 rcases hd with hd | ⟨q,hq,hd⟩
 · exact sD y hy hd
 · exact qD y hy q hq hd
theorem Cleaned.legal {n:Nat} {σ τ:Pos} (h:Cleaned n σ τ):Legal n τ:=
 Legal.drop (Dead n σ) (fun x hx hd=>(h.told hx).1 hd) (fun x hx hd=>(h.told hx).2 hd) fun c p S g na=>⟨p,g.here,.inl ⟨c,S,g,na⟩⟩
theorem Cleaned.same {n:Nat} {σ τ:Pos} (h:Cleaned n σ τ) (l:Legal n σ):∀ p,inside n p = true→τ p = σ p:=fun p hp=>(h.told hp).2 l.noDead
theorem upd_self (σ:Pos) (p:Pt) (o:Option Col):upd σ p o p = o:=by simp [upd]
theorem upd_ne (σ:Pos) {p q:Pt} (o:Option Col) (h:q≠p):upd σ p o q = σ q:=by simp [upd,h]
theorem Col.opp_ne (c:Col):c.opp≠c:=by cases c<;>decide
theorem Col.ne_opp {c d:Col} (h:d≠c):d = c.opp:=by cases c<;>cases d<;>first | rfl | exact absurd rfl h
structure After (n:Nat) (σ₁:Pos) (c:Col) (τ:Pos):Prop where
 foes:(∃ y,Dead n σ₁ y∧σ₁ y = some c.opp)→∀ x,inside n x = true→(Dead n σ₁ x∧σ₁ x = some c.opp→τ x = none)∧(¬ (Dead n σ₁ x∧σ₁ x = some c.opp)→τ x = σ₁ x)
 own:(∀ y,Dead n σ₁ y→σ₁ y≠some c.opp)→∀ x,inside n x = true→(Dead n σ₁ x→τ x = none)∧(¬ Dead n σ₁ x→τ x = σ₁ x)
theorem After.unique {n:Nat} {σ₁ τ τ':Pos} {c:Col} (a:After n σ₁ c τ) (b:After n σ₁ c τ'):∀ x,inside n x = true→τ x = τ' x:=fun x hx=>by
 by_cases h:∃ y,Dead n σ₁ y∧σ₁ y = some c.opp
 · by_cases hd:Dead n σ₁ x∧σ₁ x = some c.opp
   · exact wat ((a.foes h x hx).1 hd) (wat ((b.foes h x hx).1 hd) rfl)
   · exact wat ((a.foes h x hx).2 hd) (wat ((b.foes h x hx).2 hd) rfl)
 · have h':∀ y,Dead n σ₁ y→σ₁ y≠some c.opp:=fun y hy e=>h ⟨y,hy,e⟩
   by_cases hd:Dead n σ₁ x
   · exact wat ((a.own h' x hx).1 hd) (wat ((b.own h' x hx).1 hd) rfl)
   · exact wat ((a.own h' x hx).2 hd) (wat ((b.own h' x hx).2 hd) rfl)
theorem Ruled.after {n:Nat} {σ₁ τ:Pos} {c:Col} {L:List Pt} (r:Ruled n σ₁ c L τ) (hL:∀ x d,σ₁ x = some d→(x∈L↔¬ Dead n σ₁ x)) (hn:∀ x∈L,σ₁ x≠none):After n σ₁ c τ:=by
 have nd:∀ x,Dead n σ₁ x→x∉L:=fun x hd hx=>by
  cases hs:σ₁ x with
  | none=>exact hn x hx hs
  | some d=>exact (hL x d hs).mp hx hd
 have live:∀ x d,σ₁ x = some d→x∉L→Dead n σ₁ x:=fun x d hs hx=>Classical.byContradiction fun hd=>hx ((hL x d hs).mpr hd)
 cases r with
 | foes h hτ=>
   obtain ⟨y,d,hy,hdc,hyL⟩:=h
   have hop:∃ y,Dead n σ₁ y∧σ₁ y = some c.opp:=⟨y,live y d hy hyL,by exact wat hy (wat (Col.ne_opp hdc) rfl)⟩
   refine ⟨fun _ x hx=>⟨fun ⟨hd,hs⟩=>?_,fun hno=>?_⟩,fun hno=>absurd hop fun ⟨y,h1,h2⟩=>hno y h1 h2⟩
   · rw [hτ,if_pos ⟨by rw [hs];intro e;exact c.opp_ne (Option.some.inj e),nd x hd⟩]
   · rw [hτ]
     by_cases hc:σ₁ x≠some c∧x∉L
     · rw [if_pos hc]
       cases hs:σ₁ x with
       | none=>rfl
       | some d=>exact absurd ⟨live x d hs hc.2,by rw [hs,Col.ne_opp (d:=d) (c:=c) fun e=>hc.1 (by rw [hs,e])]⟩ hno
     · exact wat (if_neg hc) rfl
 | own h hτ=>
   refine ⟨fun ⟨y,hd,hs⟩=>absurd (h y _ hs c.opp_ne) (nd y hd),fun _ x hx=>⟨fun hd=>?_,fun hd=>?_⟩⟩
   · rw [hτ,if_neg (nd x hd)]
   · rw [hτ]
     cases hs:σ₁ x with
     | none=>simp
     | some d=>exact wat (if_pos ((hL x d hs).mpr hd)) rfl
section
variable {n:Nat} {σ:Pos} {p:Pt} {c:Col} (l:Legal n σ) (hi:inside n p = true) (hp:σ p = none)
include l hi hp
theorem dead_meets {d:Col} {x:Pt} {S:List Pt} (g:IsGroup n (upd σ p (some c)) d x S) (na:NoAir n (upd σ p (some c)) S):p∈S∨∃ y∈S,p∈nbrs n y:=by
 apply Classical.byContradiction
 intro hno
 have h1:p∉S:=fun h=>hno (.inl h)
 have h2:∀ y∈S,p∉nbrs n y:=fun y hy h=>hno (.inr ⟨y,hy,h⟩)
 have off:∀ q,q≠p→upd σ p (some c) q = σ q:=fun q hq=>upd_ne σ _ hq
 have inS:∀ y∈S,y≠p:=fun y hy e=>h1 (e▸hy)
 have nbS:∀ y∈S,∀ q∈nbrs n y,q≠p:=fun y hy q hq e=>h2 y hy (e▸hq)
 refine l d x S ⟨g.here,fun y hy=>⟨(g.mem y hy).1,by refine wat (off y (inS y hy)).symm ?_;exact (g.mem y hy).2⟩,fun y hy q hq hs=>g.closed y hy q hq (by refine wat (off q (nbS y hy q hq)) ?_;exact hs),fun T h0 hT y hy=>?_,g.nodup⟩ fun y hy q hq=>by refine wat (off q (nbS y hy q hq)).symm ?_;exact na y hy q hq
 refine (g.least (fun y=>y∈S∧T y) ⟨g.here,h0⟩ (fun a b ha hb hs=>?_) y hy).2
 exact ⟨g.closed a ha.1 b hb hs,hT a b ha.2 hb (by refine wat (off b (nbS a ha.1 b hb)).symm ?_;exact hs)⟩
theorem own_holds {x:Pt} {S:List Pt} (g:IsGroup n (upd σ p (some c)) c x S) (na:NoAir n (upd σ p (some c)) S):p∈S:=by
 rcases dead_meets l hi hp g na with h | ⟨y,hy,h⟩
 · exact h
 · exact g.closed y hy p h (upd_self ..)
theorem foe_touches {y:Pt} (hd:Dead n (upd σ p (some c)) y) (hs:upd σ p (some c) y = some c.opp):∃ z∈nbrs n p,Dead n (upd σ p (some c)) z∧upd σ p (some c) z = some c.opp:=by
 obtain ⟨d,S,g,na⟩:=hd
 have e:=g.col g.here hs
 subst e
 rcases dead_meets l hi hp g na with h | ⟨z,hz,h⟩
 · have:=(g.mem p h).2
   rw [upd_self] at this
   exact absurd (Option.some.inj this).symm c.opp_ne
 · exact ⟨z,nbrs_symm h (g.mem z hz).1,.of g na hz,(g.mem z hz).2⟩
theorem After.legal {τ:Pos} (a:After n (upd σ p (some c)) c τ):Legal n τ:=by
 by_cases h:∃ y,Dead n (upd σ p (some c)) y∧upd σ p (some c) y = some c.opp
 · refine Legal.drop (σ:=upd σ p (some c)) (fun x=>Dead n (upd σ p (some c)) x∧upd σ p (some c) x = some c.opp) (fun x hx hd=>(a.foes h x hx).1 hd) (fun x hx hd=>(a.foes h x hx).2 hd) fun d x S g na=>?_
   by_cases hdc:d = c
   · subst hdc
     obtain ⟨y,hy,hs⟩:=h
     obtain ⟨z,hz,hz'⟩:=foe_touches l hi hp hy hs
     exact ⟨p,own_holds l hi hp g na,.inr ⟨z,hz,hz'⟩⟩
   · exact ⟨x,g.here,.inl ⟨⟨d,S,g,na⟩,by exact wat ((g.mem x g.here).2) (wat (Col.ne_opp hdc) rfl)⟩⟩
 · have h':∀ y,Dead n (upd σ p (some c)) y→upd σ p (some c) y≠some c.opp:=fun y hy e=>h ⟨y,hy,e⟩
   exact Legal.drop (σ:=upd σ p (some c)) (Dead n (upd σ p (some c))) (fun x hx hd=>(a.own h' x hx).1 hd) (fun x hx hd=>(a.own h' x hx).2 hd) fun d x S g na=>⟨x,g.here,.inl ⟨d,S,g,na⟩⟩
theorem found_dead {gs:Gs} {hs:List Pt} (f:Found n (upd σ p (some c)) gs hs) (cov:∀ x∈p :: around p,inside n x = true→upd σ p (some c) x≠none→x∈hs) (x:Pt):Dead n (upd σ p (some c)) x↔∃ g∈gs,x∈g.2.2:=by
 constructor
 · rintro ⟨d,S,g,na⟩
   have hy:∃ y∈S,y∈p :: around p:=by
    rcases dead_meets l hi hp g na with h | ⟨y,hy,h⟩
    · exact ⟨p,h,by simp⟩
    · exact ⟨y,hy,List.mem_cons_of_mem _ (mem_nbrs.mp (nbrs_symm h (g.mem y hy).1)).1⟩
   obtain ⟨y,hy,hy'⟩:=hy
   obtain ⟨d',q,S',g',hyS',hh⟩:=f.grp y (cov y hy' (g.mem y hy).1 (by refine wat ((g.mem y hy).2) ?_;simp))
   exact f.dead x (hh x (g'.meet g hyS' hy x g.here)) fun d'' q' S'' g'' hx=>Dead.all ⟨d,S,g,na⟩ g'' hx
 · rintro ⟨g,hg,hx⟩
   obtain ⟨⟨q,hq⟩,_,na⟩:=f.each g hg
   exact .of hq na hx
end
structure Ko (n:Nat) (σ₁:Pos) (c:Col) (p x:Pt):Prop where
 dead:Dead n σ₁ x
 foe:σ₁ x = some c.opp
 only:∀ y,Dead n σ₁ y→σ₁ y = some c.opp→y = x
 mine:Dead n σ₁ p
 alone:∀ y,Dead n σ₁ y→σ₁ y = some c→y = p
structure Told (n:Nat) (σ:Pos) (p:Pt) (c:Col) (τ:Pos) (e:Bool) (v:AV):Prop where
 after:After n (upd σ p (some c)) c τ
 legal:Legal n τ
 flag:e = true↔∀ x,inside n x = true→τ x = none
 val:(∃ x,Ko n (upd σ p (some c)) c p x∧v = .pt x)∨((∀ x,¬ Ko n (upd σ p (some c)) c p x)∧v = .none)
theorem Told.same {n:Nat} {σ τ τ':Pos} {p:Pt} {c:Col} {e e':Bool} {v v':AV} (a:Told n σ p c τ e v) (b:Told n σ p c τ' e' v'):v = v':=by
 rcases a.val with ⟨x,hx,rfl⟩ | ⟨hx,rfl⟩<;>rcases b.val with ⟨y,hy,rfl⟩ | ⟨hy,rfl⟩
 · exact wat (hy.only x hx.dead hx.foe) rfl
 · exact absurd hx (hy x)
 · exact absurd hy (hx y)
 · rfl
theorem line {n:Nat} (f:Nat→Prop) (h:∀ i j,i < n→j < n→(j = i + 1∨i = j + 1)→f i→f j) {i:Nat} (hi:i < n) (h0:f i):∀ j,j < n→f j:=by
 have down:∀ k,k≤i→f (i - k):=by
  intro k
  induction k with
  | zero=>intro _;exact h0
  | succ k ih=>intro hk;exact h (i - k) (i - (k + 1)) (by exact linLt [_,_,_] 1 (.v 2) (.v 1) [.lt 1 (.v 0) (.v 1),.le 1 (.v 2) (.v 0)] rfl hi (Nat.sub_le i k)) (by exact linLt [_,_,_] 1 (.v 2) (.v 1) [.lt 1 (.v 0) (.v 1),.le 1 (.v 2) (.v 0)] rfl hi (Nat.sub_le i (k + 1))) (by lia) (ih (by exact Nat.le_of_succ_le ‹_›))
 have z:f 0:=by have:=down i (Nat.le_refl _);rwa [Nat.sub_self] at this
 intro j
 induction j with
 | zero=>intro _;exact z
 | succ j ih=>intro hj;exact h j (j + 1) (by exact linLt [_,_] 1 (.v 0) (.v 1) [.lt 1 (.a (.v 0) (.n 1)) (.v 1)] rfl hj) hj (.inl rfl) (ih (by exact linLt [_,_] 1 (.v 0) (.v 1) [.lt 1 (.a (.v 0) (.n 1)) (.v 1)] rfl hj))
theorem whole {n:Nat} (T:Pt→Prop) {p:Pt} (hi:inside n p = true) (h0:T p) (h:∀ a b,inside n a = true→T a→b∈nbrs n a→T b):∀ x,inside n x = true→T x:=by
 obtain ⟨r,c,rfl,hr,hc⟩:=inside_spec hi
 have ins:∀ r c:Nat,r < n→c < n→inside n (((r:Int),(c:Int)):Pt) = true:=fun r c hr hc=>by
  simp only [inside,Bool.and_eq_true,decide_eq_true_eq];lia
 have row:=line (fun i=>T ((i:Int),(c:Int))) (fun i j hi hj e h1=>h _ _ (ins i c hi hc) h1 (mem_nbrs.mpr ⟨by simp [around];lia,ins j c hj hc⟩)) hr h0
 intro x hx
 obtain ⟨r',c',rfl,hr',hc'⟩:=inside_spec hx
 exact line (fun i=>T ((r':Int),(i:Int))) (fun i j hi hj e h1=>h _ _ (ins r' i hr' hi) h1 (mem_nbrs.mpr ⟨by simp [around];lia,ins r' j hr' hj⟩)) hc (row r' hr') c' hc'
theorem pts_length (n:Nat):(pts n).length = n * n:=by
 simp [pts,List.length_flatMap,List.map_const',List.sum_replicate_nat]
theorem two_of {α:Type} {r:α→α→Prop} {l:List α} (h:2≤l.length) (p:l.Pairwise r):∃ a∈l,∃ b∈l,r a b:=by
 match l with
 | []=>exact absurd h (by simp)
 | [_]=>exact absurd h (by simp)
 | a :: b :: l=>
   rw [List.pairwise_cons] at p
   exact ⟨a,by simp,b,by simp,p.1 b (by simp)⟩
theorem list_one {α:Type} {r:α→α→Prop} {l:List α} {g:α} (p:l.Pairwise r) (hn:∀ a∈l,∀ b∈l,¬ r a b) (hm:g∈l):l = [g]:=by
 by_cases h:2≤l.length
 · obtain ⟨a,ha,b,hb,hr⟩:=two_of h p
   exact absurd hr (hn a ha b hb)
 · match l with
   | []=>cases hm
   | [a]=>exact wat (List.mem_singleton.mp hm) rfl
   | a :: b :: l=>exact absurd (show 2≤l.length + 1 + 1 from Nat.le_add_left ..) h
theorem nodup_one {α:Type} {l:List α} {z:α} (hn:l.Nodup) (h:∃ y,y∈l) (hall:∀ y∈l,y = z):l = [z]:=by
 obtain ⟨y,hy⟩:=h
 refine list_one hn (fun a ha b hb hne=>hne ?_) (hall y hy▸hy)
 exact wat (hall a ha) (wat (hall b hb) rfl)
theorem len_one {α:Type} {l:List α} {y p:α} (h:l.length = 1) (hy:y∈l) (hp:p∈l):y = p:=by
 refine bc fun nG=>?_
 obtain ⟨a,rfl⟩:=List.length_eq_one_iff.mp h
 refine nG ?_
 exact wat (List.mem_singleton.mp hy) (wat (List.mem_singleton.mp hp) rfl)
section
variable {n:Nat} {σ:Pos} {p:Pt} {c:Col} (l:Legal n σ) (hi:inside n p = true) (hp:σ p = none)
include l hi hp
set_option tactic.hygienic true in
theorem outcome_told {gs:Gs} {hs:List Pt} {τ:Pos} {e:Bool} {v:AV} (f:Found n (upd σ p (some c)) gs hs) (cov:∀ x∈p :: around p,inside n x = true→upd σ p (some c) x≠none→x∈hs) (o:Outcome n (upd σ p (some c)) c gs τ e v):Told n σ p c τ e v:=by
 have hD:=found_dead l hi hp f cov
 have hσp:upd σ p (some c) p = some c:=upd_self ..
 have cl:∀ g∈gs,∀ x∈g.2.2,upd σ p (some c) x = some g.2.1:=fun g hg x hx=>by
  refine bc fun nG=>?_
  obtain ⟨⟨q,hq⟩,_⟩:=f.each g hg
  refine nG ?_
  exact (hq.mem x hx).2
 have ne:∀ g∈gs,∃ x,x∈g.2.2:=fun g hg=>by
  obtain ⟨⟨q,hq⟩,_⟩:=f.each g hg
  exact ⟨q,hq.here⟩
 have ownp:∀ g∈gs,g.2.1 = c→p∈g.2.2:=fun g hg e=>by
  obtain ⟨⟨q,hq⟩,_,na⟩:=f.each g hg
  rw [e] at hq
  exact own_holds l hi hp hq na
 have foe2:2≤gs.length→∃ g∈gs,g.2.1 = c.opp:=fun h2=>by
  apply Classical.byContradiction
  intro hno
  have allc:∀ g∈gs,g.2.1 = c:=fun g hg=>Classical.byContradiction fun h=>hno ⟨g,hg,Col.ne_opp h⟩
  obtain ⟨a,ha,b,hb,hd⟩:=two_of h2 f.disj
  exact hd p (ownp a ha (allc a ha)) (ownp b hb (allc b hb))
 have hop:∀ g∈gs,g.2.1 = c.opp→∃ y,Dead n (upd σ p (some c)) y∧upd σ p (some c) y = some c.opp:=fun g hg e=>by
  refine bc fun nG=>?_
  obtain ⟨x,hx⟩:=ne g hg
  refine nG ?_
  exact ⟨x,(hD x).mpr ⟨g,hg,hx⟩,by exact wat (cl g hg x hx) (wat e rfl)⟩
 have aft2:2≤gs.length→After n (upd σ p (some c)) c (drop (upd σ p (some c)) (gs.filter fun g=>decide (g.2.1 = c.opp))):=fun h2=>by
  refine bc fun nG=>?_
  obtain ⟨g0,hg0,he0⟩:=foe2 h2
  refine nG ?_
  refine ⟨fun _ x hx=>⟨fun ⟨hd,hs⟩=>?_,fun hno=>drop_out ?_⟩,fun hno=>absurd (hop g0 hg0 he0) fun ⟨y,h1,h2⟩=>hno y h1 h2⟩
  · refine bc fun nG=>?_
    obtain ⟨g,hg,hxg⟩:=(hD x).mp hd
    refine nG ?_
    refine drop_in ⟨g,List.mem_filter.mpr ⟨hg,?_⟩,hxg⟩
    rw [cl g hg x hxg] at hs
    simpa using Option.some.inj hs
  · rintro ⟨g,hg,hxg⟩
    obtain ⟨hg,hc⟩:=List.mem_filter.mp hg
    exact hno ⟨(hD x).mpr ⟨g,hg,hxg⟩,by exact wat (cl g hg x hxg) (wat (of_decide_eq_true hc) rfl)⟩
 have flag2:2≤gs.length→(false = true↔∀ x,inside n x = true→drop (upd σ p (some c)) (gs.filter fun g=>decide (g.2.1 = c.opp)) x = none):=fun h2=>by
  refine ⟨fun h=>(nob h),fun h=>?_⟩
  obtain ⟨g0,hg0,he0⟩:=foe2 h2
  have h1:=((aft2 h2).foes (hop g0 hg0 he0) p hi).2 fun ⟨_,hh⟩=>by
   rw [hσp] at hh
   exact c.opp_ne (Option.some.inj hh).symm
  rw [h p hi,hσp] at h1
  exact no1 h1
 cases o with
 | none=>
   have nd:∀ x,¬ Dead n (upd σ p (some c)) x:=fun x hd=>by
    obtain ⟨g,hg,_⟩:=(hD x).mp hd
    cases hg
   have a:After n (upd σ p (some c)) c (drop (upd σ p (some c)) []):=⟨fun ⟨y,h,_⟩=>absurd h (nd y),fun _ x hx=>⟨fun h=>absurd h (nd x),fun _=>drop_out (by simp)⟩⟩
   refine ⟨a,a.legal l hi hp,⟨fun h=>(nob h),fun h=>?_⟩,.inr ⟨fun x k=>nd x k.dead,rfl⟩⟩
   have:=h p hi
   rw [drop_out (by simp),hσp] at this
   exact no2 this
 | one g=>
   have cl1:=cl g (by simp)
   have hD1:∀ x,Dead n (upd σ p (some c)) x↔x∈g.2.2:=fun x=>by rw [hD x];simp
   have inn:∀ {x},x∈g.2.2→drop (upd σ p (some c)) [g] x = none:=fun h=>drop_in ⟨g,by simp,h⟩
   have out:∀ {x},x∉g.2.2→drop (upd σ p (some c)) [g] x = upd σ p (some c) x:=fun h=>drop_out (by simpa using h)
   have a:After n (upd σ p (some c)) c (drop (upd σ p (some c)) [g]):=by
    refine ⟨fun ⟨y,hy,hs⟩ x hx=>⟨fun ⟨hd,_⟩=>inn ((hD1 x).mp hd),fun hno=>out fun hxg=>hno ⟨(hD1 x).mpr hxg,?_⟩⟩,fun _ x hx=>⟨fun hd=>inn ((hD1 x).mp hd),fun hd=>out fun hxg=>hd ((hD1 x).mpr hxg)⟩⟩
    exact wat (cl1 x hxg) (wat hs.symm (wat (cl1 y ((hD1 y).mp hy)) rfl))
   refine ⟨a,a.legal l hi hp,?_,.inr ⟨fun x k=>?_,rfl⟩⟩
   · refine bc fun nG=>?_
     obtain ⟨⟨q,hq⟩,_,na⟩:=f.each g (by simp)
     refine nG ?_
     refine wat decide_eq_true_eq ?_
     constructor
     · intro hlen x hx
       refine inn ?_
       apply Classical.byContradiction
       intro hxg
       have h1:=nodup_len (l:=x :: g.2.2) (m:=pts n) (by rw [List.nodup_cons];exact ⟨hxg,hq.nodup⟩) fun y hy=>by
        rcases List.mem_cons.mp hy with rfl | hy
        · exact mem_pts.mpr hx
        · exact mem_pts.mpr (hq.mem y hy).1
       rw [List.length_cons,pts_length,hlen] at h1
       exact linF [_] [.le 1 (.a (.v 0) (.n 1)) (.v 0)] rfl h1
     · intro hnone
       have occ:∀ x,inside n x = true→upd σ p (some c) x≠none→x∈g.2.2:=fun x hx hs=>Classical.byContradiction fun hxg=>hs (by refine wat (out hxg).symm ?_;exact hnone x hx)
       have all:=whole (· ∈g.2.2) hi (occ p hi (by refine wat hσp ?_;simp)) fun a b _ ha hb=>occ b (mem_nbrs.mp hb).2 (na a ha b hb)
       have h1:=nodup_len (pts_nodup n) fun x hx=>all x (mem_pts.mp hx)
       have h2:=nodup_len hq.nodup fun x hx=>mem_pts.mpr (hq.mem x hx).1
       rw [pts_length] at h1 h2
       exact Nat.le_antisymm ‹_› ‹_›
   · have h1:=cl1 x ((hD1 x).mp k.dead)
     have h2:=cl1 p ((hD1 p).mp k.mine)
     rw [k.foe] at h1
     rw [hσp] at h2
     exact c.opp_ne (Option.some.inj (h1.trans h2.symm))
 | more h2 hno=>
   refine ⟨aft2 h2,(aft2 h2).legal l hi hp,flag2 h2,.inr ⟨fun x k=>?_,rfl⟩⟩
   obtain ⟨g,hg,hxg⟩:=(hD x).mp k.dead
   have hgc:g.2.1 = c.opp:=by
    have:=cl g hg x hxg
    rw [k.foe] at this
    exact (Option.some.inj this).symm
   have ptsx:∀ g∈gs,g.2.1 = c.opp→g.2.2 = [x]:=fun g hg e=>by
    obtain ⟨⟨q,hq⟩,_⟩:=f.each g hg
    exact nodup_one hq.nodup ⟨q,hq.here⟩ fun y hy=>k.only y ((hD y).mpr ⟨g,hg,hy⟩) (by exact wat (cl g hg y hy) (wat e rfl))
   have hF:gs.filter (fun g=>decide (g.2.1 = c.opp)) = [g]:=by
    have dj:=f.disj.filter fun g=>decide (g.2.1 = c.opp)
    have hm:g∈gs.filter fun g=>decide (g.2.1 = c.opp):=List.mem_filter.mpr ⟨hg,by simpa using hgc⟩
    have hall:∀ h∈gs.filter (fun g=>decide (g.2.1 = c.opp)),h.2.2 = [x]:=fun h hh=>ptsx h (List.mem_filter.mp hh).1 (of_decide_eq_true (List.mem_filter.mp hh).2)
    exact list_one dj (fun a ha b hb hr=>hr x (by refine wat (hall a ha) ?_;simp) (by refine wat (hall b hb) ?_;simp)) hm
   obtain ⟨o,ho,hpo⟩:=(hD p).mp k.mine
   have hoc:o.2.1 = c:=by
    have:=cl o ho p hpo
    rw [hσp] at this
    exact (Option.some.inj this).symm
   have hom:o∈gs.filter fun g=>decide (g.2.1 = c):=List.mem_filter.mpr ⟨ho,by simpa using hoc⟩
   cases hh:(gs.filter fun g=>decide (g.2.1 = c)).head? with
   | none=>
     rw [List.head?_eq_none_iff] at hh
     rw [hh] at hom;cases hom
   | some o'=>
     have hm':=List.mem_of_mem_head? hh
     obtain ⟨ho',hoc'⟩:=List.mem_filter.mp hm'
     obtain ⟨⟨q,hq⟩,_⟩:=f.each o' ho'
     have h1:o'.2.2 = [p]:=nodup_one hq.nodup ⟨q,hq.here⟩ fun y hy=>k.alone y ((hD y).mpr ⟨o',ho',hy⟩) (by exact wat (cl o' ho' y hy) (wat (of_decide_eq_true hoc') rfl))
     exact hno g x o' hF (ptsx g hg hgc) hh (by refine wat h1 ?_;rfl)
 | ko h2 hF hx hh hone=>
   rename_i f' o x
   refine ⟨aft2 h2,(aft2 h2).legal l hi hp,flag2 h2,.inl ⟨x,?_,rfl⟩⟩
   have hf':f'∈gs.filter fun g=>decide (g.2.1 = c.opp):=by refine wat hF ?_;simp
   obtain ⟨hfg,hfc⟩:=List.mem_filter.mp hf'
   have hfc:=of_decide_eq_true hfc
   obtain ⟨hog,hoc⟩:=List.mem_filter.mp (List.mem_of_mem_head? hh)
   have hoc:=of_decide_eq_true hoc
   have hpo:=ownp o hog hoc
   refine bc fun nG=>?_
   obtain ⟨⟨q,hq⟩,_,na⟩:=f.each o hog
   refine nG ?_
   have ho1:∀ y∈o.2.2,y = p:=fun y hy=>len_one hone hy hpo
   refine ⟨(hD x).mpr ⟨f',hfg,by rw [hx];simp⟩,by rw [cl f' hfg x (by rw [hx];simp),hfc],fun y hy hs=>?_,(hD p).mpr ⟨o,hog,hpo⟩,fun y hy hs=>?_⟩
   · obtain ⟨g,hg,hyg⟩:=(hD y).mp hy
     rw [cl g hg y hyg] at hs
     have hm:g∈gs.filter fun g=>decide (g.2.1 = c.opp):=List.mem_filter.mpr ⟨hg,by simpa using Option.some.inj hs⟩
     rw [hF] at hm
     rw [List.mem_singleton.mp hm,hx] at hyg
     simpa using hyg
   · obtain ⟨d,S,g,na'⟩:=hy
     have e:=g.col g.here hs
     subst e
     have:=hq.meet g hpo (own_holds l hi hp g na') y g.here
     exact ho1 y this
end
noncomputable def pos (es:Stones):Pos:=fun p=>es.lookup p
noncomputable def Ins (n:Nat) (es:Stones):Prop:=∀ p c,es.lookup p = some c→inside n p = true
noncomputable def Bare (n:Nat) (σ:Pos):Prop:=∀ x,inside n x = true→σ x = none
@[reducible] noncomputable def Bd.foot (B:Bd):List Addr:=B.dx :: B.rows
theorem foot_all {B:Bd} {x:Addr} (h:x∈B.foot):x∈B.all:=by
 simp only [Bd.foot,Bd.all,List.mem_cons] at h ⊢
 rcases h with h | h
 · exact .inr (.inl h)
 · exact .inr (.inr (.inr (.inr h)))
theorem BoardAt.live {H:AHeap} {B:Bd} {n:Nat} {σ:Pos} {e:Bool} (b:BoardAt H B n σ e) {x:Addr} (h:x∈B.all):H x≠none:=by
 simp only [Bd.all,List.mem_cons] at h
 rcases h with rfl | rfl | rfl | rfl | h
 · refine wat b.inst ?_;simp
 · refine wat b.ns.choose_spec.1 ?_;simp
 · refine wat b.points ?_;simp
 · refine wat b.board ?_;simp
 · obtain ⟨r,hr⟩:=List.mem_iff_getElem?.mp h
   refine wat (b.row r x hr) ?_;simp
theorem BoardAt.fresh {H:AHeap} {B:Bd} {n:Nat} {σ:Pos} {e:Bool} (b:BoardAt H B n σ e) {x:Addr} (h:H x = none):x∉B.foot:=fun m=>b.live (foot_all m) h
theorem BoardAt.away {H:AHeap} {B:Bd} {n:Nat} {σ:Pos} {e:Bool} (b:BoardAt H B n σ e) {x:Addr} {o:AO} (h:H x = some o) (h1:∀ xs,o≠.list xs) (h2:∀ fs,o≠.ns fs):x∉B.foot:=fun m=>by
 rcases List.mem_cons.mp m with rfl | m
 · obtain ⟨fs,hf,_⟩:=b.ns
   rw [hf] at h
   exact h2 _ (Option.some.inj h).symm
 · exact b.notRow h h1 m
theorem BoardAt.other {H H':AHeap} {B B':Bd} {n:Nat} {σ:Pos} {e:Bool} (b:BoardAt H B n σ e) (h:∀ x∈B.all,x∉B'.foot) (k:Keep B'.foot H H'):BoardAt H' B n σ e:=b.keep fun a o ha e=>k a o (h a ha) e
theorem DictAt.keep {H H':AHeap} {B:Bd} {n:Nat} {σ:Pos} {e:Bool} {d:Addr} {es:Stones} (h:DictAt H d es) (b:BoardAt H B n σ e) (k:Keep B.foot H H'):DictAt H' d es:=by
 obtain ⟨g,h⟩:=h
 exact ⟨g,k _ _ (b.away h (fun _ e=>by cases e) (fun _ e=>by cases e)) h⟩
theorem x_board {k n i:Nat} {ρ:Loc} (h0:ρ[i]? = some (some (.int n))) (hn:2≤n) (hn4:n≤4)
 (q:∀ B H',BoardAt H' B n (fun _=>none) true→Grow H H'→(∀ x∈B.all,H x = none)→Q (.ref B.a) H'):awp (callWp fns (k + 1)) (.newBoard (.var i)) ρ H Q X:=by
 refine x_newBoard (x_var h0 fun a dx ha hdx hne=>?_)
 have g:Grow H ((H.set dx (.ns fun _=>none)).set a (.inst boardC dx)):=((Grow.refl H).put hdx _).put ha _
 refine c_init hn hn4 (AHeap.set_self ..) ((AHeap.set_ne _ _ hne.symm).trans (AHeap.set_self ..)) fun B H' hB b kp hf=>⟨rfl,?_⟩
 refine wat hB.symm ?_
 refine q B H' b (fun x o h=>kp x o (fun m=>?_) (g x o h)) fun x hx=>?_
 · rw [List.mem_singleton.mp m,hdx] at h;exact no1 h
 · rcases hf x hx with rfl | rfl | h
   · exact ha
   · exact hdx
   · exact g.fresh h
theorem Legal.congr {n:Nat} {σ τ:Pos} (l:Legal n σ) (h:∀ x,inside n x = true→τ x = σ x):Legal n τ:=Legal.drop (fun _=>False) (fun _ _ f=>f.elim) (fun x hx _=>h x hx) fun c p S g na=>absurd na (l c p S g)
theorem c_move {k n:Nat} {B:Bd} {σ:Pos} {e:Bool} {p:Pt} {c:Col} (b:BoardAt H B n σ e) (l:Legal n σ) (hi:inside n p = true)
 (q0:σ p≠none→Q refused H) (q:σ p = none→∀ H' τ e' v,Told n σ p c τ e' v→BoardAt H' B n τ e'→Keep B.foot H H'→Q (told v) H'):callWp fns (k + 4) .tryPlay [.ref B.a,.pt p,c.av] H Q X:=
 c_try b hi q0 fun hp H' gs hs τ e' v f cov o b' kp=>q hp H' τ e' v (outcome_told l hi hp f cov o) b' kp
theorem c_setup {k n:Nat} {B:Bd} {σ τ:Pos} {e:Bool} {ba wa ea:Addr} {bs ws es:List Pt} (b:BoardAt H B n σ e)
 (hb:H ba = some (.list (bs.map AV.pt))) (hw:H wa = some (.list (ws.map AV.pt))) (he:H ea = some (.list (es.map AV.pt))) (ib:∀ p∈bs,inside n p = true) (iw:∀ p∈ws,inside n p = true) (ie:∀ p∈es,inside n p = true)
 (lb:bs.length≤16) (lw:ws.length≤16) (le:es.length≤16) (nb:ba∉B.foot) (nw:wa∉B.foot) (ne:ea∉B.foot) (l:Legal n τ) (hτ:∀ p,inside n p = true→upds (upds (upds σ bs (some .b)) ws (some .w)) es none p = τ p)
 (q:∀ H' e',BoardAt H' B n τ e'→(e' = true↔Bare n τ)→Keep B.foot H H'→Q (.bool true) H'):callWp fns (k + 3) .apply_setup [.ref B.a,.ref ba,.ref wa,.ref ea] H Q X:=by
 have nr:∀ {x},x∉B.foot→x∉B.rows:=fun h m=>h (List.mem_cons_of_mem _ m)
 refine c_apply_setup b hb hw he ib iw ie lb lw le (nr nb) (nr nw) (nr ne) fun H' τ' e' r b' cl he' hr kp=>?_
 have l':=l.congr (τ:=upds (upds (upds σ bs (some .b)) ws (some .w)) es none) hτ
 have same:=cl.same l'
 have e1:∀ p,inside n p = true→τ' p = τ p:=fun p hp=>(same p hp).trans (hτ p hp)
 refine wat (hr.mpr same) ?_
 refine q H' e' (b'.same e1) (he'.trans ⟨fun h x hx=>(e1 x hx).symm.trans (h x hx),fun h x hx=>(e1 x hx).trans (h x hx)⟩) kp
theorem dictEq_iff {es fs:Stones} (he:(es.map (·.1)).Nodup) (hf:(fs.map (·.1)).Nodup):dictEq (avs es) (avs fs) = true↔∀ p,es.lookup p = fs.lookup p:=by
 have key:∀ {es:Stones} {p:Pt},p∈es.map (·.1)→es.lookup p≠none:=fun h e=>look_none.mp e h
 unfold dictEq
 rw [Bool.and_eq_true,List.all_eq_true,beq_iff_eq]
 have len:∀ es:Stones,(avs es).length = (es.map (·.1)).length:=fun es=>by simp [avs]
 rw [len,len]
 constructor
 · rintro ⟨hl,hall⟩ p
   have each:∀ p c,es.lookup p = some c→fs.lookup p = some c:=fun p c h=>by
    have hm:(p,c)∈es:=by
     obtain ⟨e,hem,rfl⟩:=List.mem_map.mp (look_mem h)
     obtain ⟨i,hi⟩:=List.mem_iff_getElem?.mp hem
     have:=nodup_look he hi
     rw [h] at this
     refine wat (Option.some.inj this) ?_;exact hem
    have:=hall (p,c.av) (List.mem_map.mpr ⟨(p,c),hm,rfl⟩)
    rw [beq_iff_eq,avs_lookup] at this
    cases hq:fs.lookup p with
    | none=>rw [show ((p,c.av):Pt×AV).1 = p from rfl,hq] at this;exact no1 this
    | some d=>
      rw [show ((p,c.av):Pt×AV).1 = p from rfl,hq] at this
      simp only [Option.map_some,Option.some.injEq,AV.str.injEq] at this
      exact wat (Col.s_inj this) rfl
   cases h:es.lookup p with
   | some c=>exact (each p c h).symm
   | none=>
     apply Classical.byContradiction
     intro hne
     have hp:p∈fs.map (·.1):=Classical.byContradiction fun hn=>hne (look_none.mpr hn).symm
     have:=nodup_len (l:=p :: es.map (·.1)) (m:=fs.map (·.1)) (by rw [List.nodup_cons];exact ⟨look_none.mp h,he⟩) fun x hx=>by
      rcases List.mem_cons.mp hx with rfl | hx
      · exact hp
      · cases hc:es.lookup x with
        | none=>exact absurd hc (key hx)
        | some c=>exact look_mem (each x c hc)
     rw [List.length_cons] at this
     exact linF [_,_] [.ge 1 (.v 0) (.v 1),.le 1 (.a (.v 0) (.n 1)) (.v 1)] rfl hl this
 · intro h
   have sub:∀ {es fs:Stones},(∀ p,es.lookup p = fs.lookup p)→∀ x∈es.map (·.1),x∈fs.map (·.1):=fun h x hx=>by
    apply Classical.byContradiction
    intro hn
    have:=look_none.mpr hn
    rw [← h x] at this
    exact key hx this
   refine ⟨Nat.le_antisymm (nodup_len he (sub h)) (nodup_len hf (sub fun p=>(h p).symm)),fun e hem=>?_⟩
   obtain ⟨e',hem',rfl⟩:=List.mem_map.mp hem
   obtain ⟨i,hi⟩:=List.mem_iff_getElem?.mp hem'
   rw [beq_iff_eq,avs_lookup,← h,nodup_look he hi]
   rfl
theorem avs_plain (es:Stones):(avs es).all (fun e=>e.2.plain) = true:=by
 rw [List.all_eq_true]
 intro e he
 obtain ⟨e',_,rfl⟩:=List.mem_map.mp he
 exact e'.2.plain
theorem occ_plain (n:Nat) (σ:Pos):(occ n σ).all AV.plain = true:=by
 rw [List.all_eq_true]
 intro x hx
 obtain ⟨p,_,h⟩:=List.mem_filterMap.mp hx
 cases hc:σ p with
 | none=>rw [hc] at h;exact no1 h
 | some c=>
   rw [hc] at h
   obtain rfl:=Option.some.inj h
   have h1:c.av.plainN 2 = true:=c.plain
   show (c.av.plainN 2 && (AV.pt p).plainN 2) = true
   refine wat h1 ?_;rfl
theorem law_body:F_law.body = P1 (P2 (P3 (P4 (P5 (P6 (P7 .nil)))))):=rfl
structure Fr (H:AHeap) (n:Nat) (a:Addr) (o:AO) (sp:Addr) (ns:List Int) (pa:Addr):Prop where
 scr:H a = some o
 spare:H sp = some (.list (ns.map .int))
 pts:H pa = some (.list ((pts n).map AV.pt))
 two:2≤n
 four:n≤4
 long:32≤ns.length
 short:ns.length≤100
 shape:(∀ xs,o≠.list xs)∧∀ fs,o≠.ns fs
theorem Fr.grow {H H':AHeap} {n:Nat} {a:Addr} {o:AO} {sp:Addr} {ns:List Int} {pa:Addr} (f:Fr H n a o sp ns pa) (g:Grow H H'):Fr H' n a o sp ns pa:={ f with scr:=g _ _ f.scr,spare:=g _ _ f.spare,pts:=g _ _ f.pts }
structure Own (B:Bd) (sp pa:Addr):Prop where
 sp:sp∉B.foot
 pa:pa∉B.foot
theorem Fr.keep {H H':AHeap} {n:Nat} {a:Addr} {o:AO} {sp:Addr} {ns:List Int} {pa:Addr} {B:Bd} {σ:Pos} {e:Bool} (f:Fr H n a o sp ns pa) (b:BoardAt H B n σ e) (w:Own B sp pa) (k:Keep B.foot H H'):Fr H' n a o sp ns pa:=
 { f with scr:=k _ _ (b.away f.scr f.shape.1 f.shape.2) f.scr,spare:=k _ _ w.sp f.spare,pts:=k _ _ w.pa f.pts }
theorem Fr.own {H:AHeap} {n:Nat} {a:Addr} {o:AO} {sp:Addr} {ns:List Int} {pa:Addr} {B:Bd} (f:Fr H n a o sp ns pa) (h:∀ x∈B.all,H x = none):Own B sp pa:=
 ⟨fun m=>(nomatch (h _ (foot_all m)).symm.trans f.spare),fun m=>(nomatch (h _ (foot_all m)).symm.trans f.pts)⟩
structure St (n:Nat) (es:Stones):Prop where
 nodup:(es.map (·.1)).Nodup
 ins:Ins n es
 legal:Legal n (pos es)
theorem ins_len {n:Nat} {es:Stones} (hn:n≤4) (h:(es.map (·.1)).Nodup) (hi:Ins n es):es.length≤16:=by
 have:=nodup_len (m:=pts n) h fun x hx=>by
  cases hc:es.lookup x with
  | none=>exact absurd hx (look_none.mp hc)
  | some c=>exact mem_pts.mpr (hi x c hc)
 have h2:=pts_len hn
 simp only [List.length_map] at this
 exact Nat.le_trans ‹_› ‹_›
theorem uncons {l:List Int} {n:Nat} (h:n + 1≤l.length):X2 fun a r=>A2 (l = a :: r) (n≤r.length):=by
 cases l with
 | nil=>exact absurd h (Nat.not_succ_le_zero n)
 | cons a r=>exact ⟨a,r,rfl,Nat.le_of_succ_le_succ h⟩
theorem five (l:List Int) (h:5≤l.length):X5 fun a b c d e=>l.take 5 = [a,b,c,d,e]:=by
 obtain ⟨a,r1,rfl,h1⟩:=uncons h
 obtain ⟨b,r2,rfl,h2⟩:=uncons h1
 obtain ⟨c,r3,rfl,h3⟩:=uncons h2
 obtain ⟨d,r4,rfl,h4⟩:=uncons h3
 obtain ⟨e,r5,rfl,h5⟩:=uncons h4
 exact ⟨a,b,c,d,e,rfl⟩
noncomputable def colPts (n:Nat) (es:Stones) (c:Col):List Pt:=(pts n).filter fun p=>decide (es.lookup p = some c)
theorem colPts_in {n:Nat} {es:Stones} {c:Col}:∀ p∈colPts n es c,inside n p = true:=fun p hp=>mem_pts.mp (List.mem_filter.mp hp).1
theorem colPts_len {n:Nat} {es:Stones} {c:Col} (hn:n≤4):(colPts n es c).length≤16:=Nat.le_trans (List.length_filter_le ..) (pts_len hn)
theorem mem_colPts {n:Nat} {es:Stones} {c:Col} {p:Pt} (hp:inside n p = true):p∈colPts n es c↔es.lookup p = some c:=by
 unfold colPts
 rw [List.mem_filter,decide_eq_true_eq]
 exact ⟨fun h=>h.2,fun h=>⟨mem_pts.mpr hp,h⟩⟩
theorem setup_pos {n:Nat} {es:Stones} {σ:Pos} (p:Pt) (hp:inside n p = true) (hσ:es.lookup p = none→σ p = none) (E:List Pt) (hE:p∈E→es.lookup p = none):upds (upds (upds σ (colPts n es .b) (some .b)) (colPts n es .w) (some .w)) E none p = pos es p:=by
 unfold upds pos
 simp only [mem_colPts hp]
 by_cases he:p∈E
 · exact wat (if_pos he) (wat (hE he) rfl)
 · refine wat (if_neg he) ?_
   cases hc:es.lookup p with
   | none=>simp [hσ hc]
   | some c=>cases c<;>simp
set_option maxHeartbeats 4000000 in
theorem law1 {rest:SL} {xs:List Int} {a:Addr} {g:Obj} {H:AHeap} {K:SQ} {X:AHeap→Prop} (hl:xs.length≤63) (ha:H a = some (.rlist (xs.map .int) g))
 (q:∀ H' n h ce ot f s sp ns pa rw d es B e,Fr H' n a (.rlist (xs.map .int) g) sp ns pa→DictAt H' d es→St n es→BoardAt H' B n (pos es) e→Own B sp pa→
   swps (callWp fns 10) rest (l29 (oR a) (oI h) (oI ce) (oI ot) (oI f) (oI s) (oR sp) (oI n) (oR pa) (some rw) (oR d) (oR B.a) none none none none none none none none none none none none none none none none none) H' K X):
 swps (callWp fns 10) (P1 rest) (l29 (oR a) none none none none none none none none none none none none none none none none none none none none none none none none none none none none) H K X:=by
 refine ss_step (s_asgN (x_sliceTo (x_bin (x_var rfl (x_list (xs_cons (x_int (xs_cons (x_int (xs_cons (x_int (xs_cons (x_int (xs_cons (x_int (xs_nil ?_))))))))))))))))
 refine new_intro fun a1 H₁ ha1 h₁ g₁=>?_
 refine .addL (.inr ⟨_,g₁ _ _ ha⟩) h₁ (by simp;exact Nat.le_trans ‹_› (by decide)) (new_intro fun a2 H₂ ha2 h₂ g₂=>?_)
 refine x_int ?_
 refine ⟨_,rfl,.list (by decide) (by decide) (by decide) (.inl h₂) (by simp;exact Nat.le_trans ‹_› (by decide)) (new_intro fun a3 H₃ ha3 h₃ g₃=>?_)⟩
 obtain ⟨h,ce,ot,f,s,e5⟩:=five (xs ++ [0,0,0,0,0]) (by simp)
 rw [show cut (xs.map .int ++ [AV.int 0,.int 0,.int 0,.int 0,.int 0]) 0 (some 5) = [AV.int h,.int ce,.int ot,.int f,.int s] from by
  have:cut (xs.map .int ++ [AV.int 0,.int 0,.int 0,.int 0,.int 0]) 0 (some 5) = ((xs ++ [0,0,0,0,0]).take 5).map .int:=by
   refine wat List.map_take (wat List.map_append ?_);rfl
  refine wat this (wat e5 ?_);rfl] at h₃
 refine ⟨_,.list h₃ rfl,?_⟩
 have gr3:=(g₁.trans g₂).trans g₃
 refine ss_step (s_asg (x_bin (x_slice (x_var rfl (x_int (x_int ?_))))))
 refine ⟨_,_,rfl,rfl,.list (by decide) (by decide) (by decide) (.inr ⟨_,gr3 _ _ ha⟩) (by simp;exact Nat.le_trans ‹_› (by decide)) (new_intro fun a4 H₄ ha4 h₄ g₄=>?_)⟩
 refine x_bin (x_list (xs_cons (x_int (xs_nil ?_))))
 refine new_intro fun a5 H₅ ha5 h₅ g₅=>?_
 refine x_int ?_
 refine .mulL h₅ (by decide) (by decide) (new_intro fun a6 H₆ ha6 h₆ g₆=>?_)
 refine .addL (.inl (g₆ _ _ (g₅ _ _ h₄))) h₆ (by simp [cut];exact linLe [_] 1 (.v 0) (.n 973) [.le 1 (.v 0) (.n 37)] rfl (Nat.min_le_left 37 xs.length)) (new_intro fun sp H₇ hsp h₇ g₇=>?_)
 rw [show cut (xs.map AV.int) 5 (some 37) ++ List.replicate (Int.toNat 32) (AV.int 0) = (((xs.take 37).drop 5) ++ List.replicate 32 0).map .int from by
  simp [cut,List.map_take,List.map_drop]] at h₇
 have gr7:=(((gr3.trans g₄).trans g₅).trans g₆).trans g₇
 have l1:32≤(((xs.take 37).drop 5) ++ List.replicate 32 (0:Int)).length:=by simp
 have l2:(((xs.take 37).drop 5) ++ List.replicate 32 (0:Int)).length≤100:=by simp;exact linLe [_] 1 (.v 0) (.n 73) [.le 1 (.v 0) (.n 37)] rfl (Nat.min_le_left 37 xs.length)
 generalize ((xs.take 37).drop 5) ++ List.replicate 32 (0:Int) = ns at h₇ l1 l2
 have ha7:=gr7 _ _ ha
 clear h₁ ha1 g₁ h₂ ha2 g₂ h₃ ha3 g₃ h₄ ha4 g₄ h₅ ha5 g₅ h₆ ha6 g₆ e5 gr3 gr7 g₇ hsp
 refine ss_step (s_asg (x_bin (x_int (x_bin (x_var rfl (x_int (BinR.modI (by decide) (by decide) (BinR.subI (ss_step (s_asg (x_comp2 (i_range (x_var rfl ?_)))))))))))))
 obtain ⟨n,hn,n2,n4⟩:(X1 fun (n:Nat)=>A3 ((4:Int) - h % 3 = n) (2≤n) (n≤4)):=⟨((4:Int) - h % 3).toNat,by lia,by lia,by lia⟩
 refine wat hn ?_
 refine ⟨_,rfl,by lia,by lia,rfl,pts_turns n4 rfl (new_intro fun pa H₈ hpa h₈ g₈=>?_)⟩
 have f₈:Fr H₈ n a (.rlist (xs.map .int) g) sp ns pa:=⟨g₈ _ _ ha7,g₈ _ _ h₇,h₈,n2,n4,l1,l2,⟨fun _ e=>(by cases e),fun _ e=>(by cases e)⟩⟩
 have pl:=pts_len n4
 refine ss_step (s_asg (x_call (xs_cons (x_var rfl (xs_cons (x_var rfl (xs_nil ?_)))))))
 refine c_stones h₈ (pts_nodup n) (by exact Nat.lt_of_le_of_lt ‹_› (by decide)) fun ra H₉ es hra h₉ nd sub g₉=>?_
 have f₉:=f₈.grow g₉
 have ins:Ins n es:=fun p c h=>mem_pts.mp (sub p (look_mem h))
 have el:=ins_len n4 nd ins
 clear h₈ h₇ ha7 hpa g₈ g₉ f₈ hra
 refine ss_step (s_asg (x_call (xs_cons (x_var rfl (xs_cons (x_call (xs_cons (x_var rfl (xs_cons (x_var rfl (xs_nil ?_)))))))))))
 refine c_breathing h₉ nd el fun la H₁ L hla h₁ v cl g₁=>?_
 have f₁:=f₉.grow g₁
 have d₁:=h₉.grow g₁
 refine xs_nil ?_
 refine c_only d₁ nd (by exact Nat.lt_of_le_of_lt ‹_› (by decide)) (.list h₁) fun d H₂ hd h₂ g₂=>?_
 have f₂:=f₁.grow g₂
 have d₂:=d₁.grow g₂
 clear f₉ h₉ g₁ f₁ d₁ h₁ hla g₂ hd
 have hL:∀ p,(es.filter fun e=>decide (e.1∈L)).lookup p = if p∈L then es.lookup p else none:=fun p=>by
  rw [look_filter (fun x=>decide (x∈L))];simp
 have nd':=nodup_filter nd fun e=>decide (e.1∈L)
 have ins':Ins n (es.filter fun e=>decide (e.1∈L)):=fun p c h=>by
  rw [hL] at h
  split at h
  · exact ins p c h
  · exact no1 h
 have vm:=fun {p c}=>v.mem (p:=p) (c:=c) ins cl
 generalize es.filter (fun e=>decide (e.1∈L)) = es' at h₂ hL nd' ins'
 refine ss_step (s_asg (x_board rfl n2 n4 fun B H₃ b₃ g₃ hB=>?_))
 have f₃:=f₂.grow g₃
 have ow:=f₂.own hB
 have d₃:=d₂.grow g₃
 have s₃:=h₂.grow g₃
 clear f₂ d₂ h₂ g₃ hB
 refine ss_step (s_ite (t_cmp (x_meth (x_var rfl ?_))))
 refine ⟨b₃.isBoard,?_⟩
 refine xs_cons (x_call (xs_cons (x_var rfl (xs_cons (x_var rfl (xs_cons (x_str (xs_nil ?_))))))))
 refine c_ofColour (c:=.b) d₃ f₃.pts (by exact Nat.lt_of_le_of_lt ‹_› (by decide)) fun ba H₄ hba h₄ g₄=>?_
 have nba:=b₃.fresh hba
 refine xs_cons (x_call (xs_cons (x_var rfl (xs_cons (x_var rfl (xs_cons (x_str (xs_nil ?_))))))))
 refine c_ofColour (c:=.w) (d₃.grow g₄) (f₃.grow g₄).pts (by exact Nat.lt_of_le_of_lt ‹_› (by decide)) fun wa H₅ hwa h₅ g₅=>?_
 have nwa:=(b₃.grow g₄).fresh hwa
 refine xs_cons (x_list (xs_nil ?_))
 refine new_intro fun ea H₆ hea h₆ g₆=>?_
 have nea:=(b₃.grow (g₄.trans g₅)).fresh hea
 have gr:=(g₄.trans g₅).trans g₆
 have b₆:=b₃.grow gr
 have f₆:=f₃.grow gr
 have d₆:=d₃.grow gr
 have s₆:=s₃.grow gr
 have w₄:=g₆ _ _ (g₅ _ _ h₄)
 have w₅:=g₆ _ _ h₅
 clear b₃ f₃ d₃ s₃ h₄ h₅ g₄ g₅ g₆ gr hba hwa hea
 refine xs_nil ?_
 refine c_apply_setup (bs:=colPts n es .b) (ws:=colPts n es .w) (es:=[]) b₆ w₄ w₅ h₆ colPts_in colPts_in (fun _ h=>(nomatch h)) (colPts_len n4) (colPts_len n4) (by decide) (fun m=>nba (List.mem_cons_of_mem _ m)) (fun m=>nwa (List.mem_cons_of_mem _ m)) (fun m=>nea (List.mem_cons_of_mem _ m)) fun H₇ τ e' r b₇ cd he' hr k₇=>?_
 have hσ:upds (upds (upds (fun _=>none) (colPts n es .b) (some .b)) (colPts n es .w) (some .w)) [] none = pos es:=by
  funext p
  by_cases hp:inside n p = true
  · exact setup_pos p hp (fun _=>rfl) [] fun h=>nomatch h
  · have h1:es.lookup p = none:=by
     cases hc:es.lookup p with
     | none=>rfl
     | some c=>exact absurd (ins p c hc) hp
    have h2:∀ c,p∉colPts n es c:=fun c hm=>hp (colPts_in p hm)
    simp [upds,h2,pos,h1]
 rw [hσ] at cd hr
 have hτ:∀ p,inside n p = true→τ p = pos es' p:=fun p hp=>by
  show _ = es'.lookup p
  rw [hL]
  cases hc:es.lookup p with
  | none=>rw [cd.bare p hp hc];simp
  | some c=>
    by_cases hd:Dead n (pos es) p
    · exact wat ((cd.told hp).1 hd) (wat (if_neg fun h=>(vm hc).mp h hd) rfl)
    · rw [(cd.told hp).2 hd,if_pos ((vm hc).mpr hd)];exact hc
 have b₇':=b₇.same hτ
 have leg:Legal n (pos es'):=cd.legal.congr fun p hp=>(hτ p hp).symm
 have f₇:=f₆.keep b₆ ow k₇
 have s₇:=s₆.keep b₆ k₇
 have d₇:=d₆.keep b₆ k₇
 obtain ⟨gs',hs₇⟩:=s₇
 obtain ⟨gd',hd₇⟩:=d₇
 refine x_cmp (x_var rfl (x_var rfl ?_))
 refine ⟨_,.eq (.dict hs₇ hd₇ (avs_plain _) (avs_plain _)),?_⟩
 refine ⟨_,.ne (.bool _ _),?_⟩
 have heq:r = dictEq (avs es') (avs es):=by
  rw [Bool.eq_iff_iff,hr,dictEq_iff nd' nd]
  constructor
  · intro h p
    by_cases hp:inside n p = true
    · exact (hτ p hp).symm.trans (h p hp)
    · have o:∀ es:Stones,Ins n es→es.lookup p = none:=fun es i=>by
       cases hc:es.lookup p with
       | none=>rfl
       | some c=>exact absurd (i p c hc) hp
      exact wat (o es ins) (wat (o es' ins') rfl)
  · intro h p hp
    exact (hτ p hp).trans (h p)
 rw [heq,beq_self_eq_true]
 refine if_ff ?_
 refine ss_nil ?_
 exact q _ _ _ _ _ _ _ _ _ _ _ _ es' B e' f₇ ⟨_,hs₇⟩ ⟨nd',ins',leg⟩ b₇' ow
theorem look_in {es:Stones} {p:Pt} {c:Col} (h:es.lookup p = some c):(p,c)∈es:=by
 induction es with
 | nil=>exact no1 h
 | cons x es ih=>
   obtain ⟨q,d⟩:=x
   by_cases hp:p = q
   · subst hp
     simp [List.lookup_cons] at h
     subst h;simp
   · rw [List.lookup_cons,beq_eq_false_iff_ne.mpr hp] at h
     exact List.mem_cons_of_mem _ (ih h)
theorem in_look {es:Stones} (hn:(es.map (·.1)).Nodup) {p:Pt} {c:Col} (h:(p,c)∈es):es.lookup p = some c:=by
 obtain ⟨i,hi⟩:=List.mem_iff_getElem?.mp h
 exact nodup_look hn hi
theorem inside4 {n:Nat} {p:Pt} (hn:n≤4) (h:inside n p = true):inside 4 p = true:=by
 simp only [inside,Bool.and_eq_true,decide_eq_true_eq] at h ⊢
 omega
theorem BoardAt.noDict {H:AHeap} {B:Bd} {n:Nat} {σ:Pos} {e:Bool} (b:BoardAt H B n σ e) {x:Addr} {es g} (h:H x = some (.dict es g)):x∉B.all:=fun m=>by
 simp only [Bd.all,List.mem_cons] at m
 rcases m with rfl | rfl | rfl | rfl | m
 · rw [b.inst] at h;exact clash h rfl
 · rw [b.ns.choose_spec.1] at h;exact clash h rfl
 · rw [b.points] at h;exact clash h rfl
 · rw [b.board] at h;exact clash h rfl
 · obtain ⟨r,hr⟩:=List.mem_iff_getElem?.mp m
   rw [b.row r x hr] at h;exact clash h rfl
theorem BoardAt.setDict {H:AHeap} {B:Bd} {n:Nat} {σ:Pos} {e:Bool} (b:BoardAt H B n σ e) {x:Addr} {es g} (h:H x = some (.dict es g)) (o:AO):BoardAt (H.set x o) B n σ e:=
 b.keep fun a ob ha he=>(AHeap.set_ne _ _ (fun e=>b.noDict h (by refine wat e.symm ?_;exact ha))).trans he
theorem Fr.setDict {H:AHeap} {n:Nat} {a:Addr} {o:AO} {sp:Addr} {ns:List Int} {pa:Addr} (f:Fr H n a o sp ns pa) {x:Addr} {es g} (h:H x = some (.dict es g)) (ho:∀ es g,o≠.dict es g) (ob:AO):Fr (H.set x ob) n a o sp ns pa:=
 { f with
   scr:=(AHeap.set_ne _ _ (fun e=>by rw [← e,f.scr] at h;exact ho _ _ (Option.some.inj h))).trans f.scr
   spare:=(AHeap.set_ne _ _ (fun e=>by rw [← e,f.spare] at h;exact clash h rfl)).trans f.spare
   pts:=(AHeap.set_ne _ _ (fun e=>by rw [← e,f.pts] at h;exact clash h rfl)).trans f.pts }
noncomputable def recAV (e:Pt×Col):AV:=.pair e.2.av (.str (vtx e.1))
noncomputable def colAt (es:Stones) (p:Pt):Col:=(es.lookup p).getD .b
structure Rec (es Ls:Stones):Prop where
 nodup:(Ls.map (·.1)).Nodup
 here:∀ p c,es.lookup p = some c↔(p,c)∈Ls
noncomputable def apart (B B':Bd):Prop:=∀ x∈B.all,x∉B'.all
theorem c_there {k n:Nat} {es:Stones} {H:AHeap} {ρ:Loc} {Q:AV→AHeap→Prop} {X:AHeap→Prop} {pa d:Addr} (hp:H pa = some (.list ((pts n).map AV.pt))) (hd:DictAt H d es) (hn:n≤4) (h8:ρ[8]? = some (some (.ref pa))) (h10:ρ[10]? = some (some (.ref d)))
 (q:∀ a H',H a = none→H' a = some (.list (((pts n).filter fun p=>(es.lookup p).isSome).map AV.pt))→Grow H H'→Q (.ref a) H'):awp (callWp fns k) (.comp (.var 0) (.e (.var 8)) (.cmp (.var 0) .In (.var 1)) [10]) ρ H Q X:=by
 have pl:=pts_len hn
 obtain ⟨g,hd⟩:=hd
 refine x_comp (i_e (x_var h8 (.list hp ⟨rfl,comp_filter (enc:=AV.pt) (pts n) (fun p=>(es.lookup p).isSome) AV.pt (walk_list pa _) (fun H' g=>g _ _ hp) (by exact Nat.lt_of_le_of_lt ‹_› (by decide)) (fun x hx acc H' R g hl' no yes=>?_) q⟩)))
 simp only [List.map_cons,List.map_nil,h10,Option.join_some]
 refine t_cmp (x_var rfl (x_var rfl ?_))
 refine ⟨_,.in (.dict (r:=x.1) (c:=x.2) (g _ _ hd)),?_⟩
 rw [avs_lookup,Option.isSome_map]
 refine if_bool (fun h=>?_) fun h=>no h _ (.refl _)
 refine x_var rfl ?_
 exact ⟨hl',yes h _ (.refl _)⟩
set_option maxHeartbeats 4000000 in
theorem law2 {rest:SL} {H:AHeap} {n:Nat} {a:Addr} {o:AO} {sp:Addr} {ns:List Int} {pa d:Addr} {rw:AV} {es:Stones} {B:Bd} {e:Bool} {h ce ot f s:Int} {K:SQ} {X:AHeap→Prop} (fr:Fr H n a o sp ns pa) (hd:DictAt H d es) (st:St n es) (b:BoardAt H B n (pos es) e) (ow:Own B sp pa)
 (q:∀ H' wy rc B' dt Ls,Fr H' n a o sp ns pa→DictAt H' d es→BoardAt H' B n (pos es) e→BoardAt H' B' n (fun _=>none) true→Own B' sp pa→apart B B'→H' rc = some (.list (Ls.map recAV))→rc∉B'.foot→DictAt H' dt []→d≠dt→Rec es Ls→
   swps (callWp fns 10) rest (l29 (oR a) (oI h) (oI ce) (oI ot) (oI f) (oI s) (oR sp) (oI n) (oR pa) (some (rw)) (oR d) (oR B.a) (oR rc) (oI wy) (oR B'.a) (oR dt) none none none none none none none none none none none none none) H' K X):
 swps (callWp fns 10) (P2 rest) (l29 (oR a) (oI h) (oI ce) (oI ot) (oI f) (oI s) (oR sp) (oI n) (oR pa) (some (rw)) (oR d) (oR B.a) none none none none none none none none none none none none none none none none none) H K X:=by
 have n4:=fr.four
 have pl:=pts_len n4
 refine ss_step (s_asg (x_comp (i_e (x_call (xs_cons (c_there fr.pts hd n4 rfl rfl fun ta H₁ hta h₁ g₁=>xs_cons (x_var rfl (xs_nil ?_))))))))
 have fl:((pts n).filter fun p=>(es.lookup p).isSome).length≤16:=Nat.le_trans (List.length_filter_le ..) pl
 refine c_order h₁ (g₁ _ _ fr.spare) (by have:=fr.long;exact linLe [_,_] 1 (.v 0) (.v 1) [.le 1 (.v 0) (.n 16),.le 1 (.n 32) (.v 1)] rfl fl this) (by exact Nat.lt_of_le_of_lt ‹_› (by decide)) fun oa H₂ L hoa hL h₂ g₂=>?_
 have g12:=g₁.trans g₂
 have memL:∀ p,p∈L↔inside n p = true∧∃ c,es.lookup p = some c:=fun p=>by
  rw [hL.mem_iff,List.mem_filter,mem_pts,Option.isSome_iff_exists]
 have ndL:L.Nodup:=hL.nodup_iff.mpr ((pts_nodup n).filter _)
 have lenL:L.length≤16:=by refine wat hL.length_eq ?_;exact fl
 clear hL fl
 refine .list h₂ ⟨rfl,?_⟩
 refine comp_rule (enc:=AV.pt) L (fun p=>some (recAV (p,colAt es p))) (walk_list oa _) (fun H' g=>g _ _ h₂) (fun p hp acc H' R g hacc hR=>?_) fun H₃ g₃=>new_intro fun rc H₄ hrc h₄ g₄=>?_
 · obtain ⟨hi,c,hc⟩:=(memL p).mp hp
   obtain ⟨gd,hd⟩:=hd
   refine t_tt (if_tt ?_)
   refine x_pair (x_sub (x_var rfl (x_var rfl ?_)))
   refine ⟨_,.dict (r:=p.1) (c:=p.2) (g _ _ (g12 _ _ hd)) (by rw [avs_lookup];show Option.map _ (es.lookup p) = _;rw [hc];rfl),?_⟩
   refine x_call (xs_cons (x_var rfl (xs_nil ?_)))
   refine c_format_vertex (inside4 n4 hi) ?_
   refine ⟨by exact linLt [_,_] 1 (.v 1) (.n 1000) [.le 1 (.v 0) (.n 16),.le 1 (.v 1) (.v 0)] rfl lenL hacc,?_⟩
   have:=hR H' g
   simp only [colAt,hc,Option.getD_some,Option.toList_some] at this
   exact this
 have gr:=(g12.trans g₃).trans g₄
 rw [filterMap_some,show L.map (fun p=>recAV (p,colAt es p)) = (L.map fun p=>(p,colAt es p)).map recAV from by refine wat List.map_map ?_;rfl] at h₄
 have rcd:Rec es (L.map fun p=>(p,colAt es p)):=by
  refine ⟨?_,fun p c=>⟨fun hc=>?_,fun hm=>?_⟩⟩
  · refine wat List.map_map ?_
    exact (List.map_id L).symm▸ndL
  · refine List.mem_map.mpr ⟨p,(memL p).mpr ⟨st.ins p c hc,c,hc⟩,?_⟩
    simp [colAt,hc]
  · obtain ⟨p',hp',e'⟩:=List.mem_map.mp hm
    obtain ⟨_,c',hc'⟩:=(memL p').mp hp'
    cases e'
    simp [colAt,hc']
 generalize L.map (fun p=>(p,colAt es p)) = Ls at h₄ rcd
 have f₄:=fr.grow gr
 have d₄:=hd.grow gr
 have b₄:=b.grow gr
 clear hd fr b h₂ g₂ g12 g₃ g₄ gr hrc g₁ h₁ hta hoa
 refine ss_step (s_asg (x_bin (x_bin (x_bin (x_bin (x_var rfl (x_int (.divI (by decide) (by decide) (x_int (.addI (x_int (.mulI (by decide +kernel) (x_int (.modI (by decide) (by decide) ?_))))))))))))))
 refine ss_step (s_asg (x_board rfl f₄.two n4 fun B' H₅ b₅ g₅ hB=>?_))
 have nrc:rc∉B'.foot:=fun m=>nomatch (hB _ (foot_all m)).symm.trans h₄
 have ow':=f₄.own hB
 have ap:apart B B':=fun x hx hx'=>b₄.live hx (hB x hx')
 have f₅:=f₄.grow g₅
 have d₅:=d₄.grow g₅
 have b₅':=b₄.grow g₅
 have h₅:=g₅ _ _ h₄
 refine ss_step (s_asg (x_dict0 ?_))
 intro dt gt hdt
 have g₆:Grow H₅ (H₅.set dt (.dict [] gt)):=Grow.new hdt
 refine q _ _ rc B' dt Ls (f₅.grow g₆) (d₅.grow g₆) (b₅'.grow g₆) (b₅.grow g₆) ow' ap (g₆ _ _ h₅) nrc ⟨gt,AHeap.set_self ..⟩ (fun e=>?_) rcd
 obtain ⟨_,hd⟩:=d₅
 rw [e,hdt] at hd;exact no1 hd
theorem Told.quiet {n:Nat} {σ τ:Pos} {p:Pt} {c:Col} {e:Bool} {v:AV} (t:Told n σ p c τ e v) (l:Legal n (upd σ p (some c))):v = .none∧∀ x,inside n x = true→τ x = upd σ p (some c) x:=by
 refine ⟨?_,fun x hx=>(t.after.own (fun y hy _=>l.noDead hy) x hx).2 l.noDead⟩
 rcases t.val with ⟨x,k,_⟩ | ⟨_,h⟩
 · exact absurd k.dead l.noDead
 · exact h
theorem pos_snoc {es:Stones} {p:Pt} {c:Col} (h:es.lookup p = none):pos (es ++ [(p,c)]) = upd (pos es) p (some c):=by
 funext q
 show (es ++ [(p,c)]).lookup q = if q = p then some c else es.lookup q
 refine wat List.lookup_append ?_
 by_cases hq:q = p
 · subst hq
   simp [h,List.lookup_cons]
 · simp [hq,List.lookup_cons,beq_eq_false_iff_ne.mpr hq]
theorem bool_true {e:Bool} {P:Prop} (h:e = true↔P) (hn:¬ P):e = false:=by
 cases e with
 | false=>rfl
 | true=>exact absurd (h.mp rfl) hn
theorem told_plain:(told .none).plain = true∧(AV.pair (.str (Str.ofString "told")) .none).plain = true:=by decide +kernel
theorem col_b (c:Col):decide (c.av = AV.str (Str.ofString "b")) = decide (c = .b):=by cases c<;>decide +kernel
theorem b_plain:(AV.str (Str.ofString "b")).plain = true:=by decide +kernel
theorem c_shows {k n:Nat} {B:Bd} {es:Stones} {e:Bool} {d pa:Addr} {ρ:Loc} {i j l:Nat} {H:AHeap} {X:AHeap→Prop} {Qt:Bool→AHeap→Prop} (b:BoardAt H B n (pos es) e) (hd:DictAt H d es) (hp:H pa = some (.list ((pts n).map AV.pt))) (hi:ρ[i]? = some (some (.ref B.a))) (hj:ρ[j]? = some (some (.ref d))) (hl:ρ[l]? = some (some (.ref pa)))
 (q:∀ H',Grow H H'→Qt false H'):awpT (callWp fns (k + 1)) (.cmp (.meth .occupied (.var i) .nil) .NotEq (.call .rows (.cons (.var j) (.cons (.var l) .nil)))) ρ H Qt X:=by
 have pl:=pts_len b.small
 refine t_cmp (x_meth (x_var hi ⟨b.isBoard,xs_nil (c_occupied b fun oa H₁ hoa h₁ g₁=>x_call (xs_cons (x_var hj (xs_cons (x_var hl (xs_nil ?_))))))⟩))
 refine c_rows (hd.grow g₁) (g₁ _ _ hp) (by exact Nat.lt_of_le_of_lt ‹_› (by decide)) fun ra H₂ hra h₂ g₂=>?_
 have h₂:H₂ ra = some (.list (occ n (pos es))):=h₂
 refine ⟨_,.ne (.list (g₂ _ _ h₁) h₂ (occ_plain n _) (occ_plain n (pos es))),?_⟩
 refine wat (show decide (occ n (pos es) = occ n (pos es)) = true from by simp) ?_
 exact q H₂ (g₁.trans g₂)
structure Mid (H:AHeap) (n:Nat) (a:Addr) (o:AO) (sp:Addr) (ns:List Int) (pa d:Addr) (es:Stones) (B B':Bd) (e:Bool) (dt:Addr) (rc:Addr) (Ls:Stones) (i:Nat) (e':Bool):Prop where
 fr:Fr H n a o sp ns pa
 hd:DictAt H d es
 b:BoardAt H B n (pos es) e
 b':BoardAt H B' n (pos (Ls.take i)) e'
 flag:e' = true↔Bare n (pos (Ls.take i))
 rcv:H rc = some (.list (Ls.map recAV))
 ht:DictAt H dt (Ls.take i)
set_option maxHeartbeats 4000000 in
theorem law3 {rest:SL} {H:AHeap} {n:Nat} {a:Addr} {o:AO} {sp:Addr} {ns:List Int} {pa d:Addr} {rw:AV} {es:Stones} {B:Bd} {e:Bool} {h ce ot f s wy:Int} {rc dt:Addr} {B':Bd} {Ls:Stones} {K:SQ} {X:AHeap→Prop} (fr:Fr H n a o sp ns pa) (hd:DictAt H d es) (st:St n es) (b:BoardAt H B n (pos es) e) (ow:Own B sp pa)
 (b':BoardAt H B' n (fun _=>none) true) (ow':Own B' sp pa) (ap:apart B B') (hrc:H rc = some (.list (Ls.map recAV))) (nrc:rc∉B'.foot) (hdt:DictAt H dt []) (ndt:d≠dt) (rcd:Rec es Ls) (ho:∀ es g,o≠.dict es g)
 (q:∀ H' e' w13 w16 w17 w18 w19,Fr H' n a o sp ns pa→DictAt H' d es→BoardAt H' B n (pos es) e→BoardAt H' B' n (pos es) e'→(e' = true↔Bare n (pos es))→DictAt H' dt Ls→
   swps (callWp fns 10) rest (l29 (oR a) (oI h) (oI ce) (oI ot) (oI f) (oI s) (oR sp) (oI n) (oR pa) (some (rw)) (oR d) (oR B.a) (oR rc) w13 (oR B'.a) (oR dt) w16 w17 w18 w19 none none none none none none none none none) H' K X):
 swps (callWp fns 10) (P3 rest) (l29 (oR a) (oI h) (oI ce) (oI ot) (oI f) (oI s) (oR sp) (oI n) (oR pa) (some (rw)) (oR d) (oR B.a) (oR rc) (oI wy) (oR B'.a) (oR dt) none none none none none none none none none none none none none) H K X:=by
 have n4:=fr.four
 have pl:=pts_len n4
 have lLs:Ls.length≤16:=ins_len n4 rcd.nodup fun p c hc=>st.ins p c ((rcd.here p c).mpr (look_in hc))
 have sub:∀ i p c,(Ls.take i).lookup p = some c→es.lookup p = some c:=fun i p c hc=>(rcd.here p c).mpr (List.mem_of_mem_take (look_in hc))
 have leg:∀ i,Legal n (pos (Ls.take i)):=fun i=>st.legal.fewer fun p=>by
  show (Ls.take i).lookup p = none∨(Ls.take i).lookup p = es.lookup p
  cases hc:(Ls.take i).lookup p with
  | none=>exact .inl rfl
  | some c=>exact .inr (sub i p c hc).symm
 refine ss_step (s_loop (i_e (x_var rfl (.list hrc ?_))))
 refine for_rule (fun i ρ H'=>(X5 fun wy w16 w17 w18 w19=>A2 (ρ = (l29 (oR a) (oI h) (oI ce) (oI ot) (oI f) (oI s) (oR sp) (oI n) (oR pa) (some (rw)) (oR d) (oR B.a) (oR rc) (oI wy) (oR B'.a) (oR dt) w16 w17 w18 w19 none none none none none none none none none)) (∃ e',Mid H' n a o sp ns pa d es B B' e dt rc Ls i e'))) (walk_list rc (Ls.map recAV)) ⟨_,_,_,_,_,rfl,true,⟨fr,hd,b,b',⟨fun _ _ _=>rfl,fun _=>rfl⟩,hrc,hdt⟩⟩ (fun i ρ H' h=>by obtain ⟨_,_,_,_,_,_,_,m⟩:=h;exact m.rcv) (fun i x ρ H₁ hx hv R r1 r2 r3=>?_) fun ρ H' hv=>?_
 · obtain ⟨wy,w16,w17,w18,w19,rfl,e₁,m⟩:=hv
   rw [List.getElem?_map] at hx
   obtain ⟨⟨p,c⟩,hpi,rfl⟩:=Option.map_eq_some_iff.mp hx
   have hlt:=(List.getElem?_eq_some_iff.mp hpi).1
   have hc:es.lookup p = some c:=(rcd.here p c).mpr (List.mem_of_getElem? hpi)
   have hin:=st.ins p c hc
   have htk:Ls.take (i + 1) = Ls.take i ++ [(p,c)]:=by refine wat List.take_add_one (wat hpi ?_);rfl
   have hno:(Ls.take i).lookup p = none:=by
    rw [look_none]
    intro hm
    have:=rcd.nodup.sublist ((List.take_sublist (i + 1) Ls).map (·.1))
    rw [htk,List.map_append,List.nodup_append] at this
    exact this.2.2 p hm p (by simp) rfl
   have hps:=pos_snoc (c:=c) hno
   rw [← htk] at hps
   have leg':Legal n (upd (pos (Ls.take i)) p (some c)):=by refine wat hps.symm ?_;exact leg (i + 1)
   have stone:¬ Bare n (pos (Ls.take (i + 1))):=fun hb=>by
    have:=hb p hin
    rw [hps,upd_self] at this
    exact no2 this
   clear hx hdt b' hrc b hd fr
   refine ⟨_,rfl,?_⟩
   have tail:∀ H₂ e₂,Fr H₂ n a o sp ns pa→DictAt H₂ d es→BoardAt H₂ B n (pos es) e→BoardAt H₂ B' n (pos (Ls.take (i + 1))) e₂→(e₂ = true↔Bare n (pos (Ls.take (i + 1))))→H₂ rc = some (.list (Ls.map recAV))→DictAt H₂ dt (Ls.take i)→
    swps (callWp fns 10) (.cons (.asg 13 (.bin .FloorDiv (.var 13) (.int 2))) (.cons (.sitem (.var 15) (.var 18) (.var 16)) (.cons (.ite (.or (.cons (.not (.e (.var 19))) (.cons (.cmp (.meth .occupied (.var 14) .nil) .NotEq (.call .rows (.cons (.var 15) (.cons (.var 8) .nil)))) (.cons (.e (.meth .is_empty (.var 14) .nil)) .nil)))) (.cons (.ret (.bool false)) .nil) .nil) .nil)))
     (l29 (oR a) (oI h) (oI ce) (oI ot) (oI f) (oI s) (oR sp) (oI n) (oR pa) (some (rw)) (oR d) (oR B.a) (oR rc) (oI wy) (oR B'.a) (oR dt) (some (c.av)) (some (.str (vtx p))) (oP p) (oB true) none none none none none none none none none) H₂ R nox:=by
    intro H₂ e₂ f₂ d₂ b₂ b₂' fl₂ r₂ t₂
    refine bc fun nG=>?_
    obtain ⟨gt,ht⟩:=t₂
    refine nG ?_
    refine ss_step (s_asg (x_bin (x_var rfl (x_int (.divI (by decide) (by decide) ?_)))))
    refine ss_step (s_sitem (x_var rfl (x_var rfl (x_var rfl (.dict ht (by simp [avs];exact linLe [_,_] 1 (.v 1) (.n 1000) [.le 1 (.v 0) (.n 16),.le 1 (.v 1) (.v 0)] rfl lLs (Nat.min_le_right i (List.length Ls))) fun gt'=>?_)))))
    have e0:putD (avs (Ls.take i)) p c.av = avs (Ls.take (i + 1)):=by refine wat htk ?_;exact putD_new hno
    refine wat (show ((p.1,p.2):Pt) = p from rfl) (wat e0 ?_)
    have f₃:=f₂.setDict ht ho (.dict (avs (Ls.take (i + 1))) gt')
    have b₃:=b₂.setDict ht (.dict (avs (Ls.take (i + 1))) gt')
    have b₃':=b₂'.setDict ht (.dict (avs (Ls.take (i + 1))) gt')
    have t₃:DictAt (H₂.set dt (.dict (avs (Ls.take (i + 1))) gt')) dt (Ls.take (i + 1)):=⟨gt',AHeap.set_self ..⟩
    have d₃:DictAt (H₂.set dt (.dict (avs (Ls.take (i + 1))) gt')) d es:=⟨d₂.choose,(AHeap.set_ne _ _ ndt).trans d₂.choose_spec⟩
    have r₃:(H₂.set dt (.dict (avs (Ls.take (i + 1))) gt')) rc = some (.list (Ls.map recAV)):=(AHeap.set_ne _ _ (fun e=>by rw [e,ht] at r₂;exact clash r₂ rfl)).trans r₂
    generalize H₂.set dt (.dict (avs (Ls.take (i + 1))) gt') = H₃ at f₃ b₃ b₃' t₃ d₃ r₃
    refine ss_step (s_ite (t_or (t_any_cons (t_not (t_e (x_var rfl ⟨_,.bool _,if_ff ?_⟩))))))
    refine t_any_cons (c_shows b₃' t₃ f₃.pts rfl rfl rfl fun H₄ g₄=>if_ff ?_)
    refine t_any_cons (t_e (x_meth (x_var rfl ⟨(b₃'.grow g₄).isBoard,xs_nil (c_isEmpty (b₃'.grow g₄) ⟨_,.bool _,?_⟩)⟩)))
    refine wat (bool_true fl₂ stone) ?_
    refine if_ff (t_any_nil (if_ff (ss_nil (ss_nil ?_))))
    exact (r1 _ _ ⟨_,_,_,_,_,rfl,e₂,⟨f₃.grow g₄,d₃.grow g₄,b₃.grow g₄,b₃'.grow g₄,fl₂,g₄ _ _ r₃,t₃.grow g₄⟩⟩).1
   have keep:∀ {H₂},Keep B'.foot H₁ H₂→Fr H₂ n a o sp ns pa∧DictAt H₂ d es∧BoardAt H₂ B n (pos es) e∧H₂ rc = some (.list (Ls.map recAV))∧DictAt H₂ dt (Ls.take i):=fun k=>
    ⟨m.fr.keep m.b' ow' k,m.hd.keep m.b' k,m.b.other (fun x hx hf=>ap x hx (foot_all hf)) k,k _ _ nrc m.rcv,m.ht.keep m.b' k⟩
   refine ss_step (s_asg (x_call (xs_cons (x_var rfl (xs_cons (x_var rfl (xs_nil ?_)))))))
   refine c_vertex n4 hin ?_
   refine ss_step (s_ite (t_cmp (x_bin (x_var rfl (x_int (.modI (by decide) (by decide) (x_int ⟨_,.eq (.plain rfl rfl),if_bool (fun _=>?_) fun _=>?_⟩)))))))
   · refine ss_step (s_asg (x_cmp (x_call (xs_cons (x_var rfl (xs_cons (x_var rfl (xs_cons (x_var rfl (xs_nil ?_))))))))))
     refine c_move m.b' (leg i) hin (fun h=>absurd hno h) fun _ H₂ τ e₂ v tl b₂ k₂=>?_
     obtain ⟨rfl,hτ⟩:=tl.quiet leg'
     refine x_pair (x_str (x_none ⟨_,.eq (.plain told_plain.1 told_plain.2),?_⟩))
     refine ss_nil ?_
     refine bc fun nG=>?_
     obtain ⟨f₂,d₂,bb,r₂,t₂⟩:=keep k₂
     refine nG ?_
     refine tail H₂ e₂ f₂ d₂ bb (b₂.same fun x hx=>?_) (tl.flag.trans ?_) r₂ t₂
     · refine wat hps ?_;exact hτ x hx
     · refine wat hps ?_
       exact ⟨fun hb x hx=>(hτ x hx).symm.trans (hb x hx),fun hb x hx=>(hτ x hx).trans (hb x hx)⟩
   · have up:∀ d (x:Pt),upds (upds (upds (pos (Ls.take i)) (if d = Col.b then [p] else []) (some .b)) (if d = Col.b then [] else [p]) (some .w)) [] none x = upd (pos (Ls.take i)) p (some d) x:=fun d x=>by
      cases d<;>simp [upds,upd]
     refine ss_step (s_ite (t_cmp (x_var rfl (x_str ⟨_,.eq (.plain c.plain b_plain),?_⟩))))
     rw [col_b]
     refine if_dec (fun hcb=>?_) fun hcb=>?_
     · subst hcb
       refine ss_step (s_asg (x_meth (x_var rfl ⟨m.b'.isBoard,xs_cons (x_list (xs_cons (x_var rfl (xs_nil (new_intro fun ba H₂ hba h₂ g₂=>xs_cons (x_list (xs_nil (new_intro fun wa H₃ hwa h₃ g₃=>xs_cons (x_list (xs_nil (new_intro fun ea H₄ hea h₄ g₄=>xs_nil ?_)))))))))))⟩)))
       have nb:=m.b'.fresh hba
       have nw:=m.b'.fresh (g₂.fresh hwa)
       have ne:=m.b'.fresh (g₂.fresh (g₃.fresh hea))
       have gr:=(g₂.trans g₃).trans g₄
       refine c_setup (bs:=[p]) (ws:=[]) (es:=[]) (m.b'.grow gr) (g₄ _ _ (g₃ _ _ h₂)) (g₄ _ _ h₃) h₄ (fun x hx=>by refine wat (List.mem_singleton.mp hx) ?_;exact hin) (fun _ h=>(nomatch h)) (fun _ h=>(nomatch h)) (show 1≤16 by decide) (by decide) (by decide) nb nw ne (leg (i + 1)) (fun x _=>by refine wat hps ?_;exact up .b x) fun H₅ e₅ b₅ fl₅ k₅=>?_
       refine ss_nil (ss_nil ?_)
       refine bc fun nG=>?_
       obtain ⟨f₂,d₂,bb,r₂,t₂⟩:=keep (gr.keep.trans k₅)
       refine nG ?_
       exact tail H₅ e₅ f₂ d₂ bb b₅ fl₅ r₂ t₂
     · have hcw:c = .w:=by cases c<;>first | rfl | exact absurd rfl hcb
       subst hcw
       refine ss_step (s_asg (x_meth (x_var rfl ⟨m.b'.isBoard,xs_cons (x_list (xs_nil (new_intro fun ba H₂ hba h₂ g₂=>xs_cons (x_list (xs_cons (x_var rfl (xs_nil (new_intro fun wa H₃ hwa h₃ g₃=>xs_cons (x_list (xs_nil (new_intro fun ea H₄ hea h₄ g₄=>xs_nil ?_)))))))))))⟩)))
       have nb:=m.b'.fresh hba
       have nw:=m.b'.fresh (g₂.fresh hwa)
       have ne:=m.b'.fresh (g₂.fresh (g₃.fresh hea))
       have gr:=(g₂.trans g₃).trans g₄
       refine c_setup (bs:=[]) (ws:=[p]) (es:=[]) (m.b'.grow gr) (g₄ _ _ (g₃ _ _ h₂)) (g₄ _ _ h₃) h₄ (fun _ h=>(nomatch h)) (fun x hx=>by refine wat (List.mem_singleton.mp hx) ?_;exact hin) (fun _ h=>(nomatch h)) (by decide) (show 1≤16 by decide) (by decide) nb nw ne (leg (i + 1)) (fun x _=>by refine wat hps ?_;exact up .w x) fun H₅ e₅ b₅ fl₅ k₅=>?_
       refine ss_nil (ss_nil ?_)
       refine bc fun nG=>?_
       obtain ⟨f₂,d₂,bb,r₂,t₂⟩:=keep (gr.keep.trans k₅)
       refine nG ?_
       exact tail H₅ e₅ f₂ d₂ bb b₅ fl₅ r₂ t₂
 · refine bc fun nG=>?_
   obtain ⟨wy,w16,w17,w18,w19,rfl,e₁,m⟩:=hv
   refine nG ?_
   obtain ⟨f₁,d₁,b₁,b₁',fl₁,r₁,t₁⟩:=m
   rw [List.length_map,List.take_length] at b₁' fl₁ t₁
   have hp:pos Ls = pos es:=by
    funext x
    show Ls.lookup x = es.lookup x
    cases hc:es.lookup x with
    | some c=>exact in_look rcd.nodup ((rcd.here x c).mp hc)
    | none=>
      cases hl:Ls.lookup x with
      | none=>rfl
      | some c=>rw [(rcd.here x c).mpr (look_in hl)] at hc;exact no2 hc
   rw [hp] at b₁' fl₁
   exact q H' e₁ _ _ _ _ _ f₁ d₁ b₁ b₁' fl₁ t₁
theorem pick {k n i:Nat} {m:Int} {pa:Addr} {ρ:Loc} {H:AHeap} {S:SQ} {X:AHeap→Prop} (hp:H pa = some (.list ((pts n).map AV.pt))) (n2:2≤n) (n4:n≤4) (h8:ρ[8]? = some (some (.ref pa))) (hi:ρ[i]? = some (some (.int m)))
 (q:∀ p c,inside n p = true→S .next (setAll [18,16] [.pt p,Col.av c] ρ) H):
 swp (callWp fns k) (.asgN [18,16] (.pair (.sub (.var 8) (.bin .Mod (.var i) (.bi .len (.cons (.var 8) .nil)))) (.sub (.str (Str.ofString "bw")) (.bin .Mod (.bin .FloorDiv (.var i) (.bi .len (.cons (.var 8) .nil))) (.int 2))))) ρ H S X:=by
 have pl:=pts_len n4
 have pp:0 < (pts n).length:=by rw [pts_length];exact Nat.mul_pos (by exact linLt [_] 1 (.n 0) (.v 0) [.le 1 (.n 2) (.v 0)] rfl n2) (by exact linLt [_] 1 (.n 0) (.v 0) [.le 1 (.n 2) (.v 0)] rfl n2)
 have hl:((pts n).map AV.pt).length = (pts n).length:=List.length_map ..
 have h1:(0:Int) < ((pts n).map AV.pt).length:=by omega
 have h2:(((pts n).map AV.pt).length:Int) < 2 ^ 32:=by omega
 have m0:=Int.emod_nonneg m (b:=((pts n).map AV.pt).length) (by omega)
 have m1:=Int.emod_lt_of_pos m h1
 have hx:(pts n)[(m % (((pts n).map AV.pt).length:Int)).toNat]? = some ((pts n)[(m % (((pts n).map AV.pt).length:Int)).toNat]'(by omega)):=List.getElem?_eq_getElem _
 generalize (pts n)[(m % (((pts n).map AV.pt).length:Int)).toNat]'(by omega) = p at hx
 have hin:inside n p = true:=mem_pts.mp (List.mem_of_getElem? hx)
 refine s_asgN (x_pair (x_sub (x_var h8 (x_bin (x_var hi (x_bi (xs_cons (x_var h8 (xs_nil (.lenL hp (by exact linLe [_,_] 1 (.v 1) (.n 1000) [.le 1 (.v 0) (.n 16),.eq 1 (.v 1) (.v 0)] rfl pl hl) (.modI h1 h2 ⟨.pt p,.list hp m0 (by omega) (by refine wat (List.getElem?_map) (wat hx ?_);rfl),?_⟩)))))))))))
 have hk:∀ z:Int,z % 2 = 0∨z % 2 = 1:=fun z=>by lia
 refine bc fun nG=>?_
 obtain ⟨c,hc⟩:=bw_at _ (hk (m / (((pts n).map AV.pt).length:Int)))
 refine nG ?_
 refine x_sub (x_str (x_bin (x_bin (x_var hi (x_bi (xs_cons (x_var h8 (xs_nil (.lenL hp (by exact linLe [_,_] 1 (.v 1) (.n 1000) [.le 1 (.v 0) (.n 16),.eq 1 (.v 1) (.v 0)] rfl pl hl) (.divI h1 h2 (x_int (.modI (by decide) (by decide) ⟨_,.str (by lia) (by lia) ?_,?_⟩))))))))))))
 · rcases hk (m / (((pts n).map AV.pt).length:Int)) with e | e<;>rw [e]<;>decide +kernel
 · refine wat hc ?_
   exact ⟨_,.pair _ _,q p c hin⟩
noncomputable def Came (es:Stones) (p:Pt) (v:AV):Prop:=(es.lookup p = none∧∃ u,v = told u)∨(es.lookup p≠none∧v = refused)
theorem words_plain:(AV.str (Str.ofString "told")).plain = true∧(AV.str (Str.ofString "refused")).plain = true∧decide (AV.str (Str.ofString "told") = AV.str (Str.ofString "refused")) = false∧decide (AV.str (Str.ofString "refused") = AV.str (Str.ofString "refused")) = true:=by decide +kernel
theorem c_came {C:CallSem} {es:Stones} {p:Pt} {v:AV} {d:Addr} {ρ:Loc} {H:AHeap} {X:AHeap→Prop} {Qt:Bool→AHeap→Prop} (hv:Came es p v) (hd:DictAt H d es) (h20:ρ[20]? = some (some v)) (h18:ρ[18]? = some (some (.pt p))) (h10:ρ[10]? = some (some (.ref d)))
 (q:Qt false H):awpT C (.cmp (.cmp (.sub (.var 20) (.int 0)) .Eq (.str (Str.ofString "refused"))) .NotEq (.cmp (.var 18) .In (.var 10))) ρ H Qt X:=by
 obtain ⟨g,hd⟩:=hd
 refine bc fun nG=>?_
 obtain ⟨w1,w2,w3,w4⟩:=words_plain
 refine nG ?_
 rcases hv with ⟨hn,u,rfl⟩ | ⟨hn,rfl⟩
 · refine t_cmp (x_cmp (x_sub (x_var h20 (x_int ⟨_,.fst _ _,x_str ⟨_,.eq (.plain w1 w2),?_⟩⟩))))
   refine x_cmp (x_var h18 (x_var h10 ⟨_,.in (.dict (r:=p.1) (c:=p.2) hd),⟨_,.ne (.bool _ _),?_⟩⟩))
   rw [w3,avs_lookup,hn]
   exact q
 · refine t_cmp (x_cmp (x_sub (x_var h20 (x_int ⟨_,.fst _ _,x_str ⟨_,.eq (.plain w2 w2),?_⟩⟩))))
   refine x_cmp (x_var h18 (x_var h10 ⟨_,.in (.dict (r:=p.1) (c:=p.2) hd),⟨_,.ne (.bool _ _),?_⟩⟩))
   rw [w4,avs_lookup]
   cases hc:es.lookup (p.1,p.2) with
   | none=>exact absurd hc hn
   | some c=>exact q
theorem c_upd {k n:Nat} {es:Stones} {p:Pt} {c:Col} {d:Addr} {ρ:Loc} {H:AHeap} {S:SQ} {X:AHeap→Prop} (st:St n es) (n4:n≤4) (hin:inside n p = true) (hd:DictAt H d es) (h10:ρ[10]? = some (some (.ref d))) (h7:ρ[7]? = some (some (.int n))) (h18:ρ[18]? = some (some (.pt p))) (h16:ρ[16]? = some (some c.av))
 (q1:es.lookup p≠none→S .next ρ H)
 (q2:es.lookup p = none→∀ d' H' es',DictAt H' d' es'→St n es'→(∀ τ,After n (upd (pos es) p (some c)) c τ→∀ x,inside n x = true→τ x = pos es' x)→Grow H H'→S .next (ρ.set 10 (some (.ref d'))) H'):
 swp (callWp fns (k + 4)) (.ite (.cmp (.var 18) .NotIn (.var 10)) (.cons (.asg 10 (.call .moved (.cons (.var 10) (.cons (.var 7) (.cons (.var 18) (.cons (.var 16) .nil)))))) .nil) .nil) ρ H S X:=by
 refine bc fun nG=>?_
 obtain ⟨g,hd'⟩:=hd
 refine nG ?_
 refine s_ite (t_cmp (x_var h18 (x_var h10 ⟨_,.notIn (.dict (r:=p.1) (c:=p.2) hd'),?_⟩)))
 rw [avs_lookup,Option.isSome_map]
 cases hc:es.lookup (p.1,p.2) with
 | some c'=>
   refine if_ff (ss_nil (q1 fun h=>?_))
   have hc:es.lookup p = some c':=hc
   rw [h] at hc;cases hc
 | none=>
   have hc:es.lookup p = none:=hc
   have hl:es.length≤15:=by
    have:=nodup_len (l:=p :: es.map (·.1)) (m:=pts n) (by rw [List.nodup_cons];exact ⟨look_none.mp hc,st.nodup⟩) fun x hx=>by
     rcases List.mem_cons.mp hx with rfl | hx
     · exact mem_pts.mpr hin
     · cases hq:es.lookup x with
       | none=>exact absurd hx (look_none.mp hq)
       | some c=>exact mem_pts.mpr (st.ins x c hq)
    have h2:=pts_len n4
    simp only [List.length_cons,List.length_map] at this
    exact linLe [_,_] 1 (.v 1) (.n 15) [.le 1 (.v 0) (.n 16),.le 1 (.a (.v 1) (.n 1)) (.v 0)] rfl h2 this
   refine if_tt (ss_step (s_asg (x_call (xs_cons (x_var h10 (xs_cons (x_var h7 (xs_cons (x_var h18 (xs_cons (x_var h16 (xs_nil ?_))))))))))))
   refine c_moved ⟨g,hd'⟩ st.nodup hl hc fun d' H' es' L hd1 hd2 nd _ v cl r gr=>ss_nil ?_
   have hps:=pos_snoc (c:=c) hc
   have ins1:Ins n (es ++ [(p,c)]):=fun x c' h=>by
    have h:pos (es ++ [(p,c)]) x = some c':=h
    rw [hps] at h
    by_cases hx:x = p
    · refine wat hx ?_;exact hin
    · rw [upd_ne _ _ hx] at h
      exact st.ins x c' h
   have vm:=fun {x c'}=>v.mem (p:=x) (c:=c') ins1 cl
   have af:=r.after (fun x c' h=>vm h) fun x hx=>by
    obtain ⟨c',h⟩:=v.key x hx
    show (es ++ [(p,c)]).lookup x≠none
    refine wat h ?_;simp
   have af:After n (upd (pos es) p (some c)) c (pos es'):=by refine wat hps.symm ?_;exact af
   have sub:∀ x c',es'.lookup x = some c'→(es ++ [(p,c)]).lookup x = some c':=fun x c' h=>by
    cases r with
    | foes _ h2=>
      have h2:es'.lookup x = _:=h2 x
      rw [h2] at h
      split at h
      · cases h
      · exact h
    | own _ h2=>
      have h2:es'.lookup x = _:=h2 x
      rw [h2] at h
      split at h
      · exact h
      · cases h
   exact q2 hc d' H' es' hd2 ⟨nd,fun x c' h=>ins1 x c' (sub x c' h),af.legal st.legal hin hc⟩ (fun τ hτ=>hτ.unique af) gr
theorem Rec.look {es Ls:Stones} (r:Rec es Ls) (x:Pt):Ls.lookup x = es.lookup x:=by
 cases hc:es.lookup x with
 | some c=>exact in_look r.nodup ((r.here x c).mp hc)
 | none=>
   cases hl:Ls.lookup x with
   | none=>rfl
   | some c=>rw [(r.here x c).mpr (look_in hl)] at hc;cases hc
theorem Bare.congr {n:Nat} {σ τ:Pos} (h:∀ x,inside n x = true→σ x = τ x):Bare n σ↔Bare n τ:=⟨fun b x hx=>(h x hx).symm.trans (b x hx),fun b x hx=>(h x hx).trans (b x hx)⟩
theorem c_same {k n:Nat} {B B':Bd} {σ:Pos} {e e':Bool} {ρ:Loc} {i j:Nat} {H:AHeap} {X:AHeap→Prop} {Qt:Bool→AHeap→Prop} (b:BoardAt H B n σ e) (b':BoardAt H B' n σ e') (hi:ρ[i]? = some (some (.ref B.a))) (hj:ρ[j]? = some (some (.ref B'.a)))
 (q:∀ H',Grow H H'→Qt false H'):awpT (callWp fns (k + 1)) (.cmp (.meth .occupied (.var i) .nil) .NotEq (.meth .occupied (.var j) .nil)) ρ H Qt X:=by
 refine t_cmp (x_meth (x_var hi ⟨b.isBoard,xs_nil (c_occupied b fun oa H₁ hoa h₁ g₁=>x_meth (x_var hj ⟨(b'.grow g₁).isBoard,xs_nil (c_occupied (b'.grow g₁) fun ob H₂ hob h₂ g₂=>⟨_,.ne (.list (g₂ _ _ h₁) h₂ (occ_plain n σ) (occ_plain n σ)),?_⟩)⟩))⟩))
 refine wat (show decide (occ n σ = occ n σ) = true from by simp) ?_
 exact q H₂ (g₁.trans g₂)
set_option maxHeartbeats 4000000 in
theorem law4 {rest:SL} {H:AHeap} {n:Nat} {a:Addr} {o:AO} {sp:Addr} {ns:List Int} {pa d:Addr} {rw:AV} {es:Stones} {B:Bd} {e e':Bool} {h ce ot f s:Int} {dt:Addr} {B':Bd} {Ls:Stones} {w12 w13 w16 w17 w18 w19:Option AV} {K:SQ} {X:AHeap→Prop} (fr:Fr H n a o sp ns pa) (hd:DictAt H d es) (st:St n es) (b:BoardAt H B n (pos es) e)
 (b':BoardAt H B' n (pos es) e') (fl:e' = true↔Bare n (pos es)) (ow':Own B' sp pa) (hdt:DictAt H dt Ls) (rcd:Rec es Ls)
 (q:∀ H' d' es' e' w11 w12 w13 w15 w16 w17 w18 w19 w20,Fr H' n a o sp ns pa→DictAt H' d' es'→St n es'→BoardAt H' B' n (pos es') e'→(e' = true↔Bare n (pos es'))→
   swps (callWp fns 10) rest (l29 (oR a) (oI h) (oI ce) (oI ot) (oI f) (oI s) (oR sp) (oI n) (oR pa) (some (rw)) (oR d') w11 w12 w13 (oR B'.a) w15 w16 w17 w18 w19 w20 none none none none none none none none) H' K X):
 swps (callWp fns 10) (P4 rest) (l29 (oR a) (oI h) (oI ce) (oI ot) (oI f) (oI s) (oR sp) (oI n) (oR pa) (some (rw)) (oR d) (oR B.a) w12 w13 (oR B'.a) (oR dt) w16 w17 w18 w19 none none none none none none none none none) H K X:=by
 have n4:=fr.four
 unfold P4
 refine ss_step (s_ite (t_or (t_any_cons (c_same b b' rfl rfl fun H₁ g₁=>if_ff ?_))))
 obtain ⟨gt,ht⟩:=hdt.grow g₁
 obtain ⟨gd,hd'⟩:=hd.grow g₁
 refine t_any_cons (t_cmp (x_var rfl (x_var rfl ⟨_,.ne (.dict ht hd' (avs_plain _) (avs_plain _)),?_⟩)))
 refine wat ((dictEq_iff rcd.nodup st.nodup).mpr rcd.look) ?_
 refine if_ff (t_any_nil (if_ff (ss_nil ?_)))
 have f₁:=fr.grow g₁
 have d₁:=hd.grow g₁
 have b₁:=b'.grow g₁
 clear ht hd' fr hd b b' hdt g₁
 refine ss_step (pick f₁.pts f₁.two n4 rfl rfl fun p c hin=>?_)
 have tail:∀ H₂ e₂ τ v,Fr H₂ n a o sp ns pa→DictAt H₂ d es→BoardAt H₂ B' n τ e₂→(e₂ = true↔Bare n τ)→Came es p v→(es.lookup p≠none→τ = pos es)→(es.lookup p = none→After n (upd (pos es) p (some c)) c τ)→swps (callWp fns 10)
  (.cons (.ite (.cmp (.cmp (.sub (.var 20) (.int 0)) .Eq (.str (Str.ofString "refused"))) .NotEq (.cmp (.var 18) .In (.var 10))) (.cons (.ret (.bool false)) .nil) .nil) (.cons (.ite (.cmp (.var 18) .NotIn (.var 10)) (.cons (.asg 10 (.call .moved (.cons (.var 10) (.cons (.var 7) (.cons (.var 18) (.cons (.var 16) .nil)))))) .nil) .nil) (.cons (.ite (.cmp (.meth .occupied (.var 14) .nil) .NotEq (.call .rows (.cons (.var 10) (.cons (.var 8) .nil)))) (.cons (.ret (.bool false)) .nil) .nil) rest)))
  (l29 (oR a) (oI h) (oI ce) (oI ot) (oI f) (oI s) (oR sp) (oI n) (oR pa) (some (rw)) (oR d) (oR B.a) w12 w13 (oR B'.a) (oR dt) (some (c.av)) w17 (oP p) w19 (some (v)) none none none none none none none none) H₂ K X:=by
  intro H₂ e₂ τ v f₂ d₂ b₂ fl₂ cm k1 k2
  refine ss_step (s_ite (c_came cm d₂ rfl rfl rfl (if_ff (ss_nil ?_))))
  refine ss_step (c_upd st n4 hin d₂ rfl rfl rfl rfl (fun hs=>?_) fun hs d' H₃ es' d₃ st' hτ g₃=>?_)
  · have e:=k1 hs
    subst e
    refine ss_step (s_ite (c_shows b₂ d₂ f₂.pts rfl rfl rfl fun H₃ g₃=>if_ff (ss_nil ?_)))
    exact q H₃ d es e₂ _ _ _ _ _ _ _ _ _ (f₂.grow g₃) (d₂.grow g₃) st (b₂.grow g₃) fl₂
  · have hx:=hτ τ (k2 hs)
    have b₃:=(b₂.same hx).grow g₃
    have f₃:=f₂.grow g₃
    refine ss_step (s_ite (c_shows b₃ d₃ f₃.pts rfl rfl rfl fun H₄ g₄=>if_ff (ss_nil ?_)))
    exact q H₄ d' es' e₂ _ _ _ _ _ _ _ _ _ (f₃.grow g₄) (d₃.grow g₄) st' (b₃.grow g₄) (fl₂.trans (Bare.congr hx))
 refine ss_step (s_asg (x_call (xs_cons (x_var rfl (xs_cons (x_var rfl (xs_cons (x_var rfl (xs_nil ?_)))))))))
 refine c_move b₁ st.legal hin (fun hs=>?_) fun hs H₂ τ e₂ v t b₂ k₂=>?_
 · exact tail H₁ e' (pos es) refused f₁ d₁ b₁ fl (.inr ⟨hs,rfl⟩) (fun _=>rfl) fun h=>absurd h hs
 · exact tail H₂ e₂ τ (told v) (f₁.keep b₁ ow' k₂) (d₁.keep b₁ k₂) b₂ t.flag (.inl ⟨hs,_,rfl⟩) (fun h=>absurd hs h) fun _=>t.after
noncomputable def bare (n:Nat) (es:Stones):List Pt:=(pts n).filter fun p=>!(es.lookup p).isSome
theorem setup_all {n:Nat} {es:Stones} {σ:Pos} (p:Pt) (hp:inside n p = true):upds (upds (upds σ (colPts n es .b) (some .b)) (colPts n es .w) (some .w)) (bare n es) none p = pos es p:=by
 have hE:p∈bare n es↔es.lookup p = none:=by
  unfold bare
  rw [List.mem_filter]
  cases es.lookup p<;>simp [mem_pts,hp]
 unfold upds pos
 simp only [mem_colPts hp]
 cases hc:es.lookup p with
 | none=>exact wat (if_pos (hE.mpr hc)) rfl
 | some c=>
   refine wat (if_neg (fun h=>by rw [hE.mp h] at hc;cases hc)) ?_
   cases c<;>simp
theorem x_texts {k n:Nat} {es:Stones} {c:Col} {z:Str} {d pa:Addr} {ρ:Loc} (hz:z = c.s) (hd:DictAt H d es) (hp:H pa = some (.list ((pts n).map AV.pt))) (n4:n≤4) (h10:ρ[10]? = some (some (.ref d))) (h8:ρ[8]? = some (some (.ref pa))) (h7:ρ[7]? = some (some (.int n)))
 (q:∀ a H',H a = none→H' a = some (.list ((colPts n es c).map AV.pt))→Grow H H'→Q (.ref a) H'):
 awp (callWp fns (k + 2)) (.call .read (.cons (.call .format_vertex_list (.cons (.call .ofColour (.cons (.var 10) (.cons (.var 8) (.cons (.str z) .nil)))) .nil)) (.cons (.var 7) .nil))) ρ H Q X:=by
 have pl:=pts_len n4
 subst hz
 refine x_call (xs_cons (x_call (xs_cons (x_call (xs_cons (x_var h10 (xs_cons (x_var h8 (xs_cons (x_str (xs_nil (c_ofColour (c:=c) hd hp (by exact Nat.lt_of_le_of_lt ‹_› (by decide)) fun a1 H₁ ha1 h₁ g₁=>?_))))))))))))
 have h₁:H₁ a1 = some (.list ((colPts n es c).map AV.pt)):=h₁
 have cl:=colPts_len (es:=es) (c:=c) n4
 refine xs_nil (c_format_vertex_list h₁ (fun p hp=>inside4 n4 (colPts_in p hp)) (by exact Nat.lt_of_le_of_lt ‹_› (by decide)) fun H₂ g₂=>xs_cons (x_var h7 (xs_nil ?_)))
 exact c_read n4 colPts_in cl fun a H₃ ha h₃ g₃=>q a H₃ ((g₁.trans g₂).fresh ha) h₃ ((g₁.trans g₂).trans g₃)
set_option maxHeartbeats 4000000 in
theorem law5 {rest:SL} {H:AHeap} {n:Nat} {a:Addr} {o:AO} {sp:Addr} {ns:List Int} {pa d:Addr} {rw:AV} {es:Stones} {e':Bool} {h ce ot f s:Int} {B':Bd} {w11 w12 w13 w15 w16 w17 w18 w19 w20:Option AV} {K:SQ} {X:AHeap→Prop} (fr:Fr H n a o sp ns pa) (hd:DictAt H d es) (st:St n es)
 (b':BoardAt H B' n (pos es) e') (fl:e' = true↔Bare n (pos es))
 (q:∀ H' Bp ep w21 w22 w23 w25,Fr H' n a o sp ns pa→DictAt H' d es→BoardAt H' B' n (pos es) e'→BoardAt H' Bp n (pos es) ep→(ep = true↔Bare n (pos es))→Own Bp sp pa→apart B' Bp→
   swps (callWp fns 10) rest (l29 (oR a) (oI h) (oI ce) (oI ot) (oI f) (oI s) (oR sp) (oI n) (oR pa) (some (rw)) (oR d) w11 w12 w13 (oR B'.a) w15 w16 w17 w18 w19 w20 w21 w22 w23 (oR Bp.a) w25 none none none) H' K X):
 swps (callWp fns 10) (P5 rest) (l29 (oR a) (oI h) (oI ce) (oI ot) (oI f) (oI s) (oR sp) (oI n) (oR pa) (some (rw)) (oR d) w11 w12 w13 (oR B'.a) w15 w16 w17 w18 w19 w20 none none none none none none none none) H K X:=by
 have n4:=fr.four
 have pl:=pts_len n4
 refine ss_step (s_asg (x_texts (c:=.b) rfl hd fr.pts n4 rfl rfl rfl fun ba H₁ hba h₁ g₁=>?_))
 refine ss_step (s_asg (x_texts (c:=.w) rfl (hd.grow g₁) (g₁ _ _ fr.pts) n4 rfl rfl rfl fun wa H₂ hwa h₂ g₂=>?_))
 have g12:=g₁.trans g₂
 have f₂:=fr.grow g12
 have d₂:=hd.grow g12
 have b₂:=b'.grow g12
 obtain ⟨gd,hd₂⟩:=d₂
 refine ss_step (s_asg (x_comp (i_e (x_var rfl (.list f₂.pts ⟨rfl,comp_filter (enc:=AV.pt) (pts n) (fun p=>!(es.lookup p).isSome) AV.pt (walk_list pa _) (fun H' g=>g _ _ f₂.pts) (by exact Nat.lt_of_le_of_lt ‹_› (by decide)) (fun x hx acc H' R g hl' no yes=>?_) fun ea H₃ hea h₃ g₃=>?_⟩)))))
 · refine t_cmp (x_var rfl (x_var rfl ?_))
   refine ⟨_,.notIn (.dict (r:=x.1) (c:=x.2) (g _ _ hd₂)),?_⟩
   rw [avs_lookup,Option.isSome_map]
   refine if_bool (fun h=>?_) fun h=>no h _ (.refl _)
   refine x_var rfl ?_
   exact ⟨hl',yes h _ (.refl _)⟩
 have h₃:H₃ ea = some (.list ((bare n es).map AV.pt)):=h₃
 have f₃:=f₂.grow g₃
 have b₃:=b₂.grow g₃
 have d₃:DictAt H₃ d es:=⟨gd,g₃ _ _ hd₂⟩
 have w₁:=g₃ _ _ (g₂ _ _ h₁)
 have w₂:=g₃ _ _ h₂
 clear fr hd b' h₁ h₂ g₁ g₂ g12 f₂ hd₂ b₂ hba hwa hea g₃
 refine ss_step (s_asg (x_board rfl f₃.two n4 fun Bp H₄ b₄ g₄ hB=>?_))
 have nba:ba∉Bp.foot:=fun m=>nomatch (hB _ (foot_all m)).symm.trans w₁
 have nwa:wa∉Bp.foot:=fun m=>nomatch (hB _ (foot_all m)).symm.trans w₂
 have nea:ea∉Bp.foot:=fun m=>nomatch (hB _ (foot_all m)).symm.trans h₃
 have ow:=f₃.own hB
 have ap:apart B' Bp:=fun x hx hx'=>b₃.live hx (hB x hx')
 have f₄:=f₃.grow g₄
 have b₄':=b₃.grow g₄
 have d₄:=d₃.grow g₄
 have v₁:=g₄ _ _ w₁
 have v₂:=g₄ _ _ w₂
 have v₃:=g₄ _ _ h₃
 clear f₃ b₃ d₃ w₁ w₂ h₃ g₄ hB
 refine ss_step (s_asg (x_call (xs_cons (x_var rfl (xs_cons (x_var rfl (xs_nil (c_stones f₄.pts (pts_nodup n) (by exact Nat.lt_of_le_of_lt ‹_› (by decide)) fun la H₅ ls hla h₅ nd sub g₅=>?_))))))))
 have f₅:=f₄.grow g₅
 have b₅':=b₄'.grow g₅
 have b₅:=b₄.grow g₅
 have d₅:=d₄.grow g₅
 have v₁:=g₅ _ _ v₁
 have v₂:=g₅ _ _ v₂
 have v₃:=g₅ _ _ v₃
 clear f₄ b₄ b₄' d₄ g₅ hla
 refine ss_step (s_ex (x_meth (x_var rfl ⟨b₅.isBoard,xs_cons (x_call (xs_cons (x_var rfl (xs_cons (x_var rfl (xs_cons (x_str (xs_nil (c_ofColour (c:=.b) h₅ f₅.pts (by exact Nat.lt_of_le_of_lt ‹_› (by decide)) fun pb H₆ hpb h₆ g₆=>xs_cons (x_call (xs_cons (x_var rfl (xs_cons (x_var rfl (xs_cons (x_str (xs_nil (c_ofColour (c:=.w) (h₅.grow g₆) (g₆ _ _ f₅.pts) (by exact Nat.lt_of_le_of_lt ‹_› (by decide)) fun pw H₇ hpw h₇ g₇=>xs_cons (x_list (xs_nil (new_intro fun pe H₈ hpe h₈ g₈=>xs_nil ?_)))))))))))))))))))))⟩)))
 have npb:=b₅.fresh hpb
 have npw:=b₅.fresh (g₆.fresh hpw)
 have npe:=b₅.fresh (g₆.fresh (g₇.fresh hpe))
 have gr:=(g₆.trans g₇).trans g₈
 have f₈:=f₅.grow gr
 have b₈':=b₅'.grow gr
 have b₈:=b₅.grow gr
 have d₈:=d₅.grow gr
 have v₁:=gr _ _ v₁
 have v₂:=gr _ _ v₂
 have v₃:=gr _ _ v₃
 have u₁:=g₈ _ _ (g₇ _ _ h₆)
 have u₂:=g₈ _ _ h₇
 clear f₅ b₅ b₅' d₅ gr h₆ h₇ g₆ g₇ g₈ hpb hpw hpe h₅
 have apf:∀ x∈B'.all,x∉Bp.foot:=fun x hx hf=>ap x hx (foot_all hf)
 refine c_apply_setup (bs:=colPts n ls .b) (ws:=colPts n ls .w) (es:=[]) b₈ u₁ u₂ h₈ colPts_in colPts_in (fun _ h=>(nomatch h)) (colPts_len n4) (colPts_len n4) (by decide) (fun m=>npb (List.mem_cons_of_mem _ m)) (fun m=>npw (List.mem_cons_of_mem _ m)) (fun m=>npe (List.mem_cons_of_mem _ m)) fun H₉ τ e₉ r₉ b₉ _ _ _ k₉=>?_
 have f₉:=f₈.keep b₈ ow k₉
 have b₉':=b₈'.other apf k₉
 have d₉:=d₈.keep b₈ k₉
 have v₁:=k₉ _ _ nba v₁
 have v₂:=k₉ _ _ nwa v₂
 have v₃:=k₉ _ _ nea v₃
 clear f₈ b₈ b₈' d₈ k₉ u₁ u₂ h₈
 refine ss_step (s_ite (t_not (t_e (x_meth (x_var rfl ⟨b₉.isBoard,xs_cons (x_var rfl (xs_cons (x_var rfl (xs_cons (x_var rfl (xs_nil ?_))))))⟩)))))
 refine c_setup b₉ v₁ v₂ v₃ colPts_in colPts_in (fun p hp=>mem_pts.mp (List.mem_filter.mp hp).1) (colPts_len n4) (colPts_len n4) (Nat.le_trans (List.length_filter_le ..) pl) nba nwa nea st.legal (fun p hp=>setup_all p hp) fun H₁ ep b₁ fl₁ k₁=>⟨_,.bool _,if_ff (ss_nil ?_)⟩
 have f₁:=f₉.keep b₉ ow k₁
 have b₁':=b₉'.other apf k₁
 have d₁:=d₉.keep b₉ k₁
 clear v₁ v₂ v₃ f₉ b₉ b₉' d₉ k₁
 refine ss_step (s_ite (t_or (t_any_cons (c_same b₁ b₁' rfl rfl fun H₂ g₂=>if_ff ?_))))
 refine t_any_cons (t_cmp (x_meth (x_var rfl ⟨(b₁.grow g₂).isBoard,xs_nil (c_isEmpty (b₁.grow g₂) (x_meth (x_var rfl ⟨(b₁'.grow g₂).isBoard,xs_nil (c_isEmpty (b₁'.grow g₂) ⟨_,.ne (.bool _ _),?_⟩)⟩)))⟩)))
 rw [show ep = e' from by rw [Bool.eq_iff_iff,fl₁,fl],beq_self_eq_true]
 refine if_ff (t_any_nil (if_ff (ss_nil ?_)))
 exact q H₂ Bp e' _ _ _ _ (f₁.grow g₂) (d₁.grow g₂) (b₁'.grow g₂) ((b₁.same fun _ _=>rfl).grow g₂ |> fun b=>by rwa [show ep = e' from by rw [Bool.eq_iff_iff,fl₁,fl]] at b) fl ow ap
theorem Told.plain {n:Nat} {σ τ:Pos} {p:Pt} {c:Col} {e:Bool} {v:AV} (t:Told n σ p c τ e v):(told v).plain = true:=by
 rcases t.val with ⟨x,_,rfl⟩ | ⟨_,rfl⟩
 · have h:(AV.str (Str.ofString "told")).plainN 2 = true:=words_plain.1
   show ((AV.str (Str.ofString "told")).plainN 2 && (AV.pt x).plainN 2) = true
   refine wat h ?_;rfl
 · exact told_plain.1
theorem refused_plain:refused.plain = true:=by decide +kernel
theorem c_row {k n:Nat} {B:Bd} {σ:Pos} {e:Bool} {ra:Addr} {ρ:Loc} {i j:Nat} {H:AHeap} {X:AHeap→Prop} {Qt:Bool→AHeap→Prop} (b:BoardAt H B n σ e) (hr:H ra = some (.list (occ n σ))) (hi:ρ[i]? = some (some (.ref B.a))) (hj:ρ[j]? = some (some (.ref ra)))
 (q:∀ H',Grow H H'→Qt false H'):awpT (callWp fns (k + 1)) (.cmp (.meth .occupied (.var i) .nil) .NotEq (.var j)) ρ H Qt X:=by
 refine t_cmp (x_meth (x_var hi ⟨b.isBoard,xs_nil (c_occupied b fun oa H₁ hoa h₁ g₁=>x_var hj ⟨_,.ne (.list h₁ (g₁ _ _ hr) (occ_plain n σ) (occ_plain n σ)),?_⟩)⟩))
 refine wat (show decide (occ n σ = occ n σ) = true from by simp) ?_
 exact q H₁ g₁
theorem apart.symm {B B':Bd} (h:apart B B'):apart B' B:=fun x hx hx'=>h x hx' hx
theorem apart.foot {B B':Bd} (h:apart B B'):∀ x∈B.all,x∉B'.foot:=fun x hx hf=>h x hx (foot_all hf)
set_option maxHeartbeats 4000000 in
theorem law6 {rest:SL} {H:AHeap} {n:Nat} {a:Addr} {o:AO} {sp:Addr} {ns:List Int} {pa d:Addr} {rw:AV} {es:Stones} {e' ep:Bool} {h ce ot f s:Int} {B' Bp:Bd} {w11 w12 w13 w15 w16 w17 w18 w19 w20 w21 w22 w23 w25:Option AV} {K:SQ} {X:AHeap→Prop} (fr:Fr H n a o sp ns pa) (hd:DictAt H d es) (st:St n es)
 (b':BoardAt H B' n (pos es) e') (bp:BoardAt H Bp n (pos es) ep) (fl:ep = true↔Bare n (pos es)) (ow':Own B' sp pa) (ow:Own Bp sp pa) (ap:apart B' Bp)
 (q:∀ H' d' es' e' ep ra w16 w18 w20,Fr H' n a o sp ns pa→DictAt H' d' es'→St n es'→BoardAt H' B' n (pos es') e'→BoardAt H' Bp n (pos es') ep→(ep = true↔Bare n (pos es'))→H' ra = some (.list (occ n (pos es')))→ra∉Bp.foot→
   swps (callWp fns 10) rest (l29 (oR a) (oI h) (oI ce) (oI ot) (oI f) (oI s) (oR sp) (oI n) (oR pa) (some (rw)) (oR d') w11 w12 w13 (oR B'.a) w15 w16 w17 w18 w19 w20 w21 w22 w23 (oR Bp.a) w25 (oR ra) none none) H' K X):
 swps (callWp fns 10) (P6 rest) (l29 (oR a) (oI h) (oI ce) (oI ot) (oI f) (oI s) (oR sp) (oI n) (oR pa) (some (rw)) (oR d) w11 w12 w13 (oR B'.a) w15 w16 w17 w18 w19 w20 w21 w22 w23 (oR Bp.a) w25 none none none) H K X:=by
 have n4:=fr.four
 have pl:=pts_len n4
 unfold P6
 refine ss_step (pick fr.pts fr.two n4 rfl rfl fun p c hin=>?_)
 have fin:∀ H₂ e₂ ep₂ d' es' w20,Fr H₂ n a o sp ns pa→DictAt H₂ d' es'→St n es'→BoardAt H₂ B' n (pos es') e₂→BoardAt H₂ Bp n (pos es') ep₂→(ep₂ = true↔Bare n (pos es'))→swps (callWp fns 10)
  (.cons (.asg 26 (.call .rows (.cons (.var 10) (.cons (.var 8) .nil)))) (.cons (.ite (.or (.cons (.cmp (.meth .occupied (.var 24) .nil) .NotEq (.var 26)) (.cons (.cmp (.meth .occupied (.var 14) .nil) .NotEq (.var 26)) .nil))) (.cons (.ret (.bool false)) .nil) .nil) rest))
  (l29 (oR a) (oI h) (oI ce) (oI ot) (oI f) (oI s) (oR sp) (oI n) (oR pa) (some (rw)) (oR d') w11 w12 w13 (oR B'.a) w15 (some (c.av)) w17 (oP p) w19 w20 w21 w22 w23 (oR Bp.a) w25 none none none) H₂ K X:=by
  intro H₂ e₂ ep₂ d' es' w20 f₂ d₂ s₂ b₂ p₂ fl₂
  refine ss_step (s_asg (x_call (xs_cons (x_var rfl (xs_cons (x_var rfl (xs_nil (c_rows d₂ f₂.pts (by exact Nat.lt_of_le_of_lt ‹_› (by decide)) fun ra H₃ hra h₃ g₃=>?_))))))))
  have h₃:H₃ ra = some (.list (occ n (pos es'))):=h₃
  have nra:=p₂.fresh hra
  refine ss_step (s_ite (t_or (t_any_cons (c_row (p₂.grow g₃) h₃ rfl rfl fun H₄ g₄=>if_ff (t_any_cons (c_row (b₂.grow (g₃.trans g₄)) (g₄ _ _ h₃) rfl rfl fun H₅ g₅=>if_ff (t_any_nil (if_ff (ss_nil ?_)))))))))
  have gr:=(g₃.trans g₄).trans g₅
  exact q H₅ d' es' e₂ ep₂ ra _ _ _ (f₂.grow gr) (d₂.grow gr) s₂ (b₂.grow gr) (p₂.grow gr) fl₂ (g₅ _ _ (g₄ _ _ h₃)) nra
 refine ss_step (s_asg (x_call (xs_cons (x_var rfl (xs_cons (x_var rfl (xs_cons (x_var rfl (xs_nil ?_)))))))))
 refine c_move bp st.legal hin (fun hs=>?_) fun hs H₂ τ e₂ v t b₂ k₂=>?_
 · refine ss_step (s_ite (t_or (t_any_cons (t_cmp (x_var rfl (x_call (xs_cons (x_var rfl (xs_cons (x_var rfl (xs_cons (x_var rfl (xs_nil ?_)))))))))))))
   refine c_move b' st.legal hin (fun _=>⟨_,.ne (.plain refused_plain refused_plain),?_⟩) fun hs'=>absurd hs' hs
   refine wat (show decide (refused = refused) = true from by simp) ?_
   refine if_ff (t_any_cons (c_came (.inr ⟨hs,rfl⟩) hd rfl rfl rfl (if_ff (t_any_nil (if_ff (ss_nil ?_))))))
   refine ss_step (c_upd st n4 hin hd rfl rfl rfl rfl (fun _=>?_) fun hs'=>absurd hs' hs)
   exact fin H e' ep d es _ fr hd st b' bp fl
 · have f₂:=fr.keep bp ow k₂
   have d₂:=hd.keep bp k₂
   have b₂':=b'.other ap.foot k₂
   refine ss_step (s_ite (t_or (t_any_cons (t_cmp (x_var rfl (x_call (xs_cons (x_var rfl (xs_cons (x_var rfl (xs_cons (x_var rfl (xs_nil ?_)))))))))))))
   refine c_move b₂' st.legal hin (fun hs'=>absurd hs hs') fun _ H₃ τ' e₃ v' t' b₃ k₃=>⟨_,.ne (.plain t.plain t'.plain),?_⟩
   rw [show decide (told v = told v') = true from by rw [t.same t'];simp]
   have f₃:=f₂.keep b₂' ow' k₃
   have d₃:=d₂.keep b₂' k₃
   have p₃:=b₂.other ap.symm.foot k₃
   refine if_ff (t_any_cons (c_came (.inl ⟨hs,_,rfl⟩) d₃ rfl rfl rfl (if_ff (t_any_nil (if_ff (ss_nil ?_))))))
   refine ss_step (c_upd st n4 hin d₃ rfl rfl rfl rfl (fun hs'=>absurd hs hs') fun _ d' H₄ es' d₄ st' hτ g₄=>?_)
   have h1:=hτ τ t.after
   have h2:=hτ τ' t'.after
   exact fin H₄ e₃ e₂ d' es' _ (f₃.grow g₄) d₄ st' ((b₃.same h2).grow g₄) ((p₃.same h1).grow g₄) (t.flag.trans (Bare.congr h1))
theorem twos {m i:Nat} {x:AV} (h:((rangeL 0 m 2).map AV.int)[i]? = some x):x = .int (2 * i:Nat)∧2 * i < m:=by
 rw [rangeL,List.map_map,List.getElem?_map] at h
 obtain ⟨k,hk,rfl⟩:=Option.map_eq_some_iff.mp h
 obtain ⟨hlt,he⟩:=List.getElem?_eq_some_iff.mp hk
 rw [List.getElem_range] at he
 subst he
 rw [List.length_range] at hlt
 refine ⟨?_,by omega⟩
 show AV.int (0 + 2 * (i:Int)) = _
 exact wat (show (0 + 2 * (i:Int)) = ((2 * i:Nat):Int) from by lia) rfl
theorem twos_len (m:Nat):m≤2 * ((rangeL 0 m 2).map AV.int).length:=by
 simp only [rangeL,List.length_map,List.length_range]
 omega
structure Left (es:Stones) (G:List Pt) (k:Nat) (es':Stones):Prop where
 nodup:(es'.map (·.1)).Nodup
 look:∀ p,es'.lookup p = if p∈G.take k then none else es.lookup p
theorem Left.next {es es':Stones} {G:List Pt} {k:Nat} {p:Pt} (l:Left es G k es') (h:G[k]? = some p):Left es G (k + 1) (es'.filter fun e=>decide (e.1≠p)):=by
 refine ⟨nodup_filter l.nodup _,fun x=>?_⟩
 rw [look_filter (fun x=>decide (x≠p)),l.look,List.take_add_one,h]
 by_cases hx:x = p
 · subst hx;simp
 · simp [hx]
theorem avs_filter (es:Stones) (p:Pt):(avs es).filter (fun e=>e.1≠p) = avs (es.filter fun e=>decide (e.1≠p)):=by
 simp only [avs,List.filter_map]
 rfl
theorem chunk_len (G:List Pt) (k:Nat):((G.take (k + 2)).drop k).length≤2:=by
 refine wat List.length_drop (wat List.length_take ?_);omega
theorem chunk_get {G:List Pt} {k j:Nat} {p:Pt} (h:((G.take (k + 2)).drop k)[j]? = some p):G[k + j]? = some p:=by
 rw [List.getElem?_drop,List.getElem?_take] at h
 split at h
 · exact h
 · exact no1 h
theorem chunk_end (G:List Pt) (k:Nat) (h:k < G.length):G.take (k + ((G.take (k + 2)).drop k).length) = G.take (k + 2):=by
 refine wat List.length_drop (wat List.length_take ?_)
 by_cases h2:k + 2≤G.length
 · exact wat (show k + (min (k + 2) G.length - k) = k + 2 from by exact Nat.le_antisymm (linLe [_,_,_] 1 (.a (.v 1) (.v 2)) (.a (.v 1) (.n 2)) [.le 1 (.v 0) (.a (.v 1) (.n 2)),.eq 1 (.a (.v 2) (.v 1)) (.v 0)] rfl (Nat.min_le_left (k + 2) G.length) (Nat.sub_add_cancel (linLe [_,_] 1 (.v 1) (.v 0) [.ge 1 (.v 0) (.a (.v 1) (.n 2))] rfl (Nat.min_eq_left (linLe [_,_] 1 (.a (.v 0) (.n 2)) (.v 1) [.le 1 (.a (.v 0) (.n 2)) (.v 1)] rfl h2))))) (linLe [_,_,_] 1 (.a (.v 2) (.n 2)) (.a (.v 2) (.v 1)) [.le 1 (.v 0) (.a (.v 1) (.v 2)),.ge 1 (.v 0) (.a (.v 2) (.n 2))] rfl (le_sub (min (k + 2) G.length) k) (Nat.min_eq_left (linLe [_,_] 1 (.a (.v 0) (.n 2)) (.v 1) [.le 1 (.a (.v 0) (.n 2)) (.v 1)] rfl h2)))) rfl
 · exact wat (List.take_of_length_le (by exact linLe [_,_,_,_] 1 (.v 3) (.a (.v 2) (.v 1)) [.le 1 (.v 0) (.a (.v 1) (.v 2)),.ge 1 (.v 0) (.v 3)] rfl (le_sub (min (k + 2) G.length) k) (Nat.min_eq_right (linLe [_,_] 1 (.v 1) (.a (.v 0) (.n 2)) [.nle 1 (.a (.v 0) (.n 2)) (.v 1)] rfl h2)))) (wat (List.take_of_length_le (by exact linLe [_,_] 1 (.v 1) (.a (.v 0) (.n 2)) [.nle 1 (.a (.v 0) (.n 2)) (.v 1)] rfl h2)) rfl)
theorem chunk_mem {G:List Pt} {k:Nat} {p:Pt} (hn:G.Nodup):p∈G.take (k + 2)↔p∈G.take k∨p∈(G.take (k + 2)).drop k:=by
 have:G.take (k + 2) = G.take k ++ (G.take (k + 2)).drop k:=by
  have h:=List.take_append_drop k (G.take (k + 2))
  rw [List.take_take,show min k (k + 2) = k from by exact Nat.le_antisymm (linLe [_,_] 1 (.v 0) (.v 1) [.le 1 (.v 0) (.v 1)] rfl (Nat.min_le_left k (k + 2))) (linLe [_,_] 1 (.v 1) (.v 0) [.ge 1 (.v 0) (.v 1)] rfl (Nat.min_eq_left (linLe [_] 1 (.v 0) (.a (.v 0) (.n 2)) [] rfl)))] at h
  exact h.symm
 refine wat this ?_
 simp only [List.mem_append]
 rw [← this]
structure Go (H:AHeap) (n:Nat) (a:Addr) (o:AO) (sp:Addr) (ns:List Int) (pa d:Addr) (es:Stones) (B' Bp:Bd) (e':Bool) (ra ga:Addr) (G:List Pt) (k:Nat) (es':Stones) (ep:Bool):Prop where
 fr:Fr H n a o sp ns pa
 hd:DictAt H d es'
 left:Left es G k es'
 b':BoardAt H B' n (pos es) e'
 bp:BoardAt H Bp n (pos es') ep
 flag:ep = true↔Bare n (pos es')
 rows:H ra = some (.list (occ n (pos es)))
 going:H ga = some (.list (G.map AV.pt))
theorem Go.grow {H H':AHeap} {n:Nat} {a:Addr} {o:AO} {sp:Addr} {ns:List Int} {pa d:Addr} {es:Stones} {B' Bp:Bd} {e':Bool} {ra ga:Addr} {G:List Pt} {k:Nat} {es':Stones} {ep:Bool} (g:Go H n a o sp ns pa d es B' Bp e' ra ga G k es' ep) (gr:Grow H H'):Go H' n a o sp ns pa d es B' Bp e' ra ga G k es' ep:=
 ⟨g.fr.grow gr,g.hd.grow gr,g.left,g.b'.grow gr,g.bp.grow gr,g.flag,gr _ _ g.rows,gr _ _ g.going⟩
theorem Left.fewer {n:Nat} {es es':Stones} {G:List Pt} {k:Nat} (l:Left es G k es') (h:Legal n (pos es)):Legal n (pos es'):=h.fewer fun p=>by
 show es'.lookup p = none∨es'.lookup p = es.lookup p
 rw [l.look]
 split
 · exact .inl rfl
 · exact .inr rfl
theorem Left.ins {n:Nat} {es es':Stones} {G:List Pt} {k:Nat} (l:Left es G k es') (h:Ins n es):Ins n es':=fun p c e=>by
 rw [l.look] at e
 split at e
 · exact no1 e
 · exact h p c e
set_option maxHeartbeats 4000000 in
theorem turn7 {H:AHeap} {n:Nat} {a:Addr} {o:AO} {sp:Addr} {ns:List Int} {pa d:Addr} {rw:AV} {es es':Stones} {e' ep:Bool} {h ce ot f s:Int} {B' Bp:Bd} {w11 w12 w13 w15 w16 w17 w18 w19 w20 w21 w22 w23 w25:Option AV} {ra ga:Addr} {G:List Pt} {i:Nat} {R:SQ}
 (g:Go H n a o sp ns pa d es B' Bp e' ra ga G (2 * i) es' ep) (st:St n es) (ow:Own Bp sp pa) (ap:apart B' Bp) (nra:ra∉Bp.foot) (nga:ga∉Bp.foot) (hG:G.Nodup) (hin:∀ p∈G,inside n p = true∧∃ c,es.lookup p = some c) (lG:G.length≤16) (hi:2 * i < G.length) (ho:∀ es g,o≠.dict es g)
 (q:∀ H' es' ep w18 w19,Go H' n a o sp ns pa d es B' Bp e' ra ga G (2 * (i + 1)) es' ep→R .next (l29 (oR a) (oI h) (oI ce) (oI ot) (oI f) (oI s) (oR sp) (oI n) (oR pa) (some (rw)) (oR d) w11 w12 w13 (oR B'.a) w15 w16 w17 w18 w19 w20 w21 w22 w23 (oR Bp.a) w25 (oR ra) (oR ga) (oI (2 * i:Nat))) H'):
 swps (callWp fns 10) LB7 (l29 (oR a) (oI h) (oI ce) (oI ot) (oI f) (oI s) (oR sp) (oI n) (oR pa) (some (rw)) (oR d) w11 w12 w13 (oR B'.a) w15 w16 w17 w18 w19 w20 w21 w22 w23 (oR Bp.a) w25 (oR ra) (oR ga) (oI (2 * i:Nat))) H R nox:=by
 have n4:=g.fr.four
 have pl:=pts_len n4
 have cin:∀ p∈(G.take (2 * i + 2)).drop (2 * i),p∈G:=fun p hp=>List.mem_of_mem_take (List.mem_of_mem_drop hp)
 have clen:=chunk_len G (2 * i)
 have hcut:cut (G.map AV.pt) (2 * i:Nat) (some ((2 * i:Nat) + 2)) = ((G.take (2 * i + 2)).drop (2 * i)).map AV.pt:=by
  simp only [cut]
  rw [Int.toNat_natCast,show (((2 * i:Nat):Int) + 2).toNat = 2 * i + 2 from by lia,List.map_drop,List.map_take]
 have hlook:∀ {es''},Left es G (2 * i + 2) es''→∀ p,upds (upds (upds (pos es') [] (some .b)) [] (some .w)) ((G.take (2 * i + 2)).drop (2 * i)) none p = pos es'' p:=fun {es''} l p=>by
  have h1:pos es'' p = if p∈G.take (2 * i + 2) then none else es.lookup p:=l.look p
  have h2:pos es' p = if p∈G.take (2 * i) then none else es.lookup p:=g.left.look p
  refine wat h1 ?_
  have hm:=chunk_mem (k:=2 * i) (p:=p) hG
  simp only [upds,List.not_mem_nil,if_false]
  by_cases hc:p∈(G.take (2 * i + 2)).drop (2 * i)
  · exact wat (if_pos hc) (wat (if_pos (hm.mpr (.inr hc))) rfl)
  · refine wat (if_neg hc) (wat h2 ?_)
    by_cases hk:p∈G.take (2 * i)
    · exact wat (if_pos hk) (wat (if_pos (hm.mpr (.inl hk))) rfl)
    · exact wat (if_neg hk) (wat (if_neg fun h=>(hm.mp h).elim hk hc) rfl)
 have lend:Left es G (2 * i + 2) (es'.filter fun e=>decide (e.1∉(G.take (2 * i + 2)).drop (2 * i))):=by
  refine ⟨nodup_filter g.left.nodup _,fun p=>?_⟩
  rw [look_filter (fun p=>decide (p∉(G.take (2 * i + 2)).drop (2 * i))),g.left.look]
  have hm:=chunk_mem (k:=2 * i) (p:=p) hG
  by_cases hc:p∈(G.take (2 * i + 2)).drop (2 * i)
  · exact wat (if_neg (by simpa using hc)) (wat (if_pos (hm.mpr (.inr hc))) rfl)
  · rw [if_pos (by simpa using hc)]
    by_cases hk:p∈G.take (2 * i)
    · exact wat (if_pos hk) (wat (if_pos (hm.mpr (.inl hk))) rfl)
    · exact wat (if_neg hk) (wat (if_neg fun h=>(hm.mp h).elim hk hc) rfl)
 refine ss_step (s_asg (x_meth (x_var rfl ⟨g.bp.isBoard,xs_cons (x_list (xs_nil (new_intro fun ba H₁ hba h₁ g₁=>xs_cons (x_list (xs_nil (new_intro fun wa H₂ hwa h₂ g₂=>xs_cons (x_call (xs_cons (x_call (xs_cons (x_slice (x_var rfl (x_var rfl (x_bin (x_var rfl (x_int (.addI ⟨_,_,rfl,rfl,.list (by omega) (by omega) (by simp only [Option.getD_some];omega) (.inl (g₂ _ _ (g₁ _ _ g.going))) (by rw [List.length_map];exact Nat.le_trans ‹_› (by decide)) (new_intro fun ca H₃ hca h₃ g₃=>?_)⟩)))))))))))))))))⟩)))
 rw [hcut] at h₃
 refine xs_nil (c_format_vertex_list h₃ (fun p hp=>inside4 n4 (hin p (cin p hp)).1) (by exact Nat.lt_of_le_of_lt ‹_› (by decide)) fun H₄ g₄=>xs_cons (x_var rfl (xs_nil ?_)))
 refine c_read n4 (fun p hp=>(hin p (cin p hp)).1) (by exact Nat.le_trans ‹_› (by decide)) fun ea H₅ hea h₅ g₅=>xs_nil ?_
 have nba:=g.bp.fresh hba
 have nwa:=g.bp.fresh (g₁.fresh hwa)
 have nea:=g.bp.fresh (g₁.fresh (g₂.fresh (g₃.fresh (g₄.fresh hea))))
 have g35:=(g₃.trans g₄).trans g₅
 have gr:=(g₁.trans g₂).trans g35
 have go₅:=g.grow gr
 refine c_setup (bs:=[]) (ws:=[]) go₅.bp (g35 _ _ (g₂ _ _ h₁)) (g35 _ _ h₂) h₅ (fun _ h=>(nomatch h)) (fun _ h=>(nomatch h)) (fun p hp=>(hin p (cin p hp)).1) (by decide) (by decide) (by exact Nat.le_trans ‹_› (by decide)) nba nwa nea (lend.fewer st.legal) (fun p _=>hlook lend p) fun H₆ ep₆ b₆ fl₆ k₆=>?_
 have f₆:=go₅.fr.keep go₅.bp ow k₆
 have d₆:=go₅.hd.keep go₅.bp k₆
 have b₆':=go₅.b'.other ap.foot k₆
 have r₆:=k₆ _ _ nra go₅.rows
 have ga₆:=k₆ _ _ nga go₅.going
 clear go₅ h₁ h₂ h₃ h₅ g₁ g₂ g₃ g₄ g₅ g35 gr nba nwa nea hba hwa hca hea k₆
 refine ss_step (s_loop (i_e (x_slice (x_var rfl (x_var rfl (x_bin (x_var rfl (x_int (.addI ⟨_,_,rfl,rfl,.list (by omega) (by omega) (by simp only [Option.getD_some];omega) (.inl ga₆) (by rw [List.length_map];exact Nat.le_trans ‹_› (by decide)) (new_intro fun ca H₇ hca h₇ g₇=>.list h₇ ?_)⟩)))))))))
 rw [hcut] at h₇
 have nd7:DictAt H₇ d es':=d₆.grow g₇
 refine for_rule (fun j ρ H₈=>(X1 fun w18=>A8 (ρ = (l29 (oR a) (oI h) (oI ce) (oI ot) (oI f) (oI s) (oR sp) (oI n) (oR pa) (some (rw)) (oR d) w11 w12 w13 (oR B'.a) w15 w16 w17 w18 (oB true) w20 w21 w22 w23 (oR Bp.a) w25 (oR ra) (oR ga) (oI (2 * i:Nat)))) ((∃ es'',DictAt H₈ d es''∧Left es G (2 * i + j) es'')) (Fr H₈ n a o sp ns pa) (BoardAt H₈ B' n (pos es) e') (BoardAt H₈ Bp n (pos (es'.filter fun e=>decide (e.1∉(G.take (2 * i + 2)).drop (2 * i)))) ep₆) (H₈ ra = some (.list (occ n (pos es)))) (H₈ ga = some (.list (G.map AV.pt))) (H₈ ca = some (.list (((G.take (2 * i + 2)).drop (2 * i)).map AV.pt))))) (walk_list ca (((G.take (2 * i + 2)).drop (2 * i)).map AV.pt)) ⟨_,rfl,⟨es',nd7,g.left⟩,f₆.grow g₇,b₆'.grow g₇,b₆.grow g₇,g₇ _ _ r₆,g₇ _ _ ga₆,h₇⟩ (fun j ρ H₈ hv=>by obtain ⟨_,_,_,_,_,_,_,_,h⟩:=hv;exact h) (fun j x ρ H₈ hx hv R r1 r2 r3=>?_) fun ρ H₈ hv=>?_
 · obtain ⟨w18,rfl,⟨es₂,⟨gd,hd⟩,l₂⟩,f₈,b₈',b₈,r₈,ga₈,ca₈⟩:=hv
   rw [List.getElem?_map] at hx
   obtain ⟨p,hp,rfl⟩:=Option.map_eq_some_iff.mp hx
   have hpG:=chunk_get hp
   refine bc fun nG=>?_
   obtain ⟨_,c,hc⟩:=hin p (List.mem_of_getElem? hpG)
   refine nG ?_
   have hlp:es₂.lookup p = some c:=by
    rw [l₂.look,if_neg,hc]
    intro hm
    obtain ⟨m,hm⟩:=List.mem_iff_getElem?.mp hm
    rw [List.getElem?_take] at hm
    split at hm
    · have:=(List.getElem?_inj (List.getElem?_eq_some_iff.mp hm).1 hG).mp (hm.trans hpG.symm)
      lia
    · exact no1 hm
   refine ⟨_,rfl,?_⟩
   have l16:=ins_len n4 l₂.nodup (l₂.ins st.ins)
   refine ss_step (s_ex (x_bm (x_var rfl ⟨⟨_,_,_,rfl,hd⟩,xs_cons (x_var rfl (xs_nil (.dpop (v:=c.av) hd (by rw [avs_lookup];show Option.map _ (es₂.lookup p) = _;rw [hlp];rfl) (by simp [avs];exact Nat.le_trans ‹_› (by decide)) fun gd'=>ss_nil ?_)))⟩)))
   rw [show ((p.1,p.2):Pt) = p from rfl,avs_filter]
   refine (r1 _ _ ⟨_,rfl,⟨_,⟨gd',AHeap.set_self ..⟩,l₂.next hpG⟩,f₈.setDict hd ho _,b₈'.setDict hd _,b₈.setDict hd _,?_,?_,?_⟩).1
   · exact (AHeap.set_ne _ _ (fun e=>by rw [e,hd] at r₈;exact clash r₈ rfl)).trans r₈
   · exact (AHeap.set_ne _ _ (fun e=>by rw [e,hd] at ga₈;exact clash ga₈ rfl)).trans ga₈
   · exact (AHeap.set_ne _ _ (fun e=>by rw [e,hd] at ca₈;exact clash ca₈ rfl)).trans ca₈
 · refine bc fun nG=>?_
   obtain ⟨w18,rfl,⟨es₂,d₈,l₂⟩,f₈,b₈',b₈,r₈,ga₈,_⟩:=hv
   refine nG ?_
   have l₃:Left es G (2 * i + 2) es₂:=⟨l₂.nodup,fun p=>by rw [l₂.look,List.length_map,chunk_end G (2 * i) hi]⟩
   have hps:pos (es'.filter fun e=>decide (e.1∉(G.take (2 * i + 2)).drop (2 * i))) = pos es₂:=by
    funext p
    exact (lend.look p).trans (l₃.look p).symm
   rw [hps] at b₈ fl₆
   refine ss_step (s_ite (t_or (t_any_cons (t_not (t_e (x_var rfl ⟨_,.bool _,if_ff ?_⟩))))))
   refine t_any_cons (c_shows b₈ d₈ f₈.pts rfl rfl rfl fun H₉ g₉=>if_ff ?_)
   refine t_any_cons (t_cmp (x_meth (x_var rfl ⟨(b₈.grow g₉).isBoard,xs_nil (c_isEmpty (b₈.grow g₉) (x_cmp (x_var rfl (x_dict0 fun z gz hz=>?_))))⟩)))
   have gz':Grow H₉ (H₉.set z (.dict [] gz)):=Grow.new hz
   refine bc fun nG=>?_
   obtain ⟨gd,hd⟩:=(d₈.grow g₉).grow gz'
   refine nG ?_
   refine ⟨_,.eq (.dict hd (AHeap.set_self ..) (avs_plain _) rfl),⟨_,.ne (.bool _ _),?_⟩⟩
   have he:ep₆ = dictEq (avs es₂) []:=by
    rw [Bool.eq_iff_iff,fl₆]
    refine Iff.trans ?_ (dictEq_iff (fs:=[]) l₃.nodup List.nodup_nil).symm
    constructor
    · intro hb p
      cases hc:es₂.lookup p with
      | none=>rfl
      | some c=>
        have h2:es₂.lookup p = none:=hb p (l₃.ins st.ins p c hc)
        rw [hc] at h2;exact no2 h2
    · exact fun h p _=>h p
   rw [← he,beq_self_eq_true]
   refine if_ff (t_any_nil (if_ff (ss_nil (ss_nil ?_))))
   have gr:=g₉.trans gz'
   exact q _ es₂ ep₆ _ _ ⟨f₈.grow gr,d₈.grow gr,l₃,b₈'.grow gr,b₈.grow gr,fl₆,gr _ _ r₈,gr _ _ ga₈⟩
set_option maxHeartbeats 4000000 in
theorem law7 {H:AHeap} {n:Nat} {a:Addr} {o:AO} {sp:Addr} {ns:List Int} {pa d:Addr} {rw:AV} {es:Stones} {e' ep:Bool} {h ce ot f s:Int} {B' Bp:Bd} {w11 w12 w13 w15 w16 w17 w18 w19 w20 w21 w22 w23 w25:Option AV} {ra:Addr} {K:SQ} {X:AHeap→Prop} (fr:Fr H n a o sp ns pa) (hd:DictAt H d es) (st:St n es)
 (b':BoardAt H B' n (pos es) e') (bp:BoardAt H Bp n (pos es) ep) (fl:ep = true↔Bare n (pos es)) (ow:Own Bp sp pa) (ap:apart B' Bp) (hra:H ra = some (.list (occ n (pos es)))) (nra:ra∉Bp.foot) (ho:∀ es g,o≠.dict es g)
 (q:∀ ρ H',H' a = some o→K (.ret (.bool true)) ρ H'):
 swps (callWp fns 10) (P7 .nil) (l29 (oR a) (oI h) (oI ce) (oI ot) (oI f) (oI s) (oR sp) (oI n) (oR pa) (some (rw)) (oR d) w11 w12 w13 (oR B'.a) w15 w16 w17 w18 w19 w20 w21 w22 w23 (oR Bp.a) w25 (oR ra) none none) H K X:=by
 have n4:=fr.four
 have pl:=pts_len n4
 refine ss_step (s_asg (x_call (xs_cons (c_there fr.pts hd n4 rfl rfl fun ta H₁ hta h₁ g₁=>xs_cons (x_sliceFrom (x_var rfl (x_int ⟨_,rfl,.list (by decide) (by decide) (by decide) (.inl (g₁ _ _ fr.spare)) (by have:=fr.short;rw [List.length_map];exact Nat.le_trans ‹_› (by decide)) (new_intro fun na H₂ hna h₂ g₂=>xs_nil ?_)⟩)))))))
 rw [show cut (ns.map AV.int) 16 none = (ns.drop 16).map .int from by simp [cut,List.map_drop]] at h₂
 have fll:((pts n).filter fun p=>(es.lookup p).isSome).length≤16:=Nat.le_trans (List.length_filter_le ..) pl
 refine c_order (g₂ _ _ h₁) h₂ (by have:=fr.long;refine wat List.length_drop ?_;exact linLe [_,_,_] 1 (.v 0) (.v 2) [.le 1 (.v 0) (.n 16),.le 1 (.n 32) (.v 1),.le 1 (.v 1) (.a (.v 2) (.n 16))] rfl fll this (le_sub ns.length 16)) (by exact Nat.lt_of_le_of_lt ‹_› (by decide)) fun ga H₃ G hga hG h₃ g₃=>?_
 have gr:=(g₁.trans g₂).trans g₃
 have memG:∀ p,p∈G↔inside n p = true∧∃ c,es.lookup p = some c:=fun p=>by
  rw [hG.mem_iff,List.mem_filter,mem_pts,Option.isSome_iff_exists]
 have ndG:G.Nodup:=hG.nodup_iff.mpr ((pts_nodup n).filter _)
 have lG:G.length≤16:=by refine wat hG.length_eq ?_;exact fll
 have nga:=bp.fresh ((g₁.trans g₂).fresh hga)
 have go₃:Go H₃ n a o sp ns pa d es B' Bp e' ra ga G 0 es ep:=⟨fr.grow gr,hd.grow gr,⟨st.nodup,fun p=>by simp⟩,b'.grow gr,bp.grow gr,fl,gr _ _ hra,h₃⟩
 clear h₁ h₂ h₃ g₁ g₂ g₃ gr hta hna hga hG fll fr hd b' bp hra
 refine ss_step (s_loop (i_range3 (x_int (x_bi (xs_cons (x_var rfl (xs_nil (.lenL go₃.going (by rw [List.length_map];exact Nat.le_trans ‹_› (by decide)) (x_int ⟨0,_,2,rfl,rfl,rfl,by decide,by decide,by lia,by rw [List.length_map];lia,by decide,by decide,?_⟩)))))))))
 rw [List.length_map]
 refine for_rule (fun i ρ H'=>(X3 fun w18 w19 w28=>A2 (ρ = (l29 (oR a) (oI h) (oI ce) (oI ot) (oI f) (oI s) (oR sp) (oI n) (oR pa) (some (rw)) (oR d) w11 w12 w13 (oR B'.a) w15 w16 w17 w18 w19 w20 w21 w22 w23 (oR Bp.a) w25 (oR ra) (oR ga) w28)) (∃ es' ep,Go H' n a o sp ns pa d es B' Bp e' ra ga G (2 * i) es' ep))) (walk_ints (rangeL 0 G.length 2)) ⟨_,_,_,rfl,es,ep,go₃⟩ (fun _ _ _ _=>trivial) (fun i x ρ H' hx hv R r1 r2 r3=>?_) fun ρ H' hv=>?_
 · obtain ⟨w18,w19,w28,rfl,es',ep',g⟩:=hv
   obtain ⟨rfl,hi⟩:=twos hx
   refine ⟨_,rfl,turn7 g st ow ap nra nga ndG (fun p hp=>(memG p).mp hp) lG hi ho fun H'' es'' ep'' w18 w19 g''=>(r1 _ _ ⟨_,_,_,rfl,es'',ep'',g''⟩).1⟩
 · obtain ⟨w18,w19,w28,rfl,es',ep',g⟩:=hv
   have hall:ep' = true:=g.flag.mpr fun p hp=>by
    have h1:=g.left.look p
    rw [List.take_of_length_le (twos_len G.length)] at h1
    show es'.lookup p = none
    refine wat h1 ?_
    by_cases hm:p∈G
    · exact wat (if_pos hm) rfl
    · refine wat (if_neg hm) ?_
      cases hc:es.lookup p with
      | none=>rfl
      | some c=>exact absurd ((memG p).mpr ⟨hp,c,hc⟩) hm
   refine ss_step (s_ret (x_andv (x_cmp (x_meth (x_var rfl ⟨g.b'.isBoard,xs_nil (c_occupied g.b' fun oa H₄ hoa h₄ g₄=>x_var rfl ⟨_,.eq (.list h₄ (g₄ _ _ g.rows) (occ_plain ..) (occ_plain ..)),?_⟩)⟩)))))
   refine wat (show decide (occ n (pos es) = occ n (pos es)) = true from by simp) ?_
   refine ⟨_,.bool _,if_tt (x_meth (x_var rfl ⟨(g.bp.grow g₄).isBoard,xs_nil (c_isEmpty (g.bp.grow g₄) ?_)⟩))⟩
   refine wat hall ?_
   exact q _ H₄ (g₄ _ _ g.fr.scr)
theorem law_plain (xs:List Int) (a:Addr) (g:Obj) (H:AHeap) (hl:xs.length≤63) (ha:H a = some (.rlist (xs.map .int) g)):
 bodyWp (callWp fns 10) F_law [.ref a] H (fun v H'=>v = .bool true∧H' a = some (.rlist (xs.map .int) g)) nox:=by
 refine ⟨rfl,?_⟩
 refine wat law_body ?_
 refine law1 hl ha fun H₁ n h ce ot f s sp ns pa rw d es B e f₁ d₁ st b₁ ow=>?_
 refine law2 f₁ d₁ st b₁ ow fun H₂ wy rc B' dt Ls f₂ d₂ b₂ b₂' ow' ap h₂ nrc t₂ ndt rcd=>?_
 refine law3 f₂ d₂ st b₂ ow b₂' ow' ap h₂ nrc t₂ ndt rcd (fun _ _ e=>by cases e) fun H₃ e' _ _ _ _ _ f₃ d₃ b₃ b₃' fl₃ t₃=>?_
 refine law4 f₃ d₃ st b₃ b₃' fl₃ ow' t₃ rcd fun H₄ d' es' e' _ _ _ _ _ _ _ _ _ f₄ d₄ st' b₄ fl₄=>?_
 refine law5 f₄ d₄ st' b₄ fl₄ fun H₅ Bp ep _ _ _ _ f₅ d₅ b₅ p₅ fl₅ owp app=>?_
 refine law6 f₅ d₅ st' b₅ p₅ fl₅ ow' owp app fun H₆ d'' es'' e' ep ra _ _ _ f₆ d₆ st'' b₆ p₆ fl₆ r₆ nra=>?_
 exact law7 f₆ d₆ st'' b₆ p₆ fl₆ owp app r₆ nra (fun _ _ e=>by cases e) fun _ H' h=>⟨rfl,h⟩
end Pl
end Internal
end Mine
theorem PySem.Challenge.cw_md0059_01_holds : PySem.Challenge.rw_md0059_01.Holds :=
  Mine.Internal.law_holds_of fun xs a g H hl ha _ => Mine.Internal.Pl.law_plain xs a g H hl ha
