/- Parts of the proof: D. -/
import Derived.OrdersHeld
import Derived.Test.YtlmoafgebiffaaaGreatDoorV00
set_option linter.all false
set_option maxRecDepth 10000
namespace Go.E
open Go
def gm (e:de):List (Nat × Value)→Prop
 | []=>True
 | (i,v) :: l=>e i=v∧gm e l
def qY (e:de):List (Nat × Value)→de
 | []=>e
 | (i,v) :: l=>put (qY e l) (some i) v
theorem je {e:de}:∀ {l:List (Nat × Value)},gm e l→qY e l=e
 | [],_=>rfl
 | (i,v) :: l,⟨h1,h2⟩=>by
   funext j
   simp only [qY,je h2,Cq]
   split
   ·rename_i hj; rw [hj,h1]
   ·rfl
section loops
variable {N:Nat} {P:Program} {w:World} {e:de} {Q:Exit→de→World→Prop}
theorem y8 {c:Code} {Q:Exit→Act→World→Prop} {a:Act} {β:Type} (I:β→Act→World→Prop) (μ:β→World→Nat) (b₀:β) (h₀:I b₀ a w)
    (round:∀ b a w,I b a w→c.wp P (Exit.then (fun a' w'=>∃ b',I b' a' w'∧μ b' w' < μ b w) Q) a w):(Code.loop c).wp P Q a w:=by
 intro b k cs
 have key:∀ n x a w,μ x w=n→I x a w →
     ∃ e a' w',Q e a' w'∧Arrives P (lone (b.at a (.code c :: .inLoop c :: k)) cs w) b k cs e a' w':=by
  intro n
  induction n using Nat.strongRecOn with
  | _ n ih =>
   intro x a w hn hI
   obtain ⟨e,a₁,w₁,hq,harr⟩:=round x a w hI b (.inLoop c :: k) cs
   cases e with
   | normal =>
    obtain ⟨x₁,hI₁,hlt⟩:=hq
    obtain ⟨e₂,a₂,w₂,hq₂,harr₂⟩:=ih (μ x₁ w₁) (hn ▸ hlt) x₁ a₁ w₁ rfl hI₁
    exact ⟨e₂,a₂,w₂,hq₂,.of_steps (Steps.trans harr (.one step_inLoop)) harr₂⟩
   | exit id=>exact ⟨_,a₁,w₁,hq,.pass (x := .inLoop c) rfl (fun _ _ => .inl (by simp)) harr⟩
   | goto l=>exact ⟨_,a₁,w₁,hq,.pass (x := .inLoop c) rfl (fun _ _ => .inl (by simp)) harr⟩
   | ret=>exact ⟨_,a₁,w₁,hq,.pass (x := .inLoop c) rfl (fun _ _ => .inl (by simp)) harr⟩
   | panic ch=>exact ⟨_,a₁,w₁,hq,.pass (x := .inLoop c) rfl (fun _ _ => .inl (by simp)) harr⟩
   | outgrown=>exact ⟨_,a₁,w₁,hq,.pass (x := .inLoop c) rfl (fun _ _ => .inl (by simp)) harr⟩
 obtain ⟨e,a',w',hq,harr⟩:=key _ b₀ a w rfl h₀
 exact ⟨e,a',w',hq,.of_steps (.one step_loop) harr⟩
theorem Iq {c:Code} {β:Type} (sl:β→List (Nat × Value)) (I:β→World→Prop) (μ:β→World→Nat) (b₀:β) (hok:dp N c=true) (ha:gm e (sl b₀)) (h₀:I b₀ w)
    (round:∀ (e:de) b w,I b w→WP N P c (tw (fun e' w'=>∃ b',gm e' (sl b')∧I b' w'∧μ b' w' < μ b w) Q) (qY e (sl b)) w):Io N P (.loop c) Q e w:=by
 intro a hs hd he
 refine y8 (fun b a w=>a.tmps.size=N∧a.defers=[]∧gm (fA a) (sl b)∧I b w) μ b₀ ⟨hs,hd,he ▸ ha,h₀⟩ ?_
 intro b a w ⟨hs,hd,hag,hI⟩
 have h1:=round (fA a) b w hI
 rw [je hag] at h1
 refine wp_mono (my c hok _ _ _ h1 a hs hd rfl) fun ex a w hq => ?_
 have:=tx hq
 cases ex <;> first
  | exact this
  | (obtain ⟨h1,h2,b',h3,h4,h5⟩:=this; exact ⟨b',⟨h1,h2,h3,h4⟩,h5⟩)
theorem KX {x y:Code} {β:Type} (sl:β→List (Nat × Value)) (J:β→World→Prop)
    (hx:WP N P x (tw (fun e w=>∃ b,gm e (sl b)∧J b w) Q) e w) (hy:∀ (e:de) b w,J b w→WP N P y Q (qY e (sl b)) w) (hok:dp N x=true):WP N P (.seq x y) Q e w:=by
 have key:∀ (c:Code),dp N c=true→∀ (Q Q':Exit→de→World→Prop),(∀ ex e w,Q ex e w→Q' ex e w)→∀ e w,WP N P c Q e w→WP N P c Q' e w:=by
  intro c
  induction c with
  | skip=>exact fun _ _ _ h _ _=>h _ _ _
  | region id ops d =>
   intro _ Q Q' h e w
   cases d
   ·have:∀ (l:List Oper) (e:de) (w:World),uy P ops l e (fun e w=>Q .normal e w) w→uy P ops l e (fun e w=>Q' .normal e w) w:=by
      intro l
      induction l with
      | nil=>exact fun _ _=>h _ _ _
      | cons o l ih =>
       intro e w
       unfold uy
       split
       ·exact Cv fun _ _=>ih _ _
       ·exact ih _ _
    exact this _ _ _
   ·exact fun hq a h1 h2 h3=>wp_mono (hq a h1 h2 h3) fun ex _ _ hl=>by cases ex <;> first | exact hl | exact ⟨hl.1,hl.2.1,h _ _ _ hl.2.2⟩
  | seq a b iha ihb =>
   intro hok Q Q' h e w
   simp only [dp,bq] at hok
   refine iha hok.1 _ _ ?_ e w
   intro ex e w hq
   cases ex <;> first | exact h _ _ _ hq | exact ihb hok.2 _ _ h _ _ hq
  | cond c a b iha ihb =>
   intro hok Q Q' h e w
   simp only [dp,bq] at hok
   simp only [WP]
   unfold AA
   split
   ·exact iha hok.1 _ _ h _ _
   ·exact ihb hok.2 _ _ h _ _
   ·exact id
  | block id a ih =>
   intro hok Q Q' h e w
   refine ih hok _ _ ?_ e w
   intro ex e w hq
   cases ex <;> first
    | exact h _ _ _ hq
    | (simp only [mw] at hq ⊢; split at hq <;> (rename_i hj; simp only [hj,if_true,if_false]; exact h _ _ _ hq))
  | loop a _=>exact fun _ Q Q' h e w hq a h1 h2 h3=>wp_mono (hq a h1 h2 h3) fun ex _ _ hl=>by cases ex <;> first | exact hl | exact ⟨hl.1,hl.2.1,h _ _ _ hl.2.2⟩
  | exit id=>exact fun _ _ _ h _ _=>h _ _ _
  | ret=>exact fun _ _ _ h _ _=>h _ _ _
  | _=>exact fun _ _ _ _ _ _ hq=>hq.elim
 refine key x hok _ _ ?_ e w hx
 intro ex e w hq
 cases ex <;> first
  | exact hq
  | (obtain ⟨b,ha,hj⟩:=hq
     have:=hy e b w hj
     rw [je ha] at this
     exact this)
end loops
def vC:Op→Bool
 | .move _ | .assign _ | .pick .. | .nilCheck _ | .fieldAddr .. | .field .. | .indexAddr .. | .index .. | .binOp .. | .unOp .. | .extract .. | .makeInterface .. | .makeFunc .. | .slice .. | .build .. => true
 | .call { callee := .builtin .len,.. } | .call { callee := .builtin .cap,.. }=>true
 | _=>false
def vD:Op→Bool
 | .load .. => true
 | _=>false
def nW (P:Program):Op→Bool
 | .convert s d _=>match P.underlying s,P.underlying d with
  | some (.int _),some (.int _)=>true
  | _,_=>false
 | _=>false
def nX (P:Program):Op→Bool
 | .convert s d _=>match P.underlying s,P.underlying d with
  | some (.slice _),some .string=>true
  | _,_=>false
 | _=>false
section classes
variable {P:Program} {w:World} {e:de}
theorem mM {o:Option Value} {k:Value→Prop} (h:nP o k):∃ v,k v∧∀ k':Value→Prop,k' v→nP o k':=by
 cases o with
 | none=>exact h.elim
 | some v=>exact ⟨v,h,fun _ h=>h⟩
theorem y9 {t:TypeId} {cs:Array Value} {off:Nat} {k:Value→Prop} (h:mZ P t cs off k):∃ v,k v∧∀ k':Value→Prop,k' v→mZ P t cs off k':=by
 unfold mZ at h ⊢
 split at h
 ·split at h
  ·exact ⟨_,h,fun _ h=>by rw [if_pos ‹_›]; exact h⟩
  ·exact h.elim
 ·rename_i h1
  split at h
  ·rename_i h2
   obtain ⟨v,hk,hv⟩:=mM h
   exact ⟨v,hk,fun k' h=>by rw [if_neg h1,if_pos h2]; exact hv k' h⟩
  ·exact h.elim
theorem A5 {op:BinOp} {kd:IntKind} {a b:Int} {k:Value→Prop} (h:jq op kd a b k):∃ v,k v∧∀ k':Value→Prop,k' v→jq op kd a b k':=by
 cases op <;> first
  | exact h.elim
  | exact ⟨_,h,fun _ h=>h⟩
  | exact ⟨_,h.2,fun _ h'=>⟨h.1,h'⟩⟩
theorem wh {op:BinOp} {kd:IntKind} {a b:Int} {k:Value→Prop} (h:kQ op kd a b k):∃ v,k v∧∀ k':Value→Prop,k' v→kQ op kd a b k':=by
 cases op <;> first
  | exact h.elim
  | exact ⟨_,h.2,fun _ h'=>⟨h.1,h'⟩⟩
theorem A6 {op:BinOp} {a b:ByteArray} {k:Value→Prop} (h:jr op a b k):∃ v,k v∧∀ k':Value→Prop,k' v→jr op a b k':=by
 cases op <;> first
  | exact h.elim
  | exact ⟨_,h,fun _ h=>h⟩
theorem C4 {neg:Bool} {t:TypeId} {xo yo:Operand} {x y:Value} {k:Value→Prop} (h:wQ P neg t xo yo x y k):∃ v,k v∧∀ k':Value→Prop,k' v→wQ P neg t xo yo x y k':=by
 unfold wQ at h ⊢
 split at h <;> first
  | exact h.elim
  | exact ⟨_,h.2,fun _ h'=>⟨h.1,h'⟩⟩
  | (obtain ⟨r,h1,h2⟩:=h; exact ⟨_,h2,fun _ h'=>⟨r,h1,h'⟩⟩)
theorem A7 {op:BinOp} {t:TypeId} {xo yo:Operand} {x y:Value} {k:Value→Prop} (h:ct P op t xo yo x y k):∃ v,k v∧∀ k':Value→Prop,k' v→ct P op t xo yo x y k':=by
 unfold ct at h ⊢
 split at h
 ·split at h
  ·rename_i hs; obtain ⟨v,hk,hv⟩:=wh h; exact ⟨v,hk,fun k' h=>by rw [if_pos hs]; exact hv k' h⟩
  ·rename_i hs
   split at h
   ·rename_i he; obtain ⟨v,hk,hv⟩:=A5 h; exact ⟨v,hk,fun k' h=>by rw [if_neg hs,if_pos he]; exact hv k' h⟩
   ·exact h.elim
 ·exact A6 h
 ·split at h <;> first | exact C4 h | exact h.elim
theorem A8 {x:Value} {k:Value→Prop} (h:qU x k):∃ v,k v∧∀ k':Value→Prop,k' v→qU x k':=by
 unfold qU at h ⊢
 split at h <;> first | exact h.elim | exact ⟨_,h,fun _ h=>h⟩
theorem gg {o:Option Value} {d:Int} {k:Int→Prop} (h:gJ o d k):∃ i,k i∧∀ k':Int→Prop,k' i→gJ o d k':=by
 unfold gJ at h ⊢
 split at h <;> first | exact h.elim | exact ⟨_,h,fun _ h=>h⟩
theorem wj {t:TypeId} {x:Value} {lo hi mx:Option Value} {k:Value→Prop} (h:cz P t x lo hi mx k):∃ v,k v∧∀ k':Value→Prop,k' v→cz P t x lo hi mx k':=by
 unfold cz at h ⊢
 split at h
 ·split at h
  ·rename_i n hn
   obtain ⟨m,h,h1⟩:=gg h
   obtain ⟨hh,h,h2⟩:=gg h
   obtain ⟨l,h,h3⟩:=gg h
   exact ⟨_,h.2,fun k' h'=>h1 _ (h2 _ (h3 _ ⟨h.1,h'⟩))⟩
  ·exact h.elim
 ·split at h
  ·rename_i n hn
   obtain ⟨m,h,h1⟩:=gg h
   obtain ⟨hh,h,h2⟩:=gg h
   obtain ⟨l,h,h3⟩:=gg h
   exact ⟨_,h.2,fun k' h'=>h1 _ (h2 _ (h3 _ ⟨h.1,h'⟩))⟩
  ·exact h.elim
 ·exact h.elim
theorem mz {a:Addr}:∀ (n i:Nat) {k:List Value→Prop},jo w a i n k→∃ vs,k vs∧∀ k':List Value→Prop,k' vs→jo w a i n k'
 | 0,_,_,h=>⟨[],h,fun _ h=>h⟩
 | n+1,i,k,h=>by
  obtain ⟨v,h,hv⟩:=mM h
  obtain ⟨vs,h,hvs⟩:=mz n (i+1) h
  exact ⟨v :: vs,h,fun k' h=>hv _ (hvs _ h)⟩
theorem vE {x:Value} {k:Value→Prop} (h:fY w x k):∃ v,k v∧∀ k':Value→Prop,k' v→fY w x k':=by
 unfold fY at h ⊢
 split at h
 ·exact ⟨_,h,fun _ h=>h⟩
 ·obtain ⟨vs,h,hv⟩:=mz _ _ h
  split at h
  ·rename_i l hl
   exact ⟨_,h,fun k' h=>hv _ (by simp only [hl]; exact h)⟩
  ·exact h.elim
 ·exact h.elim
theorem zA {t:TypeId} {x:Value} {k:aq} (h:fJ P t x k w):∃ v,k v w∧∀ k':aq,k' v w→fJ P t x k' w:=by
 unfold fJ at h ⊢
 split at h
 ·split at h
  ·rename_i hs
   obtain ⟨v,h,hv⟩:=mM h
   exact ⟨v,h,fun k' h=>by simp only [hs,if_true]; exact hv _ h⟩
  ·rename_i hs
   split at h
   ·rename_i ha
    split at h
    ·rename_i n hn
     obtain ⟨vs,h,hv⟩:=mz _ _ h
     exact ⟨_,h,fun k' h=>by simp only [hs,ha,if_true,Bool.false_eq_true,if_false]; exact hv _ h⟩
    ·exact h.elim
   ·exact h.elim
 ·exact h.elim
theorem C5 {o:Oper} {k:aq} (hp:(vC o.op || nW P o.op)=true) (h:ir P o e k w):∃ v,k v w∧∀ (w':World) (k':aq),k' v w'→ir P o e k' w':=by
 obtain ⟨dst,op,type,pos,after,guard⟩:=o
 cases op <;> simp only [vC,nW,Bool.or_self,Bool.false_eq_true] at hp <;> simp only [ir] at h ⊢
 case move x=>exact ⟨_,h,fun _ _ h=>h⟩
 case assign x=>exact ⟨_,h,fun _ _ h=>h⟩
 case pick c a b =>
  unfold rC at h ⊢
  split at h
  ·exact ⟨_,h,fun _ _ h=>h⟩
  ·exact h.elim
 case nilCheck x=>obtain ⟨v,hk,hv⟩:=A8 h; exact ⟨v,hk,fun _ _ h=>hv _ h⟩
 case binOp op t x y yt=>obtain ⟨v,hk,hv⟩:=A7 h; exact ⟨v,hk,fun _ _ h=>hv _ h⟩
 case unOp op t x =>
  unfold GP at h ⊢
  split at h <;> first | exact h.elim | exact ⟨_,h,fun _ _ h=>h⟩
 case convert s d x =>
  unfold dK at h ⊢
  split at h
  ·exact ⟨_,h,fun _ _ h=>h⟩
  ·simp_all
  ·simp_all
  ·simp_all
  ·exact h.elim
 case makeInterface t x =>
  unfold dC at h ⊢
  split at h
  ·exact h.elim
  ·exact h.elim
  ·exact ⟨_,h,fun _ _ h=>h⟩
 case makeFunc fn a b=>exact ⟨_,h,fun _ _ h=>h⟩
 case slice t x lo hi mx=>obtain ⟨v,hk,hv⟩:=wj h; exact ⟨v,hk,fun _ _ h=>hv _ h⟩
 case fieldAddr s x f =>
  unfold fi at h ⊢
  split at h
  ·exact ⟨_,h,fun _ _ h=>h⟩
  ·exact h.elim
 case field s x f =>
  unfold pI at h ⊢
  split at h
  ·split at h
   ·rename_i fd hf
    obtain ⟨v,hk,hv⟩:=y9 h
    exact ⟨v,hk,fun _ _ h=>hv _ h⟩
   ·exact h.elim
  ·exact h.elim
 case indexAddr t x i =>
  unfold ey at h ⊢
  split at h
  ·exact ⟨_,h.2,fun _ _ h'=>⟨h.1,h'⟩⟩
  ·exact h.elim
 case index t x i =>
  unfold kP at h ⊢
  split at h
  ·exact ⟨_,h.2,fun _ _ h'=>⟨h.1,h'⟩⟩
  ·exact h.elim
 case extract x i =>
  unfold iX at h ⊢
  split at h
  ·obtain ⟨v,hk,hv⟩:=mM h; exact ⟨v,hk,fun _ _ h=>hv _ h⟩
  ·exact h.elim
 case build t x =>
  unfold cX at h ⊢
  split at h
  ·split at h
   ·exact ⟨_,h,fun _ _ h=>h⟩
   ·exact h.elim
  ·exact h.elim
 case call c =>
  obtain ⟨callee,args,ats⟩:=c
  cases callee with
  | value f=>simp at hp
  | invoke r m=>simp at hp
  | builtin b =>
   cases b <;> first | (simp at hp; done) | skip
   ·simp only [gj] at h ⊢
    unfold rD at h ⊢
    split at h
    ·exact ⟨_,h,fun _ _ h=>h⟩
    ·exact h.elim
   ·simp only [gj] at h ⊢
    unfold nQ at h ⊢
    split at h
    ·exact ⟨_,h,fun _ _ h=>h⟩
    ·exact ⟨_,h,fun _ _ h=>h⟩
    ·exact h.elim
theorem C6 {o:Oper} {k:aq} (hp:(vD o.op || nX P o.op)=true) (h:ir P o e k w):∃ v,k v w∧∀ (k':aq),k' v w→ir P o e k' w:=by
 obtain ⟨dst,op,type,pos,after,guard⟩:=o
 cases op <;> simp only [vD,nX,Bool.or_self,Bool.false_eq_true] at hp <;> simp only [ir] at h ⊢
 case load t x=>exact zA h
 case convert s d x =>
  unfold dK at h ⊢
  split at h
  ·exact ⟨_,h,fun _ h=>h⟩
  ·obtain ⟨v,hk,hv⟩:=vE h.2; exact ⟨v,hk,fun _ h'=>⟨h.1,hv _ h'⟩⟩
  ·simp_all
  ·simp_all
  ·exact h.elim
end classes
def pN (i:Nat):List Oper→Nat→List Nat→List Nat
 | [],_,acc=>acc
 | o :: l,j,acc=>pN i l (j+1) (if o.after.toList.any (fun x=>Region.binds .any x && (x.on == i || acc.contains x.on)) then j :: acc else acc)
def lX (ops:Array Oper) (i:Nat):List Nat:=pN i ops.toList 0 []
def lY (ops:Array Oper) (listed:Array Bool):Prop :=
 ∀ j o,ops[j]? = some o→listed.getD j false=true→∀ x ∈ o.after,Region.binds .any x=true→listed.getD x.on false=true
theorem A9 {ops:Array Oper} {listed:Array Bool} (hc:lY ops listed) {i:Nat} (hi:listed.getD i false=false) :
    ∀ j ∈ lX ops i,listed.getD j false=false:=by
 have key:∀ (l:List Oper) (n:Nat) (acc:List Nat),(∀ k,l[k]? = ops[n+k]?)→(∀ j ∈ acc,listed.getD j false=false) →
     ∀ j ∈ pN i l n acc,listed.getD j false=false:=by
  intro l
  induction l with
  | nil=>exact fun _ _ _ h=>h
  | cons o l ih =>
   intro n acc hl hacc
   refine ih (n+1) _ (fun k=>by have:=hl (k+1); simpa [Nat.add_assoc,Nat.add_comm 1 k] using this) ?_
   split
   ·rename_i hany
    intro j hj
    rcases av.1 hj with rfl | hj
    ·obtain ⟨x,hx,hb⟩:=List.any_eq_true.1 hany
     simp only [bq,Bool.or_eq_true,beq_iff_eq,List.contains_iff_mem] at hb
     cases hg:listed.getD j false with
     | false=>rfl
     | true =>
      have ho:ops[j]? = some o:=by simpa using (hl 0).symm
      have h1:=hc j o ho hg x (by simpa using hx) hb.1
      rcases hb.2 with h2 | h2
      ·rw [h2,hi] at h1; cases h1
      ·rw [hacc _ h2] at h1; cases h1
    ·exact hacc j hj
   ·exact hacc
 exact key ops.toList 0 [] (fun k=>by simp) (by simp)
section draw
variable {P:Program} {ops:Array Oper} {Q:Exit→Act→World→Prop}
def iu (P:Program) (ops:Array Oper) (Q:Exit→Act→World→Prop) (L:List (List Nat × (World→Prop))):Nat→Array Bool→Act→World→Prop
 | 0,listed,a,w=>Region.ready .any ops listed=[]∧Q .normal a w
 | fuel+1,listed,a,w =>
  (Region.ready .any ops listed=[]→Q .normal a w) ∧
  ∀ i ∈ Region.ready .any ops listed,wpOp P ops Q i (fun a' w'=>(w'=w∨∀ x ∈ L,i ∉ x.1→x.2 w')∧iu P ops Q L fuel (listed.setIfInBounds i true) a' w') a w
theorem rI {L:List (List Nat × (World→Prop))}:∀ (fuel:Nat) (listed:Array Bool) (a:Act) (w:World),iu P ops Q L fuel listed a w→wpAny P .any ops Q fuel listed a w
 | 0,_,_,_,h=>h
 | fuel+1,_,_,_,h=>⟨h.1,fun i hi=>wpOp_mono (fun a' w' h'=>rI fuel _ a' w' h'.2) (h.2 i hi)⟩
theorem qF {L:List (List Nat × (World→Prop))} {D:List Nat}:∀ (fuel:Nat) (listed:Array Bool) (a:Act) (w:World),iu P ops Q L fuel listed a w→iu P ops Q ((D,fun _=>True) :: L) fuel listed a w
 | 0,_,_,_,h=>h
 | fuel+1,_,_,_,h=>⟨h.1,fun i hi=>wpOp_mono (fun a' w' h'=>⟨h'.1.imp id fun h x hx hn=>by
     rcases av.1 hx with rfl | hx
     ·trivial
     ·exact h x hx hn,qF fuel _ a' w' h'.2⟩) (h.2 i hi)⟩
theorem kR {listed:Array Bool} (hc:lY ops listed) {i:Nat} (hi:i ∈ Region.ready .any ops listed):lY ops (listed.setIfInBounds i true):=by
 intro j o ho hj x hx hb
 obtain ⟨_,oi,hoi,hall⟩:=mem_ready.1 hi
 by_cases hij:i=j
 ·subst hij
  rw [hoi] at ho
  cases ho
  exact getD_set_true (hall x hx hb)
 ·rw [getD_set_ne false hij] at hj
  exact getD_set_true (hc j o ho hj x hx hb)
theorem rJ {listed:Array Bool} {i:Nat} (hi:i ∈ Region.ready .any ops listed):listed.getD i false=false:=by
 have h0:=(mem_ready.1 hi).1
 cases hg:listed[i]? with
 | none=>simp [hg]
 | some b=>simp [hg] at h0 ⊢; exact h0
theorem nY {i:Nat} {oi:Oper} {v:Value} {G:World→Prop} {L:List (List Nat × (World→Prop))} (hi:ops[i]? = some oi)
    (hsel:∀ (j:Nat) (o:Oper) cs b,ops[j]? = some o→o.op ≠ .select cs b) (hQ:∀ c a w,Q (.panic c) (a.put oi.dst v) w→Q (.panic c) a w) :
    ∀ (fuel:Nat) (listed:Array Bool) (a:Act) (w:World),lY ops listed →
     (∀ j oj,ops[j]? = some oj→j≠i→listed.getD j true=false→(∀ e ∈ oj.after,Region.binds .any e=true→e.on≠i)→oi.apart ops oj=true) →
     i ∈ Region.ready .any ops listed→YieldsIf P ops G oi v a→G w →
     iu P ops Q ((lX ops i,G) :: L) fuel (listed.setIfInBounds i true) (a.put oi.dst v) w→iu P ops Q L (fuel+1) listed a w:=by
 have weak:∀ (fuel:Nat) (listed:Array Bool) (a:Act) (w:World),iu P ops Q ((lX ops i,G) :: L) fuel listed a w→iu P ops Q L fuel listed a w:=by
  intro fuel
  induction fuel with
  | zero=>exact fun _ _ _ h=>h
  | succ fuel ih=>exact fun listed a w h=>⟨h.1,fun j hj=>wpOp_mono (fun a' w' h'=>⟨h'.1.imp id fun h x hx=>h x (aW _ hx),ih _ _ _ h'.2⟩) (h.2 j hj)⟩
 intro fuel
 induction fuel with
 | zero =>
  intro listed a w _ _ hr hy hG H
  refine ⟨fun h=>(by rw [h] at hr; cases hr),fun j hj => ?_⟩
  by_cases hji:j=i
  ·subst hji; exact hy.wpOp hi hG ⟨.inl rfl,weak _ _ _ _ H⟩
  ·have:=ready_mono hj hji
   rw [H.1] at this
   cases this
 | succ fuel ih =>
  intro listed a w hcl hfree hr hy hG H
  refine ⟨fun h=>(by rw [h] at hr; cases hr),fun j hj => ?_⟩
  by_cases hji:j=i
  ·subst hji; exact hy.wpOp hi hG ⟨.inl rfl,weak _ _ _ _ H⟩
  ·have h1:=H.2 j (ready_mono hj hji)
   obtain ⟨hjun,oj,hoj,hall⟩:=mem_ready.1 hj
   have hcl':=kR hcl hj
   have hnot:∀ e ∈ oj.after,Region.binds .any e=true→e.on≠i:=fun e he hb heq=>by
    have h1:=hall e he hb
    rw [heq,rJ hr] at h1
    cases h1
   have hjd:j ∉ lX ops i:=by
    intro hm
    have h2:=A9 hcl' (i:=i) (by rw [getD_set_ne false hji]; exact rJ hr) j hm
    have hlt:j < listed.size:=by
     rcases aH j listed.size with h' | h'
     ·exact h'
     ·simp [Array.getElem?_eq_none h'] at hjun
    simp [hlt] at h2
   have h2:=wpOp_putIf hoj (hfree j oj hoj hji hjun hnot) (fun cs b=>hsel i oi cs b hi) (fun cs b=>hsel j oj cs b hoj) hQ hy h1
   have hfree':∀ k ok,ops[k]? = some ok→k≠i→(listed.setIfInBounds j true).getD k true=false →
       (∀ e ∈ ok.after,Region.binds .any e=true→e.on≠i)→oi.apart ops ok=true:=fun k ok hk hki hun hno=>by
    refine hfree k ok hk hki ?_ hno
    by_cases hjk:j=k
    ·subst hjk; exact hjun
    ·rw [getD_set_ne true hjk] at hun; exact hun
   refine wpOp_mono (fun a' w' h3 => ?_) h2
   obtain ⟨h3,h4,h5⟩:=h3
   have hG':G w':=by
    rcases h4 with h4 | h4
    ·rw [h4]; exact hG
    ·exact h4 (lX ops i,G) (aK ..) hjd
   refine ⟨h4.imp id fun h x hx=>h x (aW _ hx),ih (listed.setIfInBounds j true) a' w' hcl' hfree' (ready_mono hr (Ne.symm hji)) h3 hG' ?_⟩
   rw [Array.setIfInBounds_comm _ _ hji]
   exact h5
end draw
inductive DT where
 | done
 | free (i:Nat) (t:DT)
 | read (i:Nat) (t:DT)
 | eff (j:Nat) (ks:List Nat) (t:DT)
 | alt (a b:DT)
def sq:List Nat→DT→DT
 | [],t=>t
 | i :: l,t => .free i (sq l t)
def DT.sz:DT→Nat
 | .done=>1
 | .free _ t | .read _ t | .eff _ _ t=>t.sz+1
 | .alt a b=>a.sz+b.sz+1
def lZ:DT→List Nat
 | .eff j _ _=>[j]
 | .alt a b=>lZ a++lZ b
 | _=>[]
def ld (P:Program) (o:Oper):Bool:=vC o.op || nW P o.op
def rK (P:Program) (o:Oper):Bool:=vD o.op || nX P o.op
def iv (P:Program) (ops:Array Oper):Bool→DT→Nat→Array Bool→List Nat→Bool
 | _,.done,_,listed,_=>(Region.ready .any ops listed).isEmpty
 | _,.free i t,fuel+1,listed,rs=>(match ops[i]? with | some o=>ld P o | none=>false) &&
     (Region.ready .any ops listed).contains i && Region.free .any ops listed i && iv P ops true t fuel (listed.setIfInBounds i true) rs
 | _,.read i t,fuel+1,listed,rs=>(match ops[i]? with | some o=>rK P o | none=>false) &&
     (Region.ready .any ops listed).contains i && Region.free .any ops listed i && iv P ops true t fuel (listed.setIfInBounds i true) (i :: rs)
 | top,.eff j ks t,fuel+1,listed,rs=>(!top || (Region.ready .any ops listed).all (· == j) && !(Region.ready .any ops listed).isEmpty) &&
     rs.all (fun i=>(lX ops i).contains j || ks.contains i) && iv P ops true t fuel (listed.setIfInBounds j true) rs
 | top,.alt a b,fuel+1,listed,rs=>(!top || (Region.ready .any ops listed).all (fun i=>(lZ a).contains i || (lZ b).contains i) && !(Region.ready .any ops listed).isEmpty) &&
     iv P ops false a (fuel+1) listed rs && iv P ops false b (fuel+1) listed rs
 | _,_,0,_,_=>false
def jC (P:Program) (ops:Array Oper) (o:Oper) (e:de) (k:aq) (w:World):Prop :=
 if yn ops e o.guard then ir P o e k w else k undef w
def nZ (ks:List Nat):List (Nat × (World→Prop))→World→Prop
 | [],_=>True
 | (i,G) :: L,w=>(if ks.contains i then G w else True)∧nZ ks L w
def wM (P:Program) (ops:Array Oper):DT→List (Nat × (World→Prop))→de→(de→World→Prop)→World→Prop
 | .done,_,e,K,w=>K e w
 | .free i t,L,e,K,w=>match ops[i]? with
  | some o=>jC P ops o e (fun v w'=>wM P ops t L (put e o.dst v) K w') w
  | none=>False
 | .read i t,L,e,K,w=>match ops[i]? with
  | some o=>jC P ops o e (fun v w'=>wM P ops t ((i,fun w2=>jC P ops o e (fun v2 _=>v2=v) w2) :: L) (put e o.dst v) K w') w
  | none=>False
 | .eff j ks t,L,e,K,w=>match ops[j]? with
  | some o=>jC P ops o e (fun v w'=>nZ ks L w'∧wM P ops t L (put e o.dst v) K w') w
  | none=>False
 | .alt a b,L,e,K,w=>wM P ops a L e K w∧wM P ops b L e K w
section drawn
variable {P:Program} {ops:Array Oper}
theorem BA {o:Oper} (hp:(ld P o || rK P o)=true) (hn:∀ x,o.op ≠ .nilCheck x) (ρ:Operand→Value) (w:World) :
    (∃ v w',(execOp ρ o).run P w = .ok (.value v) w')∨(∃ h w',(execOp ρ o).run P w = .halt h w'):=by
 have key:∀ s:Sem Value,(∃ v w',(do pure (.value (← s)):Sem Next).run P w = .ok (.value v) w')∨(∃ h w',(do pure (.value (← s)):Sem Next).run P w = .halt h w'):=by
  intro s
  rw [Sem.run_bind]
  cases s.run P w with
  | ok v w'=>exact .inl ⟨v,w',rfl⟩
  | halt h w'=>exact .inr ⟨h,w',rfl⟩
 obtain ⟨dst,op,type,pos,after,guard⟩:=o
 cases op <;> simp only [ld,rK,vC,nW,vD,nX,Bool.or_self,Bool.false_eq_true] at hp <;> first
  | exact key _
  | exact .inl ⟨_,_,rfl⟩
  | skip
 case pick c a b =>
  simp only [execOp,Sem.run_bind]
  cases h:(asBool (ρ c)).run P w with
  | ok v w'=>exact .inl ⟨_,_,rfl⟩
  | halt h w'=>exact .inr ⟨_,_,rfl⟩
 case nilCheck x=>exact absurd rfl (hn x)
 case call c =>
  obtain ⟨callee,args,ats⟩:=c
  cases callee with
  | value f=>simp at hp
  | invoke r m=>simp at hp
  | builtin b =>
   cases b <;> first | (simp at hp; done) | exact key _
theorem tz {o:Oper} {e:de} {k:aq} {w:World} (hp:(ld P o || rK P o)=true) (h:ir P o e k w) :
    ∃ v,k v w∧(execOp (ev e) o).run P w = .ok (.value v) w∧(ld P o=true→∀ (w':World),(execOp (ev e) o).run P w' = .ok (.value v) w') ∧
     (∀ (k':aq),k' v w→ir P o e k' w):=by
 have pin:∀ (v:Value) (w:World),ir P o e (fun v' w'=>v'=v∧w'=w) w→(execOp (ev e) o).run P w = .ok (.value v) w:=by
  intro v w h
  by_cases hn:∃ x,o.op = .nilCheck x
  ·obtain ⟨x,hx⟩:=hn
   have h':=h
   unfold ir at h'
   simp only [hx] at h'
   obtain ⟨v',hr,hv,_⟩:=wY (P:=P) (w:=w) hx h'
   rw [hr,hv]
  ·have h1:=vB h
   rcases BA hp (fun x hx=>hn ⟨x,hx⟩) (ev e) w with ⟨v',w',hr⟩ | ⟨x,w',hr⟩
   ·rw [hr] at h1 ⊢
    obtain ⟨rfl,rfl⟩:=h1
    rfl
   ·rw [hr] at h1
    exact h1.elim
 rw [Bool.or_eq_true] at hp
 by_cases hf:ld P o=true
 ·obtain ⟨v,hk,hv⟩:=C5 hf h
  exact ⟨v,hk,pin v w (hv w _ ⟨rfl,rfl⟩),fun _ w'=>pin v w' (hv w' _ ⟨rfl,rfl⟩),fun k' h=>hv w k' h⟩
 ·obtain ⟨v,hk,hv⟩:=C6 (hp.resolve_left hf) h
  exact ⟨v,hk,pin v w (hv _ ⟨rfl,rfl⟩),fun h=>absurd h hf,fun k' h=>hv k' h⟩
theorem BB {N:Nat} {Q:Exit→Act→World→Prop} {i:Nat} {o:Oper} {a:Act} {w:World} {k:aq} {K:Act→World→Prop} (ho:ops[i]? = some o) (hs:a.tmps.size=N) (hops:ops.toList.all (jY N)=true)
    (h:jC P ops o (fA a) k w) (hk:∀ v w',k v w'→K (a.put o.dst v) w'):wpOp P ops Q i K a w:=by
 unfold jC at h
 unfold wpOp
 simp only [ho]
 rw [gf hs hops] at h
 split
 ·rename_i hw
  rw [if_pos hw] at h
  refine .inl ?_
  have h1:=vB h
  rw [lW] at h1
  unfold Oper.wp Oper.upon
  unfold ez at h1
  split at h1
  ·rename_i v w' hr; rw [hr]; exact hk _ _ h1
  ·rename_i w' hr; rw [hr]; exact hk _ _ h1
  ·rename_i f args w' hr
   rw [hr]
   refine Calls.mono h1 ?_
   rintro en w'' ⟨v,rfl,h2⟩
   exact hk _ _ h2
  ·exact h1.elim
 ·rename_i hw
  rw [if_neg hw] at h
  exact hk _ _ h
theorem qG {N:Nat} {o:Oper} {a:Act} {w:World} {k:aq} (hs:a.tmps.size=N) (hops:ops.toList.all (jY N)=true) (hp:(ld P o || rK P o)=true)
    (h:jC P ops o (fA a) k w):∃ v,k v w∧jC P ops o (fA a) (fun v2 _=>v2=v) w∧YieldsIf P ops (fun w2=>jC P ops o (fA a) (fun v2 _=>v2=v) w2) o v a ∧
     (ld P o=true→YieldsIf P ops (fun _=>True) o v a):=by
 unfold jC at h
 rw [gf hs hops] at h
 cases hw:Region.wanted o (yielded ops a.tmps) with
 | false =>
  rw [hw,if_neg (by simp)] at h
  refine ⟨undef,h,?_,.inr ⟨hw,rfl⟩,fun _ => .inr ⟨hw,rfl⟩⟩
  unfold jC
  rw [gf hs hops,hw,if_neg (by simp)]
 | true =>
  rw [hw,if_pos rfl] at h
  obtain ⟨v,hk,hr,hfree,hsame⟩:=tz hp h
  rw [lW] at hr hfree
  refine ⟨v,hk,?_,.inl ⟨hw,fun w2 h2 => ?_⟩,fun hf => .inl ⟨hw,fun w2 _=>hfree hf w2⟩⟩
  ·unfold jC
   rw [gf hs hops,hw,if_pos rfl]
   exact hsame _ rfl
  ·unfold jC at h2
   rw [gf hs hops,hw,if_pos rfl] at h2
   obtain ⟨v2,hv2,hr2,_⟩:=tz hp h2
   rw [lW,hv2] at hr2
   exact hr2
theorem rL {ks:List Nat}:∀ {L:List (Nat × (World→Prop))} {w:World},nZ ks L w→∀ x ∈ L,ks.contains x.1=true→x.2 w
 | (i,G) :: L,w,⟨h1,h2⟩,x,hx,hc=>by
   rcases av.1 hx with rfl | hx
   ·simp only [hc,if_true] at h1; exact h1
   ·exact rL h2 x hx hc
theorem BD {N:Nat} (hops:ops.toList.all (jY N)=true) (hns:Region.noSelect ops=true) {Q:Exit→de→World→Prop} :
    ∀ (t:DT) (fuel:Nat) (listed:Array Bool) (L:List (Nat × (World→Prop))),iv P ops true t fuel listed (L.map (·.1))=true→lY ops listed →
     ∀ (a:Act) (w:World),a.tmps.size=N→a.defers=[]→wM P ops t L (fA a) (fun e w=>Q .normal e w) w →
      iu P ops (rH N Q) (L.map fun x=>(lX ops x.1,x.2)) fuel listed a w:=by
 have hdst:∀ {i:Nat} {o:Oper},ops[i]? = some o→jY N o=true:=by
  intro i o ho
  rw [← Array.getElem?_toList] at ho
  exact List.all_eq_true.1 hops o (aO ho)
 have arms:∀ (t:DT) (fuel:Nat) (listed:Array Bool) (L:List (Nat × (World→Prop))) (a:Act) (w:World),
     (∀ (t':DT),t'.sz < t.sz→∀ (fuel:Nat) (listed:Array Bool) (L:List (Nat × (World→Prop))),iv P ops true t' fuel listed (L.map (·.1))=true→lY ops listed →
      ∀ (a:Act) (w:World),a.tmps.size=N→a.defers=[]→wM P ops t' L (fA a) (fun e w=>Q .normal e w) w →
      iu P ops (rH N Q) (L.map fun x=>(lX ops x.1,x.2)) fuel listed a w) →
     iv P ops false t (fuel+1) listed (L.map (·.1))=true→lY ops listed→a.tmps.size=N→a.defers=[]→wM P ops t L (fA a) (fun e w=>Q .normal e w) w →
     ∀ j ∈ lZ t,j ∈ Region.ready .any ops listed →
      wpOp P ops (rH N Q) j (fun a' w'=>(w'=w∨∀ x ∈ L.map (fun x=>(lX ops x.1,x.2)),j ∉ x.1→x.2 w')∧iu P ops (rH N Q) (L.map fun x=>(lX ops x.1,x.2)) fuel (listed.setIfInBounds j true) a' w') a w:=by
  intro t
  induction t with
  | eff j ks t _ =>
   intro fuel listed L a w ih hc hcl hs hd h j' hj' hr
   simp only [lZ,aM] at hj'
   subst hj'
   simp only [iv,Bool.not_false,Bool.true_or,Bool.true_and,bq] at hc
   unfold wM at h
   split at h
   ·rename_i o ho
    refine BB ho hs hops h ?_
    intro v w' ⟨hp,hk⟩
    refine ⟨.inr fun x hx hn => ?_,?_⟩
    ·obtain ⟨y,hy,rfl⟩:=bj.1 hx
     refine rL hp y hy ?_
     have:=List.all_eq_true.1 hc.1 y.1 (List.mem_map_of_mem hy)
     rw [Bool.or_eq_true,List.contains_iff_mem] at this
     exact this.resolve_left hn
    ·refine ih t (by simp [DT.sz]) fuel _ L hc.2 (kR hcl hr) _ _ (by rw [jP,hs]) (by rw [gW,hd]) ?_
     rw [iG o v (hdst ho) hs]
     exact hk
   ·exact h.elim
  | alt x y ihx ihy =>
   intro fuel listed L a w ih hc hcl hs hd h j hj hr
   simp only [iv,Bool.not_false,Bool.true_or,Bool.true_and,bq] at hc
   simp only [wM] at h
   simp only [lZ,aS] at hj
   rcases hj with hj | hj
   ·exact ihx fuel listed L a w (fun t' ht'=>ih t' (by simp only [DT.sz]; omega)) hc.1 hcl hs hd h.1 j hj hr
   ·exact ihy fuel listed L a w (fun t' ht'=>ih t' (by simp only [DT.sz]; omega)) hc.2 hcl hs hd h.2 j hj hr
  | _=>intro fuel listed L a w _ _ _ _ _ _ j hj; simp [lZ] at hj
 have main:∀ (n:Nat) (t:DT),t.sz≤n→∀ (fuel:Nat) (listed:Array Bool) (L:List (Nat × (World→Prop))),iv P ops true t fuel listed (L.map (·.1))=true→lY ops listed →
     ∀ (a:Act) (w:World),a.tmps.size=N→a.defers=[]→wM P ops t L (fA a) (fun e w=>Q .normal e w) w →
      iu P ops (rH N Q) (L.map fun x=>(lX ops x.1,x.2)) fuel listed a w:=by
  intro n
  induction n with
  | zero=>intro t ht; cases t <;> simp [DT.sz] at ht
  | succ n ih =>
   intro t ht fuel listed L hc hcl a w hs hd h
   cases t with
   | done =>
    have hr:Region.ready .any ops listed=[]:=by simpa [iv] using hc
    cases fuel with
    | zero=>exact ⟨hr,hs,hd,h⟩
    | succ f=>exact ⟨fun _=>⟨hs,hd,h⟩,by rw [hr]; simp⟩
   | free i t =>
    cases fuel with
    | zero=>simp [iv] at hc
    | succ f =>
     simp only [iv,bq] at hc
     obtain ⟨⟨⟨h1,h2⟩,h3⟩,h4⟩:=hc
     unfold wM at h
     split at h
     ·rename_i o ho
      simp only [ho] at h1
      obtain ⟨v,hk,_,_,hy⟩:=qG hs hops (by rw [h1]; rfl) h
      refine nY ho (Region.noSelect_spec hns) (fun _ _ _ h=>h) f listed a w hcl (Region.free_spec ho h3) (by simpa using h2) (hy h1) trivial ?_
      refine qF _ _ _ _ (ih t (by simp only [DT.sz] at ht; omega) f _ L h4 (kR hcl (by simpa using h2)) _ _ (by rw [jP,hs]) (by rw [gW,hd]) ?_)
      rw [iG o v (hdst ho) hs]
      exact hk
     ·exact h.elim
   | read i t =>
    cases fuel with
    | zero=>simp [iv] at hc
    | succ f =>
     simp only [iv,bq] at hc
     obtain ⟨⟨⟨h1,h2⟩,h3⟩,h4⟩:=hc
     unfold wM at h
     split at h
     ·rename_i o ho
      simp only [ho] at h1
      obtain ⟨v,hk,hG,hy,_⟩:=qG hs hops (by rw [h1,Bool.or_true]) h
      refine nY ho (Region.noSelect_spec hns) (fun _ _ _ h=>h) f listed a w hcl (Region.free_spec ho h3) (by simpa using h2) hy hG ?_
      refine ih t (by simp only [DT.sz] at ht; omega) f _ ((i,fun w2=>jC P ops o (fA a) (fun v2 _=>v2=v) w2) :: L) h4 (kR hcl (by simpa using h2)) _ _ (by rw [jP,hs]) (by rw [gW,hd]) ?_
      rw [iG o v (hdst ho) hs]
      exact hk
     ·exact h.elim
   | eff j ks t =>
    cases fuel with
    | zero=>simp [iv] at hc
    | succ f =>
     have hc':=hc
     simp only [iv,Bool.not_true,Bool.false_or,bq] at hc'
     refine ⟨fun hr => ?_,fun i hi => ?_⟩
     ·have:=hc'.1.1.2; simp [hr] at this
     ·have hij:i=j:=by simpa using List.all_eq_true.1 hc'.1.1.1 i hi
      exact arms (.eff j ks t) f listed L a w (fun t' ht'=>ih t' (by omega)) (by simp only [iv,Bool.not_false,Bool.true_or,Bool.true_and,bq]; exact ⟨hc'.1.2,hc'.2⟩) hcl hs hd h i (by simp [lZ,hij]) hi
   | alt x y =>
    cases fuel with
    | zero=>simp [iv] at hc
    | succ f =>
     have hc':=hc
     simp only [iv,Bool.not_true,Bool.false_or,bq] at hc'
     refine ⟨fun hr => ?_,fun i hi => ?_⟩
     ·have:=hc'.1.1.2; simp [hr] at this
     ·have hij:i ∈ lZ (.alt x y):=by simpa [lZ] using List.all_eq_true.1 hc'.1.1.1 i hi
      exact arms (.alt x y) f listed L a w (fun t' ht'=>ih t' (by omega)) (by simp only [iv,Bool.not_false,Bool.true_or,Bool.true_and,bq]; exact ⟨hc'.1.2,hc'.2⟩) hcl hs hd h i hij hi
 exact fun t=>main _ t (aF _)
theorem Ir {N:Nat} {id:Nat} {Q:Exit→de→World→Prop} {e:de} {w:World} (t:DT) (hm:P.follows .mixedOrders=true) (hops:ops.toList.all (jY N)=true)
    (hns:Region.noSelect ops=true) (hc:iv P ops true t ops.size (Array.replicate ops.size false) []=true)
    (h:wM P ops t [] e (fun e w=>Q .normal e w) w.drew):Io N P (.region id ops true) Q e w:=by
 intro a hs hd he
 subst he
 refine wp_region_any hm (rI (L:=[]) _ _ _ _ ?_)
 refine BD hops hns t _ _ [] hc ?_ a w.drew hs hd h
 intro j o ho hj
 rw [Array.getD_eq_getD_getElem?,Array.getElem?_replicate] at hj
 split at hj <;> simp at hj
end drawn
end Go.E
