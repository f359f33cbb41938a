/- Parts of the proof: Sb, Sc. -/
import Derived.Sort.LotD7
import Derived.Sort.Walk13a
import Derived.Test.YtjcbeinpkafjiaaGreatU05
set_option linter.all false
section
set_option maxRecDepth 10000
namespace Go.Proofs
open Go Go.E Go.Sort Go.Proofs.Tryz
section
variable {recv:Value} {α:Type} [Inhabited α] {lt:α→α→Bool} {N0:Nat} {R:World→Array α→Prop} {k:Kont} {w:World} {d:Array α}
theorem swapF (S:Srt prog recv lt N0 R) {x y:Int} (i j:Nat) (h:R w d) (hx:x=i) (hy:y=j) (hi:i < d.size) (hj:j < d.size)
    (hk:∀ w',R w' (swp d i j)→w.heap.size≤w'.heap.size→(∀ b,N0≤b→b < w.heap.size→w'.heap[b]? = w.heap[b]?)→k (.tuple #[]) w') :
    invokeE prog recv "Swap" #[.int .i64 x, .int .i64 y] k w := by
 subst hx; subst hy; exact S.swap' h hi hj hk
theorem bitsLen_shift {x s:Nat} (h:2 ^ s≤x):bitsLen x=s+bitsLen (x / 2 ^ s):=by
 have hx:=lt_two_pow_bitsLen x
 have hy:=lt_two_pow_bitsLen (x / 2 ^ s)
 have hp:0 < 2 ^ s:=Nat.two_pow_pos s
 apply Nat.le_antisymm
 ·rw [bitsLen_le_iff,Nat.pow_add]
  rw [Nat.mul_comm]; exact (Nat.div_lt_iff_lt_mul hp).1 hy
 ·have hs:s≤bitsLen x:=by
    rcases Nat.lt_or_ge (bitsLen x) s with h' | h'
    ·have:=Nat.pow_lt_pow_right (by decide:1 < 2) h'
     omega
    ·exact h'
  have:bitsLen (x / 2 ^ s)≤bitsLen x - s:=by
   rw [bitsLen_le_iff]
   rw [Nat.div_lt_iff_lt_mul hp,← Nat.pow_add,Nat.sub_add_cancel hs]
   exact hx
  omega
theorem shrN (x:Nat) {s:Int} {n m:Nat} (h:min s.toNat m=n):((x:Int)).fdiv (2 ^ min s.toNat m)=((x / 2 ^ n:Nat):Int):=by
 rw [h,Int.fdiv_eq_ediv_of_nonneg _ (by exact_mod_cast Nat.zero_le _)]
 simp
theorem indexE9 {S:ByteArray} {u:Nat} {q:Value→Prop} (hS:(List.range 256).all (fun i=>S.size == 256 && (S[i]?.getD 0).toNat == bitsLen i)=true) (hu:u < 256) :
    indexE prog 9 (.string S) (.int .u8 u) q=q (.int .u8 (bitsLen u)):=by
 have h:=List.all_eq_true.1 hS u (List.mem_range.2 hu)
 simp only [Bool.and_eq_true,beq_iff_eq] at h
 simp only [indexE,Tryz.underlying9,guardE,h.1,Int.toNat_natCast,h.2]
 have:(0:Int)≤u∧(u:Int) < (256:Nat):=by omega
 exact propext ⟨fun h=>h.2,fun h=>⟨this,h⟩⟩
theorem Len64_run {x:Nat} (hx:x < 18446744073709551616) (hk:k (.int .i64 (bitsLen x)) w):callK prog 149 #[.int .u64 x] k w:=by
 refine callZ [.tmp 2] func149 ?_
 refine goZ ?_
 refine cutX (fun y:Nat × Nat=>[(0,.int .u64 y.1),(2,.int .i64 y.2)]) (fun y w'=>w'=w∧y.1 < 4294967296∧y.2≤32∧bitsLen x=y.2+bitsLen y.1) (by kernel_rfl) (by kernel_rfl) (fun K hK => ?_) ?_
 ·by_cases h:4294967296≤x
  ·have h':(4294967296:Int)≤x:=by omega
   have h0:(0:Int)≤32:=by decide
   simp (disch:=first | exact dZ | fail) only [go_sem,↓reduceIte,Nat.reduceEqDiff,Nat.reduceAdd,h',binE_shr h0]
   refine hK _ _ (x / 2 ^ 32,0+32) ?_ ⟨rfl,by simp only; omega,by simp only; omega,?_⟩
   ·simp (disch:=first | exact dZ | fail) only [go_sem,↓reduceIte,Nat.reduceEqDiff,Nat.reduceAdd,shrN x (show min (Int.toNat 32) 64=32 from rfl)]
    exact agZ
   ·have:=bitsLen_shift (show 2 ^ 32≤x from h)
    simp only; omega
  ·have h':¬ (4294967296:Int)≤x:=by omega
   refine gY1 @h' ?_
   refine hK _ _ (x,0) ?_ ⟨rfl,by simp only; omega,by simp only; omega,by simp only; omega⟩
   exact agZ
 rintro e1 ⟨y,n⟩ w1 ⟨hw,h1,h2,h3⟩
 have hw:=hw.symm
 subst hw
 simp only at h1 h2 h3
 refine goZ ?_
 refine cutX (fun y:Nat × Nat=>[(0,.int .u64 y.1),(2,.int .i64 y.2)]) (fun y w'=>w'=w∧y.1 < 65536∧y.2≤48∧bitsLen x=y.2+bitsLen y.1) (by kernel_rfl) (by kernel_rfl) (fun K hK => ?_) ?_
 ·by_cases h:65536≤y
  ·have h':(65536:Int)≤y:=by omega
   have h0:(0:Int)≤16:=by decide
   simp (disch:=first | exact dZ | fail) only [go_sem,↓reduceIte,Nat.reduceEqDiff,Nat.reduceAdd,h',binE_shr h0]
   refine hK _ _ (y / 2 ^ 16,n+16) ?_ ⟨rfl,by simp only; omega,by simp only; omega,?_⟩
   ·simp (disch:=first | exact dZ | fail) only [go_sem,↓reduceIte,Nat.reduceEqDiff,Nat.reduceAdd,shrN y (show min (Int.toNat 16) 64=16 from rfl)]
    exact agZ
   ·have:=bitsLen_shift (show 2 ^ 16≤y from h)
    simp only; omega
  ·have h':¬ (65536:Int)≤y:=by omega
   refine gY1 @h' ?_
   refine hK _ _ (y,n) ?_ ⟨rfl,by simp only; omega,by simp only; omega,by simp only; omega⟩
   exact agZ
 rintro e1 ⟨z,m⟩ w1 ⟨hw,g1,g2,g3⟩
 have hw:=hw.symm
 subst hw
 simp only at g1 g2 g3
 refine goZ ?_
 refine cutX (fun y:Nat × Nat=>[(0,.int .u64 y.1),(2,.int .i64 y.2)]) (fun y w'=>w'=w∧y.1 < 256∧y.2≤56∧bitsLen x=y.2+bitsLen y.1) (by kernel_rfl) (by kernel_rfl) (fun K hK => ?_) ?_
 ·by_cases h:256≤z
  ·have h':(256:Int)≤z:=by omega
   have h0:(0:Int)≤8:=by decide
   simp (disch:=first | exact dZ | fail) only [go_sem,↓reduceIte,Nat.reduceEqDiff,Nat.reduceAdd,h',binE_shr h0]
   refine hK _ _ (z / 2 ^ 8,m+8) ?_ ⟨rfl,by simp only; omega,by simp only; omega,?_⟩
   ·simp (disch:=first | exact dZ | fail) only [go_sem,↓reduceIte,Nat.reduceEqDiff,Nat.reduceAdd,shrN z (show min (Int.toNat 8) 64=8 from rfl)]
    exact agZ
   ·have:=bitsLen_shift (show 2 ^ 8≤z from h)
    simp only; omega
  ·have h':¬ (256:Int)≤z:=by omega
   refine gY1 @h' ?_
   refine hK _ _ (z,m) ?_ ⟨rfl,by simp only; omega,by simp only; omega,by simp only; omega⟩
   exact agZ
 rintro e1 ⟨u,l⟩ w1 ⟨hw,q1,q2,q3⟩
 have hw:=hw.symm
 subst hw
 simp only at q1 q2 q3
 refine goZ ?_
 have hu:IntKind.u8.wrap (u:Int)=u:=IntWalk.u8_in u ⟨by omega,by omega⟩
 rw [hu,indexE9 (by kernel_rfl) q1]
 have hb:bitsLen u≤8:=(bitsLen_le_iff u 8).2 q1
 have q3:((bitsLen x:Nat):Int)=l+bitsLen u:=by omega
 refine goZ ?_
 rwa [← q3]
theorem Len_run {x:Nat} (hx:x < 18446744073709551616) (hk:k (.int .i64 (bitsLen x)) w):callK prog 137 #[.int .u64 x] k w:=by
 refine callZ [.tmp 2] func137 ?_
 refine goZ ?_
 refine Len64_run hx ?_
 refine goZ ?_
 exact hk
theorem nextPowerOfTwo_run {x:Nat} (hx:x < 4611686018427387904) (hk:k (.int .u64 (1 <<< bitsLen x:Nat)) w):callK prog 161 #[.int .i64 x] k w:=by
 have e1:IntKind.u64.wrap (x:Int)=x:=IntWalk.u64_in _ ⟨by omega,by omega⟩
 have hb:bitsLen x≤62:=(bitsLen_le_iff x 62).2 (by omega)
 have e2:IntKind.u64.wrap ((bitsLen x:Nat):Int)=(bitsLen x:Nat):=IntWalk.u64_in _ ⟨by omega,by omega⟩
 refine callZ [.tmp 2] func161 ?_
 refine gY1 @e1 ?_
 refine Len_run (by omega) ?_
 have h0:(0:Int)≤(bitsLen x:Nat):=by omega
 simp (disch:=first | exact dZ | fail) only [go_sem,↓reduceIte,Nat.reduceEqDiff,Nat.reduceAdd,e2,binE_shl h0]
 obtain ⟨m,hm⟩:∃ m,m=2 ^ bitsLen x:=⟨_,rfl⟩
 have hp:m≤2 ^ 62:=by rw [hm]; exact Nat.pow_le_pow_right (by decide) hb
 have e3:IntKind.u64.wrap (1 * 2 ^ min (bitsLen x) 64)=((1 <<< bitsLen x:Nat):Int):=by
  rw [Nat.min_eq_left (by omega),Nat.one_shiftLeft,← hm]
  rw [show (1:Int) * 2 ^ bitsLen x=(m:Int) by rw [hm]; simp]
  exact IntWalk.u64_in _ ⟨by omega,by omega⟩
 refine gY1 @e3 ?_
 exact hk
theorem xorV {a b:Nat} (ha:a < 18446744073709551616) (hb:b < 18446744073709551616) :
    IntKind.u64.wrap ((BitVec.ofInt 64 (a:Int) ^^^ BitVec.ofInt 64 (b:Int)).toNat:Int)=((a ^^^ b:Nat):Int):=by
 have h:(BitVec.ofInt 64 (a:Int) ^^^ BitVec.ofInt 64 (b:Int)).toNat=a ^^^ b:=by
  rw [BitVec.toNat_xor,BitVec.toNat_ofInt,BitVec.toNat_ofInt]
  congr 1 <;> omega
 have hx:a ^^^ b < 2 ^ 64:=Nat.xor_lt_two_pow (by omega) (by omega)
 rw [h]
 exact IntWalk.u64_in _ ⟨by omega,by omega⟩
theorem binE_xorN {P:Program} {a b c:Nat} {t:TypeId} {xo yo:Operand} {q:Value→Prop} (ha:a < 18446744073709551616) (hb:b < 18446744073709551616) (hc:a ^^^ b=c) :
    binE P .xor t xo yo (.int .u64 a) (.int .u64 b) q=q (.int .u64 (c:Nat)):=by
 rw [binE_xor,← hc,← xorV ha hb]; rfl
theorem shlV {a n m:Nat} {s:Int} (h:min s.toNat 64=n) (hm:2 ^ n=m):IntKind.u64.wrap ((a:Int) * 2 ^ min s.toNat 64)=((a * m % 18446744073709551616:Nat):Int):=by
 rw [h,IntKind.wrap_u64,← hm]
 simp
theorem shrV {a n m:Nat} {s:Int} (h:min s.toNat 64=n) (hm:2 ^ n=m):((a:Int)).fdiv (2 ^ min s.toNat 64)=((a / m:Nat):Int):=by
 rw [shrN a h,hm]
theorem xorNext_run {B:Nat} {r:UInt64} (hc:w.cell? ⟨B,0,none⟩=some (.int .u64 r.toNat)) (hf:w.frozen? ⟨B,0,none⟩=false)
    (hk:∀ w',(∀ Q:World→Prop,Q w→(∀ w,Q w→Q w.drew)→(∀ w o v,Q w→Q (w.setCell ⟨B,o,none⟩ v))→Q w')→w'.cell? ⟨B,0,none⟩=some (.int .u64 (xorNext r).toNat)→w'.frozen? ⟨B,0,none⟩=false →
     k (.int .u64 (xorNext r).toNat) w'):callK prog 162 #[.pointer (some ⟨B,0,none⟩)] k w:=by
 have hr:r.toNat < 18446744073709551616:=r.toNat_lt
 obtain ⟨x,hx⟩:∃ x,x=r.toNat:=⟨_,rfl⟩
 rw [← hx] at hc hr
 obtain ⟨a,ha⟩:∃ a,a=x ^^^ (x * 8192 % 18446744073709551616):=⟨_,rfl⟩
 have ha2:a < 2 ^ 64:=by rw [ha]; exact Nat.xor_lt_two_pow (by omega) (by omega)
 obtain ⟨b,hb⟩:∃ b,b=a ^^^ (a / 128):=⟨_,rfl⟩
 have hb2:b < 2 ^ 64:=by rw [hb]; exact Nat.xor_lt_two_pow ha2 (by omega)
 obtain ⟨c,hcc⟩:∃ c,c=b ^^^ (b * 131072 % 18446744073709551616):=⟨_,rfl⟩
 have hc2:c < 2 ^ 64:=by rw [hcc]; exact Nat.xor_lt_two_pow hb2 (by omega)
 have hfin:(xorNext r).toNat=c:=by rw [xorNext_toNat,← hx,hcc,hb,ha]; rfl
 rw [hfin] at hk
 have s1:=fun {P:Program} {t:TypeId} {xo yo:Operand} {q:Value→Prop}=>binE_xorN (P:=P) (t:=t) (xo:=xo) (yo:=yo) (q:=q) hr (Nat.mod_lt (x * 8192) (by decide)) ha.symm
 have s2:=fun {P:Program} {t:TypeId} {xo yo:Operand} {q:Value→Prop}=>binE_xorN (P:=P) (t:=t) (xo:=xo) (yo:=yo) (q:=q) (b:=a / 128) ha2 (by omega) hb.symm
 have s3:=fun {P:Program} {t:TypeId} {xo yo:Operand} {q:Value→Prop}=>binE_xorN (P:=P) (t:=t) (xo:=xo) (yo:=yo) (q:=q) hb2 (Nat.mod_lt (b * 131072) (by decide)) hcc.symm
 have z1:=fun a=>shlV (a:=a) (s:=13) (n:=13) (m:=8192) rfl rfl
 have z2:=fun a=>shrV (a:=a) (s:=7) (n:=7) (m:=128) rfl rfl
 have z3:=fun a=>shlV (a:=a) (s:=17) (n:=17) (m:=131072) rfl rfl
 have bits:IntKind.u64.bits=64:=rfl
 refine callZ [.tmp 2] func162 ?_
 refine goZ ?_
 refine drawZ (sq [0,1] (.read 2 (sq [3,4] (.read 5 (sq [6,7,8] (.eff 9 [] .done)))))) ?_
 have h13:(0:Int)≤13:=by decide
 simp (disch:=first | exact dZ | fail) only [go_sem,↓reduceIte,Nat.reduceEqDiff,Nat.reduceAdd,hc,hf,binE_shl h13,bits,z1,s1]
 refine drawZ (sq [0,1] (.read 2 (sq [3,4] (.read 5 (sq [6,7,8] (.eff 9 [] .done)))))) ?_
 have h7:(0:Int)≤7:=by decide
 simp (disch:=first | exact dZ | fail) only [go_sem,↓reduceIte,Nat.reduceEqDiff,Nat.reduceAdd,hc,hf,binE_shr h7,bits,z2,s2]
 refine drawZ (sq [0,1] (.read 2 (sq [3,4] (.read 5 (sq [6,7,8] (.eff 9 [] .done)))))) ?_
 have h17:(0:Int)≤17:=by decide
 simp (disch:=first | exact dZ | fail) only [go_sem,↓reduceIte,Nat.reduceEqDiff,Nat.reduceAdd,hc,hf,binE_shl h17,bits,z3,s3]
 refine hk _ (fun Q h1 h2 h3 => ?_) ?_ ?_
 ·repeat (first | exact h1 | apply h3 | apply h2)
 ·exact eY1 @hc
 ·exact eY1 @hf
theorem andV {a b:Nat} (ha:a < 18446744073709551616) (hb:b < 18446744073709551616) :
    IntKind.u64.wrap ((BitVec.ofInt 64 (a:Int) &&& BitVec.ofInt 64 (b:Int)).toNat:Int)=((a &&& b:Nat):Int):=by
 have h:(BitVec.ofInt 64 (a:Int) &&& BitVec.ofInt 64 (b:Int)).toNat=a &&& b:=by
  rw [BitVec.toNat_and,BitVec.toNat_ofInt,BitVec.toNat_ofInt]
  congr 1 <;> omega
 have hx:a &&& b≤a:=Nat.and_le_left
 rw [h]
 exact IntWalk.u64_in _ ⟨by omega,by omega⟩
theorem binE_andN {P:Program} {a b:Nat} {t:TypeId} {xo yo:Operand} {q:Value→Prop} (ha:a < 18446744073709551616) (hb:b < 18446744073709551616) :
    binE P .and t xo yo (.int .u64 a) (.int .u64 b) q=q (.int .u64 ((a &&& b:Nat):Int)):=by
 rw [binE_and,← andV ha hb]; rfl
def bpRun (a l M:Nat):Nat→Nat→UInt64 × Array α→Array α
 | 0,_,st=>st.2
 | n+1,i,st=>bpRun a l M n (i+1) (breakStep a l M st i)
theorem breakPatterns_eq (d:Array α) {a b:Nat} (h:8≤b - a):breakPatterns d a b=bpRun a (b - a) (1 <<< bitsLen (b - a)) 3 (a+(b - a) / 4 * 2 - 1) (UInt64.ofNat (b - a),d):=by
 unfold breakPatterns
 simp only [ge_iff_le,h,if_true]
 rfl
theorem breakPatterns_run (S:Srt prog recv lt N0 R) {a b:Nat} (hR:R w d) (hab:a≤b) (hb:b≤d.size) (hk:∀ w',R w' (breakPatterns d a b)→k (.tuple #[]) w') :
    callK prog 152 #[recv,.int .i64 a,.int .i64 b] k w:=by
 have hsm:=S.small hR
 have hN:=S.size hR
 refine callZ [] func152 ?_
 by_cases h8:8≤b - a
 ·rw [breakPatterns_eq d h8] at hk
  obtain ⟨l,hl⟩:∃ l,l=b - a:=⟨_,rfl⟩
  have hl2:(b:Int) - a=l:=by omega
  rw [← hl] at hk h8
  have h8':(8:Int)≤l:=by omega
  have e1:IntKind.u64.wrap (l:Int)=l:=IntWalk.u64_in _ ⟨by omega,by omega⟩
  obtain ⟨q,hq⟩:∃ q,q=l / 4:=⟨_,rfl⟩
  rw [← hq] at hk
  have four:(4:Int)≠0:=by decide
  have e2:((l:Int)).tdiv 4=q:=by rw [hq]; exact tdiv_nat l 4
  refine gY3 @hl2 @h8' @e1 ?_
  have e1':((UInt64.ofNat l).toNat:Int)=l:=by
   have:(UInt64.ofNat l).toNat=l % 2 ^ 64:=UInt64.toNat_ofNat' ..
   omega
  refine nextPowerOfTwo_run (x:=l) (by omega) ?_
  obtain ⟨M,hM⟩:∃ M,M=1 <<< bitsLen l:=⟨_,rfl⟩
  have hM1:M≤2 * l:=by rw [hM,Nat.one_shiftLeft]; exact two_pow_bitsLen_le (by omega)
  have hM2:0 < M:=by rw [hM,Nat.one_shiftLeft]; exact Nat.two_pow_pos _
  rw [← hM] at hk ⊢
  simp (disch:=first | exact dZ | fail) only [go_sem,↓reduceIte,Nat.reduceEqDiff,Nat.reduceAdd,binE_quo four,e2]
  refine loopC (fun x:Nat × UInt64 × Array α=>[(0,recv),(1,.int .i64 a),(6,.int .i64 l),(7,.pointer (some ⟨w.heap.size,0,none⟩)),(8,.int .u64 M),(9,.int .i64 (a+q * 2 - 1+(3 - x.1)))])
   (fun x w1=>R w1 x.2.2∧x.2.2.size=d.size∧w1.cell? ⟨w.heap.size,0,none⟩=some (.int .u64 x.2.1.toNat)∧w1.frozen? ⟨w.heap.size,0,none⟩=false∧w.heap.size < w1.heap.size∧x.1≤3∧bpRun a l M x.1 (a+q * 2 - 1+(3 - x.1)) x.2=bpRun a l M 3 (a+q * 2 - 1) (UInt64.ofNat l,d))
   (fun x _=>x.1) (3,UInt64.ofNat l,d) (by kernel_rfl) ?_ ⟨?_,rfl,?_,?_,?_,Nat.le_refl _,by simp⟩ ?_
  ·exact agZ
  ·exact S.alloc _ hR
  ·exact eY1 @e1'
  ·exact agZ
  ·exact agZ
  rintro K e ⟨n,r,d1⟩ w1 ⟨h1,h2,h3,h4,h6,h5,h7⟩ hK
  simp only at h1 h2 h3 h4 h5 h6 h7
  have hq4:q * 4≤l:=by omega
  cases n with
  | zero =>
   have hc:¬ ((a:Int)+q * 2 - 1+(3 - (0:Nat)))≤a+q * 2+1:=by omega
   simp (disch:=first | exact dZ | fail) only [go_sem,↓reduceIte,Nat.reduceEqDiff,Nat.reduceAdd,binE_quo four,e2,hc]
   refine hk _ ?_
   rw [← h7]; exact h1
  | succ n =>
   have hc:((a:Int)+q * 2 - 1+(3 - (n+1:Nat)))≤a+q * 2+1:=by omega
   simp (disch:=first | exact dZ | fail) only [go_sem,↓reduceIte,Nat.reduceEqDiff,Nat.reduceAdd,binE_quo four,e2,hc]
   refine xorNext_run h3 h4 fun w2 hQ g3 g4 => ?_
   have g1:R w2 d1:=hQ (fun w=>R w d1) h1 (fun _ h=>S.drew h) (fun _ _ _ h=>S.set h hN)
   have g6:w.heap.size < w2.heap.size:=hQ (fun w'=>w.heap.size < w'.heap.size) h6 (fun _ h=>h) (fun _ _ _ h=>by rw [World.size_setCell]; exact h)
   obtain ⟨y,hy⟩:∃ y,y=(xorNext r).toNat &&& (M - 1):=⟨_,rfl⟩
   have hy1:y≤M - 1:=by rw [hy]; exact Nat.and_le_right
   have s1:=fun {P:Program} {t:TypeId} {xo yo:Operand} {q:Value→Prop}=>binE_andN (P:=P) (t:=t) (xo:=xo) (yo:=yo) (q:=q) (a:=(xorNext r).toNat) (b:=M - 1) (xorNext r).toNat_lt (by omega)
   have s2:IntKind.u64.wrap ((M:Int) - 1)=((M - 1:Nat):Int):=by rw [IntWalk.u64_in _ ⟨by omega,by omega⟩]; omega
   rw [← hy] at s1
   have z:(breakStep a l M (r,d1) (a+q * 2 - 1+(3 - (n+1))))=(xorNext r,swp d1 (a+q * 2 - 1+(3 - (n+1))) (a+if y ≥ l then y - l else y)):=by
    unfold breakStep; simp only [← hy]
   by_cases hyl:l≤y
   ·have hyl':(l:Int)≤y:=by omega
    refine gY3 @s1 @s2 @hyl' ?_
    refine swapF S (a+q * 2 - 1+(3 - (n+1))) (a+(y - l)) g1 (by omega) (by omega) (by omega) (by omega) fun w3 q1 q2 q3 => ?_
    refine goZ ?_
    refine hK _ _ (n,(xorNext r,swp d1 (a+q * 2 - 1+(3 - (n+1))) (a+(y - l)))) ?_ ⟨q1,by simp [swp,h2],?_,?_,by omega,by simp only; omega,?_⟩ (by simp)
    ·exact agZ
    ·rw [World.cell?_of_block (a:=⟨w.heap.size,0,none⟩) (q3 _ hN g6)]; exact g3
    ·rw [World.frozen?_of_block (a:=⟨w.heap.size,0,none⟩) (q3 _ hN g6)]; exact g4
    ·rw [← h7]
     have:a+q * 2 - 1+(3 - n)=a+q * 2 - 1+(3 - (n+1))+1:=by omega
     show bpRun a l M n _ _=bpRun a l M n (a+q * 2 - 1+(3 - (n+1))+1) (breakStep a l M (r,d1) (a+q * 2 - 1+(3 - (n+1))))
     rw [z,this]
     simp only [ge_iff_le,hyl,if_true,if_false]
   ·have hyl':¬ (l:Int)≤y:=by omega
    refine gY3 @s1 @s2 @hyl' ?_
    refine swapF S (a+q * 2 - 1+(3 - (n+1))) (a+y) g1 (by omega) (by omega) (by omega) (by omega) fun w3 q1 q2 q3 => ?_
    refine goZ ?_
    refine hK _ _ (n,(xorNext r,swp d1 (a+q * 2 - 1+(3 - (n+1))) (a+y))) ?_ ⟨q1,by simp [swp,h2],?_,?_,by omega,by simp only; omega,?_⟩ (by simp)
    ·exact agZ
    ·rw [World.cell?_of_block (a:=⟨w.heap.size,0,none⟩) (q3 _ hN g6)]; exact g3
    ·rw [World.frozen?_of_block (a:=⟨w.heap.size,0,none⟩) (q3 _ hN g6)]; exact g4
    ·rw [← h7]
     have:a+q * 2 - 1+(3 - n)=a+q * 2 - 1+(3 - (n+1))+1:=by omega
     show bpRun a l M n _ _=bpRun a l M n (a+q * 2 - 1+(3 - (n+1))+1) (breakStep a l M (r,d1) (a+q * 2 - 1+(3 - (n+1))))
     rw [z,this]
     simp only [ge_iff_le,hyl,if_true,if_false]
 ·have h8':¬ (8:Int)≤(b:Int) - a:=by omega
  refine gY1 @h8' ?_
  refine hk _ ?_
  unfold breakPatterns
  simpa only [ge_iff_le,h8,if_false] using hR
end
end Go.Proofs
end
section
set_option maxRecDepth 10000
namespace Go.Proofs
open Go Go.E Go.Sort Go.Proofs.Tryz
section
variable {recv:Value} {α:Type} [Inhabited α] {lt:α→α→Bool} {N0:Nat} {R:World→Array α→Prop} {k:Kont} {w:World} {d:Array α}
theorem hintI_two (h:Hint):(hintI h == 2)=decide (h = .decreasing):=by cases h <;> rfl
theorem hintI_one (h:Hint):(hintI h == 1)=decide (h = .increasing):=by cases h <;> rfl
set_option maxHeartbeats 1000000 in
theorem pdq_run (S:Srt prog recv lt N0 R) (hS:SWO lt):∀ (n:Nat) {a b lim:Nat} {w:World} {d:Array α} {k:Kont} {xa xb xl:Int},b - a < n→R w d→xa=a→xb=b→xl=lim→a≤b→b≤d.size→lim < 4611686018427387904→Below lt a b d →
    (∀ w',R w' (pdq lt d a b lim true true)→k (.tuple #[]) w')→callK prog 138 #[recv,.int .i64 xa,.int .i64 xb,.int .i64 xl] k w:=by
 intro n
 induction n with
 | zero =>
  intro a b lim w d k xa xb xl hn hR hxa hxb hxl hab hb hl hB hk
  omega
 | succ n ih =>
  intro a b lim w d k xa xb xl hn hR hxa hxb hxl hab hb hl hB hk
  subst hxa; subst hxb; subst hxl
  have hsm:=S.small hR
  refine callZ [] func138 ?_
  refine goZ ?_
  refine loopC (fun x:Nat × Nat × Nat × Bool × Bool × Array α=>[(0,recv),(1,.int .i64 x.1),(2,.int .i64 x.2.1),(3,.int .i64 x.2.2.1),(8,.bool x.2.2.2.1),(9,.bool x.2.2.2.2.1)])
   (fun x w=>R w x.2.2.2.2.2∧x.2.2.2.2.2.size=d.size∧x.1≤x.2.1∧x.2.1≤d.size∧x.2.1 - x.1 < n+1∧x.2.2.1 < 4611686018427387904∧Below lt x.1 x.2.1 x.2.2.2.2.2∧pdq lt x.2.2.2.2.2 x.1 x.2.1 x.2.2.1 x.2.2.2.1 x.2.2.2.2.1=pdq lt d a b lim true true)
   (fun x _=>x.2.1 - x.1) (a,b,lim,true,true,d) (by kernel_rfl) ?_ ⟨hR,rfl,hab,hb,hn,hl,hB,rfl⟩ ?_
  ·exact agZ
  rintro K e ⟨a1,b1,l1,wb,wp,d0⟩ w1 ⟨h1,h2,h3,h4,h5,h6,h7,h8⟩ hK
  simp only at h1 h2 h3 h4 h5 h6 h7 h8
  by_cases c1:b1 - a1≤12
  ·have c1':(b1:Int) - a1≤12:=by omega
   refine gY1 @c1' ?_
   refine insertionSort_run S h1 (by omega) (by omega) fun w2 g1 => ?_
   refine goZ ?_
   refine hk _ ?_
   rw [← h8,pdq_small c1]; exact g1
  have c1':¬ (b1:Int) - a1≤12:=by omega
  by_cases c2:l1=0
  ·have c2':((l1:Int) == 0)=true:=by simp [c2]
   refine gY2 @c1' @c2' ?_
   refine heapSort_run S h1 h3 (by omega) fun w2 g1 => ?_
   refine goZ ?_
   refine hk _ ?_
   rw [← h8,pdq_heap c1 c2]; exact g1
  have c2':((l1:Int) == 0)=false:=by simp [c2]
  obtain ⟨r,hr⟩:∃ r,r=rd lt d0 a1 b1 l1 wb wp:=⟨_,rfl⟩
  obtain ⟨z1,B1,pc,z2,B2,pv,z3,B3⟩:=rd_facts (lt:=lt) (d:=d0) (limit:=l1) (wb:=wb) (wp:=wp) hS partialInsertionSort_holds reverseRange_holds (show a1 < b1 by omega) (by omega) h7
  have hlim:=rd_lim_le (lt:=lt) (d:=d0) (a:=a1) (b:=b1) (limit:=l1) (wb:=wb) (wp:=wp)
  rw [← hr] at z1 B1 pc z2 B2 pv z3 B3 hlim
  refine gY2 @c1' @c2' ?_
  refine cutX (fun _:Unit=>[(0,recv),(1,.int .i64 a1),(2,.int .i64 b1),(3,.int .i64 r.lim),(8,.bool wb),(9,.bool wp),(10,.int .i64 ((b1:Int) - a1))]) (fun _ w=>R w r.d1) (by kernel_rfl) (by kernel_rfl) (fun K2 hK2 => ?_) ?_
  ·cases wb with
   | false =>
    refine goZ ?_
    refine breakPatterns_run S h1 h3 (by omega) fun w2 g1 => ?_
    refine goZ ?_
    refine hK2 _ _ () ?_ ?_
    ·have:(r.lim:Int)=(l1:Int) - 1:=by rw [hr,rd_false.2]; omega
     ((try simp (disch:=first | exact dZ | fail) only [go_sem,↓reduceIte,Nat.reduceEqDiff,Nat.reduceAdd,this]); (try simp only [and_true,true_and,Value.int.injEq,Value.slice.injEq,Value.pointer.injEq,Option.some.injEq]); (try (refine ⟨?_,?_⟩ <;> omega)); (try omega))
    ·rw [hr,rd_false.1]; exact g1
   | true =>
    refine goZ ?_
    refine hK2 _ _ () ?_ ?_
    ·rw [hr,rd_true.2]; exact agZ
    ·rw [hr,rd_true.1]; exact h1
  intro e2 _ w2 g1
  refine goZ ?_
  refine choosePivot_run S g1 (by omega) (by omega) fun w3 g2 => ?_
  have hc:choosePivot lt r.d1 a1 b1=r.c:=by rw [hr]; exact rd_c.symm
  rw [hc]
  refine gY1 @hintI_two ?_
  refine cutX (fun _:Unit=>[(0,recv),(1,.int .i64 a1),(2,.int .i64 b1),(3,.int .i64 r.lim),(8,.bool wb),(9,.bool wp),(10,.int .i64 ((b1:Int) - a1)),(11,.int .i64 r.pivot),(12,.int .i64 (hintI r.hint))]) (fun _ w=>R w r.d2) (by kernel_rfl) (by kernel_rfl) (fun K2 hK2 => ?_) ?_
  ·by_cases hd:r.c.2 = .decreasing
   ·have:=rd_dec (lt:=lt) (d:=d0) (a:=a1) (b:=b1) (limit:=l1) (wb:=wb) (wp:=wp) (by rw [← hr]; exact hd)
    rw [← hr] at this
    obtain ⟨i1,i2,i3⟩:=this
    refine gY1 @hd ?_
    refine reverseRange_run S g2 (by omega) (by omega) fun w4 g3 => ?_
    refine goZ ?_
    refine hK2 _ _ () ?_ ?_
    ·have:(r.pivot:Int)=(b1:Int) - 1 - (r.c.1 - a1):=by omega
     ((try simp (disch:=first | exact dZ | fail) only [go_sem,↓reduceIte,Nat.reduceEqDiff,Nat.reduceAdd,i3,hintI,this]); (try simp only [and_true,true_and,Value.int.injEq,Value.slice.injEq,Value.pointer.injEq,Option.some.injEq]); (try (refine ⟨?_,?_⟩ <;> omega)); (try omega))
    ·rw [i1]; exact g3
   ·have:=rd_not (lt:=lt) (d:=d0) (a:=a1) (b:=b1) (limit:=l1) (wb:=wb) (wp:=wp) (by rw [← hr]; exact hd)
    rw [← hr] at this
    obtain ⟨i1,i2,i3⟩:=this
    refine gY1 @hd ?_
    refine hK2 _ _ () ?_ ?_
    ·rw [i2,i3]; exact agZ
    ·rw [i1]; exact g2
  intro e3 _ w4 g3
  refine cutC (fun _:Unit=>[(0,recv),(1,.int .i64 a1),(2,.int .i64 b1),(3,.int .i64 r.lim),(8,.bool wb),(9,.bool wp),(10,.int .i64 ((b1:Int) - a1)),(11,.int .i64 r.pivot)]) (fun _ w=>R w r.pi.1∧r.pi.2=false) (by kernel_rfl) (fun K2 hK2 => ?_) ?_
  ·by_cases hc:(wb && wp && decide (r.hint = .increasing))=true
   ·have hpi:=rd_pi_yes (lt:=lt) (d:=d0) (a:=a1) (b:=b1) (limit:=l1) (wb:=wb) (wp:=wp) (by rw [← hr]; exact hc)
    rw [← hr] at hpi
    simp only [Bool.and_eq_true,decide_eq_true_eq] at hc
    obtain ⟨⟨rfl,rfl⟩,hh⟩:=hc
    refine gY2 @hintI_one @hh ?_
    refine partialInsertionSort_run S g3 (by omega) (by omega) fun w5 g4 => ?_
    rw [← hpi] at g4 ⊢
    cases hp:r.pi.2 with
    | true =>
     refine goZ ?_
     refine hk _ ?_
     rw [← h8,pdq_done c1 c2 (by rw [← hr]; exact hp),← hr]; exact g4
    | false =>
     refine goZ ?_
     refine hK2 _ _ () ?_ ⟨g4,hp⟩
     exact agZ
   ·have hc':(wb && wp && decide (r.hint = .increasing))=false:=by simpa using hc
    have hpi:=rd_pi_no (lt:=lt) (d:=d0) (a:=a1) (b:=b1) (limit:=l1) (wb:=wb) (wp:=wp) (by rw [← hr]; exact hc')
    rw [← hr] at hpi
    have J:R w4 r.pi.1∧r.pi.2=false:=by rw [hpi]; exact ⟨g3,rfl⟩
    cases wb with
    | false =>
     refine goZ ?_
     refine hK2 _ _ () ?_ J
     exact agZ
    | true =>
     cases wp with
     | false =>
      refine goZ ?_
      refine hK2 _ _ () ?_ J
      exact agZ
     | true =>
      have hh:¬ r.hint = .increasing:=by simpa using hc'
      refine gY2 @hintI_one @hh ?_
      refine hK2 _ _ () ?_ J
      exact agZ
  intro e4 _ w5 ⟨g4,hp⟩
  obtain ⟨d3,hd3⟩:∃ d3,d3=r.pi.1:=⟨_,rfl⟩
  rw [← hd3] at g4 z3 B3
  refine cutC (fun _:Unit=>[(0,recv),(1,.int .i64 a1),(2,.int .i64 b1),(3,.int .i64 r.lim),(8,.bool wb),(9,.bool wp),(10,.int .i64 ((b1:Int) - a1)),(11,.int .i64 r.pivot)]) (fun _ w=>R w d3∧(decide (a1 > 0) && !lt d3[a1 - 1]! d3[r.pivot]!)=false) (by kernel_rfl) (fun K2 hK2 => ?_) ?_
  ·by_cases ha:a1 > 0
   ·have ha':(0:Int) < a1:=by omega
    refine gY1 @ha' ?_
    refine S.less (a1 - 1) r.pivot g4 (by omega) rfl (by omega) (by omega) fun wl g4 => ?_
    cases hl2:lt d3[a1 - 1]! d3[r.pivot]! with
    | true =>
     refine goZ ?_
     refine hK2 _ _ () ?_ ⟨g4,by simp [hl2]⟩
     exact agZ
    | false =>
     refine goZ ?_
     refine partitionEqual_run S g4 rfl pv.1 pv.2 (by omega) fun w6 g5 => ?_
     obtain ⟨q,hq⟩:∃ q,q=partitionEqual lt d3 a1 b1 r.pivot:=⟨_,rfl⟩
     obtain ⟨f1,f2,f3,f4,_⟩:=round_eq (mid:=q.1) (d4:=q.2) hS (partitionEqual_holds lt) ha pv.1 pv.2 (by omega) B3 hl2 (by rw [← hq])
     rw [← hq] at g5 ⊢
     refine goZ ?_
     refine hK _ _ (q.1,b1,r.lim,wb,wp,q.2) ?_ ⟨g5,by simp only; omega,f2,h4,by simp only; omega,by simp only; omega,f4,?_⟩ (by simp only; omega)
     ·exact agZ
     ·have hb2:(decide (a1 > 0) && !lt r.pi.1[a1 - 1]! r.pi.1[r.pivot]!)=true:=by rw [← hd3]; simp [ha,hl2]
      rw [hr] at hb2
      have:=pdq_eq (lt:=lt) (d:=d0) (wb:=wb) (wp:=wp) c1 c2 (by rw [← hr]; exact hp) hb2 (by rw [← hr,← hd3,← hq]; exact ⟨f1,f2⟩)
      rw [← h8,this,← hr,← hd3,← hq]
   ·have ha':¬ (0:Int) < a1:=by omega
    refine gY1 @ha' ?_
    refine hK2 _ _ () ?_ ⟨g4,by simp [ha]⟩
    exact agZ
  intro e5 _ w6 ⟨g5,hn2⟩
  refine goZ ?_
  refine partition_run S g5 rfl pv.1 pv.2 (by omega) fun w7 g6 => ?_
  obtain ⟨q,hq⟩:∃ q,q=Go.Sort.partition lt d3 a1 b1 r.pivot:=⟨_,rfl⟩
  obtain ⟨f1,f2,f3,f4,f5,f6,f7⟩:=round_part (mid:=q.1) (ap:=q.2.1) (d4:=q.2.2) hS (partition_holds lt) pv.1 pv.2 (by omega) B3 (by rw [← hq])
  rw [← hq] at g6 ⊢
  have e8:((b1:Int) - a1).tdiv 8=(((b1 - a1) / 8:Nat):Int):=by rw [show (b1:Int) - a1=((b1 - a1:Nat):Int) by omega]; exact tdiv_nat _ 8
  have eight:(8:Int)≠0:=by decide
  rw [hd3,hr] at hn2
  by_cases hlt:q.1 - a1 < b1 - q.1
  ·have hlt':(q.1:Int) - a1 < b1 - q.1:=by omega
   simp (disch:=first | exact dZ | fail) only [go_sem,↓reduceIte,Nat.reduceEqDiff,Nat.reduceAdd,binE_quo eight,e8,hlt']
   refine ih (by omega) g6 rfl rfl rfl f1 (by omega) (by omega) f4 fun w8 g7 => ?_
   have hs:=pdq_sorts lt hS q.2.2 a1 q.1 r.lim true true f1 (by omega) f4
   have hB2:=(f6 _ hs.1 hs.2).1
   refine goZ ?_
   refine hK _ _ (q.1+1,b1,r.lim,decide (q.1 - a1 ≥ (b1 - a1) / 8),q.2.1,pdq lt q.2.2 a1 q.1 r.lim true true) ?_ ⟨g7,by simp only; rw [hs.1.1]; omega,by simp only; omega,h4,by simp only; omega,by simp only; omega,hB2,?_⟩ (by simp only; omega)
   ·have:decide (q.1 - a1 ≥ (b1 - a1) / 8)=decide ((((b1 - a1) / 8:Nat):Int)≤(q.1:Int) - a1):=by rw [decide_eq_decide]; omega
    simp only [this]
    exact agZ
   ·have:=pdq_left (lt:=lt) (d:=d0) (wb:=wb) (wp:=wp) c1 c2 (by rw [← hr]; exact hp) hn2 (by rw [← hr,← hd3,← hq]; exact ⟨f1,f2⟩) (by rw [← hr,← hd3,← hq]; exact hlt)
    rw [← h8,this,← hr,← hd3,← hq]
  ·have hlt':¬ (q.1:Int) - a1 < b1 - q.1:=by omega
   simp (disch:=first | exact dZ | fail) only [go_sem,↓reduceIte,Nat.reduceEqDiff,Nat.reduceAdd,binE_quo eight,e8,hlt']
   refine ih (a:=q.1+1) (b:=b1) (by omega) g6 (by omega) rfl rfl (by omega) (by omega) (by omega) f5 fun w8 g7 => ?_
   have hs:=pdq_sorts lt hS q.2.2 (q.1+1) b1 r.lim true true (by omega) (by omega) f5
   have hB2:=(f7 _ hs.1 hs.2).1
   refine goZ ?_
   refine hK _ _ (a1,q.1,r.lim,decide (b1 - q.1 ≥ (b1 - a1) / 8),q.2.1,pdq lt q.2.2 (q.1+1) b1 r.lim true true) ?_ ⟨g7,by simp only; rw [hs.1.1]; omega,by simp only; omega,by simp only; omega,by simp only; omega,by simp only; omega,hB2,?_⟩ (by simp only; omega)
   ·have:decide (b1 - q.1 ≥ (b1 - a1) / 8)=decide ((((b1 - a1) / 8:Nat):Int)≤(b1:Int) - q.1):=by rw [decide_eq_decide]; omega
    simp only [this]
    exact agZ
   ·have:=pdq_right (lt:=lt) (d:=d0) (wb:=wb) (wp:=wp) c1 c2 (by rw [← hr]; exact hp) hn2 (by rw [← hr,← hd3,← hq]; exact ⟨f1,f2⟩) (by rw [← hr,← hd3,← hq]; exact hlt)
    rw [← h8,this,← hr,← hd3,← hq]
theorem Sort_run (S : Srt prog recv lt N0 R) (hS : SWO lt) (hR : R w d) (hlen : ∀ {w d} {k : Kont}, R w d → k (.int .i64 d.size) w → invokeE prog recv "Len" #[] k w)
    (hk:∀ w' d',R w' d'→PermIn 0 d.size d d'→SortedIn lt 0 d.size d'→k (.tuple #[]) w'):callK prog 122 #[recv] k w:=by
 have hsm:=S.small hR
 refine callZ [] func122 ?_
 refine goZ ?_
 refine hlen hR ?_
 by_cases h:d.size≤1
 ·have h':(d.size:Int)≤1:=by omega
  refine gY1 @h' ?_
  exact hk _ _ hR (permIn_refl d 0 d.size) (fun i j h1 h2 h3=>by omega)
 ·have h':¬ (d.size:Int)≤1:=by omega
  have e1:IntKind.u64.wrap (d.size:Int)=d.size:=IntWalk.u64_in _ ⟨by omega,by omega⟩
  have hb:bitsLen d.size≤62:=(bitsLen_le_iff _ 62).2 (by omega)
  refine gY2 @h' @e1 ?_
  refine Len_run (by omega) ?_
  refine goZ ?_
  have hB:Below lt 0 d.size d := .inl rfl
  refine pdq_run S hS (d.size+1) (a:=0) (by omega) hR rfl rfl rfl (by omega) (Nat.le_refl _) (by omega) hB fun w2 g => ?_
  refine goZ ?_
  have hs:=pdq_sorts lt hS d 0 d.size (bitsLen d.size) true true (by omega) (Nat.le_refl _) hB
  exact hk _ _ g hs.1 hs.2
end
end Go.Proofs
end
