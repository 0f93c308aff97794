/- The proof that FnTreesOwned is true for each history, part 5: E20 G60 G61 G62 L8 H1 G63 H2 H3 L10 L11 G64 G65 G66 G67 H4 H5 H6 H7 G50 G51 G52 G53 G54 G55 G56 G68 G69 G70. No condition beyond the given one on bulk. -/
import Derived.Test.YtfmjodemgaeceaaGreatOwnD
namespace Go.Ux
open Go Go.Proofs
section
variable {n : Nat} {all : Array Oper} {dr : Bool} {Pin : Hp} {K : Fr → Fz → Hp → Prop} {rest : List Oper} {l : List Lay} {D : List Deferred} {Z : Fz} {H : Hp}
variable {d : Tmp} {ty : TypeId} {pos : String} {af : Array Edge} {gd : Option (Nat × Bool)} {x y : Operand} {T : TypeId}
theorem o_lenT {P : Program} {s : ByteArray} [Und P T .string] (hg : okO n all ⟨l,D⟩ ⟨some d,.call ⟨.builtin .len,#[x],#[T]⟩,ty,pos,af,gd⟩ = true) (hx : ev ⟨l,D⟩ x = .string s)
  (h : Rg P n all dr Pin K rest ⟨.s d (.int .i64 (s.size : Int)) :: l,D⟩ Z H) : Rg P n all dr Pin K (⟨some d,.call ⟨.builtin .len,#[x],#[T]⟩,ty,pos,af,gd⟩ :: rest) ⟨l,D⟩ Z H := o_lenStr hg hx h
theorem o_strAt {P : Program} {s : ByteArray} {i : Nat} {u : UInt8} {k : IntKind} [Und P T .string] (hg : okO n all ⟨l,D⟩ ⟨some d,.index T x y,ty,pos,af,gd⟩ = true) (hx : ev ⟨l,D⟩ x = .string s) (hy : ev ⟨l,D⟩ y = .int k (i : Int)) (hu : s.data.toList[i]? = some u)
  (h : Rg P n all dr Pin K rest ⟨.s d (.int .u8 u.toNat) :: l,D⟩ Z H) : Rg P n all dr Pin K (⟨some d,.index T x y,ty,pos,af,gd⟩ :: rest) ⟨l,D⟩ Z H := by
 refine o_p (v := .int .u8 u.toNat) hg rfl (fun w _ => ?_) h
 show Sem.run P (do pure (Next.value (← Instr.index T (ev ⟨l,D⟩ x) (ev ⟨l,D⟩ y)))) w = _
 rw [hx,hy]
 have e : s[i]? = some u := by
  have : i < s.data.toList.length := (List.getElem?_eq_some_iff.1 hu).1
  have hi : i < s.size := by rw [Array.length_toList] at this; exact this
  rw [getElem?_pos s i hi]
  have h2 := (List.getElem?_eq_some_iff.1 hu).2
  rw [← h2]
  congr 1
 have e0 : (0 : Int) ≤ (i : Int) := Int.natCast_nonneg i
 simp [Instr.index,asIntOf,Und.run (P := P) (T := T),e]
theorem o_cvB {a : Nat} (hg : okO n all ⟨l,D⟩ ⟨some d,.convert 5 2 x,ty,pos,af,gd⟩ = true) (hx : ev ⟨l,D⟩ x = .int .u8 (a : Int)) (h1 : a < 9223372036854775808)
  (h : Rg Tryz.prog n all dr Pin K rest ⟨.s d (.int .i64 (a : Int)) :: l,D⟩ Z H) : Rg Tryz.prog n all dr Pin K (⟨some d,.convert 5 2 x,ty,pos,af,gd⟩ :: rest) ⟨l,D⟩ Z H := by
 refine o_p (v := .int .i64 (a : Int)) hg rfl (fun w _ => ?_) h
 show Sem.run Tryz.prog (do pure (Next.value (← convert 5 2 (ev ⟨l,D⟩ x)))) w = _
 rw [hx]
 have e : (convert 5 2 (.int .u8 a)).run Tryz.prog w = .ok (.int .i64 (IntKind.i64.wrap a)) w := by kernel_rfl
 have e2 : IntKind.i64.wrap (a : Int) = a := by
  rw [IntKind.wrap_i64]; omega
 simp only [Sem.run_bind,e,Result.andThen_ok,Sem.run_pure,e2]
theorem o_store1g {P : Program} {b off : Nat} {v : Value} {xs : List Value} {U : Nat} {R : Obj → Hp} [Ty P T 1 false] [One v] [ha : Pk b H (cl xs U) R] (hg : okO n all ⟨l,D⟩ ⟨none,.store T x y,ty,pos,af,gd⟩ = true) (hx : ev ⟨l,D⟩ x = .pointer (some ⟨b,off,none⟩)) (hy : ev ⟨l,D⟩ y = v)
  (hb : off < xs.length) (h : Rg P n all dr Pin K rest ⟨l,D⟩ Z (R (cl (xs.set off v) U))) : Rg P n all dr Pin K (⟨none,.store T x y,ty,pos,af,gd⟩ :: rest) ⟨l,D⟩ Z H :=
 o_store (vs := [v]) hg hx (by rw [hy]; exact One.h.1) rfl (by simp [One.h (v := v)]) (by rw [Nat.ble_eq]; simp; omega) h
theorem o_sliceE {P : Program} {b off e k : Nat} {ag : Bool} {ik : IntKind} {len cap j : Nat} [Und P T (.slice e)] [Ty P e k ag] (hg : okO n all ⟨l,D⟩ ⟨some d,.slice T x (some y) none none,ty,pos,af,gd⟩ = true)
  (hx : ev ⟨l,D⟩ x = .slice (some ⟨b,off,none⟩) len cap) (hy : ev ⟨l,D⟩ y = .int ik (Int.ofNat j)) (hj : j ≤ len) (h : ∀ o,(j < cap → o = off + j * k) → (cap = j → o = off) → Rg P n all dr Pin K rest ⟨.s d (.slice (some ⟨b,o,none⟩) (len - j) (cap - j)) :: l,D⟩ Z H) :
  Rg P n all dr Pin K (⟨some d,.slice T x (some y) none none,ty,pos,af,gd⟩ :: rest) ⟨l,D⟩ Z H := by
 refine o_sliceL hg hx hy hj ?_
 by_cases hc : cap = j
 ·rw [if_pos hc]
  exact h off (fun hh => by omega) (fun _ => rfl)
 ·rw [if_neg hc]
  simp only [Option.map_some,addr_add]
  exact h _ (fun _ => rfl) (fun hh => absurd hh hc)
section
variable {P : Program} {Q : Post} {f : Fr} {id : Nat} {ops : List Oper}
theorem WP.drawX (Pin : Hp) {H₁ : Hp} (c : List Nat) (hm : P.follows .mixedOrders = true) (ho : orderB ops.toArray c = true) [s : Spl Pin H H₁]
  (h : Rg P n ops.toArray true Pin (fun f Z H => Q .normal f Z (H ++ Pin)) (c.map (opAt ops.toArray)) f Z H₁) : WP P n (.region id ops.toArray true) Q f Z H := WP.draw Pin H₁ c hm ho s.h h
theorem WP.drawXS (Pin : Hp) {H₁ : Hp} (m : Nat) (hm : P.follows .mixedOrders = true)
  (ho : (orderB ops.toArray ((List.range ops.length).take m ++ (List.range ops.length).drop m) && barrier ops.toArray ((List.range ops.length).take m) ((List.range ops.length).drop m)) = true) [s : Spl Pin H H₁]
  (h : Rg P n ops.toArray true Pin (fun f Z H' => ∃ Pin₂ H₂,(H' ++ Pin).Perm (Pin₂ ++ H₂) ∧ Rg P n ops.toArray true Pin₂ (fun f Z H => Q .normal f Z (H ++ Pin₂)) (ops.drop m) f Z H₂) (ops.take m) f Z H₁) :
  WP P n (.region id ops.toArray true) Q f Z H := WP.drawS Pin H₁ m hm ho s.h h
theorem WP.drawX2 (Pin : Hp) {H₁ : Hp} (c₁ c₂ : List Nat) (hm : P.follows .mixedOrders = true) (ho : (orderB ops.toArray (c₁ ++ c₂) && barrier ops.toArray c₁ c₂) = true) [s : Spl Pin H H₁]
  (h : Rg P n ops.toArray true Pin (fun f Z H' => ∃ Pin₂ H₂,(H' ++ Pin).Perm (Pin₂ ++ H₂) ∧ Rg P n ops.toArray true Pin₂ (fun f Z H => Q .normal f Z (H ++ Pin₂)) (c₂.map (opAt ops.toArray)) f Z H₂) (c₁.map (opAt ops.toArray)) f Z H₁) :
  WP P n (.region id ops.toArray true) Q f Z H := WP.draw2 Pin H₁ c₁ c₂ hm ho s.h h
end
end
end Go.Ux
namespace Go.Ux
open Go Go.Proofs
set_option maxRecDepth 20000
attribute [local irreducible] WP Tr
def E50 (N : Nat) : Prop := ∀ (r : RV) (cs : List Value) (Z : Fz),r.sz < N → r.sz ≤ 1048576 → RVc Z r cs → Gr Tryz.prog 50 #[.agg cs.toArray] Z fun x Z' => PV Z' r.clean x
section
variable {Z : Fz}
set_option maxHeartbeats 4000000 in
theorem f78 {N : Nat} (ih : E50 N) {k n : Int} {f : Nat} {s : ByteArray} {ks : List Nm} {l : List RV} {cs : List Value} (hr : RVc Z (.mk k n f s ks l) cs) (hN : (RV.mk k n f s ks l).sz ≤ N) (hs : (RV.mk k n f s ks l).sz ≤ 1048576) :
  Tr Tryz.prog 78 #[.agg cs.toArray] Z [] fun x Z' H' => ∃ mm es c,x = .map (some mm) ∧ H' = [(mm,mp es c)] ∧ PE Z' (putM (ks.zip l)) es c := by
 simp only [RVc] at hr
 obtain ⟨kv,lv,lc,rfl,h1,h2,h3⟩ := hr
 obtain ⟨a₁,c₁,rfl⟩ := h1.sl
 obtain ⟨a₂,c₂,rfl⟩ := h2.sl
 simp only [RV.sz] at hN hs
 have hll := len_szV l
 have hz0 : (ks.zip l).length = min ks.length l.length := List.length_zip
 refine Tr.introk Tryz.func78 rfl Tryz.ntmps78 Tryz.results78 rfl ?_
 refine gn ?_; intro b1
 refine gn ?_; intro mm
 refine gn ?_
 refine WP.loopK (4 :: 5 :: List.range' 10 19) (fun m g Z' H' => ∃ (i : Nat) (es : List En) (c : Nat),g 10 = .int .i64 (i : Int) ∧ i ≤ ks.length ∧ m = ks.length - i ∧ PE Z' (putM ((ks.zip l).take i)) es c ∧ H' = [(mm,mp es c),(b1,cl [.int .i64 k,.int .i64 n,.float .f64 f,.string s,.slice a₁ ks.length c₁,.slice a₂ l.length c₂] 37)]) ks.length ⟨0,[],0,rfl,by omega,by omega,by simpa [putM] using PE.nil,rfl⟩ ?_
 rintro m g Z' H' hz ⟨i,es,c,h10,hi,rfl,hpe,rfl⟩
 refine WP.pin 10 h10 ?_
 by_cases hik : i < ks.length
 ·obtain ⟨q,hk⟩ : ∃ q,ks[i]? = some q := ⟨ks[i],by simp [hik]⟩
  obtain ⟨b,off,xs,rfl,hb,hbk⟩ := eltS (h1.mono fun _ _ h => inQ.le hz h) hk
  haveI : Zf Z' b (cl xs 9) := ⟨hb⟩
  by_cases hil : i < l.length
  ·obtain ⟨b',off',xs',r,cells,rfl,hb',hat,hcl,hrc⟩ := eltV (h2.mono fun _ _ h => inQ.le hz h) (h3.mono hz) hil
   haveI : Zf Z' b' (cl xs' 37) := ⟨hb'⟩
   have hsz := sz_at hat
   have hrc' := hrc
   obtain ⟨_,_,_,_,_,_,_,_,_,_,rfl⟩ := hrc'.six
   have hput : putM ((ks.zip l).take (i + 1)) = insK q r.clean (putM ((ks.zip l).take i)) := by
    rw [List.take_add_one,zip_at hk hat]
    exact putM_snoc
   refine gn ?_
   refine o_indexAddr (j := i) rfl rfl rfl hik ?_
   refine gn ?_
   refine o_indexAddr (j := i) rfl rfl rfl hil ?_
   refine o_loadN rfl rfl hcl rfl ?_
   refine cg (args := [.agg #[_,_,_,_,_,_]]) (ih r _ Z' (by omega) (by omega) hrc) ?_
   rintro v Z2 hz2 hv
   refine o_mapUpdate (v := v) rfl rfl rfl rfl ?_
   refine gn ?_
   exact ⟨bk,ks.length - (i + 1),[(mm,mp (upd q v c es) (nxt q es c)),(b1,cl [.int .i64 k,.int .i64 n,.float .f64 f,.string s,.slice (some ⟨b,off,none⟩) ks.length c₁,.slice (some ⟨b',off',none⟩) l.length c₂] 37)],_,by omega,spp,i + 1,_,_,rfl,by omega,rfl,by rw [hput]; exact (hpe.mono hz2).put hv,rfl⟩
  ·have e1 : (ks.zip l).take (i + 1) = (ks.zip l).take i := by rw [List.take_of_length_le (by omega),List.take_of_length_le (by omega)]
   refine gn ?_
   refine o_indexAddr (j := i) rfl rfl rfl hik ?_
   refine gn ?_
   exact ⟨bk,ks.length - (i + 1),[(mm,mp es c),(b1,cl [.int .i64 k,.int .i64 n,.float .f64 f,.string s,.slice (some ⟨b,off,none⟩) ks.length c₁,.slice a₂ l.length c₂] 37)],_,by omega,spp,i + 1,_,_,rfl,by omega,rfl,by rw [e1]; exact hpe,rfl⟩
 ·rw [List.take_of_length_le (by omega)] at hpe
  refine gn ?_
  exact fk1 (A := [(mm,mp es c)]) ⟨mm,es,c,rfl,rfl,hpe⟩
set_option maxHeartbeats 4000000 in
theorem f50 : ∀ N,E50 N
 | 0 => fun r cs Z h => by omega
 | N + 1 => by
  rintro ⟨rk,rn,rf,rs,ks,l⟩ cs Z hN hs hr
  have hr' := hr
  simp only [RVc] at hr
  obtain ⟨kv,lv,lc,rfl,h1,h2,h3⟩ := hr
  obtain ⟨a₁,c₁,rfl⟩ := h1.sl
  obtain ⟨a₂,c₂,rfl⟩ := h2.sl
  have hN' := hN
  have hs' := hs
  simp only [RV.sz] at hN hs
  refine Gr.intro Tryz.func50 rfl Tryz.ntmps50 Tryz.results50 rfl ?_
  refine gn ?_; intro b1
  refine gn ?_
  simp only [RV.clean]
  by_cases e1 : rk = 1
  ·by_cases e0 : rn = 0
   ·refine gn ?_
    rw [if_pos e1,if_pos e0]
    exact fin1 fun Z'' hz'' _ => ⟨.inr ⟨_,_,rfl⟩,fun _ => ⟨.sc (.iface 4 (.bool false)),by simp only [AV]; exact ⟨rfl,.inl ⟨_,rfl⟩⟩,by simp [Shp]⟩⟩
   ·refine gn ?_
    rw [if_pos e1,if_neg e0]
    exact fin1 fun Z'' hz'' _ => ⟨.inr ⟨_,_,rfl⟩,fun _ => ⟨.sc (.iface 4 (.bool true)),by simp only [AV]; exact ⟨rfl,.inl ⟨_,rfl⟩⟩,by simp [Shp]⟩⟩
  rw [if_neg e1]
  by_cases e2 : rk = 2
  ·refine gn ?_
   rw [if_pos e2]
   exact fin1 fun Z'' hz'' _ => ⟨.inr ⟨_,_,rfl⟩,fun _ => ⟨.sc (.iface 2 (.int .i64 rn)),by simp only [AV]; exact ⟨rfl,.inr (.inl ⟨_,rfl⟩)⟩,by simp [Shp]⟩⟩
  rw [if_neg e2]
  by_cases e3 : rk = 3
  ·refine gn ?_
   rw [if_pos e3]
   exact fin1 fun Z'' hz'' _ => ⟨.inr ⟨_,_,rfl⟩,fun hn => ⟨.sc (.iface 33 (.float .f64 rf)),by simp only [AV]; simp only [NoN] at hn; exact ⟨rfl,.inr (.inr (.inl ⟨_,rfl,hn.1 trivial⟩))⟩,by simp [Shp]⟩⟩
  rw [if_neg e3]
  by_cases e4 : rk = 4
  ·refine gn ?_
   rw [if_pos e4]
   exact fin1 fun Z'' hz'' _ => ⟨.inr ⟨_,_,rfl⟩,fun _ => ⟨.sc (.iface 9 (.string rs)),by simp only [AV]; exact ⟨rfl,.inr (.inr (.inr ⟨_,rfl⟩))⟩,by simp [Shp]⟩⟩
  rw [if_neg e4]
  by_cases e5 : rk = 5
  ·rw [if_pos e5]
   have hll := len_szV l
   refine gn ?_
   refine o_makeSlice0 (e := 20) (k := 1) (c := l.length) rfl rfl (by omega) ?_
   intro lv Hl hl0
   haveI := hl0.one
   refine gn ?_
   refine WP.loopK (3 :: 5 :: List.range' 38 10) (fun m g Z' H' => ∃ (i : Nat) (lv' : Value) (vs : List Value) (Hl' : Hp),g 38 = .int .i64 (i : Int) ∧ g 3 = lv' ∧ i ≤ l.length ∧ m = l.length - i ∧ Sl 20 1 lv' vs Hl' ∧ PVs Z' (cleanL (l.take i)) vs ∧ H' = Hl' ++ [(b1,cl [.int .i64 rk,.int .i64 rn,.float .f64 rf,.string rs,.slice a₁ ks.length c₁,.slice a₂ l.length c₂] 37)]) l.length ⟨0,lv,[],Hl,rfl,rfl,by omega,by omega,hl0,by simp [cleanL,PVs],rfl⟩ ?_
   rintro m g Z' H' hz ⟨i,lv',vs,Hl',h38,h3',hi,rfl,hl',hc',rfl⟩
   haveI := hl'.one
   have hlen := hc'.len
   rw [cleanL_len,List.length_take] at hlen
   refine WP.pin 38 h38 ?_
   refine WP.pin 3 h3' ?_
   by_cases hin : i < l.length
   ·obtain ⟨b,off,xs,r,cells,rfl,hb,hat,hcl,hrc⟩ := eltV (h2.mono fun _ _ h => inQ.le hz h) (h3.mono hz) hin
    haveI : Zf Z' b (cl xs 37) := ⟨hb⟩
    obtain ⟨_,_,_,_,_,_,_,_,_,_,rfl⟩ := hrc.six
    have hsz := sz_at hat
    refine gn ?_
    refine o_indexAddr rfl rfl rfl hin ?_
    refine o_loadN rfl rfl hcl rfl ?_
    refine gn ?_; intro b5
    refine gn ?_
    refine cg (args := [.agg #[_,_,_,_,_,_]]) (f50 N r _ Z' (by omega) (by omega) hrc) ?_
    rintro v Z2 hz2 hv
    haveI := hv.one
    refine gn ?_; intro vb
    refine oap hl' rfl rfl rfl (Rs.cells (inferInstance : Mem false _ _ _ vb (cl _ 20)) rfl (Nat.le_refl 1)) (by intro u hu; rw [List.mem_singleton.1 hu]; exact hv.one.h.2) (by omega) (by simp; omega) ?_
    intro lv2 Hl2 hl2
    haveI := hl2.one
    refine gn ?_
    refine ⟨bk,l.length - (i + 1),Hl2 ++ [(b1,cl [.int .i64 rk,.int .i64 rn,.float .f64 rf,.string rs,.slice a₁ ks.length c₁,.slice (some ⟨b,off,none⟩) l.length c₂] 37)],_,by omega,spp,i + 1,lv2,_,Hl2,rfl,rfl,by omega,rfl,hl2,?_,rfl⟩
    rw [clean_take hat]
    exact (hc'.mono hz2).snoc hv
   ·have e1 : i = l.length := by omega
    subst e1
    rw [List.take_length] at hc'
    refine gn ?_
    refine fin1 fun Z'' hz'' hp => ⟨.inr ⟨_,_,rfl⟩,fun hn => ?_⟩
    simp only [NoN] at hn
    obtain ⟨n,hn'⟩ := hl'.frz fun p hp' => hp p (List.mem_append_left _ hp')
    have hln := hn'.lenk
    obtain ⟨ts,q1,q2⟩ := hc'.av hn.2
    refine ⟨.li (.iface 197 lv') ts,?_,?_⟩
    ·simp only [AV]
     exact ⟨rfl,lv',n,vs,rfl,by omega,hn',q1.mono hz''⟩
    ·simp only [Shp]
     exact ⟨_,ts,rfl,q2⟩
  rw [if_neg e5]
  by_cases e6 : rk = 6
  ·refine gn ?_
   rw [if_pos e6]
   refine ct (args := [.agg #[_,_,_,_,_,_]]) (f78 (f50 N) hr' (by omega) (by omega)) ?_
   rintro _ Z2 _ hz2 ⟨mm,es,c,rfl,rfl,hpe⟩
   refine gn ?_
   refine fin1 fun Z'' hz'' hp => ⟨.inr ⟨_,_,rfl⟩,fun hn => ?_⟩
   rw [cleanM_fold] at hn ⊢
   simp only [NoN] at hn
   obtain ⟨lt,es',q1,q2,q3,q4⟩ := hpe.av hn.2
   refine ⟨.mp lt,?_,?_⟩
   ·simp only [AV]
    exact ⟨mm,es,c,es',rfl,hp (mm,mp es c) (by simp),hpe.st,q1,q2.mono hz''⟩
   ·simp only [Shp]
    exact ⟨lt,rfl,q3,q4⟩
  rw [if_neg e6]
  refine gn ?_
  exact fin1 fun Z'' hz'' _ => ⟨.inl rfl,fun _ => ⟨.null,by simp only [AV]; rfl,by simp [Shp]⟩⟩
end
end Go.Ux
namespace Go.Ux
open Go Go.Proofs
set_option maxRecDepth 20000
attribute [local irreducible] WP Tr
abbrev el (k : Nm) : List Value := [.int .i64 0,.string k,.slice none 0 0,.slice none 0 0,.int .i64 0,.int .i64 0,.float .f64 0,.string ⟨#[]⟩,.slice none 0 0,.slice none 0 0,.int .i64 0]
def elC : List Nm → List Value
 | [] => []
 | k :: ks => el k ++ elC ks
theorem elC_len : ∀ q : List Nm,(elC q).length = q.length * 11
 | [] => rfl
 | k :: q => by simp only [elC,List.length_append,elC_len q,List.length_cons]; simp; omega
theorem elC_app : ∀ (p q : List Nm),elC (p ++ q) = elC p ++ elC q
 | [],q => rfl
 | k :: p,q => by simp only [List.cons_append,elC,elC_app p q,List.append_assoc]
theorem elC_one : ∀ (q : List Nm),∀ u ∈ elC q,u.oneCell' = true
 | [],u,h => by cases h
 | k :: q,u,h => by
  simp only [elC,List.mem_append] at h
  rcases h with h | h
  ·simp only [el,List.mem_cons,List.mem_nil_iff,or_false] at h
   rcases h with rfl | rfl | rfl | rfl | rfl | rfl | rfl | rfl | rfl | rfl | rfl <;> rfl
  ·exact elC_one q u h
section
variable {Z : Fz}
theorem f141 {kb : Nat} {k : Nm} (h : Z kb = some (cl [.string k] 9)) : Pu Tryz.prog 141 #[.agg (pe kb).toArray] Z fun x => x = .agg (el k).toArray := by
 haveI : Zf Z kb _ := ⟨.of (h)⟩
 refine Pu.intro Tryz.func141 rfl Tryz.ntmps141 Tryz.results141 rfl ?_
 refine gn ?_; intro b1
 refine gn ?_; intro b2
 refine gn ?_
 exact finC1 (vs := el k) rfl ⟨rfl,rfl⟩
set_option maxHeartbeats 4000000 in
theorem f101 {qv : Value} {qcs : List Value} {Hq : Hp} {q : List Nm} (hq : Sl 308 4 qv qcs Hq) (hp : PM Z q qcs) (hne : q ≠ []) (hn : qcs.length ≤ 34359738368) :
  Tr Tryz.prog 101 #[qv] Z Hq fun v Z' H' => Rs (inT Z' 76) 11 v q.length (elC q) ∧ H' = Hq := by
 cases hq with
 | nil => exact absurd (List.length_eq_zero_iff.1 (by have := hp.len; simp at this; omega)) hne
 | row b0 n c _ rest h1 h2 h3 =>
  have hql := hp.len
  refine Tr.introk Tryz.func101 rfl Tryz.ntmps101 Tryz.results101 rfl ?_
  refine gn ?_; intro b6
  refine gn ?_
  refine WP.loopK (3 :: 5 :: List.range' 9 10) (fun m g Z' H' => ∃ (i : Nat) (pv : Value) (Hp' : Hp),g 9 = .int .i64 (i : Int) ∧ g 3 = pv ∧ i ≤ n ∧ m = n - i ∧ Sl 76 11 pv (elC (q.take i)) Hp' ∧ Z = Z' ∧ H' = Hp' ++ [(b0,cl (qcs ++ rest) 308)]) n ⟨0,_,[(b6,cl [] 76)],rfl,rfl,by omega,by omega,.row b6 0 0 [] [] rfl rfl (Nat.le_refl 0),rfl,rfl⟩ ?_
  rintro m g Z' H' _ ⟨i,pv,Hp',h9,h3',hi,rfl,hpv,rfl,rfl⟩
  haveI := hpv.one
  refine WP.pin 9 h9 ?_
  refine WP.pin 3 h3' ?_
  by_cases hin : i < n
  ·obtain ⟨k,hk⟩ : ∃ k,q[i]? = some k := ⟨q[i]'(by omega),by simp⟩
   obtain ⟨kb,hkb,hkc⟩ := hp.at hk
   have hld : ((qcs ++ rest).drop (0 + i * 4)).take 4 = pe kb := by
    rw [Nat.zero_add,List.drop_append,List.take_append_of_le_length (by rw [List.length_drop]; omega)]
    exact hkc
   refine gn ?_
   refine o_indexAddr rfl rfl rfl hin ?_
   refine o_loadN rfl rfl hld rfl ?_
   refine gn ?_; intro b5
   refine gn ?_
   refine cp (f141 hkb) ?_
   rintro _ rfl
   refine gn ?_; intro vb
   refine oap hpv rfl rfl rfl (Rs.cells (inferInstance : Mem false _ _ _ vb (cl _ 76)) rfl (Nat.le_refl 1)) (by simp [Value.oneCell']) (by omega) (by rw [elC_len,List.length_take]; simp; omega) ?_
   intro pv2 Hp2 hp2
   haveI := hp2.one
   refine gn ?_
   refine ⟨bk,n - (i + 1),Hp2 ++ [(b0,cl (qcs ++ rest) 308)],_,by omega,spp,i + 1,pv2,Hp2,rfl,rfl,by omega,rfl,?_,rfl,rfl⟩
   rw [List.take_add_one,hk,elC_app]
   simpa [elC] using hp2
  ·have e1 : i = n := by omega
   subst e1
   rw [List.take_of_length_le (by omega)] at hpv
   have hl := elC_len q
   obtain ⟨b,n',c',ro,rfl,rfl,q1,q2,q3⟩ := hpv.ne fun e => by rw [e] at hl; exact hne (List.length_eq_zero_iff.1 (by simp at hl; omega))
   refine WP.fz b ?_
   intro Z1 hz1 hb
   refine gn ?_
   have e2 : n' = q.length := by omega
   subst e2
   exact fk1 (A := [(b0,cl (qcs ++ rest) 308)]) ⟨.row b 0 _ c' 76 _ _ ⟨hb,_,rfl⟩ (by simp [← q1]) q1 q3,rfl⟩
end
end Go.Ux
namespace Go.Ux
open Go Go.Proofs
set_option maxRecDepth 20000
attribute [local irreducible] WP Tr
section
variable {Z : Fz}
theorem f122 (k : Nm) : Gr Tryz.prog 122 #[.agg (el k).toArray] Z fun x Z' => ∃ kb,x = .agg (pe kb).toArray ∧ Z' kb = some (cl [.string k] 9) := by
 refine Gr.intro Tryz.func122 rfl Tryz.ntmps122 Tryz.results122 rfl ?_
 refine gn ?_; intro b1
 refine gn ?_; intro b2
 refine gn ?_; intro b6
 refine gn ?_
 exact finC1 (vs := pe b6) rfl fun Z' hz hp => ⟨b6,rfl,hp (b6,cl [.string k] 9) (by simp)⟩
theorem eltE {Z : Fz} {a : Option Addr} {n c i : Nat} {q : List Nm} {k : Nm} (hr : Rs (inT Z 76) 11 (.slice a n c) n (elC q)) (hk : q[i]? = some k) (hi : i < n) :
  ∃ b off xs,a = some ⟨b,off,none⟩ ∧ Z b = some (cl xs 76) ∧ (xs.drop (off + i * 11)).take 11 = el k := by
 have key : ∀ {q : List Nm} {i : Nat},q[i]? = some k → ((elC q).drop (i * 11)).take 11 = el k := by
  intro q
  induction q with
  | nil => intro i h; simp at h
  | cons x q ih =>
   intro i h
   cases i with
   | zero => simp at h; subst h; simp [elC]
   | succ i =>
    simp only [List.getElem?_cons_succ] at h
    have := ih h
    have hl : (el x).length = 11 := rfl
    rw [elC,List.drop_append,List.drop_of_length_le (l := el x) (by omega),List.nil_append,hl,show (i + 1) * 11 - 11 = i * 11 by omega]
    exact this
 have h1 := key hk
 generalize elC q = E at hr h1
 cases hr with
 | nil => omega
 | emp => omega
 | row b off n c U xs ds h hd hl hn =>
  obtain ⟨h,ys,e⟩ := h
  cases e
  refine ⟨b,off,_,rfl,h,?_⟩
  rw [← hd,List.drop_take,List.take_take,List.drop_drop] at h1
  rwa [Nat.min_eq_left (by omega)] at h1
set_option maxHeartbeats 4000000 in
theorem f83 {a : Option Addr} {c : Nat} {q : List Nm} (hr : Rs (inT Z 76) 11 (.slice a q.length c) q.length (elC q)) (hn : q.length ≤ 8589934592) :
  Gr Tryz.prog 83 #[.slice a q.length c] Z fun x Z' => ∃ pcs,Rs (inT Z' 308) 4 x q.length pcs ∧ PM Z' q pcs := by
 refine Gr.intro Tryz.func83 rfl Tryz.ntmps83 Tryz.results83 rfl ?_
 refine gn ?_; intro b6
 refine gn ?_
 refine WP.loopK (3 :: 5 :: List.range' 9 10) (fun m g Z' H' => ∃ (i : Nat) (pv : Value) (pcs : List Value),g 9 = .int .i64 (i : Int) ∧ g 3 = pv ∧ i ≤ q.length ∧ m = q.length - i ∧ Sl 308 4 pv pcs H' ∧ PM Z' (q.take i) pcs) q.length ⟨0,_,[],rfl,rfl,by omega,by omega,.row b6 0 0 [] [] rfl rfl (Nat.le_refl 0),rfl⟩ ?_
 rintro m g Z' H' hz ⟨i,pv,pcs,h9,h3',hi,rfl,hpv,hpm⟩
 haveI := hpv.one
 have hpl := hpm.len
 rw [List.length_take] at hpl
 refine WP.pin 9 h9 ?_
 refine WP.pin 3 h3' ?_
 by_cases hin : i < q.length
 ·obtain ⟨k,hk⟩ : ∃ k,q[i]? = some k := ⟨q[i],by simp [hin]⟩
  obtain ⟨b,off,xs,rfl,hb,hld⟩ := eltE (hr.mono fun _ _ h => inT.lw hz.lw rfl h) hk hin
  haveI : Zf Z' b (cl xs 76) := ⟨hb⟩
  refine gn ?_
  refine o_indexAddr rfl rfl rfl hin ?_
  refine o_loadN rfl rfl hld rfl ?_
  refine gn ?_; intro b5
  refine gn ?_
  refine cg (f122 k) ?_
  rintro _ Z2 hz2 ⟨kb,rfl,hkb⟩
  refine gn ?_; intro vb
  refine oap hpv rfl rfl rfl (Rs.cells (inferInstance : Mem false _ _ _ vb (cl _ 308)) rfl (Nat.le_refl 1)) (by simp [Value.oneCell']) (by omega) (by rw [hpl]; simp; omega) ?_
  intro pv2 Hp2 hp2
  haveI := hp2.one
  refine gn ?_
  refine ⟨bk,q.length - (i + 1),Hp2,_,by omega,spp,i + 1,pv2,_,rfl,rfl,by omega,rfl,hp2,?_⟩
  rw [List.take_add_one,hk]
  exact (hpm.mono hz2).app (PM.one1 hkb)
 ·have e1 : i = q.length := by omega
  subst e1
  rw [List.take_length] at hpm
  refine gn ?_
  refine fin1 fun Z'' hz'' hp => ?_
  obtain ⟨n,hn'⟩ := hpv.frz hp
  have h1 := hn'.lenk
  have h2 := hpm.len
  have e : n = q.length := by omega
  subst e
  exact ⟨pcs,hn',hpm.mono hz''⟩
theorem has_empty (x : List Nm) : ¬ (FS.mk [] []).has x := fun h => by
 cases x with
 | nil => exact FS.has_nil _ h
 | cons k q => rw [FS.has_cons] at h; simp [FS.ms,FS.cs] at h
def PS (Z : Fz) : List (List Nm) → List Value → Prop
 | [],vs => vs = []
 | p :: ps,vs => ∃ v vs',vs = v :: vs' ∧ Rs (inT Z 76) 11 v p.length (elC p) ∧ PS Z ps vs'
theorem PS.mono {Z Z' : Fz} (hz : Fz.le Z Z') : ∀ {ps : List (List Nm)} {vs : List Value},PS Z ps vs → PS Z' ps vs
 | [],_,h => h
 | _ :: _,_,⟨v,vs',h1,h2,h3⟩ => ⟨v,vs',h1,h2.mono fun _b _o h => ⟨hz _ _ h.1,h.2⟩,h3.mono hz⟩
theorem PS.len {Z : Fz} : ∀ {ps : List (List Nm)} {vs : List Value},PS Z ps vs → vs.length = ps.length
 | [],_,h => by simp only [PS] at h; subst h; rfl
 | _ :: _,_,⟨v,vs',h1,h2,h3⟩ => by rw [h1,List.length_cons,h3.len,List.length_cons]
theorem PS.at {Z : Fz} : ∀ {ps : List (List Nm)} {vs : List Value} {i : Nat} {p : List Nm},PS Z ps vs → ps[i]? = some p → ∃ v,vs[i]? = some v ∧ Rs (inT Z 76) 11 v p.length (elC p)
 | [],_,_,_,_,h => by simp at h
 | q :: ps,_,i,p,⟨v,vs',h1,h2,h3⟩,h => by
  subst h1
  cases i with
  | zero => simp at h; subst h; exact ⟨v,by simp,h2⟩
  | succ i => simp only [List.getElem?_cons_succ] at h ⊢; exact h3.at h
theorem PS.snoc {Z : Fz} {p : List Nm} {v : Value} (h' : Rs (inT Z 76) 11 v p.length (elC p)) : ∀ {ps : List (List Nm)} {vs : List Value},PS Z ps vs → PS Z (ps ++ [p]) (vs ++ [v])
 | [],_,h => by simp only [PS] at h; subst h; exact ⟨v,[],rfl,h',rfl⟩
 | _ :: _,_,⟨v₀,vs',h1,h2,h3⟩ => ⟨v₀,vs' ++ [v],by rw [h1]; rfl,h2,h3.snoc h'⟩
theorem eltP {Z : Fz} {a : Option Addr} {n c i : Nat} {ps : List (List Nm)} {vs : List Value} {p : List Nm} (hr : Rs (inT Z 57) 1 (.slice a n c) n vs) (hp : PS Z ps vs) (hk : ps[i]? = some p) :
  ∃ b off xs a' c',a = some ⟨b,off,none⟩ ∧ Z b = some (cl xs 57) ∧ xs[off + i * 1]? = some (.slice a' p.length c') ∧ Rs (inT Z 76) 11 (.slice a' p.length c') p.length (elC p) := by
 obtain ⟨v,h1,hv⟩ := hp.at hk
 obtain ⟨a',c',rfl⟩ := hv.sl
 cases hr with
 | nil => simp at h1
 | emp => simp at h1
 | row b off n c U xs ds h hd hl hn =>
  obtain ⟨h,ys,e⟩ := h
  cases e
  refine ⟨b,off,_,a',c',rfl,h,?_,hv⟩
  rw [← hd,List.getElem?_take] at h1
  split at h1
  ·rw [List.getElem?_drop] at h1; simpa using h1
  ·cases h1
set_option maxHeartbeats 4000000 in
theorem f53 {U : List Nm} {a : Option Addr} {c : Nat} {ps : List (List Nm)} {vs : List Value} (hU : U.length ≤ 1073741824) (hpn : ps.length ≤ 1099511627776) (hr : Rs (inT Z 57) 1 (.slice a ps.length c) ps.length vs) (hp : PS Z ps vs) (hpU : ∀ p ∈ ps,p.length ≤ 8589934592 ∧ ∀ k ∈ p,k ∈ U) :
  Gr Tryz.prog 53 #[.slice a ps.length c] Z fun x Z' => ∃ b s,x = pt b ∧ ST Z' U s b ∧ ∀ x,s.has x ↔ x ∈ ps ∧ x ≠ [] := by
 refine Gr.intro Tryz.func53 rfl Tryz.ntmps53 Tryz.results53 rfl ?_
 refine gn ?_
 refine ct (args := [.slice none 0 0]) (f70 0 Z) ?_
 rintro _ _ Hs _ ⟨b,rfl,rfl,hos⟩
 refine gn ?_
 rw [List.append_nil]
 refine WP.loopK (5 :: List.range' 9 9) (fun m g Z' H' => ∃ (i : Nat) (s : FS),g 9 = .int .i64 (i : Int) ∧ i ≤ ps.length ∧ m = ps.length - i ∧ OS Z' s b H' ∧ s.Wf U ∧ ∀ x,s.has x ↔ x ∈ ps.take i ∧ x ≠ []) ps.length ⟨0,_,rfl,by omega,by omega,hos,.empty,fun x => by simp [has_empty]⟩ ?_
 rintro m g Z' H' hz ⟨i,s,h9,hi,rfl,hs,hw,hx⟩
 refine WP.pin 9 h9 ?_
 by_cases hin : i < ps.length
 ·obtain ⟨p,hp'⟩ : ∃ p,ps[i]? = some p := ⟨ps[i],by simp [hin]⟩
  obtain ⟨b',off,xs,a',c',rfl,hb',he,hrp⟩ := eltP (hr.mono fun _ _ h => inT.lw hz.lw rfl h) (hp.mono hz) hp'
  haveI : Zf Z' b' (cl xs 57) := ⟨hb'⟩
  obtain ⟨hpl,hpu⟩ := hpU p (List.mem_of_getElem? hp')
  refine gn ?_
  refine o_indexAddr rfl rfl rfl hin ?_
  refine gn ?_
  refine cg (args := [.slice a' p.length c']) (f83 hrp hpl) ?_
  rintro pv Z2 hz2 ⟨pcs,hpr,hpm⟩
  haveI := hpr.one
  refine ct (args := [pt b,pv]) (f82 b p.length pv p pcs s H' U Z2 (hs.lw hz2.lw) hw hU (hpr.mono fun _ _ h => h.1) hpm hpu) ?_
  rintro _ Z3 H3 hz3 ⟨rfl,rfl,s',hs',hw',hx'⟩
  refine gn ?_
  refine ⟨bk,ps.length - (i + 1),H3,_,by omega,spp,i + 1,s',rfl,by omega,rfl,hs',hw',fun x => ?_⟩
  rw [hx',hx,List.take_add_one,hp']
  simp only [Option.toList_some,List.mem_append,List.mem_singleton]
  constructor
  ·rintro (⟨h1,h2⟩ | ⟨rfl,h2⟩)
   ·exact ⟨.inl h1,h2⟩
   ·exact ⟨.inr rfl,h2⟩
  ·rintro ⟨h1 | rfl,h2⟩
   ·exact .inl ⟨h1,h2⟩
   ·exact .inr ⟨rfl,h2⟩
 ·rw [List.take_of_length_le (by omega)] at hx
  refine gn ?_
  refine fin1 fun Z'' hz'' hq => ⟨b,s,rfl,⟨hs.frz hz'' hq,hw⟩,hx⟩
end
end Go.Ux
namespace Go.Ux
open Go
def wk : List Nm → List Nm → Int
 | [],[] => 0
 | [],_ :: _ => -1
 | _ :: _,[] => 1
 | a :: p,b :: q => if a = b then wk p q else if p = [] ∧ q ≠ [] then -1 else if p ≠ [] ∧ q = [] then 1 else cmpN a b
def ltW (p q : List Nm) : Prop := wk p q < 0
instance (p q : List Nm) : Decidable (ltW p q) := inferInstanceAs (Decidable (wk p q < 0))
theorem wk_self : ∀ p : List Nm,wk p p = 0
 | [] => rfl
 | a :: p => by simp [wk,wk_self p]
theorem wk_zero : ∀ {p q : List Nm},wk p q = 0 → p = q
 | [],[],_ => rfl
 | [],_ :: _,h => by simp [wk] at h
 | _ :: _,[],h => by simp [wk] at h
 | a :: p,b :: q,h => by
  simp only [wk] at h
  split at h
  ·rename_i e; rw [e,wk_zero h]
  ·split at h
   ·omega
   ·split at h
    ·omega
    ·rename_i e _ _; exact absurd (cmpN_zero h) e
theorem wk_swap : ∀ p q : List Nm,wk q p = - wk p q
 | [],[] => rfl
 | [],_ :: _ => rfl
 | _ :: _,[] => rfl
 | a :: p,b :: q => by
  simp only [wk]
  by_cases e : a = b
  ·rw [if_pos e,if_pos e.symm,wk_swap p q]
  ·rw [if_neg e,if_neg (fun h => e h.symm)]
   have := cmpN_swap a b
   by_cases h1 : p = [] <;> by_cases h2 : q = [] <;> simp [h1,h2] <;> omega
theorem ltW_cons {a b : Nm} {p q : List Nm} : ltW (a :: p) (b :: q) ↔ (a = b ∧ ltW p q) ∨ (a ≠ b ∧ ((p = [] ∧ q ≠ []) ∨ ((p = [] ↔ q = []) ∧ ltN a b))) := by
 unfold ltW ltN
 simp only [wk]
 by_cases e : a = b
 ·simp [e]
 ·rw [if_neg e]
  by_cases h1 : p = [] <;> by_cases h2 : q = [] <;> simp [e,h1,h2]
theorem ltW_nil {p : List Nm} : ltW [] p ↔ p ≠ [] := by cases p <;> simp [ltW,wk]
theorem not_ltW_nil {p : List Nm} : ¬ ltW p [] := by cases p <;> simp [ltW,wk]
theorem ltW.trans : ∀ {p q r : List Nm},ltW p q → ltW q r → ltW p r
 | _,[],_,h,_ => absurd h not_ltW_nil
 | _,_ :: _,[],_,k => absurd k not_ltW_nil
 | [],_ :: _,_ :: _,_,_ => ltW_nil.2 (by simp)
 | a :: p,b :: q,c :: r,h,k => by
  rw [ltW_cons] at h k ⊢
  have e0 : ∀ {p q : List Nm},ltW p q → q = [] → False := fun h e => by subst e; exact not_ltW_nil h
  have e1 : ltW p r ↔ ltW p r := Iff.rfl
  rcases h with ⟨rfl,h⟩ | ⟨hab,h⟩
  ·rcases k with ⟨rfl,k⟩ | ⟨hbc,k⟩
   ·exact .inl ⟨rfl,h.trans k⟩
   ·refine .inr ⟨hbc,?_⟩
    have hq : q ≠ [] := fun e => e0 h e
    rcases k with ⟨k1,_⟩ | ⟨k1,k2⟩
    ·exact absurd k1 hq
    ·have hr : r ≠ [] := fun e => hq (k1.2 e)
     by_cases hp : p = []
     ·exact .inl ⟨hp,hr⟩
     ·exact .inr ⟨⟨fun e => absurd e hp,fun e => absurd e hr⟩,k2⟩
  ·rcases k with ⟨rfl,k⟩ | ⟨hbc,k⟩
   ·refine .inr ⟨hab,?_⟩
    have hr : r ≠ [] := fun e => e0 k e
    by_cases hp : p = []
    ·exact .inl ⟨hp,hr⟩
    ·rcases h with ⟨h1,_⟩ | ⟨h1,h2⟩
     ·exact absurd h1 hp
     ·exact .inr ⟨⟨fun e => absurd e hp,fun e => absurd e hr⟩,h2⟩
   ·by_cases hp : p = []
    ·by_cases hr : r = []
     ·subst hp hr
      have hq : q = [] := by
       rcases k with ⟨_,k2⟩ | ⟨k1,_⟩
       ·exact absurd rfl k2
       ·exact k1.2 rfl
      subst hq
      have h2 : ltN a b := by
       rcases h with ⟨_,h⟩ | ⟨_,h⟩
       ·exact absurd rfl h
       ·exact h
      have k2 : ltN b c := by
       rcases k with ⟨_,h⟩ | ⟨_,h⟩
       ·exact absurd rfl h
       ·exact h
      exact .inr ⟨(h2.trans k2).ne,.inr ⟨Iff.rfl,h2.trans k2⟩⟩
     ·by_cases hac : a = c
      ·exact .inl ⟨hac,by rw [hp]; exact ltW_nil.2 hr⟩
      ·exact .inr ⟨hac,.inl ⟨hp,hr⟩⟩
    ·have h2 : q ≠ [] ∧ ltN a b := by
      rcases h with ⟨h1,_⟩ | ⟨h1,h2⟩
      ·exact absurd h1 hp
      ·exact ⟨fun e => hp (h1.2 e),h2⟩
     have k2 : r ≠ [] ∧ ltN b c := by
      rcases k with ⟨h1,_⟩ | ⟨h1,h3⟩
      ·exact absurd h1 h2.1
      ·exact ⟨fun e => h2.1 (h1.2 e),h3⟩
     exact .inr ⟨(h2.2.trans k2.2).ne,.inr ⟨⟨fun e => absurd e hp,fun e => absurd e k2.1⟩,h2.2.trans k2.2⟩⟩
theorem ltW.irrefl (p : List Nm) : ¬ ltW p p := by unfold ltW; rw [wk_self]; omega
theorem ltW.ne {p q : List Nm} (h : ltW p q) : p ≠ q := by rintro rfl; exact ltW.irrefl p h
theorem ltW_tri (p q : List Nm) : ltW p q ∨ p = q ∨ ltW q p := by
 unfold ltW
 rw [wk_swap p q]
 by_cases h : wk p q = 0
 ·exact .inr (.inl (wk_zero h))
 ·omega
def IncW (l : List (List Nm)) : Prop := l.Pairwise ltW
theorem IncW.nodup {l : List (List Nm)} (h : IncW l) : l.Nodup := h.imp fun k => k.ne
def lbW (p : List Nm) : List (List Nm) → Nat
 | [] => 0
 | x :: l => if ltW x p then lbW p l + 1 else 0
theorem lbW_le (p : List Nm) : ∀ l : List (List Nm),lbW p l ≤ l.length
 | [] => Nat.le_refl _
 | x :: l => by have := lbW_le p l; simp only [lbW,List.length_cons]; split <;> omega
theorem lbW_lt {p : List Nm} : ∀ {l : List (List Nm)} {i : Nat} {x : List Nm},IncW l → l[i]? = some x → (ltW x p ↔ i < lbW p l)
 | [],_,_,_,h => by simp at h
 | y :: l,i,x,hi,h => by
  have hi' := List.pairwise_cons.1 hi
  cases i with
  | zero =>
   simp only [List.getElem?_cons_zero,Option.some.injEq] at h
   subst h
   simp only [lbW]
   split
   ·rename_i h; simp [h]
   ·rename_i h; simp [h]
  | succ i =>
   simp only [List.getElem?_cons_succ] at h
   have ih := lbW_lt (p := p) hi'.2 h
   have hyx := hi'.1 x (List.mem_of_getElem? h)
   simp only [lbW]
   split
   ·rw [ih]; omega
   ·rename_i hy
    constructor
    ·intro hx; exact absurd (hyx.trans hx) hy
    ·intro hx; omega
theorem lbW_mem {p : List Nm} : ∀ {l : List (List Nm)},IncW l → (p ∈ l ↔ l[lbW p l]? = some p)
 | [],_ => by simp
 | y :: l,hi => by
  have hi' := List.pairwise_cons.1 hi
  simp only [lbW]
  split
  ·rename_i h
   rw [List.getElem?_cons_succ,← lbW_mem hi'.2,List.mem_cons]
   exact ⟨fun h' => h'.resolve_left fun e => ltW.irrefl y (e ▸ h),.inr⟩
  ·rename_i h
   rw [List.getElem?_cons_zero,Option.some.injEq,List.mem_cons]
   constructor
   ·rintro (rfl | hk)
    ·rfl
    ·exact absurd (hi'.1 p hk) h
   ·intro e; exact .inl e.symm
def insW (p : List Nm) (l : List (List Nm)) : List (List Nm) := l.take (lbW p l) ++ p :: l.drop (lbW p l)
theorem insW_cons {p x : List Nm} {l : List (List Nm)} : insW p (x :: l) = if ltW x p then x :: insW p l else p :: x :: l := by
 unfold insW
 simp only [lbW]
 split <;> simp
theorem mem_insW {p x : List Nm} {l : List (List Nm)} : x ∈ insW p l ↔ x = p ∨ x ∈ l := by
 unfold insW
 rw [List.mem_append,List.mem_cons]
 conv => rhs; rw [← List.take_append_drop (lbW p l) l,List.mem_append]
 constructor
 ·rintro (h | h | h)
  ·exact .inr (.inl h)
  ·exact .inl h
  ·exact .inr (.inr h)
 ·rintro (h | h | h)
  ·exact .inr (.inl h)
  ·exact .inl h
  ·exact .inr (.inr h)
theorem insW_inc {p : List Nm} : ∀ {l : List (List Nm)},IncW l → p ∉ l → IncW (insW p l)
 | [],_,_ => by simp [insW,lbW,IncW]
 | x :: l,hi,hp => by
  have hi' := List.pairwise_cons.1 hi
  rw [insW_cons]
  have hpx : p ≠ x := fun e => hp (e ▸ List.mem_cons_self ..)
  split
  ·rename_i h
   refine List.pairwise_cons.2 ⟨fun y hy => ?_,insW_inc hi'.2 fun h => hp (List.mem_cons_of_mem _ h)⟩
   rcases mem_insW.1 hy with rfl | hy
   ·exact h
   ·exact hi'.1 y hy
  ·rename_i h
   have hpl : ltW p x := ((ltW_tri x p).resolve_left h).resolve_left fun e => hpx e.symm
   refine List.pairwise_cons.2 ⟨fun y hy => ?_,hi⟩
   rcases List.mem_cons.1 hy with rfl | hy
   ·exact hpl
   ·exact hpl.trans (hi'.1 y hy)
theorem insW_len {p : List Nm} {l : List (List Nm)} : (insW p l).length = l.length + 1 := by
 have := lbW_le p l
 unfold insW
 simp only [List.length_append,List.length_cons,List.length_take,List.length_drop]; omega
end Go.Ux
namespace Go.Ux
open Go Go.Proofs
set_option maxRecDepth 20000
attribute [local irreducible] WP Tr
section
variable {Z : Fz}
def sgI (a b : Int) : Int := if a < b then -1 else if b < a then 1 else 0
theorem f75 (a b : Int) : Pu Tryz.prog 75 #[.int .i64 a,.int .i64 b] Z fun v => v = .int .i64 (sgI a b) := by
 refine Pu.intro Tryz.func75 rfl Tryz.ntmps75 Tryz.results75 rfl ?_
 unfold sgI
 by_cases h1 : a < b
 ·refine gn ?_
  exact fin1 ⟨by rw [if_pos h1]; rfl,rfl⟩
 ·by_cases h2 : b < a
  ·refine gn ?_
   exact fin1 ⟨by rw [if_neg h1,if_pos h2]; rfl,rfl⟩
  ·refine gn ?_
   exact fin1 ⟨by rw [if_neg h1,if_neg h2]; rfl,rfl⟩
theorem f111 (k : Nm) : Pu Tryz.prog 111 #[.agg (el k).toArray] Z fun v => v = .int .i64 0 := by
 refine Pu.intro Tryz.func111 rfl Tryz.ntmps111 Tryz.results111 rfl ?_
 repeat (first | refine gn ?_ | intro _)
 exact fin1 ⟨rfl,rfl⟩
theorem cb_cons {x y : UInt8} {a b : List UInt8} (h : x ≠ y) : Lib.compareBytes (x :: a) (y :: b) = sgI x.toNat y.toNat := by
 have e1 : x < y ↔ ((x.toNat : Int) < (y.toNat : Int)) := by rw [Int.ofNat_lt]; exact UInt8.lt_iff_toNat_lt
 have e2 : y < x ↔ ((y.toNat : Int) < (x.toNat : Int)) := by rw [Int.ofNat_lt]; exact UInt8.lt_iff_toNat_lt
 unfold sgI
 simp only [Lib.compareBytes]
 by_cases h1 : x < y
 ·rw [if_pos h1,if_pos (e1.1 h1)]
 ·rw [if_neg h1,if_neg fun h => h1 (e1.2 h)]
  by_cases h2 : y < x
  ·rw [if_pos h2,if_pos (e2.1 h2)]
  ·exact absurd (UInt8.le_antisymm (UInt8.not_lt.1 h2) (UInt8.not_lt.1 h1)) h
theorem cb_same {x : UInt8} {a b : List UInt8} : Lib.compareBytes (x :: a) (x :: b) = Lib.compareBytes a b := by
 simp [Lib.compareBytes]
theorem cb_end {a b : List UInt8} {i : Nat} (h : i = a.length ∨ i = b.length) (h1 : i ≤ a.length) (h2 : i ≤ b.length) : Lib.compareBytes (a.drop i) (b.drop i) = sgI a.length b.length := by
 unfold sgI
 have l1 : (a.drop i).length = a.length - i := List.length_drop
 have l2 : (b.drop i).length = b.length - i := List.length_drop
 cases ha : a.drop i with
 | nil =>
  cases hb : b.drop i with
  | nil => rw [ha] at l1; rw [hb] at l2; simp at l1 l2; rw [if_neg (by omega),if_neg (by omega)]; rfl
  | cons y b' => rw [ha] at l1; rw [hb] at l2; simp at l1 l2; rw [if_pos (by omega)]; rfl
 | cons x a' =>
  cases hb : b.drop i with
  | nil => rw [ha] at l1; rw [hb] at l2; simp at l1 l2; rw [if_neg (by omega),if_pos (by omega)]; rfl
  | cons y b' => rw [ha] at l1; rw [hb] at l2; simp at l1 l2; omega
theorem ln_size (s : ByteArray) : s.data.toList.length = s.size := Array.length_toList
set_option maxHeartbeats 1000000 in
theorem f114 {a b : Nm} (ha : a.size ≤ 1099511627776) (hb : b.size ≤ 1099511627776) : Pu Tryz.prog 114 #[.string a,.string b] Z fun v => v = .int .i64 (cmpN a b) := by
 have sa := ln_size a
 have sb := ln_size b
 refine Pu.intro Tryz.func114 rfl Tryz.ntmps114 Tryz.results114 rfl ?_
 refine gn ?_
 refine WP.loopM (List.range' 4 30) (fun m g Z' H' => ∃ i : Nat,g 5 = .int .i64 (i : Int) ∧ i ≤ a.size ∧ i ≤ b.size ∧ m = a.size - i ∧ cmpN a b = Lib.compareBytes (a.data.toList.drop i) (b.data.toList.drop i) ∧ Z = Z' ∧ H' = []) a.size ⟨0,rfl,by omega,by omega,by omega,by simp [cmpN],rfl,rfl⟩ ?_
 rintro m g Z' H' _ ⟨i,h5,hia,hib,rfl,hc,rfl,rfl⟩
 refine WP.pin 5 h5 ?_
 by_cases h1 : i < a.size
 ·by_cases h2 : i < b.size
  ·obtain ⟨x,hx⟩ : ∃ x,a.data.toList[i]? = some x := ⟨a.data.toList[i]'(by omega),by simp⟩
   obtain ⟨y,hy⟩ : ∃ y,b.data.toList[i]? = some y := ⟨b.data.toList[i]'(by omega),by simp⟩
   have dx : a.data.toList.drop i = x :: a.data.toList.drop (i + 1) := by
    obtain ⟨h,e⟩ := List.getElem?_eq_some_iff.1 hx
    rw [← e,List.getElem_cons_drop]
   have dy : b.data.toList.drop i = y :: b.data.toList.drop (i + 1) := by
    obtain ⟨h,e⟩ := List.getElem?_eq_some_iff.1 hy
    rw [← e,List.getElem_cons_drop]
   rw [dx,dy] at hc
   by_cases hxy : x = y
   ·subst hxy
    rw [cb_same] at hc
    refine gn ?_
    refine o_lenT rfl rfl ?_
    refine gn ?_
    refine o_lenT rfl rfl ?_
    refine gn ?_
    refine WP.drawA mo (by decide +kernel) ?_
    refine gn ?_
    refine o_strAt rfl rfl rfl hx ?_
    refine gn ?_
    refine o_strAt rfl rfl rfl hy ?_
    refine gn ?_
    exact ⟨bk,a.size - (i + 1),by omega,i + 1,rfl,by omega,by omega,rfl,hc,rfl,rfl⟩
   ·rw [cb_cons hxy] at hc
    have hne : (x.toNat : Int) ≠ (y.toNat : Int) := fun h => hxy (UInt8.toNat_inj.1 (Int.ofNat.inj h))
    have hx8 := x.toNat_lt
    have hy8 := y.toNat_lt
    refine gn ?_
    refine o_lenT rfl rfl ?_
    refine gn ?_
    refine o_lenT rfl rfl ?_
    refine gn ?_
    refine WP.drawA mo (by decide +kernel) ?_
    refine gn ?_
    refine o_strAt rfl rfl rfl hx ?_
    refine gn ?_
    refine o_strAt rfl rfl rfl hy ?_
    refine gn ?_
    refine WP.drawA mo (by decide +kernel) ?_
    refine gn ?_
    refine o_strAt rfl rfl rfl hx ?_
    refine o_cvB rfl rfl (by omega) ?_
    refine gn ?_
    refine o_strAt rfl rfl rfl hy ?_
    refine o_cvB rfl rfl (by omega) ?_
    refine cp (f75 _ _) ?_
    rintro _ rfl
    refine gn ?_
    exact fin1 ⟨by rw [hc]; rfl,rfl⟩
  ·have he := cb_end (a := a.data.toList) (b := b.data.toList) (i := i) (.inr (by omega)) (by omega) (by omega)
   rw [he,sa,sb] at hc
   refine gn ?_
   refine o_lenT rfl rfl ?_
   refine gn ?_
   refine o_lenT rfl rfl ?_
   refine gn ?_
   refine o_lenT rfl rfl ?_
   refine gn ?_
   refine o_lenT rfl rfl ?_
   refine cp (f75 _ _) ?_
   rintro _ rfl
   refine gn ?_
   exact fin1 ⟨by rw [hc]; rfl,rfl⟩
 ·have he := cb_end (a := a.data.toList) (b := b.data.toList) (i := i) (.inl (by omega)) (by omega) (by omega)
  rw [he,sa,sb] at hc
  refine gn ?_
  refine o_lenT rfl rfl ?_
  refine gn ?_
  refine o_lenT rfl rfl ?_
  refine gn ?_
  refine o_lenT rfl rfl ?_
  refine cp (f75 _ _) ?_
  rintro _ rfl
  refine gn ?_
  exact fin1 ⟨by rw [hc]; rfl,rfl⟩
theorem f75z : Pu Tryz.prog 75 #[.int .i64 0,.int .i64 0] Z fun v => v = .int .i64 0 := f75 0 0
set_option maxHeartbeats 1000000 in
theorem f74 {a b : Nm} (ha : a.size ≤ 1099511627776) (hb : b.size ≤ 1099511627776) : Pu Tryz.prog 74 #[.agg (el a).toArray,.agg (el b).toArray] Z fun v => v = .int .i64 (cmpN a b) := by
 refine Pu.intro Tryz.func74 rfl Tryz.ntmps74 Tryz.results74 rfl ?_
 refine gn ?_; intro b2
 refine gn ?_; intro b3
 refine gn ?_
 refine WP.draw [(b3,cl (el b) 76),(b2,cl (el a) 76)] [] [0,2,1,3,4,5] mo (by decide +kernel) (prm rfl) ?_
 refine gn ?_
 refine cp (f111 a) ?_
 rintro _ rfl
 refine cp (f111 b) ?_
 rintro _ rfl
 refine cp f75z ?_
 rintro _ rfl
 refine gn ?_
 refine cp (f111 a) ?_
 rintro _ rfl
 refine gn ?_
 refine cp (f114 ha hb) ?_
 rintro _ rfl
 refine gn ?_
 exact fin1 ⟨rfl,rfl⟩
def Sq (q : List Nm) : Prop := q.length ≤ 1099511627776 ∧ ∀ k ∈ q,k.size ≤ 1099511627776
theorem wk_end {p q : List Nm} {i : Nat} (h : i = p.length ∨ i = q.length) (h1 : i ≤ p.length) (h2 : i ≤ q.length) : wk (p.drop i) (q.drop i) = sgI p.length q.length := by
 unfold sgI
 have l1 : (p.drop i).length = p.length - i := List.length_drop
 have l2 : (q.drop i).length = q.length - i := List.length_drop
 cases ha : p.drop i with
 | nil =>
  cases hb : q.drop i with
  | nil => rw [ha] at l1; rw [hb] at l2; simp at l1 l2; rw [if_neg (by omega),if_neg (by omega)]; rfl
  | cons y b' => rw [ha] at l1; rw [hb] at l2; simp at l1 l2; rw [if_pos (by omega)]; rfl
 | cons x a' =>
  cases hb : q.drop i with
  | nil => rw [ha] at l1; rw [hb] at l2; simp at l1 l2; rw [if_neg (by omega),if_pos (by omega)]; rfl
  | cons y b' => rw [ha] at l1; rw [hb] at l2; simp at l1 l2; omega
set_option maxHeartbeats 4000000 in
theorem f40 {va vb : Value} {p q : List Nm} (hp : Rs (inT Z 76) 11 va p.length (elC p)) (hq : Rs (inT Z 76) 11 vb q.length (elC q)) (sp : Sq p) (sq : Sq q) :
  Pu Tryz.prog 40 #[va,vb] Z fun v => v = .int .i64 (wk p q) := by
 obtain ⟨a₁,c₁,rfl⟩ := hp.sl
 obtain ⟨a₂,c₂,rfl⟩ := hq.sl
 obtain ⟨lp,sp⟩ := sp
 obtain ⟨lq,sq⟩ := sq
 refine Pu.intro Tryz.func40 rfl Tryz.ntmps40 Tryz.results40 rfl ?_
 refine gn ?_
 refine WP.loopM (List.range' 4 43) (fun m g Z' H' => ∃ i : Nat,g 5 = .int .i64 (i : Int) ∧ i ≤ p.length ∧ i ≤ q.length ∧ m = p.length - i ∧ wk p q = wk (p.drop i) (q.drop i) ∧ Z = Z' ∧ H' = []) p.length ⟨0,rfl,by omega,by omega,by omega,by simp,rfl,rfl⟩ ?_
 rintro m g Z' H' _ ⟨i,h5,hip,hiq,rfl,hc,rfl,rfl⟩
 refine WP.pin 5 h5 ?_
 by_cases h1 : i < p.length
 ·by_cases h2 : i < q.length
  ·obtain ⟨k,hk⟩ : ∃ k,p[i]? = some k := ⟨p[i],by simp⟩
   obtain ⟨k',hk'⟩ : ∃ k',q[i]? = some k' := ⟨q[i],by simp⟩
   have dx : p.drop i = k :: p.drop (i + 1) := by
    obtain ⟨h,e⟩ := List.getElem?_eq_some_iff.1 hk
    rw [← e,List.getElem_cons_drop]
   have dy : q.drop i = k' :: q.drop (i + 1) := by
    obtain ⟨h,e⟩ := List.getElem?_eq_some_iff.1 hk'
    rw [← e,List.getElem_cons_drop]
   rw [dx,dy] at hc
   simp only [wk] at hc
   have n1 : p.drop (i + 1) = [] ↔ p.length = i + 1 := by rw [List.drop_eq_nil_iff]; omega
   have n2 : q.drop (i + 1) = [] ↔ q.length = i + 1 := by rw [List.drop_eq_nil_iff]; omega
   simp only [n1,n2,ne_eq] at hc
   obtain ⟨b,off,xs,rfl,hb,hld⟩ := eltE hp hk h1
   obtain ⟨b',off',xs',rfl,hb',hld'⟩ := eltE hq hk' h2
   haveI : Zf Z b (cl xs 76) := ⟨hb⟩
   haveI : Zf Z b' (cl xs' 76) := ⟨hb'⟩
   obtain ⟨z,hz⟩ : ∃ z,cmpN k k' = z := ⟨_,rfl⟩
   have h74 := f74 (Z := Z) (sp k (List.mem_of_getElem? hk)) (sq k' (List.mem_of_getElem? hk'))
   rw [hz] at h74 hc
   have hz0 : k = k' ↔ z = 0 := by rw [← hz,cmpN_zero_iff]
   by_cases hkk : z = 0
   ·rw [if_pos (hz0.2 hkk)] at hc
    refine gn ?_
    refine WP.drawA mo (by decide +kernel) ?_
    refine gn ?_
    refine o_indexAddr rfl rfl rfl h1 ?_
    refine o_loadN rfl rfl hld rfl ?_
    refine gn ?_
    refine o_indexAddr rfl rfl rfl h2 ?_
    refine o_loadN rfl rfl hld' rfl ?_
    refine cp h74 ?_
    rintro _ rfl
    refine gn ?_
    exact ⟨bk,p.length - (i + 1),by omega,i + 1,rfl,by omega,by omega,rfl,hc,rfl,rfl⟩
   ·rw [if_neg fun h => hkk (hz0.1 h)] at hc
    by_cases e1 : p.length = i + 1 <;> by_cases e2 : q.length = i + 1
    all_goals
     simp only [e1,e2,not_true,not_false_eq_true,and_self,and_true,and_false,if_true,if_false] at hc
     refine gn ?_
     refine WP.drawA mo (by decide +kernel) ?_
     refine gn ?_
     refine o_indexAddr rfl rfl rfl h1 ?_
     refine o_loadN rfl rfl hld rfl ?_
     refine gn ?_
     refine o_indexAddr rfl rfl rfl h2 ?_
     refine o_loadN rfl rfl hld' rfl ?_
     refine cp h74 ?_
     rintro _ rfl
     refine gn ?_
     refine o_neb rfl rfl rfl ?_
     refine gn ?_
     exact fin1 ⟨by rw [hc]; rfl,rfl⟩
  ·have he := wk_end (p := p) (q := q) (i := i) (.inr (by omega)) (by omega) (by omega)
   rw [he] at hc
   refine gn ?_
   refine cp (f75 _ _) ?_
   rintro _ rfl
   refine gn ?_
   exact fin1 ⟨by rw [hc]; rfl,rfl⟩
 ·have he := wk_end (p := p) (q := q) (i := i) (.inl (by omega)) (by omega) (by omega)
  rw [he] at hc
  refine gn ?_
  refine cp (f75 _ _) ?_
  rintro _ rfl
  refine gn ?_
  exact fin1 ⟨by rw [hc]; rfl,rfl⟩
set_option maxHeartbeats 4000000 in
theorem f21 {a : Option Addr} {c : Nat} {pv : Value} {ps : List (List Nm)} {vs : List Value} {p : List Nm} (hs : Rs (inT Z 57) 1 (.slice a ps.length c) ps.length vs) (hps : PS Z ps vs) (hp : Rs (inT Z 76) 11 pv p.length (elC p)) (hi : IncW ps)
  (sps : ∀ q ∈ ps,Sq q) (sp : Sq p) (hn : ps.length ≤ 1099511627776) : Pu Tryz.prog 21 #[.slice a ps.length c,pv] Z fun x => ∃ b,x = .tuple #[.int .i64 ((lbW p ps : Nat) : Int),.bool b] ∧ (b = true ↔ p ∈ ps) := by
 have hle := lbW_le p ps
 haveI := hp.one
 refine Pu.intro Tryz.func21 rfl Tryz.ntmps21 Tryz.results21 rfl ?_
 refine gn ?_
 refine WP.loopM (6 :: 7 :: 8 :: List.range' 11 19) (fun m g Z' H' => ∃ lo hi : Nat,g 6 = .int .i64 (lo : Int) ∧ g 7 = .int .i64 (hi : Int) ∧ lo ≤ lbW p ps ∧ lbW p ps ≤ hi ∧ hi ≤ ps.length ∧ m = hi - lo ∧ Z = Z' ∧ H' = []) ps.length ⟨0,ps.length,rfl,rfl,by omega,hle,Nat.le_refl _,by omega,rfl,rfl⟩ ?_
 rintro m g Z' H' _ ⟨lo,hj,h6,h7,hlo,hhi,hn',rfl,rfl,rfl⟩
 refine WP.pin 6 h6 ?_
 refine WP.pin 7 h7 ?_
 by_cases hlt : lo < hj
 ·refine gn ?_
  refine o_quo2 (a := hj - lo) rfl ?_ rfl (by omega) ?_
  ·show Value.int .i64 ((hj : Int) - (lo : Int)) = _
   congr 1; omega
  have hmid : lo + (hj - lo) / 2 < ps.length := by omega
  obtain ⟨x,hx⟩ : ∃ x,ps[lo + (hj - lo) / 2]? = some x := ⟨ps[lo + (hj - lo) / 2],by simp⟩
  obtain ⟨b,off,xs,a',c',rfl,hb,he,hrx⟩ := eltP hs hps hx
  haveI : Zf Z b (cl xs 57) := ⟨hb⟩
  have hlb := lbW_lt (p := p) hi hx
  obtain ⟨z,hz⟩ : ∃ z,wk x p = z := ⟨_,rfl⟩
  have h40 := f40 hrx hp (sps x (List.mem_of_getElem? hx)) sp
  rw [hz] at h40
  unfold ltW at hlb
  rw [hz] at hlb
  refine gn ?_
  refine o_indexAddr (j := lo + (hj - lo) / 2) rfl rfl rfl hmid ?_
  refine gn ?_
  refine cp h40 ?_
  rintro _ rfl
  by_cases hxk : z < 0
  ·have hq := hlb.1 hxk
   refine gn ?_
   exact ⟨bk,hj - (lo + (hj - lo) / 2 + 1),by omega,lo + (hj - lo) / 2 + 1,hj,rfl,rfl,by omega,hhi,hn',rfl,rfl,rfl⟩
  ·have hq : ¬ lo + (hj - lo) / 2 < lbW p ps := fun h => hxk (hlb.2 h)
   refine gn ?_
   exact ⟨bk,lo + (hj - lo) / 2 - lo,by omega,lo,lo + (hj - lo) / 2,rfl,rfl,hlo,by omega,by omega,rfl,rfl,rfl⟩
 ·have e1 : lo = lbW p ps := by omega
  subst e1
  by_cases hlt2 : lbW p ps < ps.length
  ·obtain ⟨x,hx⟩ : ∃ x,ps[lbW p ps]? = some x := ⟨ps[lbW p ps],by simp⟩
   obtain ⟨b,off,xs,a',c',rfl,hb,he,hrx⟩ := eltP hs hps hx
   haveI : Zf Z b (cl xs 57) := ⟨hb⟩
   have hmem := lbW_mem (p := p) hi
   rw [hx,Option.some.injEq] at hmem
   obtain ⟨z,hz⟩ : ∃ z,wk x p = z := ⟨_,rfl⟩
   have h40 := f40 hrx hp (sps x (List.mem_of_getElem? hx)) sp
   have hz0 : z = 0 ↔ x = p := by rw [← hz]; exact ⟨wk_zero,fun h => by rw [h]; exact wk_self p⟩
   rw [hz] at h40
   refine gn ?_
   refine o_indexAddr (j := lbW p ps) rfl rfl rfl hlt2 ?_
   refine gn ?_
   refine cp h40 ?_
   rintro _ rfl
   by_cases hxk : z = 0
   ·refine gn ?_
    exact fin2 ⟨⟨_,rfl,by simp [hmem.2 (hz0.1 hxk)]⟩,rfl⟩
   ·refine gn ?_
    exact fin2 ⟨⟨_,rfl,⟨fun h => (by cases h),fun h => absurd (hz0.2 (hmem.1 h)) hxk⟩⟩,rfl⟩
  ·have hnm : p ∉ ps := fun h => by
    have := (lbW_mem hi).1 h
    rw [List.getElem?_eq_none (by omega)] at this; cases this
   refine gn ?_
   exact fin2 ⟨⟨_,rfl,⟨fun h => (by cases h),fun h => absurd h hnm⟩⟩,rfl⟩
end
end Go.Ux
namespace Go.Ux
open Go Go.Proofs
set_option maxRecDepth 20000
attribute [local irreducible] WP Tr
structure Ow where
 k : Nm
 ap : Bool
 ps : List (List Nm)
def OWc (Z : Fz) (ver : ByteArray) (o : Ow) (cs : List Value) : Prop := ∃ a c vs,cs = [.string o.k,.string ver,.bool o.ap,.slice a o.ps.length c] ∧ Rs (inT Z 57) 1 (.slice a o.ps.length c) o.ps.length vs ∧ PS Z o.ps vs
def OWl (Z : Fz) (ver : ByteArray) : List Ow → List Value → Prop
 | [],cs => cs = []
 | o :: l,cs => ∃ c r,cs = c ++ r ∧ OWc Z ver o c ∧ OWl Z ver l r
section
variable {Z Z' : Fz} {ver : ByteArray}
theorem OWc.mono (hz : Fz.le Z Z') {o : Ow} {cs : List Value} (h : OWc Z ver o cs) : OWc Z' ver o cs := by
 obtain ⟨a,c,vs,h1,h2,h3⟩ := h
 exact ⟨a,c,vs,h1,h2.mono fun b o h => ⟨hz _ _ h.1,h.2⟩,h3.mono hz⟩
theorem OWl.mono (hz : Fz.le Z Z') : ∀ {l : List Ow} {cs : List Value},OWl Z ver l cs → OWl Z' ver l cs
 | [],_,h => h
 | _ :: _,_,⟨c,r,h1,h2,h3⟩ => ⟨c,r,h1,h2.mono hz,h3.mono hz⟩
theorem OWc.len {o : Ow} {cs : List Value} (h : OWc Z ver o cs) : cs.length = 4 := by obtain ⟨_,_,_,rfl,_⟩ := h; rfl
theorem OWl.len : ∀ {l : List Ow} {cs : List Value},OWl Z ver l cs → cs.length = l.length * 4
 | [],_,h => by simp only [OWl] at h; subst h; rfl
 | _ :: _,_,⟨c,r,h1,h2,h3⟩ => by rw [h1,List.length_append,h2.len,h3.len,List.length_cons]; omega
theorem OWl.snoc {o : Ow} {e : List Value} (h' : OWc Z ver o e) : ∀ {l : List Ow} {cs : List Value},OWl Z ver l cs → OWl Z ver (l ++ [o]) (cs ++ e)
 | [],_,h => by simp only [OWl] at h; subst h; exact ⟨e,[],by simp,h',rfl⟩
 | _ :: _,_,⟨c,r,h1,h2,h3⟩ => ⟨c,r ++ e,by rw [h1,List.append_assoc],h2,h3.snoc h'⟩
theorem OWl.at : ∀ {l : List Ow} {cs : List Value} {i : Nat} {o : Ow},OWl Z ver l cs → l[i]? = some o → OWc Z ver o ((cs.drop (i * 4)).take 4)
 | [],_,_,_,_,h => by simp at h
 | q :: l,_,i,o,⟨c,r,h1,h2,h3⟩,h => by
  subst h1
  have hl := h2.len
  cases i with
  | zero =>
   simp at h; subst h
   simpa [List.take_append,hl] using h2
  | succ i =>
   simp only [List.getElem?_cons_succ] at h
   have := h3.at h
   rw [List.drop_append,List.drop_of_length_le (l := c) (by omega),List.nil_append,hl,show (i + 1) * 4 - 4 = i * 4 by omega]
   exact this
theorem eltO {a : Option Addr} {n c i : Nat} {l : List Ow} {cs : List Value} {o : Ow} (hr : Rs (inT Z 79) 4 (.slice a n c) n cs) (hp : OWl Z ver l cs) (hk : l[i]? = some o) (hi : i < n) :
  ∃ b off xs a' c' vs,a = some ⟨b,off,none⟩ ∧ Z b = some (cl xs 79) ∧ (xs.drop (off + i * 4)).take 4 = [.string o.k,.string ver,.bool o.ap,.slice a' o.ps.length c'] ∧ Rs (inT Z 57) 1 (.slice a' o.ps.length c') o.ps.length vs ∧ PS Z o.ps vs := by
 obtain ⟨a',c',vs,h1,h2,h3⟩ := hp.at hk
 cases hr with
 | nil => omega
 | emp => omega
 | row b off n c U xs ds h hd hl hn =>
  obtain ⟨h,ys,e⟩ := h
  cases e
  refine ⟨b,off,_,a',c',vs,rfl,h,?_,h2,h3⟩
  rw [← hd,List.drop_take,List.take_take,List.drop_drop] at h1
  rwa [Nat.min_eq_left (by omega)] at h1
theorem upd_len {k : Nm} {v : Value} {c : Nat} : ∀ {es : List En},(upd k v c es).length ≤ es.length + 1
 | [] => by simp [upd]
 | e :: es => by
  have := upd_len (k := k) (v := v) (c := c) (es := es)
  simp only [upd]
  split
  ·simp
  ·simp only [List.length_cons]; omega
theorem has_set1 {f : Own} {k : Nm} {ap : Bool} {s : FS} {x : List Nm} : (f.set k (some (ap,s))).has k x ↔ s.has x := by
 constructor
 ·rintro ⟨_,_,h1,h2⟩; simp only [Own.set,if_true,Option.some.injEq,Prod.mk.injEq] at h1; rw [h1.2]; exact h2
 ·intro hx; exact ⟨ap,s,by simp [Own.set],hx⟩
theorem has_set2 {f : Own} {k k' : Nm} {v : Option (Bool × FS)} {x : List Nm} (h : k' ≠ k) : (f.set k v).has k' x ↔ f.has k' x := by simp only [Own.has,Own.set,if_neg h]
theorem nd_take {l : List Ow} {i : Nat} {o : Ow} (h : (l.map Ow.k).Nodup) (ho : l[i]? = some o) : ∀ o' ∈ l.take i,o'.k ≠ o.k := by
 obtain ⟨hi,e⟩ := List.getElem?_eq_some_iff.1 ho
 have h2 : l = l.take i ++ o :: l.drop (i + 1) := by
  rw [← e,List.getElem_cons_drop,List.take_append_drop]
 rw [h2,List.map_append,List.map_cons,List.nodup_append] at h
 intro o' ho' hk
 exact h.2.2 o'.k (List.mem_map_of_mem (f := Ow.k) ho') o.k (List.mem_cons_self ..) hk
set_option maxHeartbeats 4000000 in
theorem f37 {U : List Nm} {a : Option Addr} {c : Nat} {l : List Ow} {cs : List Value} (hU : U.length ≤ 1073741824) (hln : l.length ≤ 1048576) (hr : Rs (inT Z 79) 4 (.slice a l.length c) l.length cs) (hl : OWl Z ver l cs)
  (hp : ∀ o ∈ l,o.ps.length ≤ 1099511627776 ∧ ∀ p ∈ o.ps,p.length ≤ 8589934592 ∧ ∀ k ∈ p,k ∈ U) (hnd : (l.map Ow.k).Nodup) :
  Tr Tryz.prog 37 #[.slice a l.length c] Z [] fun x Z' H' => ∃ m es c f,x = .map (some m) ∧ H' = [(m,mp es c)] ∧ MF Z' U ver es c f ∧ (∀ k x,f.has k x ↔ ∃ o ∈ l,o.k = k ∧ x ∈ o.ps ∧ x ≠ []) ∧ es.length ≤ l.length := by
 refine Tr.introk Tryz.func37 rfl Tryz.ntmps37 Tryz.results37 rfl ?_
 refine gn ?_; intro mm
 refine gn ?_
 refine WP.loopK (5 :: List.range' 9 16) (fun m g Z' H' => ∃ (i : Nat) (es : List En) (cc : Nat) (f : Own),g 9 = .int .i64 (i : Int) ∧ i ≤ l.length ∧ m = l.length - i ∧ MF Z' U ver es cc f ∧ (∀ k x,f.has k x ↔ ∃ o ∈ l.take i,o.k = k ∧ x ∈ o.ps ∧ x ≠ []) ∧ es.length ≤ i ∧ H' = [(mm,mp es cc)]) l.length ⟨0,[],0,_,rfl,by omega,by omega,.nil,fun k x => by simp [Own.has],by simp,rfl⟩ ?_
 rintro m g Z' H' hz ⟨i,es,cc,f,h9,hi,rfl,hF,hx,hel,rfl⟩
 refine WP.pin 9 h9 ?_
 by_cases hin : i < l.length
 ·obtain ⟨o,ho⟩ : ∃ o,l[i]? = some o := ⟨l[i],by simp [hin]⟩
  obtain ⟨b',off,xs,a',c',vs,rfl,hb',hld,hro,hpo⟩ := eltO (hr.mono fun _ _ h => inT.lw hz.lw rfl h) (hl.mono hz) ho hin
  haveI : Zf Z' b' (cl xs 79) := ⟨hb'⟩
  obtain ⟨hpl,hpu⟩ := hp o (List.mem_of_getElem? ho)
  refine gn ?_
  refine o_indexAddr rfl rfl rfl hin ?_
  refine o_loadN rfl rfl hld rfl ?_
  refine gn ?_; intro b5
  refine gn ?_
  refine WP.draw [(b5,cl [.string o.k,.string ver,.bool o.ap,.slice a' o.ps.length c'] 79)] [(mm,mp es cc)] [0,1,2,3,4,6,7,8,9,5,10,11] mo (by decide +kernel) (prm rfl) ?_
  refine gn ?_
  refine cg (args := [.slice a' o.ps.length c']) (f53 hU hpl hro hpo hpu) ?_
  rintro _ Z2 hz2 ⟨bs,s,rfl,hs,hsx⟩
  refine cp (f61 bs ver o.ap) ?_
  rintro _ rfl
  refine o_mapUpdate (v := vst bs ver o.ap) rfl rfl rfl rfl ?_
  refine gn ?_
  have hnt := nd_take hnd ho
  refine ⟨bk,l.length - (i + 1),[(mm,mp (upd o.k (vst bs ver o.ap) cc es) (nxt o.k es cc))],_,by omega,spp,i + 1,_,_,f.set o.k (some (o.ap,s)),rfl,by omega,rfl,(hF.mono hz2).upd o.k hs,fun k x => ?_,by have := upd_len (k := o.k) (v := vst bs ver o.ap) (c := cc) (es := es); omega,rfl⟩
  rw [List.take_add_one,ho]
  simp only [Option.toList_some,List.mem_append,List.mem_singleton,or_and_right,exists_or,exists_eq_left]
  by_cases hk : k = o.k
  ·subst hk
   rw [has_set1,hsx]
   constructor
   ·intro h; exact .inr ⟨rfl,h⟩
   ·rintro (⟨o',h1,h2,_⟩ | ⟨_,h⟩)
    ·exact absurd h2 (hnt o' h1)
    ·exact h
  ·rw [has_set2 hk,hx]
   constructor
   ·intro h; exact .inl h
   ·rintro (h | ⟨h,_⟩)
    ·exact h
    ·exact absurd h.symm hk
 ·rw [List.take_of_length_le (by omega)] at hx
  refine gn ?_
  exact fk1 (A := [(mm,mp es cc)]) ⟨mm,es,cc,f,rfl,rfl,hF,hx,by omega⟩
end
end Go.Ux
namespace Go.Ux
open Go Go.Proofs
set_option maxRecDepth 20000
attribute [local irreducible] WP Tr
theorem PS.app {Z : Fz} {vs' : List Value} {ps' : List (List Nm)} (h' : PS Z ps' vs') : ∀ {ps : List (List Nm)} {vs : List Value},PS Z ps vs → PS Z (ps ++ ps') (vs ++ vs')
 | [],_,h => by simp only [PS] at h; subst h; exact h'
 | _ :: _,_,⟨v,vs₁,h1,h2,h3⟩ => ⟨v,vs₁ ++ vs',by rw [h1]; rfl,h2,PS.app h' h3⟩
theorem PS.take {Z : Fz} : ∀ {ps : List (List Nm)} {vs : List Value} (i : Nat),PS Z ps vs → PS Z (ps.take i) (vs.take i)
 | _,_,0,_ => by simp [PS]
 | [],_,_ + 1,h => by simp only [PS] at h; subst h; simp [PS]
 | _ :: _,_,i + 1,⟨v,vs',h1,h2,h3⟩ => by subst h1; exact ⟨v,vs'.take i,by simp,h2,h3.take i⟩
theorem PS.drop {Z : Fz} : ∀ {ps : List (List Nm)} {vs : List Value} (i : Nat),PS Z ps vs → PS Z (ps.drop i) (vs.drop i)
 | _,_,0,h => by simpa using h
 | [],_,_ + 1,h => by simp only [PS] at h; subst h; simp [PS]
 | _ :: _,_,i + 1,⟨v,vs',h1,h2,h3⟩ => by subst h1; simpa using h3.drop i
theorem PS.one {Z : Fz} : ∀ {ps : List (List Nm)} {vs : List Value},PS Z ps vs → ∀ u ∈ vs,u.oneCell' = true
 | [],_,h,u,hu => by simp only [PS] at h; subst h; cases hu
 | _ :: _,_,⟨v,vs',h1,h2,h3⟩,u,hu => by
  subst h1
  rcases List.mem_cons.1 hu with rfl | hu
  ·exact h2.one.h.2
  ·exact h3.one u hu
theorem ins_row {vs rest : List Value} {N v : Value} {i : Nat} (hi : i ≤ vs.length) : (setL (vs ++ N :: rest) (i + 1) (vs.drop i)).set i v = vs.take i ++ v :: (vs.drop i ++ rest) := by
 have key : ∀ (A B : List Value),(setL (A ++ B ++ N :: rest) (A.length + 1) B).set A.length v = A ++ v :: (B ++ rest) := by
  intro A B
  have e : ∃ x t,B ++ N :: rest = x :: t ∧ t.drop B.length = rest ∧ B.length ≤ t.length := by
   cases B with
   | nil => exact ⟨N,rest,rfl,rfl,by simp⟩
   | cons b B => exact ⟨b,B ++ N :: rest,rfl,by simp,by simp⟩
  obtain ⟨x,t,e1,e2,e3⟩ := e
  have h := setL_mid B (A ++ [x]) t e3
  rw [List.append_assoc,e1]
  rw [show A ++ x :: t = A ++ [x] ++ t by simp,show A.length + 1 = (A ++ [x]).length by simp,h,e2]
  simp
 have h := key (vs.take i) (vs.drop i)
 rw [List.take_append_drop,List.length_take,Nat.min_eq_left hi] at h
 exact h
section
variable {Z : Fz}
theorem f41 (k : Nm) : Pu Tryz.prog 41 #[.agg (el k).toArray] Z fun x => x = .agg (el k).toArray := by
 refine Pu.intro Tryz.func41 rfl Tryz.ntmps41 Tryz.results41 rfl ?_
 repeat (first | refine gn ?_ | intro _)
 exact finC1 (vs := el k) rfl ⟨rfl,rfl⟩
set_option maxHeartbeats 4000000 in
theorem f22 {a : Option Addr} {c : Nat} {q : List Nm} (hr : Rs (inT Z 76) 11 (.slice a q.length c) q.length (elC q)) (hn : q.length ≤ 8589934592) :
  Gr Tryz.prog 22 #[.slice a q.length c] Z fun x Z' => Rs (inT Z' 76) 11 x q.length (elC q) := by
 refine Gr.intro Tryz.func22 rfl Tryz.ntmps22 Tryz.results22 rfl ?_
 refine gn ?_
 refine o_makeSlice0 (e := 76) (k := 11) (c := q.length) rfl rfl (by omega) ?_
 intro lv Hl hl0
 haveI := hl0.one
 refine gn ?_
 rw [List.append_nil]
 refine WP.loopK (3 :: 5 :: List.range' 11 10) (fun m g Z' H' => ∃ (i : Nat) (pv : Value),g 11 = .int .i64 (i : Int) ∧ g 3 = pv ∧ i ≤ q.length ∧ m = q.length - i ∧ Sl 76 11 pv (elC (q.take i)) H') q.length ⟨0,lv,rfl,rfl,by omega,by omega,hl0⟩ ?_
 rintro m g Z' H' hz ⟨i,pv,h9,h3',hi,rfl,hpv⟩
 haveI := hpv.one
 refine WP.pin 11 h9 ?_
 refine WP.pin 3 h3' ?_
 by_cases hin : i < q.length
 ·obtain ⟨k,hk⟩ : ∃ k,q[i]? = some k := ⟨q[i],by simp⟩
  obtain ⟨b,off,xs,rfl,hb,hld⟩ := eltE (hr.mono fun _ _ h => inT.lw hz.lw rfl h) hk hin
  haveI : Zf Z' b (cl xs 76) := ⟨hb⟩
  refine gn ?_
  refine o_indexAddr rfl rfl rfl hin ?_
  refine o_loadN rfl rfl hld rfl ?_
  refine gn ?_; intro b5
  refine gn ?_
  refine cp (f41 k) ?_
  rintro _ rfl
  refine gn ?_; intro vb
  refine oap hpv rfl rfl rfl (Rs.cells (inferInstance : Mem false _ _ _ vb (cl _ 76)) rfl (Nat.le_refl 1)) (by simp [Value.oneCell']) (by omega) (by rw [elC_len,List.length_take]; simp; omega) ?_
  intro pv2 Hp2 hp2
  haveI := hp2.one
  refine gn ?_
  refine ⟨bk,q.length - (i + 1),Hp2,_,by omega,spp,i + 1,pv2,rfl,rfl,by omega,rfl,?_⟩
  rw [List.take_add_one,hk,elC_app]
  simpa [elC] using hp2
 ·have e1 : i = q.length := by omega
  subst e1
  rw [List.take_length] at hpv
  refine gn ?_
  refine fin1 fun Z'' hz'' hp => ?_
  obtain ⟨n,hn'⟩ := hpv.frz hp
  have h1 := hn'.lenk
  have h2 := elC_len q
  have e : n = q.length := by omega
  subst e
  exact hn'
theorem f21S {sv pv : Value} {Hs : Hp} {ps : List (List Nm)} {vs : List Value} {p : List Nm} (hs : Sl 57 1 sv vs Hs) (hps : PS Z ps vs) (hp : Rs (inT Z 76) 11 pv p.length (elC p)) (hi : IncW ps)
  (sps : ∀ q ∈ ps,Sq q) (sp : Sq p) (hn : ps.length ≤ 1099511627776) : Tr Tryz.prog 21 #[sv,pv] Z Hs fun x Z' H' => (∃ b,x = .tuple #[.int .i64 ((lbW p ps : Nat) : Int),.bool b] ∧ (b = true ↔ p ∈ ps)) ∧ Z = Z' ∧ H' = Hs := by
 have hl := hps.len
 cases hs with
 | nil =>
  have e : ps = [] := List.length_eq_zero_iff.1 (by simpa using hl.symm)
  subst e
  exact Tr.mono (f21 (.nil 0) hps hp hi sps sp hn) fun _ _ _ ⟨h1,h2,h3⟩ => ⟨h1,h2.symm,h3⟩
 | row b n c _ rest h1 h2 h3 =>
  have e : n = ps.length := by omega
  subst e
  refine Pu.lend fun hz => ?_
  have hz' := Fz.le_add (o := cl (vs ++ rest) 57) hz
  exact f21 (.row b 0 _ c 57 _ _ ⟨Fz.add_at,_,rfl⟩ (by simp [← h1]) h1 h3) (hps.mono hz') (hp.mono fun _ _ h => inT.lw hz'.lw rfl h) hi sps sp hn
set_option maxHeartbeats 8000000 in
theorem f8 {a : Option Addr} {c : Nat} {ps : List (List Nm)} {vs : List Value} (hr : Rs (inT Z 57) 1 (.slice a ps.length c) ps.length vs) (hp : PS Z ps vs) (hn : ps.length ≤ 68719476736) (hq : ∀ p ∈ ps,p.length ≤ 8589934592 ∧ Sq p) :
  Gr Tryz.prog 8 #[.slice a ps.length c] Z fun x Z' => ∃ s vs',Rs (inT Z' 57) 1 x s.length vs' ∧ PS Z' s vs' ∧ IncW s ∧ s.length ≤ ps.length ∧ ∀ q,q ∈ s ↔ q ∈ ps ∧ q ≠ [] := by
 refine Gr.intro Tryz.func8 rfl Tryz.ntmps8 Tryz.results8 rfl ?_
 refine gn ?_
 refine WP.loopK (3 :: 5 :: 6 :: 7 :: List.range' 10 31) (fun m g Z' H' => ∃ (i : Nat) (sv : Value) (s : List (List Nm)) (ws : List Value),g 10 = .int .i64 (i : Int) ∧ g 3 = sv ∧ i ≤ ps.length ∧ m = ps.length - i ∧ Sl 57 1 sv ws H' ∧ PS Z' s ws ∧ IncW s ∧ s.length ≤ i ∧ ∀ q,q ∈ s ↔ q ∈ ps.take i ∧ q ≠ []) ps.length
  ⟨0,_,[],[],rfl,rfl,by omega,by omega,.nil,by simp [PS],by simp [IncW],by simp,by simp⟩ ?_
 rintro m g Z' H' hz ⟨i,sv,s,ws,h10,h3,hi,rfl,hsv,hps,hinc,hsl,hmem⟩
 haveI := hsv.one
 refine WP.pin 10 h10 ?_
 refine WP.pin 3 h3 ?_
 by_cases hin : i < ps.length
 ·obtain ⟨p,hp'⟩ : ∃ p,ps[i]? = some p := ⟨ps[i],by simp⟩
  obtain ⟨b',off,xs,a',c',rfl,hb',he,hrp⟩ := eltP (hr.mono fun _ _ h => inT.lw hz.lw rfl h) (hp.mono hz) hp'
  haveI : Zf Z' b' (cl xs 57) := ⟨hb'⟩
  obtain ⟨hpl,hpq⟩ := hq p (List.mem_of_getElem? hp')
  have hmem' : (∀ q,q ∈ ps.take (i + 1) ∧ q ≠ [] ↔ (q ∈ s ∨ (q = p ∧ p ≠ []))) := fun q => by
   rw [List.take_add_one,hp',hmem]
   simp only [Option.toList_some,List.mem_append,List.mem_singleton]
   constructor
   ·rintro ⟨h1 | rfl,h2⟩
    ·exact .inl ⟨h1,h2⟩
    ·exact .inr ⟨rfl,h2⟩
   ·rintro (⟨h1,h2⟩ | ⟨rfl,h2⟩)
    ·exact ⟨.inl h1,h2⟩
    ·exact ⟨.inr rfl,h2⟩
  refine gn ?_
  refine o_indexAddr rfl rfl rfl hin ?_
  by_cases hpe : p = []
  ·subst hpe
   have h00 : ([] : List Nm).length = 0 := rfl
   refine gn ?_
   refine ⟨bk,ps.length - (i + 1),H',_,by omega,spp,i + 1,sv,s,ws,rfl,rfl,by omega,rfl,hsv,hps,hinc,by omega,fun q => ?_⟩
   rw [hmem']; simp
  ·have hpl0 : p.length ≠ 0 := fun h => hpe (List.length_eq_zero_iff.1 h)
   refine gn ?_
   refine ct (args := [sv,.slice a' p.length c']) (f21S hsv hps hrp hinc (fun q hq' => (hq q (List.mem_of_mem_take ((hmem q).1 hq').1)).2) hpq (by omega)) ?_
   rintro _ _ _ _ ⟨⟨b,rfl,hb⟩,rfl,rfl⟩
   cases b with
   | true =>
    refine gn ?_
    refine ⟨bk,ps.length - (i + 1),_,_,by omega,spp,i + 1,sv,s,ws,rfl,rfl,by omega,rfl,hsv,hps,hinc,by omega,fun q => ?_⟩
    rw [hmem']
    constructor
    ·exact .inl
    ·rintro (h | ⟨rfl,_⟩)
     ·exact h
     ·exact hb.1 rfl
   | false =>
    have hnp : p ∉ s := fun h => by have := hb.2 h; cases this
    have hle := lbW_le p s
    have hwl := hps.len
    refine gn ?_; intro vb
    refine oap hsv rfl rfl rfl (Rs.cells (inferInstance : Mem false _ _ _ vb (cl _ 57)) rfl (Nat.le_refl 1)) (by simp [Value.oneCell']) (by omega) (by simp; omega) ?_
    intro sv2 Hs2 hs2
    obtain ⟨b,n,cc,rest,rfl,rfl,q1,q2,q3⟩ := hs2.ne (by simp)
    simp only [List.length_append,List.length_cons,List.length_nil] at q1
    refine gn ?_
    refine WP.only [(b,cl (ws ++ [Value.slice none 0 0] ++ rest) 57)] ?_
    rw [List.append_assoc,List.singleton_append]
    refine WP.drawT [] [(b,cl (ws ++ Value.slice none 0 0 :: rest) 57)] mo (by decide +kernel) (prm rfl) ?_
    refine gn ?_
    refine o_sliceE (j := lbW p s + 1) rfl rfl rfl (by omega) ?_
    intro o ho1 ho2
    refine gn ?_
    refine o_sliceLs (j := lbW p s) rfl rfl rfl (by omega) (by omega) ?_
    have hdl : (ws.drop (lbW p s)).length = s.length - lbW p s := by rw [List.length_drop]; omega
    have hoo : o = lbW p s + 1 ∨ (ws.drop (lbW p s) = [] ∧ o = 0) := by
     by_cases hc : cc = lbW p s + 1
     ·exact .inr ⟨List.length_eq_zero_iff.1 (by omega),by have := ho2 hc; omega⟩
     ·exact .inl (by have := ho1 (by omega); omega)
    have hxl : (ws ++ Value.slice none 0 0 :: rest).length = cc := by simp; omega
    refine o_copy (k := 1) (m := s.length - lbW p s) (cs := ws.drop (lbW p s)) rfl rfl rfl ?_ ?_ (by omega) ?_ ?_ ?_
    ·simp only [Nat.min_def]; split <;> omega
    ·simp only [Nat.zero_add,Nat.mul_one]
     rw [List.drop_append_of_le_length (by omega),List.take_append_of_le_length (by omega),List.take_of_length_le (by omega)]
    ·rw [hxl]
     rcases hoo with rfl | ⟨h1,rfl⟩
     ·omega
     ·rw [h1]; simp
    ·rw [List.all_eq_true]
     exact fun u hu => hps.one u (List.mem_of_mem_drop hu)
    have hse : setL (ws ++ Value.slice none 0 0 :: rest) o (ws.drop (lbW p s)) = setL (ws ++ Value.slice none 0 0 :: rest) (lbW p s + 1) (ws.drop (lbW p s)) := by
     rcases hoo with rfl | ⟨h1,rfl⟩
     ·rfl
     ·rw [h1]; rfl
    rw [hse]
    refine gn ?_
    refine cg (args := [.slice a' p.length c']) (f22 hrp hpl) ?_
    rintro pv Z2 hz2 hpv
    haveI := hpv.one
    refine o_indexAddr (j := lbW p s) rfl rfl rfl (by omega) ?_
    refine o_store1g (v := pv) rfl rfl rfl (by rw [setL_length]; omega) ?_
    refine gn ?_
    have e0 : 0 + lbW p s * 1 = lbW p s := by omega
    rw [e0,ins_row (by omega)]
    refine ⟨bk,ps.length - (i + 1),[(b,cl (ws.take (lbW p s) ++ pv :: (ws.drop (lbW p s) ++ rest)) 57)],_,by omega,spp,i + 1,_,insW p s,ws.take (lbW p s) ++ pv :: ws.drop (lbW p s),rfl,rfl,by omega,rfl,?_,?_,insW_inc hinc hnp,by rw [insW_len]; omega,fun q => ?_⟩
    ·have := Sl.row (e := 57) (k := 1) b n cc (ws.take (lbW p s) ++ pv :: ws.drop (lbW p s)) rest (by simp; omega) q2 q3
     rw [List.append_assoc,List.cons_append] at this
     exact this
    ·exact PS.app (ps' := p :: s.drop (lbW p s)) ⟨pv,_,rfl,hpv,(hps.mono hz2).drop _⟩ ((hps.mono hz2).take _)
    ·rw [hmem',mem_insW]
     constructor
     ·rintro (rfl | h)
      ·exact .inr ⟨rfl,hpe⟩
      ·exact .inl h
     ·rintro (h | ⟨rfl,_⟩)
      ·exact .inr h
      ·exact .inl rfl
 ·rw [List.take_of_length_le (by omega)] at hmem
  refine gn ?_
  refine fin1 fun Z'' hz'' hq => ?_
  obtain ⟨n,hn'⟩ := hsv.frz hq
  have h1 := hn'.lenk
  have h2 := hps.len
  have e : n = s.length := by omega
  subst e
  exact ⟨s,ws,hn',hps.mono hz'',hinc,by omega,hmem⟩
end
end Go.Ux
namespace Go.Ux
open Go Go.Proofs
set_option maxRecDepth 20000
attribute [local irreducible] WP Tr
theorem WP.fzS {P : Program} {n e k : Nat} {c : Code} {Q : Post} {f : Fr} {Z : Fz} {H : Hp} {v : Value} {cs : List Value} (hs : Sl e k v cs H) (h : ∀ Z' m,Fz.le Z Z' → Rs (inT Z' e) k v m cs → WP P n c Q f Z' []) : WP P n c Q f Z H := by
 cases hs with
 | nil => exact h Z 0 (.refl Z) (.nil 0)
 | row b n c cs rest h1 h2 h3 => exact WP.freeze fun Z' hz hb => h Z' n hz (.row b 0 n c e _ _ ⟨hb,_,rfl⟩ (by simp [← h1]) h1 h3)
section
variable {Z : Fz}
theorem f28 {a : Option Addr} {c : Nat} {pv : Value} {ps : List (List Nm)} {vs : List Value} {p : List Nm} (hs : Rs (inT Z 57) 1 (.slice a ps.length c) ps.length vs) (hps : PS Z ps vs) (hp : Rs (inT Z 76) 11 pv p.length (elC p)) (hi : IncW ps)
  (sps : ∀ q ∈ ps,Sq q) (sp : Sq p) (hn : ps.length ≤ 1099511627776) : Pu Tryz.prog 28 #[.slice a ps.length c,pv] Z fun x => ∃ b,x = .bool b ∧ (b = true ↔ p ∈ ps ∧ p ≠ []) := by
 have hp0 := hp
 obtain ⟨a',c',rfl⟩ := hp.sl
 refine Pu.intro Tryz.func28 rfl Tryz.ntmps28 Tryz.results28 rfl ?_
 refine gn ?_
 refine cp (f21 hs hps hp0 hi sps sp hn) ?_
 rintro _ ⟨b,rfl,hb⟩
 cases b with
 | true =>
  by_cases hpe : p = []
  ·subst hpe
   have h00 : ([] : List Nm).length = 0 := rfl
   refine gn ?_
   exact fin1 ⟨⟨false,rfl,by simp⟩,rfl⟩
  ·have : p.length ≠ 0 := fun h => hpe (List.length_eq_zero_iff.1 h)
   refine gn ?_
   exact fin1 ⟨⟨true,rfl,by simp [hb.1 rfl,hpe]⟩,rfl⟩
 | false =>
  refine gn ?_
  exact fin1 ⟨⟨false,rfl,⟨fun h => (by cases h),fun h => hb.2 h.1⟩⟩,rfl⟩
theorem f27 {a : Option Addr} {c b3 : Nat} {pv : Value} {ps : List (List Nm)} {vs : List Value} {p : List Nm} (h3 : Z b3 = some (cl [.slice a ps.length c] 51)) (hs : Rs (inT Z 57) 1 (.slice a ps.length c) ps.length vs) (hps : PS Z ps vs) (hp : Rs (inT Z 76) 11 pv p.length (elC p)) (hi : IncW ps)
  (sps : ∀ q ∈ ps,Sq q) (sp : Sq p) (hn : ps.length ≤ 1099511627776) : Pu Tryz.prog 27 #[pv,pt b3] Z fun x => ∃ b,x = .bool b ∧ (b = true ↔ ¬ (p ∈ ps ∧ p ≠ [])) := by
 haveI : Zf Z b3 _ := ⟨.of (h3)⟩
 haveI := hp.one
 refine Pu.intro Tryz.func27 rfl Tryz.ntmps27 Tryz.results27 rfl ?_
 refine gn ?_
 refine cp (f28 hs hps hp hi sps sp hn) ?_
 rintro _ ⟨b,rfl,hb⟩
 refine gn ?_
 exact fin1 ⟨⟨!b,rfl,by rw [← hb]; cases b <;> simp⟩,rfl⟩
def mnW (ps qs : List (List Nm)) : List (List Nm) := ps.filter fun p => decide ¬ (p ∈ qs ∧ p ≠ [])
theorem mem_mnW {ps qs : List (List Nm)} {p : List Nm} : p ∈ mnW ps qs ↔ p ∈ ps ∧ ¬ (p ∈ qs ∧ p ≠ []) := by simp only [mnW,List.mem_filter,decide_eq_true_eq]
set_option maxHeartbeats 4000000 in
theorem f26 {a a₂ : Option Addr} {c c₂ b3 : Nat} {ps qs : List (List Nm)} {vs ws : List Value} (h3 : Z b3 = some (cl [.slice a₂ qs.length c₂] 51)) (hq : Rs (inT Z 57) 1 (.slice a₂ qs.length c₂) qs.length ws) (hqs : PS Z qs ws) (hi : IncW qs) (sqs : ∀ q ∈ qs,Sq q) (hqn : qs.length ≤ 1099511627776)
  (hr : Rs (inT Z 57) 1 (.slice a ps.length c) ps.length vs) (hp : PS Z ps vs) (sps : ∀ q ∈ ps,Sq q) (hn : ps.length ≤ 68719476736) :
  Gr Tryz.prog 26 #[.slice a ps.length c,.func (.func 27) #[] #[pt b3]] Z fun x Z' => ∃ us,Rs (inT Z' 57) 1 x (mnW ps qs).length us ∧ PS Z' (mnW ps qs) us := by
 refine Gr.intro Tryz.func26 rfl Tryz.ntmps26 Tryz.results26 rfl ?_
 refine gn ?_
 refine WP.loopK (5 :: 7 :: List.range' 10 12) (fun m g Z' H' => ∃ (i : Nat) (sv : Value) (us : List Value),g 10 = .int .i64 (i : Int) ∧ g 5 = sv ∧ i ≤ ps.length ∧ m = ps.length - i ∧ Sl 57 1 sv us H' ∧ PS Z' (mnW (ps.take i) qs) us) ps.length
  ⟨0,_,[],rfl,rfl,by omega,by omega,.nil,by simp [PS,mnW]⟩ ?_
 rintro m g Z' H' hz ⟨i,sv,us,h10,h5,hi',rfl,hsv,hps⟩
 haveI := hsv.one
 refine WP.pin 10 h10 ?_
 refine WP.pin 5 h5 ?_
 have hul := hps.len
 have hfl : (mnW (ps.take i) qs).length ≤ i := by
  have := List.length_filter_le (fun p => decide ¬ (p ∈ qs ∧ p ≠ [])) (ps.take i)
  unfold mnW
  rw [List.length_take] at this; omega
 by_cases hin : i < ps.length
 ·obtain ⟨p,hp'⟩ : ∃ p,ps[i]? = some p := ⟨ps[i],by simp⟩
  obtain ⟨b',off,xs,a',c',rfl,hb',he,hrp⟩ := eltP (hr.mono fun _ _ h => inT.lw hz.lw rfl h) (hp.mono hz) hp'
  haveI : Zf Z' b' (cl xs 57) := ⟨hb'⟩
  have hsn : mnW (ps.take (i + 1)) qs = mnW (ps.take i) qs ++ (if ¬ (p ∈ qs ∧ p ≠ []) then [p] else []) := by
   unfold mnW
   rw [List.take_add_one,hp',List.filter_append]
   by_cases hh : p ∈ qs ∧ p ≠ []
   ·simp [hh]
   ·simp only [Option.toList_some,List.filter_cons,decide_eq_true hh,if_true,if_pos hh,List.filter_nil]
  refine gn ?_
  refine o_indexAddr rfl rfl rfl hin ?_
  refine gn ?_
  refine cvp (g := 27) (fs := []) (cs := [pt b3]) (ys := [.slice a' p.length c']) (args := [.slice a' p.length c',pt b3]) (f27 (hz _ _ h3) (hq.mono fun _ _ h => inT.lw hz.lw rfl h) (hqs.mono hz) hrp hi sqs (sps p (List.mem_of_getElem? hp')) hqn) ?_
  rintro _ ⟨b,rfl,hb⟩
  cases b with
  | true =>
   have hh := hb.1 rfl
   refine gn ?_; intro vb
   refine oap hsv rfl rfl rfl (Rs.cells (inferInstance : Mem false _ _ _ vb (cl _ 57)) rfl (Nat.le_refl 1)) (by simp [Value.oneCell']) (by omega) (by simp; omega) ?_
   intro sv2 Hs2 hs2
   haveI := hs2.one
   refine gn ?_
   refine ⟨bk,ps.length - (i + 1),Hs2,_,by omega,spp,i + 1,sv2,_,rfl,rfl,by omega,rfl,hs2,?_⟩
   rw [hsn,if_pos hh]
   exact hps.snoc hrp
  | false =>
   have hh : p ∈ qs ∧ p ≠ [] := Classical.byContradiction fun h => by have := hb.2 h; cases this
   refine gn ?_
   refine ⟨bk,ps.length - (i + 1),H',_,by omega,spp,i + 1,sv,us,rfl,rfl,by omega,rfl,hsv,?_⟩
   rw [hsn,if_neg (not_not_intro hh),List.append_nil]
   exact hps
 ·rw [List.take_of_length_le (by omega)] at hps
  refine gn ?_
  refine fin1 fun Z'' hz'' hq => ?_
  obtain ⟨n,hn'⟩ := hsv.frz hq
  have h1 := hn'.lenk
  have h2 := hps.len
  have e : n = (mnW ps qs).length := by omega
  subst e
  exact ⟨us,hn',hps.mono hz''⟩
set_option maxHeartbeats 1000000 in
theorem f12 {a a₂ : Option Addr} {c c₂ : Nat} {ps qs : List (List Nm)} {vs ws : List Value} (hq : Rs (inT Z 57) 1 (.slice a₂ qs.length c₂) qs.length ws) (hqs : PS Z qs ws) (hi : IncW qs) (sqs : ∀ q ∈ qs,Sq q) (hqn : qs.length ≤ 1099511627776)
  (hr : Rs (inT Z 57) 1 (.slice a ps.length c) ps.length vs) (hp : PS Z ps vs) (sps : ∀ q ∈ ps,Sq q) (hn : ps.length ≤ 68719476736) :
  Gr Tryz.prog 12 #[.slice a ps.length c,.slice a₂ qs.length c₂] Z fun x Z' => ∃ us,Rs (inT Z' 57) 1 x (mnW ps qs).length us ∧ PS Z' (mnW ps qs) us := by
 refine Gr.intro Tryz.func12 rfl Tryz.ntmps12 Tryz.results12 rfl ?_
 refine gn ?_; intro b3
 refine o_assign rfl ?_
 refine r_end ?_
 refine q_n ?_
 refine WP.fz b3 ?_
 intro Z1 hz1 hb3
 refine gn ?_
 refine cg (args := [.slice a ps.length c,.func (.func 27) #[] #[pt b3]]) (f26 hb3 (hq.mono fun _ _ h => inT.lw hz1.lw rfl h) (hqs.mono hz1) hi sqs hqn (hr.mono fun _ _ h => inT.lw hz1.lw rfl h) (hp.mono hz1) sps hn) ?_
 rintro v Z2 hz2 ⟨us,h1,h2⟩
 haveI := h1.one
 refine gn ?_
 exact fin1 fun Z'' hz'' _ => ⟨us,h1.mono fun _ _ h => inT.lw hz''.lw rfl h,h2.mono hz''⟩
set_option maxHeartbeats 1000000 in
theorem f11 {a a₂ : Option Addr} {c c₂ : Nat} {ps qs : List (List Nm)} {vs ws : List Value} (hq : Rs (inT Z 57) 1 (.slice a₂ qs.length c₂) qs.length ws) (hqs : PS Z qs ws) (sqs : ∀ q ∈ qs,q.length ≤ 8589934592 ∧ Sq q) (hqn : qs.length ≤ 68719476736)
  (hr : Rs (inT Z 57) 1 (.slice a ps.length c) ps.length vs) (hp : PS Z ps vs) (sps : ∀ q ∈ ps,q.length ≤ 8589934592 ∧ Sq q) (hn : ps.length ≤ 68719476736) :
  Gr Tryz.prog 11 #[.slice a ps.length c,.slice a₂ qs.length c₂] Z fun x _Z' => ∃ b,x = .bool b ∧ (b = true ↔ ∀ p ∈ ps,p ≠ [] → p ∈ qs) := by
 refine Gr.intro Tryz.func11 rfl Tryz.ntmps11 Tryz.results11 rfl ?_
 refine gn ?_
 refine cg (args := [.slice a ps.length c]) (f8 hr hp hn sps) ?_
 rintro _ Z1 hz1 ⟨s,us,r1,p1,i1,l1,m1⟩
 obtain ⟨a1,c1,rfl⟩ := r1.sl
 refine gn ?_
 refine cg (args := [.slice a₂ qs.length c₂]) (f8 (hq.mono fun _ _ h => inT.lw hz1.lw rfl h) (hqs.mono hz1) hqn sqs) ?_
 rintro _ Z2 hz2 ⟨t,ts,r2,p2,i2,l2,m2⟩
 obtain ⟨a2,c2,rfl⟩ := r2.sl
 refine cg (args := [.slice a1 s.length c1,.slice a2 t.length c2]) (f12 r2 p2 i2 (fun q h => (sqs q ((m2 q).1 h).1).2) (by omega) (r1.mono fun _ _ h => inT.lw hz2.lw rfl h) (p1.mono hz2) (fun q h => (sps q ((m1 q).1 h).1).2) (by omega)) ?_
 rintro _ Z3 hz3 ⟨xs,r3,p3⟩
 obtain ⟨a3,c3,rfl⟩ := r3.sl
 have key : (mnW s t).length = 0 ↔ ∀ p ∈ ps,p ≠ [] → p ∈ qs := by
  rw [List.length_eq_zero_iff]
  constructor
  ·intro e p hp' hne
   refine Classical.byContradiction fun hnq => ?_
   have : p ∈ mnW s t := mem_mnW.2 ⟨(m1 p).2 ⟨hp',hne⟩,fun h => hnq ((m2 p).1 h.1).1⟩
   rw [e] at this; cases this
  ·intro h
   refine List.eq_nil_iff_forall_not_mem.2 fun p hp' => ?_
   obtain ⟨h1,h2⟩ := mem_mnW.1 hp'
   obtain ⟨h3,h4⟩ := (m1 p).1 h1
   exact h2 ⟨(m2 p).2 ⟨h p h3 h4,h4⟩,h4⟩
 by_cases h0 : (mnW s t).length = 0
 ·refine gn ?_
  exact fin1 fun _ _ _ => ⟨true,rfl,by simp [← key,h0]⟩
 ·refine gn ?_
  exact fin1 fun _ _ _ => ⟨false,rfl,by simp [← key,h0]⟩
def totO (l : List Ow) : Nat := (l.map fun o => o.ps.length).sum
set_option maxHeartbeats 4000000 in
theorem f10 {a : Option Addr} {c : Nat} {ver : ByteArray} {l : List Ow} {cs : List Value} (hln : l.length ≤ 1048576) (hr : Rs (inT Z 79) 4 (.slice a l.length c) l.length cs) (hl : OWl Z ver l cs) (ht : totO l ≤ 68719476736)
  (hp : ∀ o ∈ l,∀ p ∈ o.ps,p.length ≤ 8589934592 ∧ Sq p) :
  Gr Tryz.prog 10 #[.slice a l.length c] Z fun x Z' => ∃ s ws,Rs (inT Z' 57) 1 x s.length ws ∧ PS Z' s ws ∧ IncW s ∧ s.length ≤ totO l ∧ ∀ q,q ∈ s ↔ q ≠ [] ∧ ∃ o ∈ l,q ∈ o.ps := by
 refine Gr.intro Tryz.func10 rfl Tryz.ntmps10 Tryz.results10 rfl ?_
 refine gn ?_
 have hts : ∀ i,totO (l.take i) ≤ totO l := fun i => by
  have h : totO (l.take i ++ l.drop i) = totO (l.take i) + totO (l.drop i) := by unfold totO; rw [List.map_append,List.sum_append]
  rw [List.take_append_drop] at h; omega
 refine WP.loopK (3 :: 5 :: List.range' 8 9) (fun m g Z' H' => ∃ (i : Nat) (sv : Value) (s : List (List Nm)) (us : List Value),g 8 = .int .i64 (i : Int) ∧ g 3 = sv ∧ i ≤ l.length ∧ m = l.length - i ∧ Sl 57 1 sv us H' ∧ PS Z' s us ∧ s = (l.take i).flatMap Ow.ps) l.length
  ⟨0,_,[],[],rfl,rfl,by omega,by omega,.nil,by simp [PS],by simp⟩ ?_
 rintro m g Z' H' hz ⟨i,sv,s,us,h8,h3,hi,rfl,hsv,hps,hse⟩
 haveI := hsv.one
 refine WP.pin 8 h8 ?_
 refine WP.pin 3 h3 ?_
 have hul := hps.len
 have hsl : s.length = totO (l.take i) := by rw [hse,List.length_flatMap]; rfl
 by_cases hin : i < l.length
 ·obtain ⟨o,ho⟩ : ∃ o,l[i]? = some o := ⟨l[i],by simp⟩
  obtain ⟨b',off,xs,a',c',vs,rfl,hb',hld,hro,hpo⟩ := eltO (hr.mono fun _ _ h => inT.lw hz.lw rfl h) (hl.mono hz) ho hin
  haveI : Zf Z' b' (cl xs 79) := ⟨hb'⟩
  have hs1 := hts (i + 1)
  have hs2 : totO (l.take (i + 1)) = totO (l.take i) + o.ps.length := by rw [List.take_add_one,ho]; simp [totO]
  have hol := hpo.len
  refine gn ?_
  refine o_indexAddr rfl rfl rfl hin ?_
  refine o_loadN rfl rfl hld rfl ?_
  refine gn ?_; intro b5
  refine gn ?_
  refine oap hsv rfl rfl rfl (hro.mono fun _ _ h => ⟨.inl h.1⟩) hpo.one (by omega) (by omega) ?_
  intro sv2 Hs2 hs2
  haveI := hs2.one
  refine gn ?_
  refine ⟨bk,l.length - (i + 1),Hs2,_,by omega,spp,i + 1,sv2,s ++ o.ps,_,rfl,rfl,by omega,rfl,hs2,PS.app hpo hps,?_⟩
  rw [List.take_add_one,ho,hse]; simp
 ·rw [List.take_of_length_le (by omega)] at hsl hse
  refine WP.fzS hsv ?_
  intro Z1 m hz1 hrs
  have h1 := hrs.lenk
  have e : m = s.length := by omega
  subst e
  obtain ⟨a1,c1,rfl⟩ := hrs.sl
  have hsm : ∀ q,q ∈ s ↔ ∃ o ∈ l,q ∈ o.ps := fun q => by rw [hse,List.mem_flatMap]
  refine gn ?_
  refine cg (args := [.slice a1 s.length c1]) (f8 hrs (hps.mono hz1) (by omega) fun p hp' => by
   obtain ⟨o,ho,h⟩ := (hsm p).1 hp'
   exact hp o ho p h) ?_
  rintro v Z2 hz2 ⟨t,ts,r2,p2,i2,l2,m2⟩
  haveI := r2.one
  refine gn ?_
  exact fin1 fun Z'' hz'' _ => ⟨t,ts,r2.mono fun _ _ h => inT.lw hz''.lw rfl h,p2.mono hz'',i2,by omega,fun q => by rw [m2,hsm]; exact And.comm⟩
theorem f25 (k : Nm) : Pu Tryz.prog 25 #[.string k] Z fun x => x = .agg (el k).toArray := by
 refine Pu.intro Tryz.func25 rfl Tryz.ntmps25 Tryz.results25 rfl ?_
 repeat (first | refine gn ?_ | intro _)
 exact finC1 (vs := el k) rfl ⟨rfl,rfl⟩
theorem f17 : Pu Tryz.prog 17 #[] Z fun x => x = .agg #[.int .i64 6,.int .i64 0,.float .f64 0,.string ⟨#[]⟩,.slice none 0 0,.slice none 0 0] := by
 refine Pu.intro Tryz.func17 rfl Tryz.ntmps17 Tryz.results17 rfl ?_
 repeat (first | refine gn ?_ | intro _)
 exact finC1 (vs := [.int .i64 6,.int .i64 0,.float .f64 0,.string ⟨#[]⟩,.slice none 0 0,.slice none 0 0]) rfl ⟨rfl,rfl⟩
set_option maxHeartbeats 1000000 in
theorem f24 {a : Option Addr} {c : Nat} {q : List Nm} (k : Nm) (hr : Rs (inT Z 76) 11 (.slice a q.length c) q.length (elC q)) (hn : q.length ≤ 8589934592) :
  Gr Tryz.prog 24 #[.slice a q.length c,.agg (el k).toArray] Z fun x Z' => Rs (inT Z' 76) 11 x (q ++ [k]).length (elC (q ++ [k])) := by
 refine Gr.intro Tryz.func24 rfl Tryz.ntmps24 Tryz.results24 rfl ?_
 refine gn ?_; intro b3
 refine gn ?_
 refine WP.draw [(b3,cl (el k) 76)] [] [1,3,0,2,4,5,6] mo (by decide +kernel) (prm rfl) ?_
 refine gn ?_; intro b5
 refine oap (show Sl 76 11 (.slice (some ⟨b5,0,none⟩) 0 0) [] [(b5,cl [] 76)] from .row b5 0 0 [] [] rfl rfl (Nat.le_refl 0)) rfl rfl rfl (hr.mono fun _ _ h => ⟨.inl h.1⟩) (elC_one q) (by omega) (by rw [elC_len]; simp; omega) ?_
 intro v1 H1 h1
 haveI := h1.one
 refine gn ?_; intro vb
 refine oap h1 rfl rfl rfl (Rs.cells (inferInstance : Mem false _ _ _ vb (cl _ 76)) rfl (Nat.le_refl 1)) (by simp [Value.oneCell']) (by omega) (by simp [elC_len]; omega) ?_
 intro v2 H2 h2
 haveI := h2.one
 refine gn ?_
 refine fin1 fun Z'' hz'' hp => ?_
 obtain ⟨n,hn'⟩ := h2.frz fun p hp' => hp p (by simp [hp'])
 have e1 := hn'.lenk
 have e2 := elC_len (q ++ [k])
 rw [elC_app] at e2 ⊢
 have e : n = (q ++ [k]).length := by simp [elC] at e1 e2 ⊢; omega
 subst e
 show Rs (inT Z'' 76) 11 v2 _ (elC q ++ elC [k])
 rw [show elC [k] = el k from List.append_nil _]
 exact hn'
end
end Go.Ux
namespace Go.Ux
open Go Go.Proofs
def clR (k : Int) : Nat := if k = 1 ∨ k = 2 ∨ k = 3 ∨ k = 4 then 1 else if k = 5 then 2 else 0
theorem Shp.cls {r : RV} {t : Tv} (h : Shp r t) : t.cls = clR r.k := by
 obtain ⟨_,h2,h3,h4,h5⟩ := h.kind
 unfold clR
 split
 ·rename_i h; exact h3 h
 ·split
  ·rename_i h; exact h2 h
  ·by_cases h6 : r.k = 6
   ·exact h4 h6
   ·refine h5 ?_
    rename_i a b
    rintro (h | h | h | h | h | h)
    ·exact a (.inl h)
    ·exact a (.inr (.inl h))
    ·exact a (.inr (.inr (.inl h)))
    ·exact a (.inr (.inr (.inr h)))
    ·exact b h
    ·exact h6 h
def CpR (a b : RV) : Prop := ∀ q u v,RAt a q u → RAt b q v → clR u.k = clR v.k
theorem CpR.cp {a b : RV} {s t : Tv} (h : CpR a b) (ha : Shp a s) (hb : Shp b t) : Cp s t := fun q u v hu hv => by
 obtain ⟨x,h1,h2⟩ := ha.up hu
 obtain ⟨y,h3,h4⟩ := hb.up hv
 rw [h2.cls,h4.cls]; exact h q x y h1 h3
theorem CpR.of {a b : RV} {s t : Tv} (h : Cp s t) (ha : Shp a s) (hb : Shp b t) : CpR a b := fun q u v hu hv => by
 obtain ⟨x,h1,h2⟩ := ha.down hu
 obtain ⟨y,h3,h4⟩ := hb.down hv
 rw [← h2.cls,← h4.cls]; exact h q x y h1 h3
def ownL (l : List Ow) (k : Nm) (x : List Nm) : Prop := ∃ o ∈ l,o.k = k ∧ x ∈ o.ps
structure InvR (r : RV) (own : Nm → List Nm → Prop) : Prop where
 sub : ∀ m x,own m x → x ≠ [] ∧ ∃ u,RAt r x u
 cov : ∀ x u,x ≠ [] → RAt r x u → clR u.k ≠ 0 → ∃ m,own m x
theorem InvR.inv {r : RV} {t : Tv} {own : Nm → List Nm → Prop} (h : InvR r own) (hs : Shp r t) : Inv t own :=
 ⟨fun m x hx => ⟨(h.sub m x hx).1,hs.dm.2 (h.sub m x hx).2⟩,fun x u hx hu hl => by
  obtain ⟨v,h1,h2⟩ := hs.up hu
  exact h.cov x v hx h1 (by rw [← h2.cls]; exact leaf_iff.1 hl)⟩
theorem InvR.of {r : RV} {t : Tv} {own : Nm → List Nm → Prop} (h : Inv t own) (hs : Shp r t) : InvR r own :=
 ⟨fun m x hx => ⟨(h.sub m x hx).1,hs.dm.1 (h.sub m x hx).2⟩,fun x u hx hu hl => by
  obtain ⟨v,h1,h2⟩ := hs.down hu
  exact h.cov x v hx h1 (leaf_iff.2 (by rw [h2.cls]; exact hl))⟩
theorem InvR.congr {r : RV} {own own' : Nm → List Nm → Prop} (h : InvR r own) (e : ∀ k x,own k x ↔ own' k x) : InvR r own' :=
 ⟨fun m x hx => h.sub m x ((e m x).2 hx),fun x u hx hu hl => (h.cov x u hx hu hl).imp fun m hm => (e m x).1 hm⟩
def RV.inU (U : List Nm) (r : RV) : Prop := ∀ q u,RAt r q u → ∀ k ∈ q,k ∈ U
theorem RV.inU.tv {U : List Nm} {r : RV} {t : Tv} (h : r.inU U) (hs : Shp r t) : t.inU U := fun q u hu k hk => by
 obtain ⟨v,h1,_⟩ := hs.up hu
 exact h q v h1 k hk
theorem RV.inU.of {U : List Nm} {r : RV} {t : Tv} (h : t.inU U) (hs : Shp r t) : r.inU U := fun q u hu k hk => by
 obtain ⟨v,h1,_⟩ := hs.down hu
 exact h q v h1 k hk
theorem Al.inU {U : List Nm} {a b : Tv} (h : Al a b) (ha : a.inU U) : b.inU U := fun q _ hu k hk => by
 obtain ⟨v,hv⟩ := (h.dom q).2 ⟨_,hu⟩
 exact ha q v hv k hk
theorem Al.symm {a b : Tv} (h : Al a b) : Al b a := ⟨fun q => (h.dom q).symm,fun q u v hu hv => (h.cls q v u hv hu).symm⟩
theorem Al.cp {a b c : Tv} (h : Al a b) (hc : Cp a c) : Cp b c := fun q u v hu hv => by
 obtain ⟨w,hw⟩ := (h.dom q).2 ⟨_,hu⟩
 rw [← h.cls q w u hw hu]; exact hc q w v hw hv
mutual
theorem Shp.ex : ∀ (r : RV),Cl r → ∃ t,Shp r t
 | .mk k n f s ks l,hc => by
  by_cases h1 : k = 1
  ·exact ⟨_,by simp only [Shp]; rw [if_pos h1]⟩
  by_cases h2 : k = 2
  ·exact ⟨_,by simp only [Shp]; rw [if_neg h1,if_pos h2]⟩
  by_cases h3 : k = 3
  ·exact ⟨_,by simp only [Shp]; rw [if_neg h1,if_neg h2,if_pos h3]⟩
  by_cases h4 : k = 4
  ·exact ⟨_,by simp only [Shp]; rw [if_neg h1,if_neg h2,if_neg h3,if_pos h4]⟩
  by_cases h5 : k = 5
  ·obtain ⟨ts,ht⟩ := ShpL.ex l (hc.items h5)
   exact ⟨.li .nilIface ts,by simp only [Shp]; rw [if_neg h1,if_neg h2,if_neg h3,if_neg h4,if_pos h5]; exact ⟨_,_,rfl,ht⟩⟩
  by_cases h6 : k = 6
  ·have hf := hc.fields h6
   obtain ⟨ts,ht⟩ := ShpL.ex l hf.all
   have hl : ts.length = ks.length := by
    have : ∀ {l : List RV} {ts : List Tv},ShpL l ts → ts.length = l.length := by
     intro l
     induction l with
     | nil => intro ts h; simp only [ShpL] at h; subst h; rfl
     | cons r l ih => intro ts h; simp only [ShpL] at h; obtain ⟨t,ts',rfl,_,h2⟩ := h; simp [ih h2]
    rw [this ht,hf.len]
   refine ⟨.mp (ks.zip ts),by
    simp only [Shp]; rw [if_neg h1,if_neg h2,if_neg h3,if_neg h4,if_neg h5,if_pos h6]
    refine ⟨_,rfl,List.map_fst_zip (by omega),?_⟩
    rw [List.map_snd_zip (by omega)]
    exact ht⟩
  ·exact ⟨.null,by simp [Shp,h1,h2,h3,h4,h5,h6]⟩
theorem ShpL.ex : ∀ (l : List RV),(∀ x ∈ l,Cl x) → ∃ ts,ShpL l ts
 | [],_ => ⟨[],by simp [ShpL]⟩
 | r :: l,h => by
  obtain ⟨t,ht⟩ := Shp.ex r (h r (List.mem_cons_self ..))
  obtain ⟨ts,hts⟩ := ShpL.ex l fun x hx => h x (List.mem_cons_of_mem _ hx)
  exact ⟨t :: ts,by simp only [ShpL]; exact ⟨t,ts,rfl,ht,hts⟩⟩
end
structure Good (U : List Nm) (r : RV) (l : List Ow) : Prop where
 cl : Cl r
 nn : NoN r
 inv : InvR r (ownL l)
 inU : r.inU U
 nd : (l.map Ow.k).Nodup
 bd : ∀ o ∈ l,o.ps.length ≤ 1048576
structure Nxt (U : List Nm) (r : RV) (l : List Ow) (o : RV) (rn : RV) (l' : List Ow) : Prop where
 gd : Good U rn l'
 nodes : rn.nodes ≤ r.nodes + o.nodes
 len : l'.length ≤ l.length + 1
 cp : ∀ b,Cl b → CpR r b → CpR o b → CpR rn b
theorem Cl.noK {k n : Int} {f : Nat} {s : ByteArray} {ks : List Nm} {l : List RV} (h : Cl (.mk k n f s ks l)) (h6 : k ≠ 6) : ks = [] := by
 have e : (RV.mk k n f s ks l).clean.ks = [] := by
  simp only [RV.clean,if_neg h6]
  repeat' split
  all_goals rfl
 rw [h] at e; exact e
theorem Cl.noL {k n : Int} {f : Nat} {s : ByteArray} {ks : List Nm} {l : List RV} (h : Cl (.mk k n f s ks l)) (h5 : k ≠ 5) (h6 : k ≠ 6) : l = [] := by
 have e : (RV.mk k n f s ks l).clean.l = [] := by
  simp only [RV.clean,if_neg h5,if_neg h6]
  repeat' split
  all_goals rfl
 rw [h] at e; exact e
mutual
theorem Cl.sz : ∀ {r : RV},Cl r → r.sz + 1 ≤ 2 * r.nodes
 | .mk k n f s ks l,h => by
  simp only [RV.sz,RV.nodes]
  by_cases h5 : k = 5
  ·have hk := h.noK (by omega)
   have := ClL.sz (h.items h5)
   simp [h5,hk]; omega
  by_cases h6 : k = 6
  ·have hf := h.fields h6
   have := ClL.sz hf.all
   have hl := hf.len
   simp [h6]; omega
  ·simp [h5,h6,h.noK h6,h.noL h5 h6,szV]
theorem ClL.sz : ∀ {l : List RV},(∀ x ∈ l,Cl x) → szV l + l.length ≤ 2 * nodesL l
 | [],_ => by simp [szV]
 | r :: l,h => by
  have := Cl.sz (h r (List.mem_cons_self ..))
  have := ClL.sz fun x hx => h x (List.mem_cons_of_mem _ hx)
  simp only [szV,nodesL,List.length_cons]; omega
end
end Go.Ux
namespace Go.Ux
open Go Go.Proofs
def szP (e : List (Nm × RV)) : Nat := (e.map fun p => 1 + p.2.sz).sum
theorem szP_ins {k : Nm} {v : RV} : ∀ {e : List (Nm × RV)},szP (insK k v e) ≤ szP e + (1 + v.sz)
 | [] => by simp [insK,szP]
 | p :: e => by
  have ih := szP_ins (k := k) (v := v) (e := e)
  simp only [insK]
  split
  ·simp only [szP,List.map_cons,List.sum_cons]; omega
  ·split
   ·simp only [szP,List.map_cons,List.sum_cons]; omega
   ·simp only [szP,List.map_cons,List.sum_cons] at ih ⊢; omega
theorem szP_put : ∀ (z e : List (Nm × RV)),(∀ p ∈ z,p.2.clean.sz ≤ p.2.sz) → szP (z.foldl (fun e p => insK p.1 p.2.clean e) e) ≤ szP e + szP z
 | [],e,_ => by simp [szP]
 | p :: z,e,h => by
  have h1 := szP_put z (insK p.1 p.2.clean e) fun q hq => h q (List.mem_cons_of_mem _ hq)
  have h2 := szP_ins (k := p.1) (v := p.2.clean) (e := e)
  have h3 := h p (List.mem_cons_self ..)
  simp only [List.foldl_cons,szP,List.map_cons,List.sum_cons] at h1 h2 ⊢; omega
theorem szP_map : ∀ e : List (Nm × RV),(e.map (·.1)).length + szV (e.map (·.2)) = szP e
 | [] => rfl
 | p :: e => by have := szP_map e; simp only [List.map_cons,List.length_cons,szV,szP,List.sum_cons] at this ⊢; omega
theorem szP_zip : ∀ (ks : List Nm) (l : List RV),szP (ks.zip l) ≤ ks.length + szV l
 | [],_ => by simp [szP]
 | _ :: _,[] => by simp [szP]
 | k :: ks,r :: l => by have := szP_zip ks l; simp only [List.zip_cons_cons,szP,List.map_cons,List.sum_cons,List.length_cons,szV] at this ⊢; omega
theorem clean_sz : ∀ (N : Nat) (r : RV),r.sz < N → r.clean.sz ≤ r.sz
 | 0,_,h => by omega
 | N + 1,.mk k n f s ks l,h => by
  simp only [RV.sz] at h
  have hl : ∀ x ∈ l,x.clean.sz ≤ x.sz := fun x hx => by
   obtain ⟨i,hi,e⟩ := List.mem_iff_getElem.1 hx
   have := sz_at (l := l) (i := i) (r := x) (by rw [← e]; simp)
   exact clean_sz N x (by omega)
  by_cases h6 : k = 6
  ·subst h6
   rw [clean_map]
   have h1 := szP_put (ks.zip l) [] fun p hp => hl p.2 (List.of_mem_zip hp).2
   have h2 := szP_map (putM (ks.zip l))
   have h3 := szP_zip ks l
   have h4 : szP [] = 0 := rfl
   simp only [putM] at h2
   simp only [RV.sz,putM]; omega
  by_cases h5 : k = 5
  ·subst h5
   have e : ∀ l : List RV,(∀ x ∈ l,x.clean.sz ≤ x.sz) → szV (cleanL l) ≤ szV l := by
    intro l
    induction l with
    | nil => intro _; simp [cleanL]
    | cons x l ih =>
     intro h
     have := h x (List.mem_cons_self ..)
     have := ih fun y hy => h y (List.mem_cons_of_mem _ hy)
     simp only [cleanL,szV]; omega
   have := e l hl
   simp [RV.clean,RV.sz]; omega
  ·simp only [RV.clean,if_neg h5,if_neg h6]
   repeat' split
   all_goals simp [RV.sz,szV]; omega
theorem RV.csz (r : RV) : r.clean.sz ≤ r.sz := clean_sz _ r (Nat.lt_succ_self _)
mutual
theorem nodes_sz : ∀ r : RV,r.nodes ≤ r.sz
 | .mk k n f s ks l => by
  have := nodesL_sz l
  simp only [RV.nodes,RV.sz]
  split <;> omega
theorem nodesL_sz : ∀ l : List RV,nodesL l ≤ szV l
 | [] => by simp [nodesL,szV]
 | r :: l => by have := nodes_sz r; have := nodesL_sz l; simp only [nodesL,szV]; omega
end
theorem Cl.kd {r : RV} (h : Cl r) : r.k = 0 ∨ r.k = 1 ∨ r.k = 2 ∨ r.k = 3 ∨ r.k = 4 ∨ r.k = 5 ∨ r.k = 6 := by
 obtain ⟨k,n,f,s,ks,l⟩ := r
 have e : (RV.mk k n f s ks l).clean.k = k := by rw [h]; rfl
 simp only [RV.clean] at e
 simp only [RV.k]
 repeat' (split at e)
 all_goals (simp only [RV.k] at e; omega)
def KA (a b : RV) : Prop := ∀ q u v,RAt a q u → RAt b q v → (u.k = 6 ↔ v.k = 6) ∧ (u.k = 5 ↔ v.k = 5)
def NNu (r : RV) : Prop := ∀ q u,RAt r q u → u.k ≠ 0
theorem KA.cp {a b : RV} (h : KA a b) (ca : Cl a) (cb : Cl b) (na : NNu a) (nb : NNu b) : CpR a b := fun q u v hu hv => by
 obtain ⟨h1,h2⟩ := h q u v hu hv
 have k1 := (ca.at hu).kd
 have k2 := (cb.at hv).kd
 have n1 := na q u hu
 have n2 := nb q v hv
 unfold clR
 by_cases e6 : u.k = 6
 ·have := h1.1 e6; simp [e6,this]
 ·by_cases e5 : u.k = 5
  ·have := h2.1 e5; simp [e5,this]
  ·have m6 : v.k ≠ 6 := fun h => e6 (h1.2 h)
   have m5 : v.k ≠ 5 := fun h => e5 (h2.2 h)
   rw [if_pos (by omega),if_pos (by omega)]
theorem KA.symm {a b : RV} (h : KA a b) : KA b a := fun q u v hu hv => by
 obtain ⟨h1,h2⟩ := h q v u hv hu
 exact ⟨h1.symm,h2.symm⟩
theorem Cl.det : ∀ {q : List Nm} {r u v : RV},Cl r → RAt r q u → RAt r q v → u = v
 | [],_,_,_,_,hu,hv => (RAt.nil_iff.1 hu).symm.trans (RAt.nil_iff.1 hv)
 | k :: q,.mk k' n f s ks l,u,v,h,hu,hv => by
  obtain ⟨h6,x,hx,hu'⟩ := RAt.cons_iff.1 hu
  obtain ⟨_,y,hy,hv'⟩ := RAt.cons_iff.1 hv
  have hf := h.fields h6
  have e1 : (ks.zip l).map (·.1) = ks := List.map_fst_zip (by have := hf.len; omega)
  have : x = y := nodup_one (l := ks.zip l) (by rw [e1]; exact hf.inc.nodup) hx hy
  subst this
  exact Cl.det (hf.all x (List.of_mem_zip hx).2) hu' hv'
theorem KA.self {a : RV} (h : Cl a) : KA a a := fun q u v hu hv => by rw [h.det hu hv]; exact ⟨Iff.rfl,Iff.rfl⟩
end Go.Ux
namespace Go.Ux
open Go Go.Proofs
set_option maxRecDepth 20000
attribute [local irreducible] WP Tr
section
variable {Z : Fz} {U : List Nm}
def SI (b3 : Nat) (Hx : Hp) : List (List Nm) → Fz → Hp → Prop := fun done Z H => ∃ sv vs Hs,H = (b3,cl [sv] 51) :: (Hs ++ Hx) ∧ Sl 57 1 sv vs Hs ∧ PS Z done vs
theorem SI.stc (b3 : Nat) (Hx : Hp) : Stc (SI b3 Hx) := fun _ _ _ _ hz ⟨sv,cs,Hs,h1,h2,h3⟩ => ⟨sv,cs,Hs,h1,h2,h3.mono hz⟩
set_option maxHeartbeats 1000000 in
theorem f143 {b3 M : Nat} {Hx : Hp} (hM : M ≤ 68719476736) : PC 143 [] [pt b3] Z (SI b3 Hx) M := by
 rintro done q qv qcs Hq Z₁ _ hdl hz ⟨sv,cs,Hs,rfl,hs,hc⟩ hne hq hp hn
 haveI := hs.one
 haveI := hq.one
 have hcl := hc.len
 show Tr Tryz.prog 143 #[qv,pt b3] _ _ _
 refine Tr.introk Tryz.func143 rfl Tryz.ntmps143 Tryz.results143 rfl ?_
 refine WP.drawS [(b3,cl [sv] 51)] (Hq ++ (Hs ++ Hx)) 5 mo (by decide +kernel) (prm rfl) ?_
 refine gn ?_
 refine ct (args := [qv]) (f101 hq hp hne hn) ?_
 rintro v Z₂ Hq hz₂ ⟨hv,rfl⟩
 haveI := hv.one
 refine gn ?_; intro vb
 refine oap hs rfl rfl rfl (Rs.cells (inferInstance : Mem false _ _ _ vb (cl _ 57)) rfl (Nat.le_refl 1)) (by intro u hu; rw [List.mem_singleton.1 hu]; exact hv.one.h.2) (by omega) (by simp; omega) ?_
 intro sv' Hs' hs'
 haveI := hs'.one
 refine r_two [] ?_
 refine gn ?_
 exact fk0 (A := Hq ++ ((b3,cl [sv'] 51) :: (Hs' ++ Hx))) ⟨rfl,Hq,_,rfl,hq,sv',_,Hs',rfl,hs',(hc.mono hz₂).snoc hv⟩
set_option maxHeartbeats 1000000 in
theorem f104 {s : FS} {b : Nat} (hU : U.length ≤ 1073741824) (hs : ST Z U s b) (hc : s.cnt ≤ 68719476736) (hl : ∀ x,s.has x → x.length ≤ 8589934592) :
  Gr Tryz.prog 104 #[pt b] Z fun x Z' => ∃ ps vs,Rs (inT Z' 57) 1 x ps.length vs ∧ PS Z' ps vs ∧ ps.length ≤ s.cnt ∧ ∀ x,x ∈ ps ↔ s.has x := by
 refine Gr.intro Tryz.func104 rfl Tryz.ntmps104 Tryz.results104 rfl ?_
 refine gn ?_; intro b3
 refine gn ?_
 refine ct (args := [pt b,.func (.func 143) #[] #[pt b3]]) (f138 (M := s.cnt) (g := 143) (fs := []) (cs := [pt b3]) (SI.stc b3 []) s b U hs.1 hs.2 hU (f143 hc) ⟨_,[],[],rfl,.nil,rfl⟩ (Nat.le_refl _) hl) ?_
 rintro _ Z2 _ hz2 ⟨rfl,ps,⟨sv,vs,Hs,rfl,hs',hp⟩,hdn,hx⟩
 haveI := hs'.one
 refine gn ?_
 refine fin1 fun Z' hz' hq => ?_
 obtain ⟨n,hn⟩ := hs'.frz fun p h => hq p (by simp [h])
 have h1 := hn.lenk
 have h2 := hp.len
 have e : n = ps.length := by omega
 subst e
 exact ⟨ps,vs,hn,hp.mono hz',hdn,hx⟩
end
end Go.Ux
namespace Go.Ux
open Go Go.Proofs
set_option maxRecDepth 20000
attribute [local irreducible] WP Tr
section
variable {Z : Fz}
set_option maxHeartbeats 4000000 in
theorem f79 {m c : Nat} {es : List En} (hm : Z m = some (mp es c)) (hst : Stm es c) (hn : es.length ≤ 1048576) :
  Gr Tryz.prog 79 #[.map (some m)] Z fun x Z' => ∃ L : List Nm,Rs (inT Z' 9) 1 x L.length (L.map .string) ∧ Inc L ∧ L.Perm (es.map En.k) := by
 haveI : Zf Z m _ := ⟨.of (hm)⟩
 refine Gr.intro Tryz.func79 rfl Tryz.ntmps79 Tryz.results79 rfl ?_
 refine gn ?_
 refine o_range rfl rfl ?_
 intro bi
 refine gn ?_
 refine WP.loopK (3 :: 4 :: 5 :: List.range' 8 43) (fun k g Z' H' => ∃ done L lv Hl,k = left es done ∧ (∀ e ∈ done,e ∈ es) ∧ (done.map En.t).Nodup ∧ g 3 = lv ∧ Sl 9 1 lv (L.map .string) Hl ∧ Inc L ∧ L.Perm (done.map En.k) ∧ Z = Z' ∧ H' = Hl ++ [(bi,.mapIter (some m) c (done.map En.t).toArray c)]) (left es []) ⟨[],[],_,[],rfl,by simp,by simp,rfl,.nil,by simp [Inc],by simp,rfl,rfl⟩ ?_
 rintro k g Z' H' _ ⟨done,L,lv,Hl,rfl,hsub,hnd,h3,hl,hinc,hperm,rfl,rfl⟩
 haveI := hl.one
 refine WP.pin 3 h3 ?_
 refine gn ?_
 refine o_next rfl rfl hst.lt ?_ ?_
 ·intro hall
  have hp := perm_all hsub hnd (by simpa using hall) hst.nd
  refine gn ?_
  refine fin1 fun Z'' hz'' hq => ?_
  obtain ⟨n,hn'⟩ := hl.frz fun p h => hq p (List.mem_append_left _ h)
  have h1 := hn'.lenk
  rw [List.length_map] at h1
  have e : n = L.length := by omega
  subst e
  exact ⟨L,hn',hinc,hperm.trans (hp.map En.k)⟩
 ·intro e he hns
  have hsub2 : ∀ x ∈ done ++ [e],x ∈ es := fun x hx => by
   rcases List.mem_append.1 hx with h | h
   ·exact hsub x h
   ·rw [List.mem_singleton.1 h]; exact he
  have hnd2 := nd_snoc hnd hns
  have hdl : (done ++ [e]).length ≤ es.length := by
   have hinj : ∀ {a b : List Nat},a.Nodup → (∀ x ∈ a,x ∈ b) → a.length ≤ b.length := by
    intro a
    induction a with
    | nil => intro b _ _; exact Nat.zero_le _
    | cons x a ih =>
     intro b hn h
     rw [List.nodup_cons] at hn
     have hx := h x (List.mem_cons_self ..)
     have ih := ih (b := b.erase x) hn.2 fun y hy => (List.mem_erase_of_ne (by rintro rfl; exact hn.1 hy)).2 (h y (List.mem_cons_of_mem _ hy))
     rw [List.length_erase_of_mem hx] at ih
     have := List.length_pos_of_mem hx
     simp only [List.length_cons]; omega
   have := hinj (a := (done ++ [e]).map En.t) (b := es.map En.t) hnd2 fun x hx => by
    obtain ⟨e',he',rfl⟩ := List.mem_map.1 hx
    exact List.mem_map_of_mem (hsub2 e' he')
   simpa only [List.length_map] using this
  have hLl : L.length = done.length := by have := hperm.length_eq; simpa using this
  have hnk : e.k ∉ L := fun h => by
   obtain ⟨e',he',hk⟩ := List.mem_map.1 (hperm.mem_iff.1 h)
   have : e' = e := by
    have inj : ∀ {l : List En},(l.map En.k).Nodup → ∀ {a b : En},a ∈ l → b ∈ l → a.k = b.k → a = b := by
     intro l
     induction l with
     | nil => intro _ a b ha; cases ha
     | cons x l ih =>
      intro hn a b ha hb hab
      simp only [List.map_cons,List.nodup_cons] at hn
      rcases List.mem_cons.1 ha with rfl | ha'
      ·rcases List.mem_cons.1 hb with rfl | hb'
       ·rfl
       ·exact absurd (hab ▸ List.mem_map_of_mem (f := En.k) hb') hn.1
      ·rcases List.mem_cons.1 hb with rfl | hb'
       ·exact absurd (hab ▸ List.mem_map_of_mem (f := En.k) ha') hn.1
       ·exact ih hn.2 ha' hb' hab
    exact inj hst.kd (hsub e' he') he hk
   subst this
   exact hns (by simpa using List.mem_map_of_mem (f := En.t) he')
  simp only [List.length_append,List.length_cons,List.length_nil] at hdl
  refine gn ?_
  refine o_entry rfl rfl he hst.nd ?_
  refine gn ?_; intro vb
  refine oap hl rfl rfl rfl (Rs.cells (inferInstance : Mem false _ _ _ vb (cl _ 9)) rfl (Nat.le_refl 1)) (by simp [Value.oneCell']) (by omega) (by simp; omega) ?_
  intro lv2 Hl2 hl2
  obtain ⟨b,n,cc,rest,rfl,rfl,q1,q2,q3⟩ := hl2.ne (by simp)
  have hn1 : n = L.length + 1 := by simpa using q1.symm
  subst hn1
  refine gn ?_
  have hset : ∀ (A B : List Nm) (x y : Nm),((((A ++ x :: y :: B).map Value.string ++ rest).set (A.length + 1) (.string x)).set A.length (.string y)) = (A ++ y :: x :: B).map Value.string ++ rest := fun A B x y => by
   simp
  have hget : ∀ (A B : List Nm) (x : Nm),((A ++ x :: B).map Value.string ++ rest)[0 + A.length * 1]? = some (.string x) := fun A B x => by simp
  rw [show (L.map Value.string ++ [Value.string e.k]) = (L ++ e.k :: []).map Value.string from by simp]
  refine WP.only [(b,cl ((L ++ e.k :: []).map .string ++ rest) 9),(bi,.mapIter (some m) c ((done.map En.t).toArray.push e.t) c)] ?_
  refine WP.loopK (5 :: List.range' 19 32) (fun k g Z' H' => ∃ (A B : List Nm),g 5 = .int .i64 (A.length : Int) ∧ k = A.length ∧ L = A ++ B ∧ (∀ x ∈ B,ltN e.k x) ∧ Z = Z' ∧ H' = [(b,cl ((A ++ e.k :: B).map .string ++ rest) 9),(bi,.mapIter (some m) c ((done.map En.t).toArray.push e.t) c)]) L.length ⟨L,[],(by show Value.int .i64 (((L.length + 1 : Nat) : Int) - 1) = _; congr 1; omega),rfl,by simp,by simp,rfl,rfl⟩ ?_
  rintro k g' Z' H' _ ⟨A,B,h5,rfl,rfl,hB,rfl,rfl⟩
  refine WP.pin 5 h5 ?_
  have hfin : (∀ x ∈ A,ltN x e.k) → Inc (A ++ e.k :: B) ∧ (A ++ e.k :: B).Perm ((done ++ [e]).map En.k) := fun hA => by
   constructor
   ·have h1 := List.pairwise_append.1 hinc
    refine List.pairwise_append.2 ⟨h1.1,List.pairwise_cons.2 ⟨hB,h1.2.1⟩,fun x hx y hy => ?_⟩
    rcases List.mem_cons.1 hy with rfl | hy
    ·exact hA x hx
    ·exact h1.2.2 x hx y hy
   ·rw [List.map_append,List.map_cons,List.map_nil]
    exact List.perm_middle.trans ((List.Perm.cons _ hperm).trans (List.perm_append_singleton _ _).symm)
  have hlen2 : (A ++ e.k :: B).length = (A ++ B).length + 1 := by simp; omega
  have hdone : (∀ x ∈ A,ltN x e.k) → ∃ done' L' lv' Hl',left es (done ++ [e]) = left es done' ∧ (∀ x ∈ done',x ∈ es) ∧ (done'.map En.t).Nodup ∧ Value.slice (some ⟨b,0,none⟩) ((A ++ B).length + 1) cc = lv' ∧ Sl 9 1 lv' (L'.map .string) Hl' ∧ Inc L' ∧ L'.Perm (done'.map En.k) ∧ Z = Z ∧ [(b,cl ((A ++ e.k :: B).map .string ++ rest) 9),(bi,.mapIter (some m) c ((done.map En.t).toArray.push e.t) c)] = Hl' ++ [(bi,.mapIter (some m) c (done'.map En.t).toArray c)] := fun hA => by
   refine ⟨done ++ [e],A ++ e.k :: B,_,[(b,cl ((A ++ e.k :: B).map .string ++ rest) 9)],rfl,hsub2,hnd2,rfl,?_,(hfin hA).1,(hfin hA).2,rfl,by rw [push_snoc]; rfl⟩
   exact .row b _ cc _ rest (by rw [List.length_map,hlen2]; simp) q2 q3
  have hlt := left_lt he hns
  obtain rfl | ⟨A',x,rfl⟩ : A = [] ∨ ∃ A' x,A = A' ++ [x] := by
   rcases List.eq_nil_or_concat A with h | ⟨a,x,h⟩
   ·exact .inl h
   ·exact .inr ⟨a,x,by rw [h,List.concat_eq_append]⟩
  all_goals refine gn ?_
  ·have e0 : ([] : List Nm).length = 0 := rfl
   obtain ⟨done',L',lv',Hl',r1,r2,r3,r4,r5,r6,r7,r8,r9⟩ := hdone (by simp)
   refine WP.drawA mo (by decide +kernel) ?_
   refine gn ?_
   rw [r9]
   refine ⟨bk,left es (done ++ [e]),Hl' ++ [(bi,.mapIter (some m) c (done'.map En.t).toArray c)],_,hlt,spp,done',L',lv',Hl',r1,r2,r3,r4,r5,r6,r7,r8,rfl⟩
  ·have g1 : ((A' ++ x :: e.k :: B).map Value.string ++ rest)[0 + (A'.length + 1) * 1]? = some (.string e.k) := by
    simp
   have g2 : ((A' ++ x :: e.k :: B).map Value.string ++ rest)[0 + A'.length * 1]? = some (.string x) := hget A' (e.k :: B) x
   have eA : (A' ++ [x]) ++ e.k :: B = A' ++ x :: e.k :: B := by simp
   have el : (A' ++ [x]).length = A'.length + 1 := by simp
   rw [eA] at hdone ⊢
   rw [el]
   have hAl : A'.length ≤ 1048576 := by simp at hLl; omega
   have hxk : x ≠ e.k := fun h => hnk (by rw [← h]; simp)
   refine WP.drawA mo (by decide +kernel) ?_
   refine gn ?_
   refine o_indexAddr (j := A'.length + 1) rfl rfl rfl (by simp) ?_
   refine gn ?_
   refine o_indexAddr (ik := .i64) (j := A'.length) rfl rfl ?_ (by simp; omega) ?_
   ·show Value.int .i64 (((A'.length + 1 : Nat) : Int) - 1) = .int .i64 ((A'.length : Nat) : Int)
    congr 1; omega
   refine gn ?_
   refine o_lssS rfl rfl rfl rfl ?_
   by_cases hkx : ltN e.k x
   ·rw [decide_eq_true hkx]
    refine gn ?_
    refine WP.draw3 [(b,cl ((A' ++ x :: e.k :: B).map .string ++ rest) 9)] [(bi,.mapIter (some m) c ((done.map En.t).toArray.push e.t) c)] [0,1,2,3,4,5,6,7,8,9,10,11,12,13] [14,15,16,17] mo (by decide +kernel) (prm rfl) ?_
    have hix : Value.int .i64 (((A'.length + 1 : Nat) : Int) - 1) = .int .i64 ((A'.length : Nat) : Int) := by congr 1; omega
    refine gn ?_
    refine o_indexAddr (ik := .i64) (j := A'.length) rfl rfl hix (by simp; omega) ?_
    refine gn ?_
    refine o_indexAddr (j := A'.length + 1) rfl rfl rfl (by simp) ?_
    refine o_load1 rfl rfl g1 ?_
    refine r_two [] ?_
    refine o_indexAddr (j := A'.length + 1) rfl rfl rfl (by simp) ?_
    refine o_store1g (v := .string x) rfl rfl rfl (by simp) ?_
    refine o_indexAddr (ik := .i64) (j := A'.length) rfl rfl hix (by simp; omega) ?_
    refine o_store1g (v := .string e.k) rfl rfl rfl (by simp) ?_
    refine gn ?_
    rw [show 0 + (A'.length + 1) * 1 = A'.length + 1 from by omega,show 0 + A'.length * 1 = A'.length from by omega,hset]
    exact ⟨bk,A'.length,[(b,cl ((A' ++ e.k :: x :: B).map .string ++ rest) 9),(bi,.mapIter (some m) c ((done.map En.t).toArray.push e.t) c)],_,by simp,spp,A',x :: B,hix,rfl,by simp,fun y hy => by
     rcases List.mem_cons.1 hy with rfl | hy
     ·exact hkx
     ·exact hB y hy,rfl,rfl⟩
   ·have hA : ∀ y ∈ A' ++ [x],ltN y e.k := fun y hy => by
     have hxe : ltN x e.k := ((ltN_tri x e.k).resolve_right fun h => h.elim hxk hkx)
     rcases List.mem_append.1 hy with hy | hy
     ·have h1 := (List.pairwise_append.1 (List.pairwise_append.1 hinc).1).2.2 y hy x (List.mem_singleton.2 rfl)
      exact h1.trans hxe
     ·rw [List.mem_singleton.1 hy]; exact hxe
    obtain ⟨done',L',lv',Hl',r1,r2,r3,r4,r5,r6,r7,r8,r9⟩ := hdone hA
    rw [decide_eq_false hkx]
    refine gn ?_
    rw [r9]
    refine ⟨bk,left es (done ++ [e]),Hl' ++ [(bi,.mapIter (some m) c (done'.map En.t).toArray c)],_,hlt,spp,done',L',lv',Hl',r1,r2,r3,r4,r5,r6,r7,r8,rfl⟩
end
end Go.Ux
namespace Go.Ux
open Go Go.Proofs
set_option maxRecDepth 20000
attribute [local irreducible] WP Tr
section
variable {Z : Fz}
set_option maxHeartbeats 4000000 in
theorem f103 {m c : Nat} {es : List En} (hm : Z m = some (mp es c)) (hst : Stm es c) (hn : es.length ≤ 1048576) :
  Gr Tryz.prog 103 #[.map (some m)] Z fun x Z' => ∃ L : List Nm,Rs (inT Z' 9) 1 x L.length (L.map .string) ∧ Inc L ∧ L.Perm (es.map En.k) := by
 haveI : Zf Z m _ := ⟨.of (hm)⟩
 refine Gr.intro Tryz.func103 rfl Tryz.ntmps103 Tryz.results103 rfl ?_
 refine gn ?_
 refine o_range rfl rfl ?_
 intro bi
 refine gn ?_
 refine WP.loopK (3 :: 4 :: 5 :: List.range' 8 43) (fun k g Z' H' => ∃ done L lv Hl,k = left es done ∧ (∀ e ∈ done,e ∈ es) ∧ (done.map En.t).Nodup ∧ g 3 = lv ∧ Sl 9 1 lv (L.map .string) Hl ∧ Inc L ∧ L.Perm (done.map En.k) ∧ Z = Z' ∧ H' = Hl ++ [(bi,.mapIter (some m) c (done.map En.t).toArray c)]) (left es []) ⟨[],[],_,[],rfl,by simp,by simp,rfl,.nil,by simp [Inc],by simp,rfl,rfl⟩ ?_
 rintro k g Z' H' _ ⟨done,L,lv,Hl,rfl,hsub,hnd,h3,hl,hinc,hperm,rfl,rfl⟩
 haveI := hl.one
 refine WP.pin 3 h3 ?_
 refine gn ?_
 refine o_next rfl rfl hst.lt ?_ ?_
 ·intro hall
  have hp := perm_all hsub hnd (by simpa using hall) hst.nd
  refine gn ?_
  refine fin1 fun Z'' hz'' hq => ?_
  obtain ⟨n,hn'⟩ := hl.frz fun p h => hq p (List.mem_append_left _ h)
  have h1 := hn'.lenk
  rw [List.length_map] at h1
  have e : n = L.length := by omega
  subst e
  exact ⟨L,hn',hinc,hperm.trans (hp.map En.k)⟩
 ·intro e he hns
  have hsub2 : ∀ x ∈ done ++ [e],x ∈ es := fun x hx => by
   rcases List.mem_append.1 hx with h | h
   ·exact hsub x h
   ·rw [List.mem_singleton.1 h]; exact he
  have hnd2 := nd_snoc hnd hns
  have hdl : (done ++ [e]).length ≤ es.length := by
   have hinj : ∀ {a b : List Nat},a.Nodup → (∀ x ∈ a,x ∈ b) → a.length ≤ b.length := by
    intro a
    induction a with
    | nil => intro b _ _; exact Nat.zero_le _
    | cons x a ih =>
     intro b hn h
     rw [List.nodup_cons] at hn
     have hx := h x (List.mem_cons_self ..)
     have ih := ih (b := b.erase x) hn.2 fun y hy => (List.mem_erase_of_ne (by rintro rfl; exact hn.1 hy)).2 (h y (List.mem_cons_of_mem _ hy))
     rw [List.length_erase_of_mem hx] at ih
     have := List.length_pos_of_mem hx
     simp only [List.length_cons]; omega
   have := hinj (a := (done ++ [e]).map En.t) (b := es.map En.t) hnd2 fun x hx => by
    obtain ⟨e',he',rfl⟩ := List.mem_map.1 hx
    exact List.mem_map_of_mem (hsub2 e' he')
   simpa only [List.length_map] using this
  have hLl : L.length = done.length := by have := hperm.length_eq; simpa using this
  have hnk : e.k ∉ L := fun h => by
   obtain ⟨e',he',hk⟩ := List.mem_map.1 (hperm.mem_iff.1 h)
   have : e' = e := by
    have inj : ∀ {l : List En},(l.map En.k).Nodup → ∀ {a b : En},a ∈ l → b ∈ l → a.k = b.k → a = b := by
     intro l
     induction l with
     | nil => intro _ a b ha; cases ha
     | cons x l ih =>
      intro hn a b ha hb hab
      simp only [List.map_cons,List.nodup_cons] at hn
      rcases List.mem_cons.1 ha with rfl | ha'
      ·rcases List.mem_cons.1 hb with rfl | hb'
       ·rfl
       ·exact absurd (hab ▸ List.mem_map_of_mem (f := En.k) hb') hn.1
      ·rcases List.mem_cons.1 hb with rfl | hb'
       ·exact absurd (hab ▸ List.mem_map_of_mem (f := En.k) ha') hn.1
       ·exact ih hn.2 ha' hb' hab
    exact inj hst.kd (hsub e' he') he hk
   subst this
   exact hns (by simpa using List.mem_map_of_mem (f := En.t) he')
  simp only [List.length_append,List.length_cons,List.length_nil] at hdl
  refine gn ?_
  refine o_entry rfl rfl he hst.nd ?_
  refine gn ?_; intro vb
  refine oap hl rfl rfl rfl (Rs.cells (inferInstance : Mem false _ _ _ vb (cl _ 9)) rfl (Nat.le_refl 1)) (by simp [Value.oneCell']) (by omega) (by simp; omega) ?_
  intro lv2 Hl2 hl2
  obtain ⟨b,n,cc,rest,rfl,rfl,q1,q2,q3⟩ := hl2.ne (by simp)
  have hn1 : n = L.length + 1 := by simpa using q1.symm
  subst hn1
  refine gn ?_
  have hset : ∀ (A B : List Nm) (x y : Nm),((((A ++ x :: y :: B).map Value.string ++ rest).set (A.length + 1) (.string x)).set A.length (.string y)) = (A ++ y :: x :: B).map Value.string ++ rest := fun A B x y => by
   simp
  have hget : ∀ (A B : List Nm) (x : Nm),((A ++ x :: B).map Value.string ++ rest)[0 + A.length * 1]? = some (.string x) := fun A B x => by simp
  rw [show (L.map Value.string ++ [Value.string e.k]) = (L ++ e.k :: []).map Value.string from by simp]
  refine WP.only [(b,cl ((L ++ e.k :: []).map .string ++ rest) 9),(bi,.mapIter (some m) c ((done.map En.t).toArray.push e.t) c)] ?_
  refine WP.loopK (5 :: List.range' 19 32) (fun k g Z' H' => ∃ (A B : List Nm),g 5 = .int .i64 (A.length : Int) ∧ k = A.length ∧ L = A ++ B ∧ (∀ x ∈ B,ltN e.k x) ∧ Z = Z' ∧ H' = [(b,cl ((A ++ e.k :: B).map .string ++ rest) 9),(bi,.mapIter (some m) c ((done.map En.t).toArray.push e.t) c)]) L.length ⟨L,[],(by show Value.int .i64 (((L.length + 1 : Nat) : Int) - 1) = _; congr 1; omega),rfl,by simp,by simp,rfl,rfl⟩ ?_
  rintro k g' Z' H' _ ⟨A,B,h5,rfl,rfl,hB,rfl,rfl⟩
  refine WP.pin 5 h5 ?_
  have hfin : (∀ x ∈ A,ltN x e.k) → Inc (A ++ e.k :: B) ∧ (A ++ e.k :: B).Perm ((done ++ [e]).map En.k) := fun hA => by
   constructor
   ·have h1 := List.pairwise_append.1 hinc
    refine List.pairwise_append.2 ⟨h1.1,List.pairwise_cons.2 ⟨hB,h1.2.1⟩,fun x hx y hy => ?_⟩
    rcases List.mem_cons.1 hy with rfl | hy
    ·exact hA x hx
    ·exact h1.2.2 x hx y hy
   ·rw [List.map_append,List.map_cons,List.map_nil]
    exact List.perm_middle.trans ((List.Perm.cons _ hperm).trans (List.perm_append_singleton _ _).symm)
  have hlen2 : (A ++ e.k :: B).length = (A ++ B).length + 1 := by simp; omega
  have hdone : (∀ x ∈ A,ltN x e.k) → ∃ done' L' lv' Hl',left es (done ++ [e]) = left es done' ∧ (∀ x ∈ done',x ∈ es) ∧ (done'.map En.t).Nodup ∧ Value.slice (some ⟨b,0,none⟩) ((A ++ B).length + 1) cc = lv' ∧ Sl 9 1 lv' (L'.map .string) Hl' ∧ Inc L' ∧ L'.Perm (done'.map En.k) ∧ Z = Z ∧ [(b,cl ((A ++ e.k :: B).map .string ++ rest) 9),(bi,.mapIter (some m) c ((done.map En.t).toArray.push e.t) c)] = Hl' ++ [(bi,.mapIter (some m) c (done'.map En.t).toArray c)] := fun hA => by
   refine ⟨done ++ [e],A ++ e.k :: B,_,[(b,cl ((A ++ e.k :: B).map .string ++ rest) 9)],rfl,hsub2,hnd2,rfl,?_,(hfin hA).1,(hfin hA).2,rfl,by rw [push_snoc]; rfl⟩
   exact .row b _ cc _ rest (by rw [List.length_map,hlen2]; simp) q2 q3
  have hlt := left_lt he hns
  obtain rfl | ⟨A',x,rfl⟩ : A = [] ∨ ∃ A' x,A = A' ++ [x] := by
   rcases List.eq_nil_or_concat A with h | ⟨a,x,h⟩
   ·exact .inl h
   ·exact .inr ⟨a,x,by rw [h,List.concat_eq_append]⟩
  all_goals refine gn ?_
  ·have e0 : ([] : List Nm).length = 0 := rfl
   obtain ⟨done',L',lv',Hl',r1,r2,r3,r4,r5,r6,r7,r8,r9⟩ := hdone (by simp)
   refine WP.drawA mo (by decide +kernel) ?_
   refine gn ?_
   rw [r9]
   refine ⟨bk,left es (done ++ [e]),Hl' ++ [(bi,.mapIter (some m) c (done'.map En.t).toArray c)],_,hlt,spp,done',L',lv',Hl',r1,r2,r3,r4,r5,r6,r7,r8,rfl⟩
  ·have g1 : ((A' ++ x :: e.k :: B).map Value.string ++ rest)[0 + (A'.length + 1) * 1]? = some (.string e.k) := by
    simp
   have g2 : ((A' ++ x :: e.k :: B).map Value.string ++ rest)[0 + A'.length * 1]? = some (.string x) := hget A' (e.k :: B) x
   have eA : (A' ++ [x]) ++ e.k :: B = A' ++ x :: e.k :: B := by simp
   have el : (A' ++ [x]).length = A'.length + 1 := by simp
   rw [eA] at hdone ⊢
   rw [el]
   have hAl : A'.length ≤ 1048576 := by simp at hLl; omega
   have hxk : x ≠ e.k := fun h => hnk (by rw [← h]; simp)
   refine WP.drawA mo (by decide +kernel) ?_
   refine gn ?_
   refine o_indexAddr (j := A'.length + 1) rfl rfl rfl (by simp) ?_
   refine gn ?_
   refine o_indexAddr (ik := .i64) (j := A'.length) rfl rfl ?_ (by simp; omega) ?_
   ·show Value.int .i64 (((A'.length + 1 : Nat) : Int) - 1) = .int .i64 ((A'.length : Nat) : Int)
    congr 1; omega
   refine gn ?_
   refine o_lssS rfl rfl rfl rfl ?_
   by_cases hkx : ltN e.k x
   ·rw [decide_eq_true hkx]
    refine gn ?_
    refine WP.draw3 [(b,cl ((A' ++ x :: e.k :: B).map .string ++ rest) 9)] [(bi,.mapIter (some m) c ((done.map En.t).toArray.push e.t) c)] [0,1,2,3,4,5,6,7,8,9,10,11,12,13] [14,15,16,17] mo (by decide +kernel) (prm rfl) ?_
    have hix : Value.int .i64 (((A'.length + 1 : Nat) : Int) - 1) = .int .i64 ((A'.length : Nat) : Int) := by congr 1; omega
    refine gn ?_
    refine o_indexAddr (ik := .i64) (j := A'.length) rfl rfl hix (by simp; omega) ?_
    refine gn ?_
    refine o_indexAddr (j := A'.length + 1) rfl rfl rfl (by simp) ?_
    refine o_load1 rfl rfl g1 ?_
    refine r_two [] ?_
    refine o_indexAddr (j := A'.length + 1) rfl rfl rfl (by simp) ?_
    refine o_store1g (v := .string x) rfl rfl rfl (by simp) ?_
    refine o_indexAddr (ik := .i64) (j := A'.length) rfl rfl hix (by simp; omega) ?_
    refine o_store1g (v := .string e.k) rfl rfl rfl (by simp) ?_
    refine gn ?_
    rw [show 0 + (A'.length + 1) * 1 = A'.length + 1 from by omega,show 0 + A'.length * 1 = A'.length from by omega,hset]
    exact ⟨bk,A'.length,[(b,cl ((A' ++ e.k :: x :: B).map .string ++ rest) 9),(bi,.mapIter (some m) c ((done.map En.t).toArray.push e.t) c)],_,by simp,spp,A',x :: B,hix,rfl,by simp,fun y hy => by
     rcases List.mem_cons.1 hy with rfl | hy
     ·exact hkx
     ·exact hB y hy,rfl,rfl⟩
   ·have hA : ∀ y ∈ A' ++ [x],ltN y e.k := fun y hy => by
     have hxe : ltN x e.k := ((ltN_tri x e.k).resolve_right fun h => h.elim hxk hkx)
     rcases List.mem_append.1 hy with hy | hy
     ·have h1 := (List.pairwise_append.1 (List.pairwise_append.1 hinc).1).2.2 y hy x (List.mem_singleton.2 rfl)
      exact h1.trans hxe
     ·rw [List.mem_singleton.1 hy]; exact hxe
    obtain ⟨done',L',lv',Hl',r1,r2,r3,r4,r5,r6,r7,r8,r9⟩ := hdone hA
    rw [decide_eq_false hkx]
    refine gn ?_
    rw [r9]
    refine ⟨bk,left es (done ++ [e]),Hl' ++ [(bi,.mapIter (some m) c (done'.map En.t).toArray c)],_,hlt,spp,done',L',lv',Hl',r1,r2,r3,r4,r5,r6,r7,r8,rfl⟩
end
end Go.Ux
namespace Go.Ux
open Go Go.Proofs
set_option maxRecDepth 20000
attribute [local irreducible] WP Tr
theorem dm_mp {l : List (Nm × Tv)} {k : Nm} {q : List Nm} : Dm (.mp l) (k :: q) ↔ ∃ x,(k,x) ∈ l ∧ Dm x q := by
 constructor
 ·rintro ⟨u,h⟩
  obtain ⟨l',x,e,hx,h'⟩ := At.cons_iff.1 h
  cases e
  exact ⟨x,hx,u,h'⟩
 ·rintro ⟨x,hx,u,h⟩; exact ⟨u,.down hx h⟩
theorem Al.map {a b : List (Nm × Tv)} (hn : (a.map (·.1)).Nodup) (h1 : ∀ k x,(k,x) ∈ a → ∃ y,(k,y) ∈ b ∧ Al x y) (h2 : ∀ k y,(k,y) ∈ b → ∃ x,(k,x) ∈ a ∧ Al x y) : Al (.mp a) (.mp b) := by
 constructor
 ·intro q
  cases q with
  | nil => exact ⟨fun _ => ⟨_,.here _⟩,fun _ => ⟨_,.here _⟩⟩
  | cons k q =>
   rw [dm_mp,dm_mp]
   constructor
   ·rintro ⟨x,hx,hd⟩
    obtain ⟨y,hy,al⟩ := h1 k x hx
    exact ⟨y,hy,(al.dom q).1 hd⟩
   ·rintro ⟨y,hy,hd⟩
    obtain ⟨x,hx,al⟩ := h2 k y hy
    exact ⟨x,hx,(al.dom q).2 hd⟩
 ·intro q u v hu hv
  cases q with
  | nil => rw [At.nil_iff] at hu hv; subst hu hv; rfl
  | cons k q =>
   obtain ⟨_,x,e,hx,hu'⟩ := At.cons_iff.1 hu
   cases e
   obtain ⟨_,y,e,hy,hv'⟩ := At.cons_iff.1 hv
   cases e
   obtain ⟨x',hx',al⟩ := h2 k y hy
   rw [nodup_one hn hx hx'] at hu'
   exact al.cls q u v hu' hv'
def AlM (l : List (Nm × Tv)) : List Nm → List Tv → Prop
 | [],ts => ts = []
 | k :: ks,ts => ∃ t ts',ts = t :: ts' ∧ (∃ x,(k,x) ∈ l ∧ Al x t ∧ t.sz ≤ x.sz) ∧ AlM l ks ts'
theorem AlM.snoc {l : List (Nm × Tv)} {k : Nm} {x t : Tv} (hx : (k,x) ∈ l) (ha : Al x t) (hs : t.sz ≤ x.sz) : ∀ {ks : List Nm} {ts : List Tv},AlM l ks ts → AlM l (ks ++ [k]) (ts ++ [t])
 | [],_,h => by simp only [AlM] at h; subst h; exact ⟨t,[],rfl,⟨x,hx,ha,hs⟩,rfl⟩
 | _ :: _,_,⟨t₀,ts',h1,h2,h3⟩ => ⟨t₀,ts' ++ [t],by rw [h1]; rfl,h2,h3.snoc hx ha hs⟩
theorem AlM.len {l : List (Nm × Tv)} : ∀ {ks : List Nm} {ts : List Tv},AlM l ks ts → ts.length = ks.length
 | [],_,h => by simp only [AlM] at h; subst h; rfl
 | _ :: _,_,⟨t₀,ts',h1,h2,h3⟩ => by rw [h1,List.length_cons,h3.len,List.length_cons]
theorem AlM.mem {l : List (Nm × Tv)} : ∀ {ks : List Nm} {ts : List Tv},AlM l ks ts → (∀ k t,(k,t) ∈ ks.zip ts → ∃ x,(k,x) ∈ l ∧ Al x t) ∧ ∀ k ∈ ks,∃ t x,(k,t) ∈ ks.zip ts ∧ (k,x) ∈ l ∧ Al x t
 | [],_,h => by simp
 | k :: ks,_,⟨t,ts',h1,⟨x,hx,ha,_⟩,h3⟩ => by
  subst h1
  obtain ⟨i1,i2⟩ := h3.mem
  constructor
  ·intro k' t' h
   rw [List.zip_cons_cons] at h
   rcases List.mem_cons.1 h with h | h
   ·cases h; exact ⟨x,hx,ha⟩
   ·exact i1 k' t' h
  ·intro k' hk
   rw [List.zip_cons_cons]
   rcases List.mem_cons.1 hk with rfl | hk
   ·exact ⟨t,x,List.mem_cons_self ..,hx,ha⟩
   ·obtain ⟨t',x',h4,h5⟩ := i2 k' hk
    exact ⟨t',x',List.mem_cons_of_mem _ h4,h5⟩
theorem AlM.sz {l : List (Nm × Tv)} (hn : (l.map (·.1)).Nodup) : ∀ {ks : List Nm} {ts : List Tv},AlM l ks ts → szL ts ≤ (ks.map fun k => szAt k l).sum
 | [],_,h => by simp only [AlM] at h; subst h; simp [szL]
 | k :: ks,_,⟨t,ts',h1,⟨x,hx,_,hs⟩,h3⟩ => by
  subst h1
  have h4 := h3.sz hn
  have h5 : szO (some x) ≤ szAt k l := szAt_lk hn hx
  have h6 : szO (some x) = x.sz := rfl
  simp only [szL,List.map_cons,List.sum_cons]; omega
theorem szM_zip : ∀ {ks : List Nm} {ts : List Tv},ts.length = ks.length → szM (ks.zip ts) = szL ts ∧ (ks.zip ts).map (·.1) = ks ∧ (ks.zip ts).map (·.2) = ts
 | [],[],_ => ⟨rfl,rfl,rfl⟩
 | [],_ :: _,h => by simp at h
 | _ :: _,[],h => by simp at h
 | k :: ks,t :: ts,h => by
  obtain ⟨h1,h2,h3⟩ := szM_zip (ks := ks) (ts := ts) (by simpa using h)
  simp [szM,szL,h1,h2,h3]
theorem ShpL.snoc {r : RV} {t : Tv} (h' : Shp r t) : ∀ {l : List RV} {ts : List Tv},ShpL l ts → ShpL (l ++ [r]) (ts ++ [t])
 | [],_,h => by simp only [ShpL] at h; subst h; simp only [List.nil_append,ShpL]; exact ⟨t,[],rfl,h',rfl⟩
 | _ :: _,_,h => by
  simp only [ShpL] at h
  obtain ⟨t₀,ts',rfl,h1,h2⟩ := h
  simp only [List.cons_append,ShpL]
  exact ⟨t₀,_,rfl,h1,ShpL.snoc h' h2⟩
theorem NoNL_all : ∀ {l : List RV},(∀ x ∈ l,NoN x) → NoNL l
 | [],_ => by simp [NoNL]
 | x :: l,h => by simp only [NoNL]; exact ⟨h x (List.mem_cons_self ..),NoNL_all fun y hy => h y (List.mem_cons_of_mem _ hy)⟩
theorem RVl.snoc {Z : Fz} {r : RV} {c : List Value} {l : List RV} {cs : List Value} (h' : RVc Z r c) (h : RVl Z l cs) : RVl Z (l ++ [r]) (cs ++ c) :=
 RVl.app' (by simp only [RVl]; exact ⟨c,[],by simp,h',rfl⟩) h
structure Wr (Z : Fz) (t : Tv) (r : RV) (cs : List Value) : Prop where
 c : RVc Z r cs
 cl : Cl r
 nn : NoN r
 sh : ∃ t',Shp r t' ∧ Al t t' ∧ t'.sz ≤ t.sz
theorem Wr.mono {Z Z' : Fz} (hz : Fz.le Z Z') {t : Tv} {r : RV} {cs : List Value} (h : Wr Z t r cs) : Wr Z' t r cs := ⟨h.c.mono hz,h.cl,h.nn,h.sh⟩
def E142 (N : Nat) : Prop := ∀ (t : Tv) (v : Value) (Z : Fz),t.sz < N → t.sz ≤ 1048576 → AV Z t v → Gr Tryz.prog 142 #[v] Z fun x Z' => ∃ r cs,x = .agg cs.toArray ∧ Wr Z' t r cs
abbrev zr : List Value := [.int .i64 0,.int .i64 0,.float .f64 0,.string ⟨#[]⟩,.slice none 0 0,.slice none 0 0]
theorem wr_flat {Z : Fz} {t : Tv} {k n : Int} {f : Nat} {s : ByteArray} (hk : ∀ l,t ≠ .mp l) (hc : Cl (.mk k n f s [] [])) (hn : NoN (.mk k n f s [] [])) (hs : Shp (.mk k n f s [] []) t) : Wr Z t (.mk k n f s [] []) [.int .i64 k,.int .i64 n,.float .f64 f,.string s,.slice none 0 0,.slice none 0 0] :=
 ⟨.flat,hc,hn,t,hs,Al.flat (by cases t <;> first | rfl | exact absurd rfl (hk _)) (by cases t <;> first | rfl | exact absurd rfl (hk _)) rfl,Nat.le_refl _⟩
set_option maxHeartbeats 8000000 in
theorem f142 : ∀ N,E142 N
 | 0 => fun t v Z h => by omega
 | N + 1 => by
  intro t v Z hN hs hv
  cases t with
  | null =>
   simp only [AV] at hv
   subst hv
   refine Gr.intro Tryz.func142 rfl Tryz.ntmps142 Tryz.results142 rfl ?_
   refine gn ?_; intro b2
   refine gn ?_
   exact finC1 (vs := zr) rfl fun Z' _ _ => ⟨_,_,rfl,wr_flat (k := 0) (by simp) (by simp [Cl,RV.clean]) (by simp [NoN,NoNL]) (by simp [Shp])⟩
  | sc u =>
   simp only [AV] at hv
   obtain ⟨rfl,hv⟩ := hv
   rcases hv with ⟨b,rfl⟩ | ⟨n,rfl⟩ | ⟨f,rfl,hf⟩ | ⟨s,rfl⟩
   ·cases b with
    | true =>
     refine Gr.intro Tryz.func142 rfl Tryz.ntmps142 Tryz.results142 rfl ?_
     refine gn ?_; intro b2
     refine gn ?_
     exact finC1 (vs := [.int .i64 1,.int .i64 1,.float .f64 0,.string ⟨#[]⟩,.slice none 0 0,.slice none 0 0]) rfl fun Z' _ _ => ⟨_,_,rfl,wr_flat (by simp) (by simp [Cl,RV.clean]) (by simp [NoN,NoNL]) (by simp [Shp])⟩
    | false =>
     refine Gr.intro Tryz.func142 rfl Tryz.ntmps142 Tryz.results142 rfl ?_
     refine gn ?_; intro b2
     refine gn ?_
     exact finC1 (vs := [.int .i64 1,.int .i64 0,.float .f64 0,.string ⟨#[]⟩,.slice none 0 0,.slice none 0 0]) rfl fun Z' _ _ => ⟨_,_,rfl,wr_flat (by simp) (by simp [Cl,RV.clean]) (by simp [NoN,NoNL]) (by simp [Shp])⟩
   ·refine Gr.intro Tryz.func142 rfl Tryz.ntmps142 Tryz.results142 rfl ?_
    refine gn ?_; intro b2
    refine gn ?_
    exact finC1 (vs := [.int .i64 2,.int .i64 n,.float .f64 0,.string ⟨#[]⟩,.slice none 0 0,.slice none 0 0]) rfl fun Z' _ _ => ⟨_,_,rfl,wr_flat (by simp) (by simp [Cl,RV.clean]) (by simp [NoN,NoNL]) (by simp [Shp])⟩
   ·refine Gr.intro Tryz.func142 rfl Tryz.ntmps142 Tryz.results142 rfl ?_
    refine gn ?_; intro b2
    refine gn ?_
    exact finC1 (vs := [.int .i64 3,.int .i64 0,.float .f64 f,.string ⟨#[]⟩,.slice none 0 0,.slice none 0 0]) rfl fun Z' _ _ => ⟨_,_,rfl,wr_flat (by simp) (by simp [Cl,RV.clean]) (by simp [NoN,NoNL,hf]) (by simp [Shp])⟩
   ·refine Gr.intro Tryz.func142 rfl Tryz.ntmps142 Tryz.results142 rfl ?_
    refine gn ?_; intro b2
    refine gn ?_
    exact finC1 (vs := [.int .i64 4,.int .i64 0,.float .f64 0,.string s,.slice none 0 0,.slice none 0 0]) rfl fun Z' _ _ => ⟨_,_,rfl,wr_flat (by simp) (by simp [Cl,RV.clean]) (by simp [NoN,NoNL]) (by simp [Shp])⟩
  | li u ts =>
   simp only [AV] at hv
   obtain ⟨rfl,sv,n,vs,rfl,hn,hr,hav⟩ := hv
   simp only [Tv.sz] at hN hs
   obtain ⟨a,c,rfl⟩ := hr.sl
   have hvl := hav.len
   have hvn := hr.lenk
   have htl : ts.length ≤ szL ts := by
    clear hN hs hav hvl
    induction ts with
    | nil => simp
    | cons t ts ih => have := Tv.sz_pos t; simp only [List.length_cons,szL]; omega
   refine Gr.intro Tryz.func142 rfl Tryz.ntmps142 Tryz.results142 rfl ?_
   refine gn ?_; intro b2
   refine gn ?_; intro b8
   refine gn ?_
   refine WP.loopK (10 :: List.range' 43 12) (fun m g Z' H' => ∃ (i : Nat) (lv : Value) (cs : List Value) (Hl : Hp) (l : List RV) (ts' : List Tv),g 43 = .int .i64 (i : Int) ∧ i ≤ n ∧ m = n - i ∧ Sl 37 6 lv cs Hl ∧ RVl Z' l cs ∧ l.length = i ∧ (∀ x ∈ l,Cl x ∧ NoN x) ∧ ShpL l ts' ∧ szL ts' ≤ szL (ts.take i) ∧
    H' = Hl ++ [(b8,cl [.int .i64 5,.int .i64 0,.float .f64 0,.string ⟨#[]⟩,.slice none 0 0,lv] 37),(b2,cl zr 37)]) n ⟨0,_,[],[],[],[],rfl,by omega,by omega,.nil,by simp [RVl],rfl,by simp,by simp [ShpL],by simp [szL],rfl⟩ ?_
   rintro m g Z' H' hz ⟨i,lv,cs,Hl,l,ts',h43,hi,rfl,hsl,hrl,hll,hall,hsh,hsz,rfl⟩
   haveI := hsl.one
   refine WP.pin 43 h43 ?_
   have hcl := hrl.len
   by_cases hin : i < n
   ·obtain ⟨t,v,e1,e2,hv'⟩ := hav.at (j := i) (by omega)
    have htz : t.sz ≤ szL ts := sz_memL (List.mem_of_getElem? e2)
    have hstep : szL (ts.take (i + 1)) = szL (ts.take i) + t.sz := by
     have ea : ∀ a b : List Tv,szL (a ++ b) = szL a + szL b := fun a b => by
      induction a with
      | nil => simp [szL]
      | cons x a ih => simp only [List.cons_append,szL,ih]; omega
     rw [List.take_add_one,e2,ea]; simp [szL]
    have hr' := hr.mono fun _ _ h => inT.lw hz.lw rfl h
    obtain ⟨b,off,xs,rfl,hb,he⟩ : ∃ b off xs,a = some ⟨b,off,none⟩ ∧ Z' b = some (cl xs 20) ∧ xs[off + i * 1]? = some v := by
     cases hr' with
     | nil => omega
     | emp => omega
     | row b off n c U xs ds h hd hl' hn' =>
      obtain ⟨h,ys,e⟩ := h
      cases e
      refine ⟨b,off,_,rfl,h,?_⟩
      rw [← hd,List.getElem?_take] at e1
      split at e1
      ·rw [List.getElem?_drop] at e1; simpa using e1
      ·cases e1
    haveI : Zf Z' b (cl xs 20) := ⟨hb⟩
    refine gn ?_
    refine o_indexAddr rfl rfl rfl hin ?_
    refine gn ?_
    refine WP.drawS [(b8,cl [.int .i64 5,.int .i64 0,.float .f64 0,.string ⟨#[]⟩,.slice none 0 0,lv] 37),(b2,cl zr 37)] Hl 6 mo (by decide +kernel) (prm rfl) ?_
    refine gn ?_
    refine cg (args := [v]) (f142 N t v Z' (by omega) (by omega) (hv'.mono hz)) ?_
    rintro _ Z2 hz2 ⟨r,rc,rfl,hw⟩
    have hw' := hw.c
    obtain ⟨_,_,_,_,_,_,_,_,_,_,rfl⟩ := hw'.six
    refine gn ?_; intro vb
    refine oap hsl rfl rfl rfl (Rs.cells (inferInstance : Mem false _ _ _ vb (cl _ 37)) rfl (Nat.le_refl 1)) (by simp [Value.oneCell']) (by omega) (by simp; omega) ?_
    intro lv2 Hl2 hl2
    haveI := hl2.one
    refine r_two [] ?_
    refine gn ?_
    obtain ⟨t',s1,s2,s3⟩ := hw.sh
    have ea : ∀ a : List Tv,szL (a ++ [t']) = szL a + t'.sz := fun a => by
     induction a with
     | nil => simp [szL]
     | cons x a ih => simp only [List.cons_append,szL,ih]; omega
    refine ⟨bk,n - (i + 1),Hl2 ++ [(b8,cl [.int .i64 5,.int .i64 0,.float .f64 0,.string ⟨#[]⟩,.slice none 0 0,lv2] 37),(b2,cl zr 37)],_,by omega,spp,i + 1,lv2,_,Hl2,l ++ [r],ts' ++ [t'],rfl,by omega,rfl,hl2,RVl.snoc hw.c (hrl.mono hz2),by simp [hll],fun x hx => ?_,hsh.snoc s1,by rw [ea]; omega,rfl⟩
    rcases List.mem_append.1 hx with hx | hx
    ·exact hall x hx
    ·rw [List.mem_singleton.1 hx]; exact ⟨hw.cl,hw.nn⟩
   ·have e1 : i = n := by omega
    subst e1
    rw [List.take_of_length_le (by omega)] at hsz
    refine gn ?_
    refine o_storeA (vs := [.int .i64 5,.int .i64 0,.float .f64 0,.string ⟨#[]⟩,.slice none 0 0,lv]) rfl rfl rfl rfl (al1 (al1 (al1 (al1 (al1 (al1 rfl)))))) ?_
    refine gn ?_
    refine finC1 (vs := [.int .i64 5,.int .i64 0,.float .f64 0,.string ⟨#[]⟩,.slice none 0 0,lv]) rfl fun Z'' hz'' hp => ?_
    obtain ⟨n',hn'⟩ := hsl.frz fun p h => hp p (List.mem_append_left _ h)
    have h1 := hn'.lenk
    have e : n' = l.length := by omega
    subst e
    refine ⟨.mk 5 0 0 ⟨#[]⟩ [] l,_,rfl,?_,Cl.mkL fun x hx => (hall x hx).1,?_,.li .nilIface ts',?_,Al.flat rfl rfl rfl,?_⟩
    ·simp only [RVc]
     exact ⟨_,_,cs,rfl,.nil 0,hn'.inQ,hrl.mono hz''⟩
    ·simp [NoN]
     exact NoNL_all fun x hx => (hall x hx).2
    ·simp only [Shp]
     exact ⟨_,ts',rfl,hsh⟩
    ·simp only [Tv.sz]; omega
  | mp lt =>
   simp only [AV] at hv
   obtain ⟨mm,es,c,es',rfl,hm,hst,hpm,hav⟩ := hv
   simp only [Tv.sz] at hN hs
   haveI : Zf Z mm _ := ⟨.of (hm)⟩
   have hk1 := hav.keys
   have hnk : (lt.map (·.1)).Nodup := by rw [hk1]; exact (hpm.map En.k).nodup_iff.1 hst.kd
   have hel : es.length = lt.length := by rw [hpm.length_eq,hav.len]
   have hls : lt.length ≤ szM lt := by
    clear hN hs hav hk1 hnk hel
    induction lt with
    | nil => simp
    | cons p lt ih => have := Tv.sz_pos p.2; simp only [List.length_cons,szM]; omega
   refine Gr.intro Tryz.func142 rfl Tryz.ntmps142 Tryz.results142 rfl ?_
   refine gn ?_; intro b2
   refine gn ?_; intro b12
   refine gn ?_
   refine cg (args := [.map (some mm)]) (f79 hm hst (by omega)) ?_
   rintro kv Z1 hz1 ⟨L,hk,hinc,hLp⟩
   obtain ⟨a,ca,rfl⟩ := hk.sl
   have hLl : L.length = lt.length := by rw [hLp.length_eq,List.length_map,hel]
   have hLk : ∀ k ∈ L,∃ e ∈ es,e.k = k := fun k h => by
    obtain ⟨e,he,hk⟩ := List.mem_map.1 (hLp.mem_iff.1 h)
    exact ⟨e,he,hk⟩
   refine gn ?_
   refine WP.loopK (14 :: List.range' 66 14) (fun m g Z' H' => ∃ (i : Nat) (lv : Value) (cs : List Value) (Hl : Hp) (l : List RV) (ts' : List Tv),g 66 = .int .i64 (i : Int) ∧ i ≤ L.length ∧ m = L.length - i ∧ Sl 37 6 lv cs Hl ∧ RVl Z' l cs ∧ l.length = i ∧ (∀ x ∈ l,Cl x ∧ NoN x) ∧ ShpL l ts' ∧ AlM lt (L.take i) ts' ∧
    H' = Hl ++ [(b12,cl [.int .i64 6,.int .i64 0,.float .f64 0,.string ⟨#[]⟩,.slice a L.length ca,lv] 37),(b2,cl zr 37)]) L.length ⟨0,_,[],[],[],[],rfl,by omega,by omega,.nil,by simp [RVl],rfl,by simp,by simp [ShpL],by simp [AlM],rfl⟩ ?_
   rintro m g Z' H' hz ⟨i,lv,cs,Hl,l,ts',h66,hi,rfl,hsl,hrl,hll,hall,hsh,hal,rfl⟩
   haveI := hsl.one
   refine WP.pin 66 h66 ?_
   have hcl := hrl.len
   have hz' := hz1.trans hz
   by_cases hin : i < L.length
   ·obtain ⟨k,hk'⟩ : ∃ k,L[i]? = some k := ⟨L[i],by simp⟩
    obtain ⟨e,he,rfl⟩ := hLk k (List.mem_of_getElem? hk')
    obtain ⟨t,ht,hv'⟩ := hav.lk e (hpm.mem_iff.1 he)
    have htz := sz_memM ht
    have hlk := lk_of hst.kd he
    obtain ⟨b,off,xs,rfl,hb,hbk⟩ := eltS (hk.mono fun _ _ h => inT.lw hz.lw rfl h).inQ hk'
    haveI : Zf Z' b (cl xs 9) := ⟨hb⟩
    haveI : Zf Z' mm (mp es c) := ⟨hz' _ _ hm⟩
    refine gn ?_
    refine o_indexAddr rfl rfl rfl hin ?_
    refine gn ?_
    refine WP.drawS [(b12,cl [.int .i64 6,.int .i64 0,.float .f64 0,.string ⟨#[]⟩,.slice (some ⟨b,off,none⟩) L.length ca,lv] 37),(b2,cl zr 37)] Hl 8 mo (by decide +kernel) (prm rfl) ?_
    refine gn ?_
    refine o_lookup rfl rfl rfl ?_
    simp only [Bool.false_eq_true,if_false,hlk,Option.getD_some]
    refine cg (args := [e.v]) (f142 N t e.v Z' (by omega) (by omega) (hv'.mono hz')) ?_
    rintro _ Z2 hz2 ⟨r,rc,rfl,hw⟩
    have hw' := hw.c
    obtain ⟨_,_,_,_,_,_,_,_,_,_,rfl⟩ := hw'.six
    refine gn ?_; intro vb
    refine oap hsl rfl rfl rfl (Rs.cells (inferInstance : Mem false _ _ _ vb (cl _ 37)) rfl (Nat.le_refl 1)) (by simp [Value.oneCell']) (by omega) (by simp; omega) ?_
    intro lv2 Hl2 hl2
    haveI := hl2.one
    refine r_two [] ?_
    refine gn ?_
    obtain ⟨t',s1,s2,s3⟩ := hw.sh
    refine ⟨bk,L.length - (i + 1),Hl2 ++ [(b12,cl [.int .i64 6,.int .i64 0,.float .f64 0,.string ⟨#[]⟩,.slice (some ⟨b,off,none⟩) L.length ca,lv2] 37),(b2,cl zr 37)],_,by omega,spp,i + 1,lv2,_,Hl2,l ++ [r],ts' ++ [t'],rfl,by omega,rfl,hl2,RVl.snoc hw.c (hrl.mono hz2),by simp [hll],fun x hx => ?_,hsh.snoc s1,?_,rfl⟩
    ·rcases List.mem_append.1 hx with hx | hx
     ·exact hall x hx
     ·rw [List.mem_singleton.1 hx]; exact ⟨hw.cl,hw.nn⟩
    ·rw [List.take_add_one,hk']
     exact hal.snoc ht s2 s3
   ·have e1 : i = L.length := by omega
    rw [e1,List.take_length] at hal
    refine gn ?_
    refine o_storeA (vs := [.int .i64 6,.int .i64 0,.float .f64 0,.string ⟨#[]⟩,.slice a L.length ca,lv]) rfl rfl rfl rfl (al1 (al1 (al1 (al1 (al1 (al1 rfl)))))) ?_
    refine gn ?_
    refine finC1 (vs := [.int .i64 6,.int .i64 0,.float .f64 0,.string ⟨#[]⟩,.slice a L.length ca,lv]) rfl fun Z'' hz'' hp => ?_
    obtain ⟨n',hn'⟩ := hsl.frz fun p h => hp p (List.mem_append_left _ h)
    have h1 := hn'.lenk
    have e : n' = l.length := by omega
    subst e
    have htl := hal.len
    obtain ⟨z1,z2,z3⟩ := szM_zip htl
    obtain ⟨m1,m2⟩ := hal.mem
    have hsz := hal.sz hnk
    have hss := szAt_sum (l := lt) hinc.nodup
    refine ⟨.mk 6 0 0 ⟨#[]⟩ L l,_,rfl,?_,Cl.mkM ⟨hinc,by omega,fun x hx => (hall x hx).1⟩,?_,.mp (L.zip ts'),Shp.six.2 ⟨_,rfl,z2,by rw [z3]; exact hsh⟩,Al.map hnk (fun k x hx => ?_) (fun k y hy => m1 k y hy),?_⟩
    ·simp only [RVc]
     exact ⟨_,_,cs,rfl,(hk.mono fun _ _ h => inT.lw (hz.trans hz'').lw rfl h).inQ,hn'.inQ,hrl.mono hz''⟩
    ·simp [NoN]
     exact NoNL_all fun x hx => (hall x hx).2
    ·have hkm : k ∈ L := hLp.mem_iff.2 ((hpm.map En.k).mem_iff.2 (by rw [← hk1]; exact List.mem_map_of_mem (f := (·.1)) hx))
     obtain ⟨t',x',q1,q2,q3⟩ := m2 k hkm
     rw [nodup_one hnk hx q2]
     exact ⟨t',q1,q3⟩
    ·simp only [Tv.sz]; omega
end Go.Ux
namespace Go.Ux
open Go Go.Proofs
set_option maxRecDepth 20000
attribute [local irreducible] WP Tr
def E45 (N : Nat) : Prop := ∀ (r : RV) (cs : List Value) (Z : Fz),r.sz < N → r.sz ≤ 1048576 → RVc Z r cs → Pu Tryz.prog 45 #[.agg cs.toArray] Z fun x => x = .int .i64 ((r.nodes : Nat) : Int)
theorem nodes_take {l : List RV} {i : Nat} {r : RV} (h : l[i]? = some r) : nodesL (l.take (i + 1)) = nodesL (l.take i) + r.nodes := by
 have e : ∀ a b : List RV,nodesL (a ++ b) = nodesL a + nodesL b := fun a b => by
  induction a with
  | nil => simp [nodesL]
  | cons x a ih => simp only [List.cons_append,nodesL,ih]; omega
 rw [List.take_add_one,h,e]; simp [nodesL]
theorem nodesL_le {l : List RV} (i : Nat) : nodesL (l.take i) ≤ nodesL l := by
 have e : ∀ a b : List RV,nodesL (a ++ b) = nodesL a + nodesL b := fun a b => by
  induction a with
  | nil => simp [nodesL]
  | cons x a ih => simp only [List.cons_append,nodesL,ih]; omega
 conv => rhs; rw [← List.take_append_drop i l,e]
 omega
set_option maxHeartbeats 4000000 in
theorem f45 : ∀ N,E45 N
 | 0 => fun r cs Z h => by omega
 | N + 1 => by
  rintro ⟨rk,rn,rf,rs,ks,l⟩ cs Z hN hs hr
  simp only [RVc] at hr
  obtain ⟨kv,lv,lc,rfl,h1,h2,h3⟩ := hr
  obtain ⟨a₁,c₁,rfl⟩ := h1.sl
  obtain ⟨a₂,c₂,rfl⟩ := h2.sl
  have hns := nodesL_sz l
  have hll := len_szV l
  simp only [RV.sz] at hN hs
  refine Pu.intro Tryz.func45 rfl Tryz.ntmps45 Tryz.results45 rfl ?_
  refine gn ?_; intro b1
  by_cases hk : rk = 5 ∨ rk = 6
  ·have e : (RV.mk rk rn rf rs ks l).nodes = 1 + nodesL l := by simp only [RV.nodes,if_pos hk]
   rw [e]
   rcases hk with hk | hk
   all_goals
    refine gn ?_
    refine WP.loopK (3 :: 5 :: List.range' 17 9) (fun m g Z' H' => ∃ i : Nat,g 17 = .int .i64 (i : Int) ∧ i ≤ l.length ∧ m = l.length - i ∧ g 3 = .int .i64 ((1 + nodesL (l.take i) : Nat) : Int) ∧ Z = Z' ∧ H' = [(b1,cl [.int .i64 rk,.int .i64 rn,.float .f64 rf,.string rs,.slice a₁ ks.length c₁,.slice a₂ l.length c₂] 37)]) l.length ⟨0,rfl,by omega,by omega,rfl,rfl,rfl⟩ ?_
    rintro m g Z' H' _ ⟨i,h17,hi,rfl,h3',rfl,rfl⟩
    refine WP.pin 17 h17 ?_
    refine WP.pin 3 h3' ?_
    by_cases hin : i < l.length
    ·obtain ⟨b,off,xs,r,cells,rfl,hb,hat,hcl,hrc⟩ := eltV h2 h3 hin
     haveI : Zf Z b (cl xs 37) := ⟨hb⟩
     have hrc' := hrc
     obtain ⟨_,_,_,_,_,_,_,_,_,_,rfl⟩ := hrc'.six
     have hsz := sz_at hat
     have hst := nodes_take hat
     have hl2 := nodesL_le (l := l) (i + 1)
     refine gn ?_
     refine o_indexAddr rfl rfl rfl hin ?_
     refine o_loadN rfl rfl hcl rfl ?_
     refine gn ?_; intro b5
     refine gn ?_
     refine cp (args := [.agg #[_,_,_,_,_,_]]) (f45 N r _ Z (by omega) (by omega) hrc) ?_
     rintro _ rfl
     refine gn ?_
     exact ⟨bk,l.length - (i + 1),[(b1,cl [.int .i64 rk,.int .i64 rn,.float .f64 rf,.string rs,.slice a₁ ks.length c₁,.slice (some ⟨b,off,none⟩) l.length c₂] 37)],_,by omega,spp,i + 1,rfl,by omega,rfl,by rw [hst]; show Value.int .i64 (((1 + nodesL (l.take i) : Nat) : Int) + (r.nodes : Int)) = _; congr 1; omega,rfl,rfl⟩
    ·rw [List.take_of_length_le (by omega)]
     refine gn ?_
     exact fin1 ⟨rfl,rfl⟩
  ·have e : (RV.mk rk rn rf rs ks l).nodes = 1 := by simp only [RV.nodes,if_neg hk]
   rw [e]
   have hk5 : rk ≠ 5 := fun h => hk (.inl h)
   have hk6 : rk ≠ 6 := fun h => hk (.inr h)
   refine gn ?_
   exact fin1 ⟨rfl,rfl⟩
def E46 (N : Nat) : Prop := ∀ (r : RV) (cs : List Value) (Z : Fz),r.sz < N → r.sz ≤ 1048576 → Cl r → RVc Z r cs → Pu Tryz.prog 46 #[.agg cs.toArray] Z fun x => ∃ b,x = .bool b ∧ (b = true → NoN r)
set_option maxHeartbeats 4000000 in
theorem f46 : ∀ N,E46 N
 | 0 => fun r cs Z h => by omega
 | N + 1 => by
  rintro ⟨rk,rn,rf,rs,ks,l⟩ cs Z hN hs hc hr
  simp only [RVc] at hr
  obtain ⟨kv,lv,lc,rfl,h1,h2,h3⟩ := hr
  obtain ⟨a₁,c₁,rfl⟩ := h1.sl
  obtain ⟨a₂,c₂,rfl⟩ := h2.sl
  have hll := len_szV l
  simp only [RV.sz] at hN hs
  refine Pu.intro Tryz.func46 rfl Tryz.ntmps46 Tryz.results46 rfl ?_
  refine gn ?_; intro b1
  by_cases e2 : rk = 2
  ·subst e2
   have hl : l = [] := hc.noL (by decide) (by decide)
   have hn : NoN (.mk 2 rn rf rs ks l) := by subst hl; simp [NoN,NoNL]
   by_cases q1 : (-9007199254740992 : Int) ≤ rn
   ·refine gn ?_
    refine o_leq rfl rfl rfl (r := decide (rn ≤ 9007199254740992)) rfl ?_
    refine gn ?_
    exact fin1 ⟨⟨_,rfl,fun _ => hn⟩,rfl⟩
   ·refine gn ?_
    exact fin1 ⟨⟨_,rfl,fun _ => hn⟩,rfl⟩
  by_cases e3 : rk = 3
  ·subst e3
   have hl : l = [] := hc.noL (by decide) (by decide)
   refine gn ?_
   refine o_eqF rfl rfl rfl ?_
   refine gn ?_
   exact fin1 ⟨⟨_,rfl,fun h => by subst hl; simp only [NoN,NoNL,and_true]; intro _; simpa using h⟩,rfl⟩
  have hno : NoNL l → NoN (.mk rk rn rf rs ks l) := fun h => by simp only [NoN]; exact ⟨fun h => absurd h e3,h⟩
  by_cases hk : rk = 5 ∨ rk = 6
  ·have hcl : ∀ x ∈ l,Cl x := by
    rcases hk with h | h
    ·exact hc.items h
    ·exact (hc.fields h).all
   rcases hk with hk | hk
   all_goals
    refine gn ?_
    refine WP.loopK (2 :: 4 :: List.range' 30 8) (fun m g Z' H' => ∃ i : Nat,g 30 = .int .i64 (i : Int) ∧ i ≤ l.length ∧ m = l.length - i ∧ (∀ x ∈ l.take i,NoN x) ∧ Z = Z' ∧ H' = [(b1,cl [.int .i64 rk,.int .i64 rn,.float .f64 rf,.string rs,.slice a₁ ks.length c₁,.slice a₂ l.length c₂] 37)]) l.length ⟨0,rfl,by omega,by omega,by simp,rfl,rfl⟩ ?_
    rintro m g Z' H' _ ⟨i,h30,hi,rfl,hall,rfl,rfl⟩
    refine WP.pin 30 h30 ?_
    by_cases hin : i < l.length
    ·obtain ⟨b,off,xs,r,cells,rfl,hb,hat,hcl',hrc⟩ := eltV h2 h3 hin
     haveI : Zf Z b (cl xs 37) := ⟨hb⟩
     have hrc' := hrc
     obtain ⟨_,_,_,_,_,_,_,_,_,_,rfl⟩ := hrc'.six
     have hsz := sz_at hat
     refine gn ?_
     refine o_indexAddr rfl rfl rfl hin ?_
     refine o_loadN rfl rfl hcl' rfl ?_
     refine gn ?_; intro b4
     refine gn ?_
     refine cp (args := [.agg #[_,_,_,_,_,_]]) (f46 N r _ Z (by omega) (by omega) (hcl r (List.mem_of_getElem? hat)) hrc) ?_
     rintro _ ⟨q,rfl,hq⟩
     cases q with
     | true =>
      refine gn ?_
      exact ⟨bk,l.length - (i + 1),[(b1,cl [.int .i64 rk,.int .i64 rn,.float .f64 rf,.string rs,.slice a₁ ks.length c₁,.slice (some ⟨b,off,none⟩) l.length c₂] 37)],_,by omega,spp,i + 1,rfl,by omega,rfl,fun x hx => by
       rw [List.take_add_one,hat] at hx
       rcases List.mem_append.1 hx with hx | hx
       ·exact hall x hx
       ·simp only [Option.toList_some,List.mem_singleton] at hx; rw [hx]; exact hq rfl,rfl,rfl⟩
     | false =>
      refine gn ?_
      exact fin1 ⟨⟨false,rfl,fun h => by cases h⟩,rfl⟩
    ·rw [List.take_of_length_le (by omega)] at hall
     refine gn ?_
     exact fin1 ⟨⟨true,rfl,fun _ => hno (NoNL_all hall)⟩,rfl⟩
  ·have hk5 : rk ≠ 5 := fun h => hk (.inl h)
   have hk6 : rk ≠ 6 := fun h => hk (.inr h)
   have hl : l = [] := hc.noL hk5 hk6
   refine gn ?_
   exact fin1 ⟨⟨true,rfl,fun _ => hno (by subst hl; simp [NoNL])⟩,rfl⟩
def E47 (N : Nat) : Prop := ∀ (r : RV) (cs : List Value) (Z : Fz),r.sz < N → r.sz ≤ 1048576 → Cl r → RVc Z r cs → Pu Tryz.prog 47 #[.agg cs.toArray] Z fun x => ∃ b,x = .bool b ∧ (b = true → NNu r)
set_option maxHeartbeats 4000000 in
theorem f47 : ∀ N,E47 N
 | 0 => fun r cs Z h => by omega
 | N + 1 => by
  rintro ⟨rk,rn,rf,rs,ks,l⟩ cs Z hN hs hc hr
  simp only [RVc] at hr
  obtain ⟨kv,lv,lc,rfl,h1,h2,h3⟩ := hr
  obtain ⟨a₁,c₁,rfl⟩ := h1.sl
  obtain ⟨a₂,c₂,rfl⟩ := h2.sl
  have hll := len_szV l
  simp only [RV.sz] at hN hs
  refine Pu.intro Tryz.func47 rfl Tryz.ntmps47 Tryz.results47 rfl ?_
  refine gn ?_; intro b1
  by_cases e0 : rk = 0
  ·refine gn ?_
   exact fin1 ⟨⟨false,rfl,fun h => by cases h⟩,rfl⟩
  by_cases e6 : rk = 6
  ·subst e6
   have hf := hc.fields rfl
   refine gn ?_
   refine WP.loopK (2 :: 3 :: List.range' 7 19) (fun m g Z' H' => ∃ i : Nat,g 3 = .int .i64 (i : Int) ∧ i ≤ l.length ∧ m = l.length - i ∧ (∀ x ∈ l.take i,NNu x) ∧ Z = Z' ∧ H' = [(b1,cl [.int .i64 6,.int .i64 rn,.float .f64 rf,.string rs,.slice a₁ ks.length c₁,.slice a₂ l.length c₂] 37)]) l.length ⟨0,rfl,by omega,by omega,by simp,rfl,rfl⟩ ?_
   rintro m g Z' H' _ ⟨i,h30,hi,rfl,hall,rfl,rfl⟩
   refine WP.pin 3 h30 ?_
   by_cases hin : i < l.length
   ·obtain ⟨b,off,xs,r,cells,rfl,hb,hat,hcl',hrc⟩ := eltV h2 h3 hin
    haveI : Zf Z b (cl xs 37) := ⟨hb⟩
    have hrc' := hrc
    obtain ⟨_,_,_,_,_,_,_,_,_,_,rfl⟩ := hrc'.six
    have hsz := sz_at hat
    refine gn ?_
    refine o_indexAddr rfl rfl rfl hin ?_
    refine o_loadN rfl rfl hcl' rfl ?_
    refine cp (args := [.agg #[_,_,_,_,_,_]]) (f47 N r _ Z (by omega) (by omega) (hf.all r (List.mem_of_getElem? hat)) hrc) ?_
    rintro _ ⟨q,rfl,hq⟩
    cases q with
    | true =>
     refine gn ?_
     exact ⟨bk,l.length - (i + 1),[(b1,cl [.int .i64 6,.int .i64 rn,.float .f64 rf,.string rs,.slice a₁ ks.length c₁,.slice (some ⟨b,off,none⟩) l.length c₂] 37)],_,by omega,spp,i + 1,rfl,by omega,rfl,fun x hx => by
      rw [List.take_add_one,hat] at hx
      rcases List.mem_append.1 hx with hx | hx
      ·exact hall x hx
      ·simp only [Option.toList_some,List.mem_singleton] at hx; rw [hx]; exact hq rfl,rfl,rfl⟩
    | false =>
     refine gn ?_
     exact fin1 ⟨⟨false,rfl,fun h => by cases h⟩,rfl⟩
   ·rw [List.take_of_length_le (by omega)] at hall
    refine gn ?_
    refine fin1 ⟨⟨true,rfl,fun _ q u hu => ?_⟩,rfl⟩
    cases q with
    | nil => rw [← RAt.nil_iff.1 hu]; exact (by decide : (6 : Int) ≠ 0)
    | cons k q =>
     obtain ⟨_,x,hx,hu'⟩ := RAt.cons_iff.1 hu
     exact hall x (List.of_mem_zip hx).2 q u hu'
  ·refine gn ?_
   refine WP.loopK (2 :: 3 :: List.range' 7 19) (fun m g Z' H' => g 3 = .int .i64 0 ∧ Z = Z' ∧ H' = [(b1,cl [.int .i64 rk,.int .i64 rn,.float .f64 rf,.string rs,.slice a₁ ks.length c₁,.slice a₂ l.length c₂] 37)]) 0 ⟨rfl,rfl,rfl⟩ ?_
   rintro m g Z' H' _ ⟨h30,rfl,rfl⟩
   refine WP.pin 3 h30 ?_
   refine gn ?_
   refine fin1 ⟨⟨true,rfl,fun _ q u hu => ?_⟩,rfl⟩
   cases q with
   | nil => rw [← RAt.nil_iff.1 hu]; exact e0
   | cons k q => exact absurd (RAt.cons_iff.1 hu).1 e6
end Go.Ux
namespace Go.Ux
open Go Go.Proofs
set_option maxRecDepth 20000
attribute [local irreducible] WP Tr
theorem zip_mem {ks : List Nm} {l : List RV} {k : Nm} {x : RV} : (k,x) ∈ ks.zip l ↔ ∃ i : Nat,ks[i]? = some k ∧ l[i]? = some x := by
 rw [List.mem_iff_getElem?]
 simp only [List.getElem?_zip_eq_some]
abbrev nulR : RV := .mk 0 0 0 ⟨#[]⟩ [] []
section
variable {Z : Fz}
set_option maxHeartbeats 4000000 in
theorem f29 {r : RV} {cs : List Value} (k : Nm) (hc : Cl r) (hr : RVc Z r cs) (hs : r.sz ≤ 1048576) :
  Pu Tryz.prog 29 #[.agg cs.toArray,.string k] Z fun x => ∃ b u us,x = .tuple #[.agg us.toArray,.bool b] ∧ RVc Z u us ∧ (b = true → r.k = 6 ∧ (k,u) ∈ r.ks.zip r.l) ∧ (b = false → ∀ y,¬ (r.k = 6 ∧ (k,y) ∈ r.ks.zip r.l)) ∧ (b = false → u = nulR) := by
 obtain ⟨rk,rn,rf,rs,ks,l⟩ := r
 have hr' := hr
 simp only [RVc] at hr
 obtain ⟨kv,lv,lc,rfl,h1,h2,h3⟩ := hr
 obtain ⟨a₁,c₁,rfl⟩ := h1.sl
 obtain ⟨a₂,c₂,rfl⟩ := h2.sl
 have hll := len_szV l
 simp only [RV.sz] at hs
 have hi : Inc ks := by
  by_cases h6 : rk = 6
  ·exact (hc.fields h6).inc
  ·rw [hc.noK h6]; simp [Inc]
 refine Pu.intro Tryz.func29 rfl Tryz.ntmps29 Tryz.results29 rfl ?_
 refine gn ?_; intro b2
 refine gn ?_; intro b4
 refine gn ?_
 refine cp (args := [.agg #[.int .i64 rk,.int .i64 rn,.float .f64 rf,.string rs,.slice a₁ ks.length c₁,.slice a₂ l.length c₂],.string k]) (f44 k hr' hi (by simp only [RV.ks]; omega)) ?_
 rintro _ ⟨b,rfl,hb⟩
 simp only [RV.ks] at hb
 by_cases h6 : rk = 6
 ·have hf := hc.fields h6
  cases b with
  | true =>
   have hk := (lbN_mem hi).1 (hb.1 rfl)
   have hlt : lbN k ks < l.length := by
    have := (List.getElem?_eq_some_iff.1 hk).1
    have := hf.len
    omega
   obtain ⟨b₀,off,xs,x,cells,rfl,hb₀,hat,hcl,hrc⟩ := eltV h2 h3 hlt
   haveI : Zf Z b₀ (cl xs 37) := ⟨hb₀⟩
   have hrc' := hrc
   obtain ⟨_,_,_,_,_,_,_,_,_,_,rfl⟩ := hrc'.six
   refine gn ?_
   refine o_indexAddr (j := lbN k ks) rfl rfl rfl hlt ?_
   refine o_loadN rfl rfl hcl rfl ?_
   refine gn ?_
   exact finCT rfl ⟨⟨true,x,_,rfl,hrc,fun _ => ⟨h6,zip_mem.2 ⟨_,hk,hat⟩⟩,fun h => (by cases h),fun h => (by cases h)⟩,rfl⟩
  | false =>
   refine gn ?_
   exact finCT rfl ⟨⟨false,nulR,_,rfl,.flat,fun h => (by cases h),fun _ y ⟨_,hy⟩ => (by have := hb.2 (List.of_mem_zip hy).1; cases this),fun _ => rfl⟩,rfl⟩
 ·refine gn ?_
  exact finCT rfl ⟨⟨false,nulR,_,rfl,.flat,fun h => (by cases h),fun _ y ⟨h,_⟩ => h6 h,fun _ => rfl⟩,rfl⟩
set_option maxHeartbeats 4000000 in
theorem f13 {r : RV} {cs : List Value} {a : Option Addr} {c : Nat} {q : List Nm} (hr : RVc Z r cs) (hs : r.sz ≤ 1048576) (hq : Rs (inT Z 76) 11 (.slice a q.length c) q.length (elC q)) (hn : q.length ≤ 8589934592) :
  Gr Tryz.prog 13 #[.agg cs.toArray,.slice a q.length c] Z fun x Z' => ∃ b u us,x = .tuple #[.agg us.toArray,.bool b] ∧ RVc Z' u us ∧ (∀ v,RAt r.clean q v → u = v) := by
 have hr' := hr
 obtain ⟨k₀,n₀,f₀,s₀,a₀,a₀',m₀,c₀,m₀',c₀',rfl⟩ := hr'.six
 have hcs := r.csz
 refine Gr.intro Tryz.func13 rfl Tryz.ntmps13 Tryz.results13 rfl ?_
 refine gn ?_; intro b2
 refine gn ?_; intro b4
 refine gn ?_
 refine cg (args := [.agg #[_,_,_,_,_,_]]) (f23 (r.sz + 1) r _ Z (by omega) hs hr) ?_
 rintro _ Z1 hz1 ⟨cs',rfl,hr1⟩
 have hr1' := hr1
 obtain ⟨k₁,n₁,f₁,s₁,a₁,a₁',m₁,c₁,m₁',c₁',rfl⟩ := hr1'.six
 refine gn ?_
 refine WP.loopK (5 :: 6 :: 8 :: List.range' 13 15) (fun m g Z' H' => ∃ (i : Nat) (u : RV) (k n : Int) (f : Nat) (s : ByteArray) (aa aa' : Option Addr) (mm cc mm' cc' : Nat),g 13 = .int .i64 (i : Int) ∧ g 6 = .bool true ∧ i ≤ q.length ∧ m = q.length - i ∧ RVc Z' u [.int .i64 k,.int .i64 n,.float .f64 f,.string s,.slice aa mm cc,.slice aa' mm' cc'] ∧ RAt r.clean (q.take i) u ∧ Cl u ∧ u.sz ≤ 1048576 ∧
   H' = [(b4,cl zr 37),(b2,cl [.int .i64 k,.int .i64 n,.float .f64 f,.string s,.slice aa mm cc,.slice aa' mm' cc'] 37)]) q.length ⟨0,r.clean,k₁,n₁,f₁,s₁,a₁,a₁',m₁,c₁,m₁',c₁',rfl,rfl,by omega,by omega,hr1,by simp [RAt.nil_iff],.of r,by omega,rfl⟩ ?_
 rintro m g Z' H' hz ⟨i,u,k,n,f,s,aa,aa',mm,cc,mm',cc',h13,h6,hi,rfl,hu,hat,hcu,hus,rfl⟩
 refine WP.pin 13 h13 ?_
 refine WP.pin 6 h6 ?_
 by_cases hin : i < q.length
 ·obtain ⟨x,hx⟩ : ∃ x,q[i]? = some x := ⟨q[i],by simp⟩
  obtain ⟨b,off,xs,rfl,hb,hld⟩ := eltE (hq.mono fun _ _ h => inT.lw (hz1.trans hz).lw rfl h) hx hin
  haveI : Zf Z' b (cl xs 76) := ⟨hb⟩
  refine gn ?_
  refine o_indexAddr rfl rfl rfl hin ?_
  refine o_loadN rfl rfl hld rfl ?_
  refine gn ?_; intro b8
  refine gn ?_
  refine cp (args := [.agg #[_,_,_,_,_,_],.string x]) (f29 x hcu hu hus) ?_
  rintro _ ⟨bb,v,vs,rfl,hv,ht,hf,hnu⟩
  have hv' := hv
  obtain ⟨k₂,n₂,f₂,s₂,a₂,a₂',m₂,c₂,m₂',c₂',rfl⟩ := hv'.six
  cases bb with
  | true =>
   obtain ⟨h6',hm⟩ := ht rfl
   have hvs : v.sz ≤ u.sz := by
    obtain ⟨k',n',f',s',ks',l'⟩ := u
    simp only [RV.ks,RV.l] at hm
    obtain ⟨j,hj1,hj2⟩ := zip_mem.1 hm
    have := sz_at hj2
    simp only [RV.sz]; omega
   have hcv : Cl v := by
    obtain ⟨k',n',f',s',ks',l'⟩ := u
    exact (hcu.fields h6').all v (List.of_mem_zip hm).2
   have hat2 : RAt r.clean (q.take (i + 1)) v := by
    have key : ∀ (p : List Nm) (r u : RV),RAt r p u → u.k = 6 → (x,v) ∈ u.ks.zip u.l → RAt r (p ++ [x]) v := by
     intro p
     induction p with
     | nil =>
      intro r u h h6 hm
      rw [RAt.nil_iff] at h; subst h
      exact RAt.cons_iff.2 ⟨h6,v,hm,.here v⟩
     | cons y p ih =>
      intro r u h h6 hm
      obtain ⟨g6,z,hz,h'⟩ := RAt.cons_iff.1 h
      exact RAt.cons_iff.2 ⟨g6,z,hz,ih z u h' h6 hm⟩
    rw [List.take_add_one,hx]
    exact key _ _ _ hat h6' hm
   refine gn ?_
   exact ⟨bk,q.length - (i + 1),[(b4,cl zr 37),(b2,cl [.int .i64 k₂,.int .i64 n₂,.float .f64 f₂,.string s₂,.slice a₂ m₂ c₂,.slice a₂' m₂' c₂'] 37)],_,by omega,spp,i + 1,v,k₂,n₂,f₂,s₂,a₂,a₂',m₂,c₂,m₂',c₂',rfl,rfl,by omega,rfl,hv,hat2,hcv,by omega,rfl⟩
  | false =>
   refine gn ?_
   have hno : ∀ v,¬ RAt r.clean q v := fun v hv => by
    have key : ∀ (p s : List Nm) (r u : RV),Cl r → RAt r p u → RAt r (p ++ x :: s) v → ∃ y,u.k = 6 ∧ (x,y) ∈ u.ks.zip u.l := by
     intro p
     induction p with
     | nil =>
      intro s r u hc h h'
      rw [RAt.nil_iff] at h; subst h
      obtain ⟨g6,z,hz,_⟩ := RAt.cons_iff.1 h'
      exact ⟨z,g6,hz⟩
     | cons y p ih =>
      intro s r u hc h h'
      obtain ⟨rk,rn,rf,rs,ks,l⟩ := r
      obtain ⟨g6,z,hz,h1⟩ := RAt.cons_iff.1 h
      obtain ⟨_,z',hz',h2⟩ := RAt.cons_iff.1 h'
      have hf := hc.fields g6
      have e1 : (ks.zip l).map (·.1) = ks := List.map_fst_zip (by have := hf.len; omega)
      have : z = z' := nodup_one (l := ks.zip l) (by rw [e1]; exact hf.inc.nodup) hz hz'
      subst this
      exact ih s z u (hf.all z (List.of_mem_zip hz).2) h1 h2
    have e : q = q.take i ++ x :: q.drop (i + 1) := by
     obtain ⟨h,e⟩ := List.getElem?_eq_some_iff.1 hx
     rw [← e,List.getElem_cons_drop,List.take_append_drop]
    rw [e] at hv
    obtain ⟨y,hy⟩ := key _ _ _ _ (.of r) hat hv
    exact hf rfl y hy
   exact finCT rfl fun Z'' hz'' _ => ⟨false,v,_,rfl,hv.mono hz'',fun w hw => absurd hw (hno w)⟩
 ·rw [List.take_of_length_le (by omega)] at hat
  refine gn ?_
  exact finCT rfl fun Z'' hz'' _ => ⟨true,u,_,rfl,hu.mono hz'',fun w hw => (Cl.of r).det hat hw⟩
end
end Go.Ux
namespace Go.Ux
open Go Go.Proofs
set_option maxRecDepth 20000
attribute [local irreducible] WP Tr
def Pat (at_ : List Nm) (r : RV) (q : List Nm) : Prop := ∃ s u,s ≠ [] ∧ q = at_ ++ s ∧ RAt r s u
theorem Pat.six {at_ : List Nm} {n : Int} {f : Nat} {s : ByteArray} {ks : List Nm} {l : List RV} {q : List Nm} : Pat at_ (.mk 6 n f s ks l) q ↔ ∃ k x,(k,x) ∈ ks.zip l ∧ (q = at_ ++ [k] ∨ Pat (at_ ++ [k]) x q) := by
 constructor
 ·rintro ⟨t,u,hne,rfl,hu⟩
  cases t with
  | nil => exact absurd rfl hne
  | cons k t =>
   obtain ⟨_,x,hx,hu'⟩ := RAt.cons_iff.1 hu
   refine ⟨k,x,hx,?_⟩
   cases t with
   | nil => exact .inl rfl
   | cons k' t => exact .inr ⟨k' :: t,u,by simp,by simp,hu'⟩
 ·rintro ⟨k,x,hx,rfl | ⟨t,u,_,rfl,hu⟩⟩
  ·exact ⟨[k],x,by simp,rfl,.down hx (.here x)⟩
  ·exact ⟨k :: t,u,by simp,by simp,.down hx hu⟩
theorem Pat.not6 {at_ : List Nm} {r : RV} {q : List Nm} (h : r.k ≠ 6) : ¬ Pat at_ r q := by
 rintro ⟨t,u,hne,_,hu⟩
 cases t with
 | nil => exact hne rfl
 | cons k t => exact h (RAt.cons_iff.1 hu).1
def E9 (N : Nat) : Prop := ∀ (r : RV) (cs : List Value) (at_ : List Nm) (a : Option Addr) (c : Nat) (Z : Fz),r.sz < N → r.sz ≤ 1048576 → at_.length + r.sz ≤ 8589934592 → RVc Z r cs → Rs (inT Z 76) 11 (.slice a at_.length c) at_.length (elC at_) →
 Gr Tryz.prog 9 #[.agg cs.toArray,.slice a at_.length c] Z fun x Z' => ∃ ps vs,Rs (inT Z' 57) 1 x ps.length vs ∧ PS Z' ps vs ∧ ps.length ≤ r.sz ∧ ∀ q,q ∈ ps ↔ Pat at_ r.clean q
set_option maxHeartbeats 8000000 in
theorem f9 : ∀ N,E9 N
 | 0 => fun r cs at_ a c Z h => by omega
 | N + 1 => by
  intro r cs at_ a c Z hN hs hat hr hq
  have hr' := hr
  obtain ⟨k₀,n₀,f₀,s₀,a₀,a₀',m₀,c₀,m₀',c₀',rfl⟩ := hr'.six
  have hcs := r.csz
  have hcl : Cl r.clean := .of r
  refine Gr.intro Tryz.func9 rfl Tryz.ntmps9 Tryz.results9 rfl ?_
  refine gn ?_; intro b2
  refine gn ?_
  refine cg (args := [.agg #[_,_,_,_,_,_]]) (f23 (r.sz + 1) r _ Z (by omega) hs hr) ?_
  rintro _ Z1 hz1 ⟨cs',rfl,hr1⟩
  generalize r.clean = rc at hcs hcl hr1 ⊢
  obtain ⟨rk,rn,rf,rs,ks,l⟩ := rc
  simp only [RVc] at hr1
  obtain ⟨kv,lv,lc,rfl,h1,h2,h3⟩ := hr1
  obtain ⟨a₁,c₁,rfl⟩ := h1.sl
  obtain ⟨a₂,c₂,rfl⟩ := h2.sl
  have hll := len_szV l
  simp only [RV.sz] at hcs
  refine gn ?_; intro bo
  refine gn ?_
  refine WP.only [(bo,cl [] 57),(b2,cl [.int .i64 rk,.int .i64 rn,.float .f64 rf,.string rs,.slice a₁ ks.length c₁,.slice a₂ l.length c₂] 37)] ?_
  by_cases h6 : rk = 6
  ·subst h6
   have hf := hcl.fields rfl
   have hkl := hf.len
   refine WP.loopK (5 :: 6 :: 7 :: List.range' 11 32) (fun m g Z' H' => ∃ (i : Nat) (sv : Value) (ps : List (List Nm)) (vs : List Value) (Hl : Hp),g 6 = .int .i64 (i : Int) ∧ g 5 = sv ∧ i ≤ l.length ∧ m = l.length - i ∧ Sl 57 1 sv vs Hl ∧ PS Z' ps vs ∧ ps.length ≤ szV (l.take i) + i ∧ (∀ q,q ∈ ps ↔ Pat at_ (.mk 6 rn rf rs (ks.take i) (l.take i)) q) ∧
    H' = Hl ++ [(b2,cl [.int .i64 6,.int .i64 rn,.float .f64 rf,.string rs,.slice a₁ ks.length c₁,.slice a₂ l.length c₂] 37)]) l.length ⟨0,_,[],[],[(bo,cl [] 57)],rfl,rfl,by omega,by omega,.row bo 0 0 [] [] rfl rfl (Nat.le_refl 0),by simp [PS],by simp,fun q => by rw [Pat.six]; simp,rfl⟩ ?_
   rintro m g Z' H' hz ⟨i,sv,ps,vs,Hl,h6',h5,hi,rfl,hsv,hps,hpl,hpm,rfl⟩
   haveI := hsv.one
   refine WP.pin 6 h6' ?_
   refine WP.pin 5 h5 ?_
   have hvl := hps.len
   have hst : ∀ i,szV (l.take i) ≤ szV l := fun i => by
    have e : ∀ a b : List RV,szV (a ++ b) = szV a + szV b := fun a b => by
     induction a with
     | nil => simp [szV]
     | cons x a ih => simp only [List.cons_append,szV,ih]; omega
    conv => rhs; rw [← List.take_append_drop i l,e]
    omega
   have hsti := hst i
   by_cases hin : i < l.length
   ·have hz' := hz1.trans hz
    obtain ⟨b,off,xs,x,cells,rfl,hb,hx,hcl',hrc⟩ := eltV (h2.mono fun _ _ h => inQ.le hz h) (h3.mono hz) hin
    obtain ⟨k,hk⟩ : ∃ k,ks[i]? = some k := ⟨ks[i]'(by omega),by simp⟩
    obtain ⟨b',off',xs',rfl,hb',hbk⟩ := eltS (h1.mono fun _ _ h => inQ.le hz h) hk
    haveI : Zf Z' b (cl xs 37) := ⟨hb⟩
    haveI : Zf Z' b' (cl xs' 9) := ⟨hb'⟩
    have hrc' := hrc
    obtain ⟨kx,nx,fx,sx,ax,ax',mx,cx,mx',cx',rfl⟩ := hrc'.six
    have hxs := sz_at hx
    have hxc := hf.all x (List.mem_of_getElem? hx)
    refine gn ?_
    refine o_indexAddr (j := i) rfl rfl rfl (by omega) ?_
    refine gn ?_
    refine cp (f25 k) ?_
    rintro _ rfl
    refine cg (args := [.slice a at_.length c,.agg (el k).toArray]) (f24 k (hq.mono fun _ _ h => inT.lw hz'.lw rfl h) (by omega)) ?_
    rintro pv Z2 hz2 hpv
    haveI := hpv.one
    have hpv' := hpv
    obtain ⟨pa,pc,rfl⟩ := hpv'.sl
    haveI : Zf Z2 b (cl xs 37) := ⟨hb.le hz2⟩
    refine gn ?_
    refine WP.drawX [(b2,cl [.int .i64 6,.int .i64 rn,.float .f64 rf,.string rs,.slice (some ⟨b',off',none⟩) ks.length c₁,.slice (some ⟨b,off,none⟩) l.length c₂] 37)] [0,1,4,5,6,7,8,9,2,3,10,11,12] mo (by decide +kernel) ?_
    refine gn ?_
    refine o_indexAddr (j := i) rfl rfl rfl hin ?_
    refine o_loadN rfl rfl hcl' rfl ?_
    refine gn ?_; intro vb
    refine oap hsv rfl rfl rfl (Rs.cells (inferInstance : Mem false _ _ _ vb (cl _ 57)) rfl (Nat.le_refl 1)) (by simp [Value.oneCell']) (by omega) (by simp; omega) ?_
    intro v1 H1 hs1
    haveI := hs1.one
    refine cg (args := [.agg #[_,_,_,_,_,_],.slice pa (at_ ++ [k]).length pc]) (f9 N x _ (at_ ++ [k]) pa pc Z2 (by omega) (by omega) (by simp; omega) (hrc.mono hz2) hpv) ?_
    rintro sv2 Z3 hz3 ⟨ps2,vs2,hr2,hp2,hl2,hm2⟩
    have hv2 := hp2.len
    haveI := hr2.one
    refine oap hs1 rfl rfl rfl (hr2.mono fun _ _ h => ⟨.inl h.1⟩) hp2.one (by omega) (by simp; omega) ?_
    intro v3 H3 hs3
    haveI := hs3.one
    refine gn ?_
    have hst1 : szV (l.take (i + 1)) = szV (l.take i) + x.sz := by
     have e : ∀ a b : List RV,szV (a ++ b) = szV a + szV b := fun a b => by
      induction a with
      | nil => simp [szV]
      | cons x a ih => simp only [List.cons_append,szV,ih]; omega
     rw [List.take_add_one,hx,e]; simp [szV]
    have hzt : (ks.take (i + 1)).zip (l.take (i + 1)) = (ks.take i).zip (l.take i) ++ [(k,x)] := by
     rw [List.take_add_one,List.take_add_one,hk,hx,List.zip_append (by simp; omega)]
     rfl
    refine ⟨bk,l.length - (i + 1),H3 ++ [(b2,cl [.int .i64 6,.int .i64 rn,.float .f64 rf,.string rs,.slice (some ⟨b',off',none⟩) ks.length c₁,.slice (some ⟨b,off,none⟩) l.length c₂] 37)],_,by omega,spp,i + 1,v3,ps ++ [at_ ++ [k]] ++ ps2,_,H3,rfl,rfl,by omega,rfl,hs3,PS.app hp2 (((hps.mono hz2).mono hz3).snoc (hpv.mono fun _ _ h => inT.lw hz3.lw rfl h)),by simp; omega,fun q => ?_,rfl⟩
    have hxx : x.clean = x := hxc
    rw [List.mem_append,List.mem_append,List.mem_singleton,hpm,hm2,hxx,Pat.six,Pat.six,hzt]
    constructor
    ·rintro ((⟨k',y,h,h'⟩ | rfl) | h)
     ·exact ⟨k',y,List.mem_append_left _ h,h'⟩
     ·exact ⟨k,x,by simp,.inl rfl⟩
     ·exact ⟨k,x,by simp,.inr h⟩
    ·rintro ⟨k',y,h,h'⟩
     rcases List.mem_append.1 h with h | h
     ·exact .inl (.inl ⟨k',y,h,h'⟩)
     ·simp only [List.mem_singleton,Prod.mk.injEq] at h
      obtain ⟨rfl,rfl⟩ := h
      rcases h' with rfl | h'
      ·exact .inl (.inr rfl)
      ·exact .inr h'
   ·have e1 : i = l.length := by omega
    subst e1
    rw [List.take_length,← hkl,List.take_length] at hpm
    refine gn ?_
    refine fin1 fun Z'' hz'' hp => ?_
    obtain ⟨n',hn'⟩ := hsv.frz fun p h => hp p (List.mem_append_left _ h)
    have e2 := hn'.lenk
    have e : n' = ps.length := by omega
    subst e
    exact ⟨ps,vs,hn',hps.mono hz'',by omega,hpm⟩
  ·refine WP.loopK (5 :: 6 :: 7 :: List.range' 11 32) (fun m g Z' H' => g 6 = .int .i64 0 ∧ g 5 = .slice (some ⟨bo,0,none⟩) 0 0 ∧ Z1 = Z' ∧ H' = [(bo,cl [] 57),(b2,cl [.int .i64 rk,.int .i64 rn,.float .f64 rf,.string rs,.slice a₁ ks.length c₁,.slice a₂ l.length c₂] 37)]) 0 ⟨rfl,rfl,rfl,rfl⟩ ?_
   rintro m g Z' H' _ ⟨h6',h5,rfl,rfl⟩
   refine WP.pin 6 h6' ?_
   refine WP.pin 5 h5 ?_
   refine gn ?_
   exact fin1 fun Z'' hz'' hp => ⟨[],[],.row bo 0 0 0 57 [] [] ⟨hp (bo,cl [] 57) (by simp),_,rfl⟩ rfl rfl (Nat.le_refl 0),by simp [PS],by simp,fun q => ⟨fun h => (by cases h),fun h => absurd h (Pat.not6 (r := .mk rk rn rf rs ks l) h6)⟩⟩
end Go.Ux
namespace Go.Ux
open Go Go.Proofs
set_option maxRecDepth 20000
attribute [local irreducible] WP Tr
theorem RAt.len : ∀ {q : List Nm} {r u : RV},RAt r q u → q.length < r.sz
  | [],r,_,_ => r.sz_pos
  | k :: q,.mk k' n f s ks l,u,h => by
    obtain ⟨_,x,hx,h'⟩ := RAt.cons_iff.1 h
    have h1 := RAt.len h'
    obtain ⟨i,hi,e⟩ := List.mem_iff_getElem.1 (List.of_mem_zip hx).2
    have := sz_at (l := l) (i := i) (r := x) (by simp only [RV.l] at e hi; rw [← e]; simp)
    simp only [List.length_cons,RV.sz]; omega
instance und4 : Und Tryz.prog 4 .bool := ⟨fun w => by kernel_rfl⟩
theorem KA.none {a b : RV} (h : ¬ (a.k = 6 ∧ b.k = 6)) (h6 : a.k = 6 ↔ b.k = 6) (h5 : a.k = 5 ↔ b.k = 5) : KA a b := fun q u v hu hv => by
  cases q with
  | nil => rw [RAt.nil_iff] at hu hv; subst hu hv; exact ⟨h6,h5⟩
  | cons k q => exact absurd ⟨(RAt.cons_iff.1 hu).1,(RAt.cons_iff.1 hv).1⟩ h
theorem RVc.kd {Z : Fz} {r : RV} {k n : Int} {f : Nat} {s : ByteArray} {a a' : Option Addr} {m c m' c' : Nat} (h : RVc Z r [.int .i64 k,.int .i64 n,.float .f64 f,.string s,.slice a m c,.slice a' m' c']) : k = r.k := by
  obtain ⟨rk,rn,rf,rs,ks,l⟩ := r
  simp only [RVc] at h
  obtain ⟨_,_,_,e,_⟩ := h
  simp only [List.cons.injEq,Value.int.injEq,true_and] at e
  exact e.1
structure TrO (r : RV) : Prop where
  k6 : r.clean.k = 6
  nd : r.clean.nodes ≤ 400
  nn : NoN r.clean
  nu : NNu r.clean
section
variable {Z : Fz}
set_option maxHeartbeats 4000000 in
theorem f30 {r : RV} {cs : List Value} (hr : RVc Z r cs) (hs : r.sz ≤ 1048576) : Gr Tryz.prog 30 #[.agg cs.toArray] Z fun x _ => ∃ b,x = .bool b ∧ (b = true → TrO r) := by
  have hr' := hr
  obtain ⟨k₀,n₀,f₀,s₀,a₀,a₀',m₀,c₀,m₀',c₀',rfl⟩ := hr'.six
  have hcs := r.csz
  have hns := nodes_sz r.clean
  refine Gr.intro Tryz.func30 rfl Tryz.ntmps30 Tryz.results30 rfl ?_
  refine gn ?_; intro b1
  refine gn ?_
  refine cg (args := [.agg #[_,_,_,_,_,_]]) (f23 (r.sz + 1) r _ Z (by omega) hs hr) ?_
  rintro _ Z1 hz1 ⟨cs',rfl,hr1⟩
  have hr1' := hr1
  obtain ⟨k₁,n₁,f₁,s₁,a₁,a₁',m₁,c₁,m₁',c₁',rfl⟩ := hr1'.six
  have hk := hr1.kd
  by_cases h6 : k₁ = 6
  · by_cases hn : r.clean.nodes ≤ 400
    · refine gn ?_
      refine cp (args := [.agg #[_,_,_,_,_,_]]) (f45 (r.clean.sz + 1) _ _ Z1 (by omega) (by omega) hr1) ?_
      rintro _ rfl
      refine gn ?_
      refine cp (args := [.agg #[_,_,_,_,_,_]]) (f46 (r.clean.sz + 1) _ _ Z1 (by omega) (by omega) (.of r) hr1) ?_
      rintro _ ⟨q,rfl,hq⟩
      cases q with
      | true =>
        refine gn ?_
        refine cp (args := [.agg #[_,_,_,_,_,_]]) (f47 (r.clean.sz + 1) _ _ Z1 (by omega) (by omega) (.of r) hr1) ?_
        rintro _ ⟨p,rfl,hp⟩
        cases p with
        | true =>
          refine gn ?_
          exact fin1 fun _ _ _ => ⟨true,rfl,fun _ => ⟨by rw [← hk]; exact h6,hn,hq rfl,hp rfl⟩⟩
        | false =>
          refine gn ?_
          exact fin1 fun _ _ _ => ⟨false,rfl,fun h => by cases h⟩
      | false =>
        refine gn ?_
        exact fin1 fun _ _ _ => ⟨false,rfl,fun h => by cases h⟩
    · refine gn ?_
      refine cp (args := [.agg #[_,_,_,_,_,_]]) (f45 (r.clean.sz + 1) _ _ Z1 (by omega) (by omega) hr1) ?_
      rintro _ rfl
      refine gn ?_
      exact fin1 fun _ _ _ => ⟨false,rfl,fun h => by cases h⟩
  · refine gn ?_
    exact fin1 fun _ _ _ => ⟨false,rfl,fun h => by cases h⟩
set_option maxHeartbeats 4000000 in
theorem f14 {r : RV} {cs : List Value} (hr : RVc Z r cs) (hs : r.sz ≤ 1048576) : Gr Tryz.prog 14 #[.agg cs.toArray] Z fun x _ => ∃ b,x = .bool b ∧ (b = true → TrO r) := by
  have hr' := hr
  obtain ⟨k₀,n₀,f₀,s₀,a₀,a₀',m₀,c₀,m₀',c₀',rfl⟩ := hr'.six
  have hcs := r.csz
  have hcc : r.clean.clean = r.clean := Cl.of r
  refine Gr.intro Tryz.func14 rfl Tryz.ntmps14 Tryz.results14 rfl ?_
  refine gn ?_; intro b1
  refine gn ?_
  refine cg (args := [.agg #[_,_,_,_,_,_]]) (f23 (r.sz + 1) r _ Z (by omega) hs hr) ?_
  rintro _ Z1 hz1 ⟨cs',rfl,hr1⟩
  have hr1' := hr1
  obtain ⟨k₁,n₁,f₁,s₁,a₁,a₁',m₁,c₁,m₁',c₁',rfl⟩ := hr1'.six
  refine gn ?_
  refine cg (args := [.agg #[_,_,_,_,_,_],.slice none 0 0]) (f9 (r.clean.sz + 1) r.clean _ [] none 0 Z1 (by omega) (by omega) (by simp; omega) hr1 (.nil 0)) ?_
  rintro pv Z2 hz2 ⟨ps,vs,hp,hps,hpl,hpm⟩
  obtain ⟨pa,pc,rfl⟩ := hp.sl
  refine gn ?_
  refine WP.loopK (2 :: 4 :: 5 :: 6 :: List.range' 12 20) (fun m g Z' H' => ∃ i : Nat,g 12 = .int .i64 (i : Int) ∧ i ≤ ps.length ∧ m = ps.length - i ∧ H' = [(b1,cl [.int .i64 k₁,.int .i64 n₁,.float .f64 f₁,.string s₁,.slice a₁ m₁ c₁,.slice a₁' m₁' c₁'] 37)]) ps.length ⟨0,rfl,by omega,by omega,rfl⟩ ?_
  rintro m g Z' H' hz ⟨i,h12,hi,rfl,rfl⟩
  refine WP.pin 12 h12 ?_
  have hz' := hz2.trans hz
  by_cases hin : i < ps.length
  · obtain ⟨p,hp'⟩ : ∃ p,ps[i]? = some p := ⟨ps[i],by simp⟩
    obtain ⟨b',off,xs,a',c',rfl,hb',he,hrp⟩ := eltP (hp.mono fun _ _ h => inT.lw hz.lw rfl h) (hps.mono hz) hp'
    haveI : Zf Z' b' (cl xs 57) := ⟨hb'⟩
    have hplen : p.length ≤ 8589934592 := by
      obtain ⟨s,u,_,e,hu⟩ := (hpm p).1 (List.mem_of_getElem? hp')
      rw [hcc] at hu
      have := hu.len
      rw [e]; simp; omega
    refine gn ?_
    refine o_indexAddr rfl rfl rfl hin ?_
    refine gn ?_
    refine cg (args := [.agg #[_,_,_,_,_,_],.slice a' p.length c']) (f13 (r := r.clean) (hr1.mono hz') (by omega) hrp hplen) ?_
    rintro _ Z3 hz3 ⟨bb,u,us,rfl,hu,_⟩
    have hu' := hu
    obtain ⟨k₂,n₂,f₂,s₂,a₂,a₂',m₂,c₂,m₂',c₂',rfl⟩ := hu'.six
    by_cases h6 : k₂ = 6
    · by_cases h0 : m₂' = 0
      · refine gn ?_; intro b5
        refine gn ?_
        exact fin1 fun _ _ _ => ⟨false,rfl,fun h => by cases h⟩
      · refine gn ?_; intro b5
        refine gn ?_
        exact ⟨bk,ps.length - (i + 1),[(b1,cl [.int .i64 k₁,.int .i64 n₁,.float .f64 f₁,.string s₁,.slice a₁ m₁ c₁,.slice a₁' m₁' c₁'] 37)],_,by omega,spp,i + 1,rfl,by omega,rfl,rfl⟩
    · refine gn ?_; intro b5
      refine gn ?_
      exact ⟨bk,ps.length - (i + 1),[(b1,cl [.int .i64 k₁,.int .i64 n₁,.float .f64 f₁,.string s₁,.slice a₁ m₁ c₁,.slice a₁' m₁' c₁'] 37)],_,by omega,spp,i + 1,rfl,by omega,rfl,rfl⟩
  · refine gn ?_
    refine cg (args := [.agg #[_,_,_,_,_,_]]) (f30 (r := r.clean) (hr1.mono hz') (by omega)) ?_
    rintro _ Z3 hz3 ⟨b,rfl,hb⟩
    refine gn ?_
    refine fin1 fun _ _ _ => ⟨b,rfl,fun h => ?_⟩
    obtain ⟨q1,q2,q3,q4⟩ := hb h
    rw [hcc] at q1 q2 q3 q4
    exact ⟨q1,q2,q3,q4⟩
def E15 (N : Nat) : Prop := ∀ (r r' : RV) (cs cs' : List Value) (Z : Fz),r.sz < N → r.sz ≤ 1048576 → r'.sz ≤ 1048576 → RVc Z r cs → RVc Z r' cs' → Gr Tryz.prog 15 #[.agg cs.toArray,.agg cs'.toArray] Z fun x _ => ∃ b,x = .bool b ∧ (b = true → KA r.clean r'.clean)
set_option maxHeartbeats 8000000 in
theorem f15 : ∀ N,E15 N
  | 0 => fun r r' cs cs' Z h => by omega
  | N + 1 => by
    intro r r' cs cs' Z hN hs hs' hr hr'
    have hr0 := hr
    have hr0' := hr'
    obtain ⟨k₀,n₀,f₀,s₀,a₀,a₀',m₀,c₀,m₀',c₀',rfl⟩ := hr0.six
    obtain ⟨j₀,o₀,g₀,t₀,d₀,d₀',p₀,e₀,p₀',e₀',rfl⟩ := hr0'.six
    have hcs := r.csz
    have hcs' := r'.csz
    have hcl : Cl r.clean := .of r
    have hcl' : Cl r'.clean := .of r'
    refine Gr.intro Tryz.func15 rfl Tryz.ntmps15 Tryz.results15 rfl ?_
    refine gn ?_; intro b2
    refine gn ?_; intro b3
    refine gn ?_
    refine WP.drawX2 [(b2,cl [.int .i64 k₀,.int .i64 n₀,.float .f64 f₀,.string s₀,.slice a₀ m₀ c₀,.slice a₀' m₀' c₀'] 37),(b3,cl [.int .i64 j₀,.int .i64 o₀,.float .f64 g₀,.string t₀,.slice d₀ p₀ e₀,.slice d₀' p₀' e₀'] 37)] [0,2,1,3] [4,5] mo (by decide +kernel) ?_
    refine gn ?_
    refine cg (args := [.agg #[_,_,_,_,_,_]]) (f23 (r.sz + 1) r _ Z (by omega) hs hr) ?_
    rintro _ Z1 hz1 ⟨us,rfl,hr1⟩
    have hr1' := hr1
    obtain ⟨k₁,n₁,f₁,s₁,a₁,a₁',m₁,c₁,m₁',c₁',rfl⟩ := hr1'.six
    refine cg (args := [.agg #[_,_,_,_,_,_]]) (f23 (r'.sz + 1) r' _ Z1 (by omega) hs' (hr'.mono hz1)) ?_
    rintro _ Z2 hz2 ⟨us',rfl,hr2⟩
    have hr2' := hr2
    obtain ⟨j₁,o₁,g₁,t₁,d₁,d₁',p₁,e₁,p₁',e₁',rfl⟩ := hr2'.six
    refine r_two [] ?_
    have hk := hr1.kd
    have hk' := hr2.kd
    have hr3 := hr1.mono hz2
    by_cases h6 : k₁ = 6 ∧ j₁ = 6
    · obtain ⟨h6,h6'⟩ := h6
      generalize r.clean = rc at hcs hcl hr3 hk ⊢
      generalize r'.clean = rc' at hcs' hcl' hr2 hk' ⊢
      obtain ⟨rk,rn,rf,rs,ks,l⟩ := rc
      obtain ⟨rk',rn',rf',rs',ks',l'⟩ := rc'
      simp only [RV.k] at hk hk'
      subst hk hk'
      subst h6
      subst h6'
      have hf := hcl.fields rfl
      have hf' := hcl'.fields rfl
      simp only [RVc] at hr3
      obtain ⟨kv,lv,lc,e,q1,q2,q3⟩ := hr3
      obtain ⟨a₁,c₁,rfl⟩ := q1.sl
      obtain ⟨a₂,c₂,rfl⟩ := q2.sl
      simp only [List.cons.injEq,Value.slice.injEq,Value.int.injEq,Value.float.injEq,Value.string.injEq,true_and,and_true] at e
      obtain ⟨rfl,rfl,rfl,⟨rfl,rfl,rfl⟩,rfl,rfl,rfl⟩ := e
      have hll := len_szV l
      simp only [RV.sz] at hcs
      have hkl := hf.len
      have e1' : (ks'.zip l').map (·.1) = ks' := List.map_fst_zip (by have := hf'.len; omega)
      have hnz : ((ks'.zip l').map (·.1)).Nodup := by rw [e1']; exact hf'.inc.nodup
      refine gn ?_
      refine WP.only [(b2,cl [.int .i64 6,.int .i64 n₁,.float .f64 f₁,.string s₁,.slice a₁ ks.length c₁,.slice a₁' l.length c₁'] 37),(b3,cl [.int .i64 6,.int .i64 o₁,.float .f64 g₁,.string t₁,.slice d₁ p₁ e₁,.slice d₁' p₁' e₁'] 37)] ?_
      refine WP.loopK (4 :: 5 :: 6 :: 7 :: 8 :: List.range' 40 23) (fun m g Z' H' => ∃ i : Nat,g 40 = .int .i64 (i : Int) ∧ i ≤ ks.length ∧ m = ks.length - i ∧ (∀ k x y,(k,x) ∈ (ks.take i).zip (l.take i) → (k,y) ∈ ks'.zip l' → KA x y) ∧
        H' = [(b2,cl [.int .i64 6,.int .i64 n₁,.float .f64 f₁,.string s₁,.slice a₁ ks.length c₁,.slice a₁' l.length c₁'] 37),(b3,cl [.int .i64 6,.int .i64 o₁,.float .f64 g₁,.string t₁,.slice d₁ p₁ e₁,.slice d₁' p₁' e₁'] 37)]) ks.length ⟨0,rfl,by omega,by omega,by simp,rfl⟩ ?_
      rintro m g Z' H' hz ⟨i,h40,hi,rfl,hall,rfl⟩
      refine WP.pin 40 h40 ?_
      by_cases hin : i < ks.length
      · obtain ⟨b,off,xs,x,cells,rfl,hb,hx,hcx,hrc⟩ := eltV (i := i) (q2.mono fun _ _ h => inQ.le hz h) (q3.mono hz) (by omega)
        obtain ⟨k,hk⟩ : ∃ k,ks[i]? = some k := ⟨ks[i],by simp⟩
        obtain ⟨b',off',xs',rfl,hb',hbk⟩ := eltS (q1.mono fun _ _ h => inQ.le hz h) hk
        haveI : Zf Z' b (cl xs 37) := ⟨hb⟩
        haveI : Zf Z' b' (cl xs' 9) := ⟨hb'⟩
        have hrc' := hrc
        obtain ⟨kx,nx,fx,sx,ax,ax',mx,cx,mx',cx',rfl⟩ := hrc'.six
        have hxs := sz_at hx
        have hxc := hf.all x (List.mem_of_getElem? hx)
        have hzt : (ks.take (i + 1)).zip (l.take (i + 1)) = (ks.take i).zip (l.take i) ++ [(k,x)] := by
          rw [List.take_add_one,List.take_add_one,hk,hx,List.zip_append (by simp; omega)]
          rfl
        have hnext : (∀ y,(k,y) ∈ ks'.zip l' → KA x y) → ∀ k' x' y,(k',x') ∈ (ks.take (i + 1)).zip (l.take (i + 1)) → (k',y) ∈ ks'.zip l' → KA x' y := fun h k' x' y hm hy => by
          rw [hzt] at hm
          rcases List.mem_append.1 hm with hm | hm
          · exact hall k' x' y hm hy
          · simp only [List.mem_singleton,Prod.mk.injEq] at hm
            obtain ⟨rfl,rfl⟩ := hm
            exact h y hy
        refine gn ?_
        refine o_indexAddr (j := i) rfl rfl rfl hin ?_
        refine gn ?_
        refine cp (args := [.agg #[_,_,_,_,_,_],.string k]) (f29 k hcl' (hr2.mono hz) (by omega)) ?_
        rintro _ ⟨bb,v,vs,rfl,hv,hvt,hvf,_⟩
        simp only [RV.ks,RV.l,RV.k,true_and] at hvt hvf
        have hv' := hv
        obtain ⟨kv,nv,fv,sv,av,av',mv,cv,mv',cv',rfl⟩ := hv'.six
        cases bb with
        | true =>
          have hvm := hvt rfl
          have hvs : v.sz ≤ r'.sz := by
            obtain ⟨j,hj1,hj2⟩ := zip_mem.1 hvm
            have := sz_at hj2
            simp only [RV.sz] at hcs'; omega
          have hvc := hf'.all v (List.of_mem_zip hvm).2
          refine gn ?_; intro b7
          refine gn ?_
          refine WP.drawA mo (by decide +kernel) ?_
          refine gn ?_
          refine o_indexAddr (j := i) rfl rfl rfl (by omega) ?_
          refine o_loadN rfl rfl hcx rfl ?_
          refine gn ?_
          refine cg (args := [.agg #[_,_,_,_,_,_],.agg #[_,_,_,_,_,_]]) (f15 N x v _ _ Z' (by omega) (by omega) (by omega) hrc hv) ?_
          rintro _ Z3 hz3 ⟨q,rfl,hq⟩
          cases q with
          | true =>
            have hka := hq rfl
            rw [show x.clean = x from hxc,show v.clean = v from hvc] at hka
            refine gn ?_
            exact ⟨bk,ks.length - (i + 1),[(b2,cl [.int .i64 6,.int .i64 n₁,.float .f64 f₁,.string s₁,.slice (some ⟨b',off',none⟩) ks.length c₁,.slice (some ⟨b,off,none⟩) l.length c₁'] 37),(b3,cl [.int .i64 6,.int .i64 o₁,.float .f64 g₁,.string t₁,.slice d₁ p₁ e₁,.slice d₁' p₁' e₁'] 37)],_,by omega,spp,i + 1,rfl,by omega,rfl,hnext fun y hy => by rw [← nodup_one hnz hvm hy]; exact hka,rfl⟩
          | false =>
            refine gn ?_
            exact fin1 fun _ _ _ => ⟨false,rfl,fun h => by cases h⟩
        | false =>
          have hno := hvf rfl
          refine gn ?_; intro b7
          refine gn ?_
          refine WP.drawA mo (by decide +kernel) ?_
          refine gn ?_
          exact ⟨bk,ks.length - (i + 1),[(b2,cl [.int .i64 6,.int .i64 n₁,.float .f64 f₁,.string s₁,.slice (some ⟨b',off',none⟩) ks.length c₁,.slice (some ⟨b,off,none⟩) l.length c₁'] 37),(b3,cl [.int .i64 6,.int .i64 o₁,.float .f64 g₁,.string t₁,.slice d₁ p₁ e₁,.slice d₁' p₁' e₁'] 37)],_,by omega,spp,i + 1,rfl,by omega,rfl,hnext fun y hy => absurd hy (hno y),rfl⟩
      · have e2 : i = ks.length := by omega
        rw [e2,List.take_length,hkl,List.take_length] at hall
        refine gn ?_
        refine fin1 fun _ _ _ => ⟨true,rfl,fun _ q u v hu hv => ?_⟩
        cases q with
        | nil => rw [RAt.nil_iff] at hu hv; subst hu hv; exact ⟨Iff.rfl,Iff.rfl⟩
        | cons k q =>
          obtain ⟨_,x,hx,hu'⟩ := RAt.cons_iff.1 hu
          obtain ⟨_,y,hy,hv'⟩ := RAt.cons_iff.1 hv
          exact hall k x y hx hy q u v hu' hv'
    · have hfin : ∀ b : Bool,(b = true → (k₁ = 6 ↔ j₁ = 6) ∧ (k₁ = 5 ↔ j₁ = 5)) → (b = true → KA r.clean r'.clean) := fun b hb h => by
        obtain ⟨g1,g2⟩ := hb h
        rw [hk,hk'] at g1 g2 h6
        exact KA.none h6 g1 g2
      by_cases e6 : k₁ = 6 <;> by_cases e6' : j₁ = 6 <;> by_cases e5 : k₁ = 5 <;> by_cases e5' : j₁ = 5
      all_goals try (exfalso; omega)
      all_goals refine gn ?_
      all_goals refine o_eqB rfl rfl rfl ?_
      all_goals refine gn ?_
      all_goals first
        | exact fin1 fun _ _ _ => ⟨_,rfl,hfin _ (by simp [e6,e6',e5,e5'])⟩
        | (refine o_eqB rfl rfl rfl ?_
           refine gn ?_
           exact fin1 fun _ _ _ => ⟨_,rfl,hfin _ (by simp [e6,e6',e5,e5'])⟩)
end
end Go.Ux
namespace Go.Ux
open Go Go.Proofs
set_option maxRecDepth 20000
attribute [local irreducible] WP Tr
section
variable {Z : Fz} {U : List Nm} {sc sb lb mb eb nb nb' ms mm uu : Nat}
theorem f70g (c : Nat) : Gr Tryz.prog 70 #[.slice none 0 c] Z fun v Z' => ∃ b,v = pt b ∧ ST Z' U (.mk [] []) b := by
 refine Tr.gr (f70 c Z) ?_
 rintro v Z' H' Z'' ⟨b,rfl,rfl,h⟩ _ hz hp
 exact ⟨b,rfl,h.frz hz fun p hp' => hp p hp',.empty⟩
theorem lk_one {k : Nm} {v : Value} {t : Nat} : lk [⟨k,v,t⟩] k = some v := by simp [lk]
theorem upd_one {k : Nm} {v w : Value} {t c : Nat} : upd k w c [⟨k,v,t⟩] = [⟨k,w,t⟩] := by simp [upd]
theorem nxt_one {k : Nm} {v : Value} {t c : Nat} : nxt k [⟨k,v,t⟩] c = c := by simp [nxt,lk_one]
theorem del_one {k : Nm} {v : Value} {t : Nat} : del k [⟨k,v,t⟩] = [] := by simp [del]
theorem has_none (x : List Nm) : ¬ (FS.mk [] []).has x := fun h => by
 cases x with
 | nil => exact FS.has_nil _ h
 | cons k q => rw [FS.has_cons] at h; simp [FS.ms,FS.cs] at h
def UnQ (Z : Fz) (U : List Nm) (ver : ByteArray) (f : Own) (done : List En) (es : List En) (c : Nat) : Prop := (done = [] ∧ es = [] ∧ c = 0) ∨ ∃ b t s,es = [⟨ver,pt b,t⟩] ∧ t < c ∧ ST Z U s b ∧ ∀ x,s.has x ↔ ∃ e ∈ done,f.has e.k x
set_option maxHeartbeats 4000000 in
theorem f94 (h : UX Z sc sb lb mb eb nb ms mm uu) (hU : U.length ≤ 1073741824) {G p₁ : Tv} {pm pp m c : Nat} {es : List En} {f : Own} (ver nm : ByteArray) (hG : TyV Z sc nb G pm) (hP : TyV Z sc nb' p₁ pp) (hF : MF Z U ver es c f) (hne : es ≠ []) (hGc : G.cls = 0) (hGs : G.sz ≤ 4294967296) (hPs : p₁.sz ≤ 4294967296) (gU : G.inU U) (pU : p₁.inU U) (hsub : ∀ k x,f.has k x → Dm G x) :
  Tr Tryz.prog 94 #[pt uu,pt pm,pt pp,.string ver,.map (some m),.string nm] Z [(m,mp es c)] fun x Z' H' => H' = [(m,mp es c)] ∧ ∃ pp' p₂,x = .tuple #[pt pp',.nilIface] ∧ TyV Z' sc nb p₂ pp' ∧ RM (fun x => (x ≠ [] ∧ Dm G x) ∧ ¬ ((x ≠ [] ∧ Dm p₁ x) ∨ ∃ k,f.has k x)) G p₂ := by
 refine Tr.introk Tryz.func94 rfl Tryz.ntmps94 Tryz.results94 rfl ?_
 refine gn ?_; intro mv
 refine gn ?_
 refine o_range rfl rfl ?_
 intro bi
 refine gn ?_
 refine WP.only [(bi,.mapIter (some m) c #[] c),(m,mp es c),(mv,mp [] 0)] ?_
 refine WP.loopK (17 :: 18 :: 19 :: List.range' 27 27) (fun k g Z' H' => ∃ done es₁ c₁,k = left es done ∧ (∀ e ∈ done,e ∈ es) ∧ (done.map En.t).Nodup ∧ UnQ Z' U ver f done es₁ c₁ ∧ H' = [(bi,.mapIter (some m) c (done.map En.t).toArray c),(m,mp es c),(mv,mp es₁ c₁)]) (left es []) ⟨[],[],0,rfl,by simp,by simp,.inl ⟨rfl,rfl,rfl⟩,rfl⟩ ?_
 rintro k g Z' H' hz ⟨done,es₁,c₁,rfl,hsub',hnd,hJ,rfl⟩
 refine gn ?_
 refine o_next rfl rfl hF.st.lt ?_ ?_
 ·intro hall
  have hperm := perm_all hsub' hnd (by simpa using hall) hF.st.nd
  obtain ⟨b,t,s,rfl,htc,hs,hx⟩ : ∃ b t s,es₁ = [⟨ver,pt b,t⟩] ∧ t < c₁ ∧ ST Z' U s b ∧ ∀ x,s.has x ↔ ∃ e ∈ done,f.has e.k x := by
   rcases hJ with ⟨h1,_,_⟩ | h
   ·subst h1; exact absurd hperm.symm.eq_nil hne
   ·exact h
  have hx' : ∀ x,s.has x ↔ ∃ k,f.has k x := fun x => by
   rw [hx]
   constructor
   ·rintro ⟨e,_,h⟩; exact ⟨_,h⟩
   ·rintro ⟨k,ap,s',hf,h⟩
    obtain ⟨e,he,rfl⟩ := hF.no k (by rw [hf]; simp)
    exact ⟨e,hperm.mem_iff.2 he,ap,s',hf,h⟩
  refine gn ?_
  refine o_lookup rfl rfl rfl ?_
  simp only [if_true,lk_one,Option.getD_some,Option.isSome_some]
  refine gn ?_
  refine cg (args := [pt uu,pt pm,pt pp,.string ver,pt b]) (f134 (h.mono hz) hU ver (hG.mono hz) (hP.mono hz) hs hGc hGs hPs gU pU fun x hh => by obtain ⟨k,hk⟩ := (hx' x).1 hh; exact hsub k x hk) ?_
  rintro _ Z2 hz2 ⟨pm',pp',p₂,rfl,hpm,hpp,hrm⟩
  refine gn ?_
  refine o_delete rfl rfl rfl ?_
  rw [del_one]
  refine gn ?_
  refine o_range rfl rfl ?_
  intro bj
  refine gn ?_
  refine WP.only [(bj,.mapIter (some mv) c₁ #[] c₁),(m,mp es c),(mv,mp [] c₁)] ?_
  refine WP.loopK ([1,2,12,13,14,22,23] ++ List.range' 78 18) (fun k g Z' H' => g 2 = pt pp' ∧ Z2 = Z' ∧ H' = [(bj,.mapIter (some mv) c₁ #[] c₁),(m,mp es c),(mv,mp [] c₁)]) 0 ⟨rfl,rfl,rfl⟩ ?_
  rintro k g Z' H' hz' ⟨h2,rfl,rfl⟩
  refine WP.pin 2 h2 ?_
  refine gn ?_
  refine o_next rfl rfl (by simp) ?_ ?_
  ·intro _
   refine gn ?_
   exact fk2 (A := [(m,mp es c)]) ⟨rfl,pp',p₂,rfl,hpp,hrm.congr fun x _ => by rw [hx']⟩
  ·intro e he
   simp at he
 ·intro e he hns
  obtain ⟨b₀,ap,s₀,hev,hs₀,hf⟩ := hF.en e he
  obtain ⟨ek,ev,et⟩ := e
  simp only at hev hf
  subst hev
  refine gn ?_
  refine o_entry rfl rfl he hF.st.nd ?_
  refine gn ?_
  refine cip (args := []) (f251 b₀ ver ap) ?_
  rintro _ rfl
  refine o_lookup rfl rfl rfl ?_
  have hsub2 : ∀ x ∈ done ++ [⟨ek,vst b₀ ver ap,et⟩],x ∈ es := fun x hx => by
   rcases List.mem_append.1 hx with h | h
   ·exact hsub' x h
   ·rw [List.mem_singleton.1 h]; exact he
  have hx0 : ∀ x,f.has ek x ↔ s₀.has x := fun x => by
   constructor
   ·rintro ⟨ap',s',h1,h2⟩; rw [hf] at h1; cases h1; exact h2
   ·intro h; exact ⟨ap,s₀,hf,h⟩
  rcases hJ with ⟨rfl,rfl,rfl⟩ | ⟨b,t,s,rfl,htc,hs,hx⟩
  ·simp only [if_true,lk_nil,Option.getD_none,Option.isSome_none]
   refine gn ?_
   refine cip (args := []) (f251 b₀ ver ap) ?_
   rintro _ rfl
   refine cg (args := [.slice none 0 0]) (f70g (U := U) 0) ?_
   rintro _ Z2 hz2 ⟨b,rfl,hb⟩
   refine o_mapUpdate (v := pt b) rfl rfl rfl rfl ?_
   rw [show mp (upd ver (pt b) 0 []) (nxt ver [] 0) = mp [⟨ver,pt b,0⟩] 1 from rfl]
   refine gn ?_
   refine WP.draw3 [(mv,mp [⟨ver,pt b,0⟩] 1)] [(bi,.mapIter (some m) c (([] : List En).map En.t |>.toArray.push et) c),(m,mp es c)] [0,1,3,4,7,2,5,6,8,9] [10] mo (by decide +kernel) (prm rfl) ?_
   refine gn ?_
   refine cip (args := []) (f251 b₀ ver ap) ?_
   rintro _ rfl
   refine cip (args := []) (f251 b₀ ver ap) ?_
   rintro _ rfl
   refine o_lookup rfl rfl rfl ?_
   simp only [Bool.false_eq_true,if_false,lk_one,Option.getD_some]
   refine cip (args := []) (f253 b₀ ver ap) ?_
   rintro _ rfl
   refine cg (args := [pt b,pt b₀]) (f72' hU hb ((hs₀.mono hz).mono hz2)) ?_
   rintro _ Z3 hz3 ⟨b3,s3,rfl,hs3,e3⟩
   refine r_two [] ?_
   refine o_mapUpdate (v := pt b3) rfl rfl rfl rfl ?_
   rw [upd_one,nxt_one]
   refine gn ?_
   exact ⟨bk,left es ([] ++ [⟨ek,vst b₀ ver ap,et⟩]),[(bi,.mapIter (some m) c (([] : List En).map En.t |>.toArray.push et) c),(m,mp es c),(mv,mp [⟨ver,pt b3,0⟩] 1)],_,left_lt he hns,spp,_,_,_,rfl,hsub2,nd_snoc hnd hns,.inr ⟨b3,0,s3,rfl,by omega,hs3,fun x => by rw [e3]; simp [hx0,has_none]⟩,rfl⟩
  ·simp only [if_true,lk_one,Option.getD_some,Option.isSome_some]
   refine gn ?_
   refine WP.draw3 [(mv,mp [⟨ver,pt b,t⟩] c₁)] [(bi,.mapIter (some m) c ((done.map En.t).toArray.push et) c),(m,mp es c)] [0,1,3,4,7,2,5,6,8,9] [10] mo (by decide +kernel) (prm rfl) ?_
   refine gn ?_
   refine cip (args := []) (f251 b₀ ver ap) ?_
   rintro _ rfl
   refine cip (args := []) (f251 b₀ ver ap) ?_
   rintro _ rfl
   refine o_lookup rfl rfl rfl ?_
   simp only [Bool.false_eq_true,if_false,lk_one,Option.getD_some]
   refine cip (args := []) (f253 b₀ ver ap) ?_
   rintro _ rfl
   refine cg (args := [pt b,pt b₀]) (f72' hU hs (hs₀.mono hz)) ?_
   rintro _ Z3 hz3 ⟨b3,s3,rfl,hs3,e3⟩
   refine r_two [] ?_
   refine o_mapUpdate (v := pt b3) rfl rfl rfl rfl ?_
   rw [upd_one,nxt_one]
   refine gn ?_
   exact ⟨bk,left es (done ++ [⟨ek,vst b₀ ver ap,et⟩]),[(bi,.mapIter (some m) c ((done.map En.t).toArray.push et) c),(m,mp es c),(mv,mp [⟨ver,pt b3,t⟩] c₁)],_,left_lt he hns,spp,done ++ [⟨ek,vst b₀ ver ap,et⟩],_,_,rfl,hsub2,nd_snoc hnd hns,.inr ⟨b3,t,s3,rfl,htc,hs3,fun x => by
    rw [e3,hx]
    simp only [List.mem_append,List.mem_singleton,or_and_right,exists_or,exists_eq_left,hx0]⟩,by rw [← push_snoc]⟩
end
end Go.Ux
namespace Go.Ux
open Go Go.Proofs
set_option maxRecDepth 20000
attribute [local irreducible] WP Tr
section
variable {Z : Fz} {U : List Nm} {sc sb lb mb eb nb nb' ms mm uu : Nat}
theorem TyV.uk {t : Tv} {p : Nat} (h : TyV Z sc nb t p) : t.uk := by obtain ⟨_,_,_,_,h⟩ := h; exact h.uk
set_option maxHeartbeats 4000000 in
theorem f62 (h : UX Z sc sb lb mb eb nb ms mm uu) (hU : U.length ≤ 1073741824) {G : Tv} {pm m c : Nat} {es : List En} {f : Own} {lv : Value} {own : List Nm → Prop} {ap₁ : Bool} {s₁ : FS} (ver nm : ByteArray) (hG : TyV Z sc nb G pm) (hF : MF Z U ver es c f) (hf : f nm = some (ap₁,s₁))
  (hl : (lv = .nilIface ∧ ∀ x,¬ own x) ∨ ∃ b ap L,lv = vst b ver ap ∧ ST Z U L b ∧ ∀ x,L.has x ↔ own x) (hGc : G.cls = 0) (hGs : G.sz ≤ 4294967296) (gU : G.inU U) (hsub : ∀ k x,f.has k x → Dm G x) (hsub' : ∀ x,own x → Dm G x) :
  Tr Tryz.prog 62 #[pt uu,pt pm,.map (some m),.string nm,lv] Z [(m,mp es c)] fun x Z' H' => H' = [(m,mp es c)] ∧ ∃ pq N,x = .tuple #[pt pq,.nilIface] ∧ TyV Z' sc nb N pq ∧
   ((N = G ∧ ∀ x,¬ own x) ∨ ∃ p₁ p₂,RM own G p₁ ∧ RM (fun x => (x ≠ [] ∧ Dm G x) ∧ ¬ ((x ≠ [] ∧ Dm p₁ x) ∨ ∃ k,f.has k x)) G p₂ ∧ RM (fun x => ((x ≠ [] ∧ Dm G x) ∧ ¬ (x ≠ [] ∧ Dm p₂ x)) ∧ own x) G N) := by
 have hne : es ≠ [] := by
  obtain ⟨e,he,_⟩ := hF.no nm (by rw [hf]; simp)
  rintro rfl; cases he
 haveI : Zf Z uu _ := ⟨.of (h.uu)⟩
 refine Tr.introk Tryz.func62 rfl Tryz.ntmps62 Tryz.results62 rfl ?_
 rcases hl with ⟨rfl,hno⟩ | ⟨bl,ap,L,rfl,hL,hx⟩
 ·refine gn ?_
  exact fk2 (A := [(m,mp es c)]) ⟨rfl,pm,G,rfl,hG,.inl ⟨rfl,hno⟩⟩
 refine gn ?_
 refine cip (args := []) (f253 bl ver ap) ?_
 rintro _ rfl
 refine cp (f73' hU hL) ?_
 rintro _ ⟨e,rfl,he⟩
 cases e with
 | true =>
  refine gn ?_
  exact fk2 (A := [(m,mp es c)]) ⟨rfl,pm,G,rfl,hG,.inl ⟨rfl,fun x hh => he.1 rfl x ((hx x).2 hh)⟩⟩
 | false =>
  refine gn ?_
  refine cip (args := []) (f251 bl ver ap) ?_
  rintro _ rfl
  refine gn ?_
  refine cig (args := [pt pm,.string ver]) (f224 h ver hG) ?_
  rintro _ Z1 hz1 ⟨pm',rfl,a,u,hpm,ha,hu⟩
  haveI : Zf Z1 pm' _ := ⟨.of (hpm)⟩
  refine gn ?_
  refine WP.draw [(m,mp es c)] [] [0,1,2,4,5,6,3,7,8,9,10] mo (by decide +kernel) (prm rfl) ?_
  refine gn ?_
  refine cp (f90 (vv a) sc nb) ?_
  rintro _ rfl
  refine cp (f91 (vv a) sc nb) ?_
  rintro _ rfl
  refine gn ?_; intro b16
  refine gn ?_
  refine WP.draw [(b16,cl (tref nb) 100),(m,mp es c)] [] [0,1,2,3,5,6,4,7,8,9] mo (by decide +kernel) (prm rfl) ?_
  refine gn ?_
  refine cip (args := []) (f253 bl ver ap) ?_
  rintro _ rfl
  refine cg (args := [pt bl,pt sc,.agg (tref nb).toArray]) (f93' (h.mono hz1) hU (hL.mono hz1) (by have := cnt_le L hL.2 hG.uk fun x hh => hsub' x ((hx x).1 hh); omega)) ?_
  rintro _ Z2 hz2 ⟨bl',rfl,hL'⟩
  have hz02 := hz1.trans hz2
  refine cg (args := [.agg (tv (vv a) sc nb).toArray,pt bl']) (f92 hGc (hz2 _ _ ha) (hu.mono hz2) hL'.1 hL'.2 hU (fun x hh => hsub' x ((hx x).1 hh)) (h.mono hz02).sch (h.mono hz02).nm) ?_
  rintro _ Z3 hz3 ⟨pp,p₁,rfl,hp1,hr1⟩
  have hz03 := hz02.trans hz3
  have hz13 := hz2.trans hz3
  have hr1' : RM own G p₁ := hr1.congr fun x _ => hx x
  refine gn ?_
  have hG3 : TyV Z3 sc nb G pm' := ⟨a,u,hz13 _ _ hpm,hz13 _ _ ha,hu.mono hz13⟩
  refine ct (args := [pt uu,pt pm',pt pp,.string ver,.map (some m),.string nm]) (f94 (h.mono hz03) hU ver nm hG3 hp1 (hF.mono hz03) hne hGc hGs (by have := hr1'.sz hG.uk hp1.uk; omega) gU (hr1'.inU gU) hsub) ?_
  rintro _ Z4 H4 hz4 ⟨rfl,pp2,p₂,rfl,hp2,hr2⟩
  have hz04 := hz03.trans hz4
  refine gn ?_
  refine cg (args := [pt uu,pt pm',pt pp2,vst bl ver ap]) (f95 (h.mono hz04) hU ver ap (hG3.mono hz4) hp2 (hL.mono hz04) hGc hGs (by have := hr2.sz hG.uk hp2.uk; omega) gU (hr2.inU gU) fun x hh => hsub' x ((hx x).1 hh)) ?_
  rintro _ Z5 hz5 ⟨pq,N,rfl,hpq,hr3⟩
  have hz05 := hz04.trans hz5
  haveI : Zf Z5 uu _ := ⟨.of (hz05 _ _ h.uu)⟩
  refine gn ?_
  obtain ⟨b₁,hlk,_⟩ := hF.get hf
  refine WP.only [(m,mp es c)] ?_
  refine WP.draw [(m,mp es c)] [] [0,1,2,3,4,5,6,7,9,10,8,11,12,13,14,15] mo (by decide +kernel) (prm rfl) ?_
  refine gn ?_
  refine o_lookup rfl rfl rfl ?_
  simp only [Bool.false_eq_true,if_false,hlk,Option.getD_some]
  refine gn ?_
  refine cip (args := []) (f251 b₁ ver ap₁) ?_
  rintro _ rfl
  refine cig (args := [pt pq,.string ver]) (f224 (h.mono hz05) ver hpq) ?_
  rintro _ Z6 hz6 ⟨pq',rfl,hpq'⟩
  refine gn ?_
  exact fk2 (A := [(m,mp es c)]) ⟨rfl,pq',N,rfl,hpq',.inr ⟨p₁,p₂,hr1',hr2,hr3.congr fun x _ => by rw [hx]⟩⟩
end
end Go.Ux
namespace Go.Ux
open Go Go.Proofs
set_option maxRecDepth 20000
attribute [local irreducible] WP Tr
def Own.cut (f : Own) (done : List En) : Own := fun k => if k ∈ done.map En.k then f k else none
theorem Own.cut_nil (f : Own) : f.cut [] = fun _ => none := by funext k; simp [Own.cut]
theorem Own.cut_snoc {f : Own} {done : List En} {e : En} {v : Option (Bool × FS)} (h : f e.k = v) : (f.cut done).set e.k v = f.cut (done ++ [e]) := by
 funext k
 simp only [Own.set,Own.cut,List.map_append,List.map_cons,List.map_nil,List.mem_append,List.mem_singleton]
 by_cases e' : k = e.k
 ·subst e'; simp [h]
 ·simp [e']
theorem Own.cut_all {Z : Fz} {U : List Nm} {ver : ByteArray} {es : List En} {c : Nat} {f : Own} {done : List En} (h : MF Z U ver es c f) (hp : done.Perm es) : f.cut done = f := by
 funext k
 unfold Own.cut
 by_cases e : k ∈ done.map En.k
 ·rw [if_pos e]
 ·rw [if_neg e]
  cases hf : f k with
  | none => rfl
  | some p =>
   obtain ⟨e',he,hk⟩ := h.no k (by rw [hf]; simp)
   exact absurd (List.mem_map.2 ⟨e',hp.mem_iff.2 he,hk⟩) e
section
variable {Z : Fz} {U : List Nm} {sc sb lb mb eb nb nb' ms mm uu : Nat}
set_option maxHeartbeats 4000000 in
theorem f56 (h : UX Z sc sb lb mb eb nb ms mm uu) {t : Tv} {p m c : Nat} {es : List En} {f : Own} {ver : ByteArray} (hT : TyV Z sc nb' t p) (hF : MF Z U ver es c f) :
  Tr Tryz.prog 56 #[pt uu,pt p,.map (some m)] Z [(m,mp es c)] fun x Z' H' => ∃ m' es' c',x = .tuple #[.map (some m'),.nilIface] ∧ H' = [(m,mp es c),(m',mp es' c')] ∧ MF Z' U ver es' c' f := by
 refine Tr.introk Tryz.func56 rfl Tryz.ntmps56 Tryz.results56 rfl ?_
 refine gn ?_; intro mv
 refine gn ?_
 refine o_range rfl rfl ?_
 intro bi
 refine gn ?_
 refine WP.only [(bi,.mapIter (some m) c #[] c),(m,mp es c),(mv,mp [] 0)] ?_
 refine WP.loopK (6 :: 7 :: (List.range' 9 5 ++ List.range' 17 50)) (fun k g Z' H' => ∃ done es₁ c₁,k = left es done ∧ (∀ e ∈ done,e ∈ es) ∧ (done.map En.t).Nodup ∧ MF Z' U ver es₁ c₁ (f.cut done) ∧ H' = [(bi,.mapIter (some m) c (done.map En.t).toArray c),(m,mp es c),(mv,mp es₁ c₁)]) (left es []) ⟨[],[],0,rfl,by simp,by simp,by rw [Own.cut_nil]; exact .nil,rfl⟩ ?_
 rintro k g Z' H' hz ⟨done,es₁,c₁,rfl,hsub',hnd,hJ,rfl⟩
 refine gn ?_
 refine o_next rfl rfl hF.st.lt ?_ ?_
 ·intro hall
  have hperm := perm_all hsub' hnd (by simpa using hall) hF.st.nd
  refine gn ?_
  rw [Own.cut_all hF hperm] at hJ
  exact fk2 (A := [(m,mp es c),(mv,mp es₁ c₁)]) ⟨mv,es₁,c₁,rfl,rfl,hJ⟩
 ·intro e he hns
  obtain ⟨b₀,ap,s₀,hev,hs₀,hf⟩ := hF.en e he
  obtain ⟨ek,ev,et⟩ := e
  simp only at hev hf
  subst hev
  haveI : Zf Z' uu _ := ⟨.of ((h.mono hz).uu)⟩
  refine gn ?_
  refine o_entry rfl rfl he hF.st.nd ?_
  refine gn ?_
  refine WP.draw [] [(bi,.mapIter (some m) c ((done.map En.t).toArray.push et) c),(m,mp es c),(mv,mp es₁ c₁)] [0,1,2,3,4,5,7,8,6,9,10,11,12,13,14] mo (by decide +kernel) (prm rfl) ?_
  refine gn ?_
  refine cip (args := []) (f251 b₀ ver ap) ?_
  rintro _ rfl
  refine cig (args := [pt p,.string ver]) (f224 (h.mono hz) ver (hT.mono hz)) ?_
  rintro _ Z2 hz2 ⟨p',rfl,a,u,hp',ha,hu⟩
  haveI : Zf Z2 uu _ := ⟨.of (hz2 _ _ (h.mono hz).uu)⟩
  refine gn ?_
  refine cip (args := [.nilIface]) (f225 sc nb ms mm) ?_
  rintro _ rfl
  refine gn ?_
  refine cip (args := []) (f253 b₀ ver ap) ?_
  rintro _ rfl
  refine gn ?_
  refine ct (args := [pt b₀,pt p']) (f84 (h.mono (hz.trans hz2)).sch (h.mono (hz.trans hz2)).nm p' b₀ a hp') ?_
  rintro _ Z3 H3 hz3 ⟨rfl,rfl,rfl⟩
  refine gn ?_
  refine o_mapUpdate (v := vst b₀ ver ap) rfl rfl rfl rfl ?_
  refine gn ?_
  have hJ' := (hJ.mono hz2).upd ek (ap := ap) ((hs₀.mono hz).mono hz2)
  rw [Own.cut_snoc (e := ⟨ek,vst b₀ ver ap,et⟩) hf] at hJ'
  refine ⟨bk,left es (done ++ [⟨ek,vst b₀ ver ap,et⟩]),[(bi,.mapIter (some m) c ((done.map En.t).toArray.push et) c),(m,mp es c),(mv,mp (upd ek (vst b₀ ver ap) c₁ es₁) (nxt ek es₁ c₁))],_,left_lt he hns,spp,done ++ [⟨ek,vst b₀ ver ap,et⟩],_,_,rfl,fun x hx => ?_,nd_snoc hnd hns,hJ',by rw [← push_snoc]⟩
  rcases List.mem_append.1 hx with h | h
  ·exact hsub' x h
  ·rw [List.mem_singleton.1 h]; exact he
end
end Go.Ux
namespace Go.Ux
open Go Go.Proofs
set_option maxRecDepth 20000
instance : Ent Tryz.prog 139 := ⟨fun a w => by kernel_rfl⟩
attribute [local irreducible] WP Tr
theorem nd_len {α : Type} [DecidableEq α] : ∀ {a b : List α},a.Nodup → (∀ x ∈ a,x ∈ b) → a.length ≤ b.length
 | [],_,_,_ => Nat.zero_le _
 | x :: a,b,hn,h => by
  rw [List.nodup_cons] at hn
  have hx := h x (List.mem_cons_self ..)
  have ih := nd_len (a := a) (b := b.erase x) hn.2 fun y hy => (List.mem_erase_of_ne (by rintro rfl; exact hn.1 hy)).2 (h y (List.mem_cons_of_mem _ hy))
  rw [List.length_erase_of_mem hx] at ih
  have := List.length_pos_of_mem hx
  simp only [List.length_cons]; omega
def CfE (Z : Fz) (k : Nm) (q : List Nm) (c : List Value) : Prop := ∃ b n pcs,c = [.string k,.slice (some ⟨b,0,none⟩) n n] ∧ Z b = some (cl pcs 308) ∧ (pcs.length = n * 4 ∧ pcs.length ≤ 34359738368) ∧ PM Z q pcs
def CfL (Z : Fz) : List (Nm × List Nm) → List Value → Prop
 | [],cs => cs = []
 | (k,q) :: l,cs => ∃ c r,cs = c ++ r ∧ CfE Z k q c ∧ CfL Z l r
theorem CfE.mono {Z Z' : Fz} (hz : Fz.le Z Z') {k : Nm} {q : List Nm} {c : List Value} : CfE Z k q c → CfE Z' k q c := fun ⟨b,n,pcs,h1,h2,h3,h4⟩ => ⟨b,n,pcs,h1,hz _ _ h2,h3,h4.mono hz⟩
theorem CfL.mono {Z Z' : Fz} (hz : Fz.le Z Z') : ∀ {l : List (Nm × List Nm)} {c : List Value},CfL Z l c → CfL Z' l c
 | [],_,h => h
 | (_,_) :: _,_,⟨c,r,h1,h2,h3⟩ => ⟨c,r,h1,h2.mono hz,h3.mono hz⟩
theorem CfL.snoc {Z : Fz} {k : Nm} {q : List Nm} {e : List Value} (he : CfE Z k q e) : ∀ {l : List (Nm × List Nm)} {c : List Value},CfL Z l c → CfL Z (l ++ [(k,q)]) (c ++ e)
 | [],_,h => by simp only [CfL] at h; subst h; exact ⟨e,[],by simp,he,rfl⟩
 | (_,_) :: _,_,⟨c,r,h1,h2,h3⟩ => ⟨c,r ++ e,by rw [h1,List.append_assoc],h2,h3.snoc he⟩
theorem CfL.len {Z : Fz} : ∀ {l : List (Nm × List Nm)} {c : List Value},CfL Z l c → c.length = 2 * l.length
 | [],_,h => by simp only [CfL] at h; subst h; rfl
 | (_,_) :: _,_,⟨c,r,h1,h2,h3⟩ => by
  obtain ⟨_,_,_,rfl,_⟩ := h2
  rw [h1,List.length_append,h3.len]; simp; omega
section
variable {Z : Fz} {U : List Nm}
theorem f140 {qv : Value} {pcs : List Value} {Hq : Hp} {q : List Nm} (hq : Sl 308 4 qv pcs Hq) (hp : PM Z q pcs) (hne : q ≠ []) (hn : pcs.length ≤ 34359738368) :
  Tr Tryz.prog 140 #[qv] Z Hq fun v Z' H' => ∃ b n,v = .slice (some ⟨b,0,none⟩) n n ∧ pcs.length = n * 4 ∧ Z' b = some (cl pcs 308) ∧ H' = Hq := by
 cases hq with
 | nil => exact absurd (List.length_eq_zero_iff.1 (by have := hp.len; simp at this; omega)) hne
 | row b0 n c _ rest h1 h2 h3 =>
  refine Tr.introk Tryz.func140 rfl Tryz.ntmps140 Tryz.results140 rfl ?_
  refine gn ?_
  refine o_makeSliceN (k := 4) (c := n) rfl rfl rfl (by omega) ?_
  intro b xs hxs
  refine gn ?_
  refine o_copy (m := n) (cs := pcs) rfl rfl rfl (Nat.min_self n) (by simp [← h1]) h1 (by simp; omega) (by simpa using hp.one) ?_
  have hxl : xs.length = pcs.length := by omega
  rw [show setL xs 0 pcs = pcs by rw [setL_eq (by omega)]; simp [← hxl]]
  refine r_end ?_
  refine q_n ?_
  refine WP.fz b ?_
  intro Z1 hz1 hb
  refine gn ?_
  exact fk1 (A := [(b0,cl (pcs ++ rest) 308)]) ⟨b,n,rfl,h1,hb,rfl⟩
def CI (b3 : Nat) (k : Nm) (prev : List (Nm × List Nm)) (Hx : Hp) : List (List Nm) → Fz → Hp → Prop := fun done Z H => ∃ sv cs Hs,H = (b3,cl [sv] 175) :: (Hs ++ Hx) ∧ Sl 265 2 sv cs Hs ∧ CfL Z (prev ++ done.map fun q => (k,q)) cs
theorem CI.stc (b3 : Nat) (k : Nm) (prev : List (Nm × List Nm)) (Hx : Hp) : Stc (CI b3 k prev Hx) := fun _ _ _ _ hz ⟨sv,cs,Hs,h1,h2,h3⟩ => ⟨sv,cs,Hs,h1,h2,h3.mono hz⟩
set_option maxHeartbeats 1000000 in
theorem f139 {b3 b4 M : Nat} {k : Nm} {prev : List (Nm × List Nm)} {Hx : Hp} (h4 : Z b4 = some (cl [.string k] 9)) (hM : prev.length + M ≤ 34359738368) : PC 139 [] [pt b3,pt b4] Z (CI b3 k prev Hx) M := by
 rintro done q qv qcs Hq Z₁ _ hdl hz ⟨sv,cs,Hs,rfl,hs,hc⟩ hne hq hp hn
 haveI : Zf Z₁ b4 _ := ⟨.of (hz _ _ h4)⟩
 haveI := hs.one
 haveI := hq.one
 have hcl := hc.len
 rw [List.length_append,List.length_map] at hcl
 show Tr Tryz.prog 139 #[qv,pt b3,pt b4] _ _ _
 refine Tr.introk Tryz.func139 rfl Tryz.ntmps139 Tryz.results139 rfl ?_
 refine WP.drawS [(b3,cl [sv] 175)] (Hq ++ (Hs ++ Hx)) 7 mo (by decide +kernel) (prm rfl) ?_
 refine gn ?_
 refine ct (args := [qv]) (f140 hq hp hne hn) ?_
 rintro _ Z₂ Hq hz₂ ⟨b,n,rfl,hl,hb,rfl⟩
 refine gn ?_; intro vb
 refine oap hs rfl rfl rfl (Rs.cells (inferInstance : Mem false _ _ _ vb (cl _ 265)) rfl (Nat.le_refl 1)) (by simp [Value.oneCell']) (by omega) (by simp; omega) ?_
 intro sv' Hs' hs'
 haveI := hs'.one
 refine r_two [] ?_
 refine gn ?_
 refine fk0 (A := Hq ++ ((b3,cl [sv'] 175) :: (Hs' ++ Hx))) ⟨rfl,Hq,_,rfl,hq,sv',_,Hs',rfl,hs',?_⟩
 have := (hc.mono hz₂).snoc (k := k) (q := q) ⟨b,n,qcs,rfl,hb,⟨hl,hn⟩,hp.mono hz₂⟩
 simpa using this
set_option maxHeartbeats 4000000 in
theorem f100 {m c B : Nat} {es : List En} {f : Own} {ver : ByteArray} (hU : U.length ≤ 1073741824) (hF : MF Z U ver es c f) (hl : ∀ k ap s,f k = some (ap,s) → s.cnt ≤ B ∧ ∀ x,s.has x → x.length ≤ 8589934592) (hB : es.length * B ≤ 34359738368) :
  Tr Tryz.prog 100 #[.map (some m)] Z [(m,mp es c)] fun v Z' H' => ∃ Hs l cs,Sl 265 2 v cs Hs ∧ CfL Z' l cs ∧ H' = Hs ∧ l.length ≤ 34359738368 := by
 refine Tr.introk Tryz.func100 rfl Tryz.ntmps100 Tryz.results100 rfl ?_
 refine gn ?_; intro b6
 refine gn ?_; intro b3
 refine gn ?_
 refine o_range rfl rfl ?_
 intro bi
 refine gn ?_
 refine WP.only [(b3,cl [.slice (some ⟨b6,0,none⟩) 0 0] 175),(b6,cl [] 265),(bi,.mapIter (some m) c #[] c),(m,mp es c)] ?_
 refine WP.loopK (4 :: 5 :: List.range' 9 9) (fun k g Z' H' => ∃ done l sv cs Hs,k = left es done ∧ (∀ e ∈ done,e ∈ es) ∧ (done.map En.t).Nodup ∧ Sl 265 2 sv cs Hs ∧ CfL Z' l cs ∧ l.length ≤ done.length * B ∧ H' = (b3,cl [sv] 175) :: (Hs ++ [(bi,.mapIter (some m) c (done.map En.t).toArray c),(m,mp es c)])) (left es []) ⟨[],[],_,[],[(b6,cl [] 265)],rfl,by simp,by simp,.row b6 0 0 [] [] rfl rfl (by omega),rfl,by simp,?_⟩ ?_
 ·rfl
 rintro k g Z' H' hz ⟨done,l,sv,cs,Hs,rfl,hsub',hnd,hs,hc,hll,rfl⟩
 haveI := hs.one
 refine gn ?_
 refine o_next rfl rfl hF.st.lt ?_ ?_
 ·intro hall
  have hperm := perm_all hsub' hnd (by simpa using hall) hF.st.nd
  refine gn ?_
  rw [hperm.length_eq] at hll
  exact fk1 (A := Hs) ⟨Hs,l,cs,hs,hc,rfl,by omega⟩
 ·intro e he hns
  obtain ⟨b₀,ap,s₀,hev,hs₀,hf⟩ := hF.en e he
  obtain ⟨ek,ev,et⟩ := e
  simp only at hev hf
  subst hev
  obtain ⟨hcB,hxl⟩ := hl ek ap s₀ hf
  have hsub2 : ∀ x ∈ done ++ [⟨ek,vst b₀ ver ap,et⟩],x ∈ es := fun x hx => by
   rcases List.mem_append.1 hx with h | h
   ·exact hsub' x h
   ·rw [List.mem_singleton.1 h]; exact he
  have hnd2 := nd_snoc hnd hns
  have hdl : (done ++ [(⟨ek,vst b₀ ver ap,et⟩ : En)]).length ≤ es.length := by
   have := nd_len (a := (done ++ [(⟨ek,vst b₀ ver ap,et⟩ : En)]).map En.t) (b := es.map En.t) hnd2 fun x hx => by
    obtain ⟨e,he,rfl⟩ := List.mem_map.1 hx
    exact List.mem_map_of_mem (hsub2 e he)
   simpa only [List.length_map] using this
  have hprod := Nat.mul_le_mul_right B hdl
  simp only [List.length_append,List.length_cons,List.length_nil,Nat.zero_add,Nat.add_mul,Nat.one_mul] at hprod
  refine gn ?_
  refine o_entry rfl rfl he hF.st.nd ?_
  refine gn ?_; intro b4
  refine o_store1 (v := .string ek) rfl rfl rfl ?_
  refine o_assign rfl ?_
  refine r_end ?_
  refine q_n ?_
  refine WP.fz b4 ?_
  intro Z1 hz1 h4
  refine gn ?_
  refine cip (args := []) (f253 b₀ ver ap) ?_
  rintro _ rfl
  refine gn ?_
  refine ct (args := [pt b₀,.func (.func 139) #[] #[pt b3,pt b4]]) (f138 (M := B) (g := 139) (fs := []) (cs := [pt b3,pt b4]) (CI.stc b3 ek l [(bi,.mapIter (some m) c ((done.map En.t).toArray.push et) c),(m,mp es c)]) s₀ b₀ U (hs₀.mono (hz.trans hz1)).1 hs₀.2 hU (f139 h4 (by omega)) ⟨sv,cs,Hs,rfl,hs,by simpa using hc.mono hz1⟩ hcB hxl) ?_
  rintro _ Z2 _ hz2 ⟨rfl,dn,⟨sv',cs',Hs',rfl,hs',hc'⟩,hdn,_⟩
  refine gn ?_
  exact ⟨bk,left es (done ++ [⟨ek,vst b₀ ver ap,et⟩]),(b3,cl [sv'] 175) :: (Hs' ++ [(bi,.mapIter (some m) c ((done.map En.t).toArray.push et) c),(m,mp es c)]),_,left_lt he hns,spp,done ++ [⟨ek,vst b₀ ver ap,et⟩],_,sv',cs',Hs',rfl,hsub2,hnd2,hs',hc',by simp only [List.length_append,List.length_map,List.length_cons,List.length_nil,Nat.zero_add,Nat.add_mul,Nat.one_mul]; omega,by rw [← push_snoc]⟩
end
end Go.Ux
namespace Go.Ux
open Go Go.Proofs
set_option maxRecDepth 20000
attribute [local irreducible] WP Tr
theorem Dm.len : ∀ {q : List Nm} {t : Tv},Dm t q → q.length < t.sz
 | [],t,_ => Tv.sz_pos t
 | k :: q,t,⟨u,h⟩ => by
  obtain ⟨l,a,rfl,ha,h'⟩ := At.cons_iff.1 h
  have := Dm.len ⟨u,h'⟩
  have := sz_memM ha
  simp only [Tv.sz,List.length_cons]; omega
def keys (es : List En) : List Nm := es.map En.k
structure Lose (f f' : Own) (P : Nm → List Nm → Prop) : Prop where
 has : ∀ k x,f'.has k x ↔ f.has k x ∧ ¬ P k x
 key : ∀ k,f' k ≠ none → f k ≠ none
structure Los (f f' : Own) (P : Nm → List Nm → Prop) : Prop where
 has : ∀ k x,f'.has k x ↔ f.has k x ∧ ¬ P k x
 key : ∀ k,f' k ≠ none ↔ f k ≠ none
theorem Los.nil {f : Own} {P : Nm → List Nm → Prop} : Los f f (fun k x => k ∈ keys [] ∧ P k x) := ⟨fun k x => by simp [keys],fun k => Iff.rfl⟩
theorem Los.ex {f f' : Own} {P : Nm → List Nm → Prop} (h : Los f f' P) {k : Nm} (hk : f k ≠ none) : ∃ ap s,f' k = some (ap,s) := by
 have := (h.key k).2 hk
 cases e : f' k with
 | none => exact absurd e this
 | some p => exact ⟨p.1,p.2,rfl⟩
theorem Los.step {f f' : Own} {P : Nm → List Nm → Prop} {done : List En} {e : En} {ap ap' : Bool} {s s' : FS} (h : Los f f' (fun k x => k ∈ keys done ∧ P k x)) (hf : f' e.k = some (ap,s)) (hs : ∀ x,s'.has x ↔ s.has x ∧ ¬ P e.k x) :
  Los f (f'.set e.k (some (ap',s'))) (fun k x => k ∈ keys (done ++ [e]) ∧ P k x) := by
 have hks : ∀ {k},k ∈ keys (done ++ [e]) ↔ k ∈ keys done ∨ k = e.k := by simp [keys]
 have h0 : ∀ x,s.has x ↔ f.has e.k x ∧ ¬ (e.k ∈ keys done ∧ P e.k x) := fun x => by
  rw [← h.has]
  constructor
  ·intro hx; exact ⟨ap,s,hf,hx⟩
  ·rintro ⟨_,_,h1,h2⟩; rw [hf] at h1; cases h1; exact h2
 refine ⟨fun k x => ?_,fun k => ?_⟩
 ·by_cases hk : k = e.k
  ·subst hk
   have : (f'.set e.k (some (ap',s'))).has e.k x ↔ s'.has x := by
    constructor
    ·rintro ⟨_,_,h1,h2⟩; simp only [Own.set,if_true,Option.some.injEq,Prod.mk.injEq] at h1; rw [h1.2]; exact h2
    ·intro hx; exact ⟨ap',s',by simp [Own.set],hx⟩
   rw [this,hs,h0,hks]
   grind
  ·have : (f'.set e.k (some (ap',s'))).has k x ↔ f'.has k x := by simp only [Own.has,Own.set,if_neg hk]
   rw [this,h.has,hks]
   simp [hk]
 ·by_cases hk : k = e.k
  ·subst hk
   have : f' e.k ≠ none := by rw [hf]; simp
   simp [Own.set,(h.key _).1 this]
  ·simpa only [Own.set,if_neg hk] using h.key k
theorem Los.all {f f' : Own} {P : Nm → List Nm → Prop} {done : List En} (h : Los f f' (fun k x => k ∈ keys done ∧ P k x)) (hk : ∀ k x,P k x → k ∈ keys done) : Los f f' P :=
 ⟨fun k x => by rw [h.has]; exact ⟨fun ⟨a,b⟩ => ⟨a,fun c => b ⟨hk k x c,c⟩⟩,fun ⟨a,b⟩ => ⟨a,fun c => b c.2⟩⟩,h.key⟩
structure CnQ (w : Nm) (done : List En) (P : Nm → List Nm → Prop) (fC : Own) : Prop where
 has : ∀ k x,fC.has k x ↔ (k ∈ keys done ∧ k ≠ w) ∧ P k x
 key : ∀ k,fC k ≠ none → k ∈ keys done ∧ k ≠ w
theorem keys_snoc {done : List En} {e : En} {k : Nm} : k ∈ keys (done ++ [e]) ↔ k ∈ keys done ∨ k = e.k := by simp [keys]
section
variable {w : Nm} {done : List En} {P : Nm → List Nm → Prop} {fC : Own} {e : En}
theorem CnQ.nil : CnQ w [] P (fun _ => none) := ⟨fun k x => ⟨fun ⟨_,_,h,_⟩ => (by cases h),fun h => by simp [keys] at h⟩,fun k h => absurd rfl h⟩
theorem CnQ.skip (h : CnQ w done P fC) (he : e.k = w) : CnQ w (done ++ [e]) P fC := by
 refine ⟨fun k x => ?_,fun k hk => ⟨keys_snoc.2 (.inl (h.key k hk).1),(h.key k hk).2⟩⟩
 rw [h.has,keys_snoc]
 constructor
 ·rintro ⟨⟨h1,h2⟩,h3⟩; exact ⟨⟨.inl h1,h2⟩,h3⟩
 ·rintro ⟨⟨h1 | h1,h2⟩,h3⟩
  ·exact ⟨⟨h1,h2⟩,h3⟩
  ·exact absurd (h1.trans he) h2
theorem CnQ.none (h : CnQ w done P fC) (he : ∀ x,¬ P e.k x) : CnQ w (done ++ [e]) P fC := by
 refine ⟨fun k x => ?_,fun k hk => ⟨keys_snoc.2 (.inl (h.key k hk).1),(h.key k hk).2⟩⟩
 rw [h.has,keys_snoc]
 constructor
 ·rintro ⟨⟨h1,h2⟩,h3⟩; exact ⟨⟨.inl h1,h2⟩,h3⟩
 ·rintro ⟨⟨h1 | h1,h2⟩,h3⟩
  ·exact ⟨⟨h1,h2⟩,h3⟩
  ·subst h1; exact absurd h3 (he x)
theorem CnQ.set (h : CnQ w done P fC) {ap : Bool} {s : FS} (hw : e.k ≠ w) (he : ∀ x,s.has x ↔ P e.k x) : CnQ w (done ++ [e]) P (fC.set e.k (some (ap,s))) := by
 refine ⟨fun k x => ?_,fun k hk => ?_⟩
 ·by_cases hk : k = e.k
  ·subst hk
   rw [← he x,keys_snoc]
   constructor
   ·rintro ⟨_,_,h1,h2⟩
    simp only [Own.set,if_true,Option.some.injEq,Prod.mk.injEq] at h1
    rw [← h1.2] at h2
    exact ⟨⟨.inr rfl,hw⟩,h2⟩
   ·rintro ⟨_,h2⟩; exact ⟨ap,s,by simp [Own.set],h2⟩
  ·have : (fC.set e.k (some (ap,s))).has k x ↔ fC.has k x := by simp only [Own.has,Own.set,if_neg hk]
   rw [this,h.has,keys_snoc]
   simp [hk]
 ·by_cases h1 : k = e.k
  ·subst h1; exact ⟨keys_snoc.2 (.inr rfl),hw⟩
  ·have := h.key k (by simpa only [Own.set,if_neg h1] using hk)
   exact ⟨keys_snoc.2 (.inl this.1),this.2⟩
end
section
variable {Z : Fz} {U : List Nm} {sc sb lb mb eb nb nb' ms mm uu : Nat}
theorem fk3 {P : Program} {f : List Lay} {D : List Deferred} {Z : Fz} {H A B : Hp} {R : Value → Fz → Hp → Prop} {t u w : Tmp} [k : Spl A H B] (h : R (.tuple #[look f t,look f u,look f w]) Z A) : Fin P [.tmp t,.tmp u,.tmp w] (Kp R) [] ⟨f,D⟩ Z H := fin3 ⟨A,B,k.h,h⟩
theorem MF.len {ver : ByteArray} {es es' : List En} {c : Nat} {f : Own} (h : MF Z U ver es c f) (hk : ∀ k,f k ≠ Option.none → k ∈ keys es') : es.length ≤ es'.length := by
 have := nd_len (a := keys es) (b := keys es') h.st.kd fun k hk' => by
  obtain ⟨e,he,rfl⟩ := List.mem_map.1 hk'
  obtain ⟨_,_,_,_,_,hf⟩ := h.en e he
  exact hk _ (by rw [hf]; simp)
 simpa [keys] using this
set_option maxHeartbeats 8000000 in
theorem f63 (h : UX Z sc sb lb mb eb nb ms mm uu) (hU : U.length ≤ 1073741824) {live obj : Tv} {pl po m c : Nat} {es : List En} {f : Own} (ver w : ByteArray) (force : Bool) (hL : TyV Z sc nb live pl) (hO : TyV Z sc nb' obj po) (hnb' : Z nb' = some (cl [.string nmD] 9)) (hF : MF Z U ver es c f)
  (hcp : Cp live obj) (hl : live.sz ≤ 4294967296) (hr : obj.sz ≤ 4294967296) (ul : live.inU U) (ur : obj.inU U) (hsub : ∀ k x,k ≠ w → f.has k x → Dm live x) (hB : es.length * live.sz ≤ 34359738368) :
  Tr Tryz.prog 63 #[pt uu,pt pl,pt po,.string ver,.map (some m),.string w,.bool force] Z [(m,mp es c)] fun x Z' H' =>
   (force = false ∧ ∃ v cs Hs l,x = .tuple #[.map none,.pointer none,.iface 176 v] ∧ Sl 265 2 v cs Hs ∧ CfL Z' l cs ∧ l.length ≤ 34359738368 ∧ H' = Hs) ∨
   ∃ cb es' f' rb mm ab R M A,x = .tuple #[.map (some m),pt cb,.nilIface] ∧ H' = [(m,mp es' c)] ∧ Z' cb = some (cl [pt rb,pt mm,pt ab] 185) ∧ ST Z' U R rb ∧ ST Z' U M mm ∧ ST Z' U A ab ∧ Cmp live obj R.has M.has A.has ∧ MF Z' U ver es' c f' ∧
    Lose f f' fun k x => k ≠ w ∧ (M.has x ∨ A.has x ∨ R.has x) := by
 haveI : Zf Z uu _ := ⟨.of (h.uu)⟩
 obtain ⟨a,u,hpl,ha,hu⟩ := id hL
 obtain ⟨b,v,hpo,hb,hv⟩ := id hO
 haveI : Zf Z pl _ := ⟨.of (hpl)⟩
 refine Tr.introk Tryz.func63 rfl Tryz.ntmps63 Tryz.results63 rfl ?_
 refine gn ?_; intro mC
 refine gn ?_; intro mR
 refine gn ?_
 refine cg (args := [.agg (tv (vv a) sc nb).toArray,pt po]) (f96 h.sch h.nm hnb' ha hu hb hv hpo hcp hl hr hU ul ur) ?_
 rintro _ Z1 hz1 ⟨cb,rfl,rb,mm',ab,R,M,A,hcb,sR,sM,sA,wR,wM,wA,hcmp⟩
 haveI : Zf Z1 uu _ := ⟨.of (hz1 _ _ h.uu)⟩
 haveI : Zf Z1 cb _ := ⟨.of (hcb)⟩
 refine gn ?_; intro mV
 refine gn ?_
 refine o_lookup0 rfl rfl rfl ?_
 simp only [Bool.false_eq_true,if_false]
 refine cp (f98 cb) ?_
 rintro _ rfl
 refine o_insert (v := pt cb) rfl rfl rfl rfl ?_
 rw [show mp (upd ver (pt cb) 0 []) (nxt ver [] 0) = mp [⟨ver,pt cb,0⟩] 1 from rfl]
 refine gn ?_
 refine o_range rfl rfl ?_
 intro bi
 refine gn ?_
 refine WP.only [(bi,.mapIter (some m) c #[] c),(m,mp es c),(mV,mp [⟨ver,pt cb,0⟩] 1),(mC,mp [] 0),(mR,mp [] 0)] ?_
 refine WP.loopK ([14,15,16] ++ List.range' 22 8 ++ List.range' 90 141) (fun k g Z' H' => ∃ done eC cC fC eR cR fR,k = left es done ∧ (∀ e ∈ done,e ∈ es) ∧ (done.map En.t).Nodup ∧ MF Z' U ver eC cC fC ∧ MF Z' U ver eR cR fR ∧ CnQ w done (fun k x => f.has k x ∧ (M.has x ∨ A.has x)) fC ∧ CnQ w done (fun _ x => R.has x) fR ∧
  H' = [(bi,.mapIter (some m) c (done.map En.t).toArray c),(m,mp es c),(mV,mp [⟨ver,pt cb,0⟩] 1),(mC,mp eC cC),(mR,mp eR cR)]) (left es []) ⟨[],[],0,_,[],0,_,rfl,by simp,by simp,.nil,.nil,.nil,.nil,rfl⟩ ?_
 rintro k g Z' H' hz ⟨done,eC,cC,fC,eR,cR,fR,rfl,hsub',hnd,hFC,hFR,hC,hR,rfl⟩
 have hz0 := hz1.trans hz
 haveI : Zf Z' cb _ := ⟨.of (hz _ _ hcb)⟩
 refine gn ?_
 refine o_next rfl rfl hF.st.lt ?_ ?_
 ·intro hall
  have hperm := perm_all hsub' hnd (by simpa using hall) hF.st.nd
  have hkd : ∀ {k},k ∈ keys done → k ∈ keys es := fun {k} hk => (hperm.map En.k).mem_iff.1 hk
  have hlC : eC.length ≤ es.length := hFC.len fun k hk => hkd (hC.key k hk).1
  have hkn : ∀ {k},k ∈ keys done → f k ≠ none := fun {k} hk => by
   obtain ⟨e',he',hk'⟩ := List.mem_map.1 hk
   obtain ⟨_,_,_,_,_,h'⟩ := hF.en e' (hsub' e' he')
   rw [← hk',h']; simp
  have hkC : ∀ {k},fC k ≠ none → f k ≠ none := fun {k} hk => hkn (hC.key k hk).1
  have hkR : ∀ {k},fR k ≠ none → f k ≠ none := fun {k} hk => hkn (hR.key k hk).1
  have hkf : ∀ k x,f.has k x → k ∈ keys done := fun k x ⟨ap,s,hk,_⟩ => by
   obtain ⟨e,he,rfl⟩ := hF.no k (by rw [hk]; simp)
   exact List.mem_map_of_mem (hperm.mem_iff.2 he)
  rcases force with _ | _
  ·cases eC with
   | nil =>
    refine gn ?_
    refine o_nei (r := false) rfl rfl rfl rfl ?_
    refine gn ?_
    refine o_range rfl rfl ?_
    intro bj
    refine gn ?_
    refine WP.only [(bj,.mapIter (some mC) cC #[] cC),(m,mp es c),(mC,mp [] cC),(mR,mp eR cR)] ?_
    refine WP.loopK ([30,31] ++ List.range' 243 23) (fun k g Z'' H' => ∃ d₂ es₂ f₂,k = left [] d₂ ∧ (∀ e ∈ d₂,e ∈ []) ∧ (d₂.map En.t).Nodup ∧ MF Z'' U ver es₂ c f₂ ∧ Los f f₂ (fun k x => k ∈ keys d₂ ∧ fC.has k x) ∧
     H' = [(bj,.mapIter (some mC) cC (d₂.map En.t).toArray cC),(m,mp es₂ c),(mC,mp [] cC),(mR,mp eR cR)]) (left [] []) ⟨[],es,f,rfl,by simp,by simp,hF.mono hz0,.nil,rfl⟩ ?_
    rintro k g Z₂ H' hzL ⟨d₂,es2,f2,rfl,hsub₂,hnd₂,hF2,hL₂,rfl⟩
    refine gn ?_
    refine o_next rfl rfl hFC.st.lt ?_ ?_
    rotate_left
    ·intro e he hns
     obtain ⟨b₁,ap₁,s₁,hev,hs₁,hf₁⟩ := hFC.en e he
     obtain ⟨ek,ev,et⟩ := e
     simp only at hev hf₁
     subst hev
     have hsub₃ : ∀ x ∈ d₂ ++ [⟨ek,vst b₁ ver ap₁,et⟩],x ∈ [] := fun x hx => by
      rcases List.mem_append.1 hx with h | h
      ·exact hsub₂ x h
      ·rw [List.mem_singleton.1 h]; exact he
     obtain ⟨ap₂,s₂,hf₂⟩ := hL₂.ex (hkC (by rw [hf₁]; simp))
     obtain ⟨b₂,hlk,hs₂⟩ := hF2.get hf₂
     have hfx : ∀ x,fC.has ek x ↔ s₁.has x := fun x => by
      constructor
      ·rintro ⟨_,_,h1,h2⟩; rw [hf₁] at h1; cases h1; exact h2
      ·intro hx; exact ⟨ap₁,s₁,hf₁,hx⟩
     refine gn ?_
     refine o_entry rfl rfl he hFC.st.nd ?_
     refine gn ?_
     refine WP.draw3 [(m,mp es2 c)] [(bj,.mapIter (some mC) cC ((d₂.map En.t).toArray.push et) cC),(mC,mp [] cC),(mR,mp eR cR)] [0,1,2,3,4,6,9,10,11,13,14,15,5,7,8,12,16,17] [18] mo (by decide +kernel) (prm rfl) ?_
     refine gn ?_
     refine o_lookup rfl rfl rfl ?_
     simp only [Bool.false_eq_true,if_false,hlk,Option.getD_some]
     refine gn ?_
     refine o_lookup rfl rfl rfl ?_
     simp only [Bool.false_eq_true,if_false,hlk,Option.getD_some]
     refine gn ?_
     refine o_lookup rfl rfl rfl ?_
     simp only [Bool.false_eq_true,if_false,hlk,Option.getD_some]
     refine cip (args := []) (f253 b₂ ver ap₂) ?_
     rintro _ rfl
     refine cip (args := []) (f253 b₁ ver ap₁) ?_
     rintro _ rfl
     refine cg (args := [pt b₂,pt b₁]) (f71' hU hs₂ (hs₁.mono hzL)) ?_
     rintro _ Z₃ hz₃ ⟨bd,sd,rfl,hsd,ed⟩
     refine cip (args := []) (f251 b₂ ver ap₂) ?_
     rintro _ rfl
     refine cip (args := []) (f252 b₂ ver ap₂) ?_
     rintro _ rfl
     refine cp (f61 bd ver ap₂) ?_
     rintro _ rfl
     refine r_two [] ?_
     refine o_mapUpdate (v := vst bd ver ap₂) rfl rfl rfl rfl ?_
     rw [show nxt ek es2 c = c by simp [nxt,hlk]]
     refine gn ?_
     have hF₃ := (hF2.mono hz₃).upd ek (ap := ap₂) hsd
     rw [show nxt ek es2 c = c by simp [nxt,hlk]] at hF₃
     exact ⟨bk,left [] (d₂ ++ [⟨ek,vst b₁ ver ap₁,et⟩]),[(bj,.mapIter (some mC) cC ((d₂.map En.t).toArray.push et) cC),(m,mp (upd ek (vst bd ver ap₂) c es2) c),(mC,mp [] cC),(mR,mp eR cR)],_,left_lt he hns,spp,d₂ ++ [⟨ek,vst b₁ ver ap₁,et⟩],_,_,rfl,hsub₃,nd_snoc hnd₂ hns,hF₃,hL₂.step (e := ⟨ek,vst b₁ ver ap₁,et⟩) hf₂ fun x => by rw [ed,hfx],by rw [← push_snoc]⟩
    intro hall₂
    have hpermX := perm_all hsub₂ hnd₂ (by simp) hFC.st.nd
    have hL2 : Los f f2 fC.has := hL₂.all fun k x ⟨ap,s,hk,_⟩ => by
     obtain ⟨e,he,rfl⟩ := hFC.no k (by rw [hk]; simp)
     exact List.mem_map_of_mem (hpermX.mem_iff.2 he)
    clear hsub₂ hnd₂ hpermX
    refine gn ?_
    refine o_range rfl rfl ?_
    intro bl
    refine gn ?_
    refine WP.only [(bl,.mapIter (some mR) cR #[] cR),(m,mp es2 c),(mR,mp eR cR)] ?_
    refine WP.loopK ([32,33] ++ List.range' 268 23) (fun k g Z'' H' => ∃ d₂ es₂ f₂,k = left eR d₂ ∧ (∀ e ∈ d₂,e ∈ eR) ∧ (d₂.map En.t).Nodup ∧ MF Z'' U ver es₂ c f₂ ∧ Los f2 f₂ (fun k x => k ∈ keys d₂ ∧ fR.has k x) ∧
     H' = [(bl,.mapIter (some mR) cR (d₂.map En.t).toArray cR),(m,mp es₂ c),(mR,mp eR cR)]) (left eR []) ⟨[],es2,f2,rfl,by simp,by simp,hF2,.nil,rfl⟩ ?_
    rintro k g Z₄ H' hzM ⟨d₂,es3,f3,rfl,hsub₂,hnd₂,hF3,hL₂,rfl⟩
    refine gn ?_
    refine o_next rfl rfl hFR.st.lt ?_ ?_
    rotate_left
    ·intro e he hns
     obtain ⟨b₁,ap₁,s₁,hev,hs₁,hf₁⟩ := hFR.en e he
     obtain ⟨ek,ev,et⟩ := e
     simp only at hev hf₁
     subst hev
     have hsub₃ : ∀ x ∈ d₂ ++ [⟨ek,vst b₁ ver ap₁,et⟩],x ∈ eR := fun x hx => by
      rcases List.mem_append.1 hx with h | h
      ·exact hsub₂ x h
      ·rw [List.mem_singleton.1 h]; exact he
     obtain ⟨ap₂,s₂,hf₂⟩ := hL₂.ex ((hL2.key _).2 <| hkR (by rw [hf₁]; simp))
     obtain ⟨b₂,hlk,hs₂⟩ := hF3.get hf₂
     have hfx : ∀ x,fR.has ek x ↔ s₁.has x := fun x => by
      constructor
      ·rintro ⟨_,_,h1,h2⟩; rw [hf₁] at h1; cases h1; exact h2
      ·intro hx; exact ⟨ap₁,s₁,hf₁,hx⟩
     refine gn ?_
     refine o_entry rfl rfl he hFR.st.nd ?_
     refine gn ?_
     refine WP.draw3 [(m,mp es3 c)] [(bl,.mapIter (some mR) cR ((d₂.map En.t).toArray.push et) cR),(mR,mp eR cR)] [0,1,2,3,4,6,9,10,11,13,14,15,5,7,8,12,16,17] [18] mo (by decide +kernel) (prm rfl) ?_
     refine gn ?_
     refine o_lookup rfl rfl rfl ?_
     simp only [Bool.false_eq_true,if_false,hlk,Option.getD_some]
     refine gn ?_
     refine o_lookup rfl rfl rfl ?_
     simp only [Bool.false_eq_true,if_false,hlk,Option.getD_some]
     refine gn ?_
     refine o_lookup rfl rfl rfl ?_
     simp only [Bool.false_eq_true,if_false,hlk,Option.getD_some]
     refine cip (args := []) (f253 b₂ ver ap₂) ?_
     rintro _ rfl
     refine cip (args := []) (f253 b₁ ver ap₁) ?_
     rintro _ rfl
     refine cg (args := [pt b₂,pt b₁]) (f71' hU hs₂ (hs₁.mono (hzL.trans hzM))) ?_
     rintro _ Z₃ hz₃ ⟨bd,sd,rfl,hsd,ed⟩
     refine cip (args := []) (f251 b₂ ver ap₂) ?_
     rintro _ rfl
     refine cip (args := []) (f252 b₂ ver ap₂) ?_
     rintro _ rfl
     refine cp (f61 bd ver ap₂) ?_
     rintro _ rfl
     refine r_two [] ?_
     refine o_mapUpdate (v := vst bd ver ap₂) rfl rfl rfl rfl ?_
     rw [show nxt ek es3 c = c by simp [nxt,hlk]]
     refine gn ?_
     have hF₃ := (hF3.mono hz₃).upd ek (ap := ap₂) hsd
     rw [show nxt ek es3 c = c by simp [nxt,hlk]] at hF₃
     exact ⟨bk,left eR (d₂ ++ [⟨ek,vst b₁ ver ap₁,et⟩]),[(bl,.mapIter (some mR) cR ((d₂.map En.t).toArray.push et) cR),(m,mp (upd ek (vst bd ver ap₂) c es3) c),(mR,mp eR cR)],_,left_lt he hns,spp,d₂ ++ [⟨ek,vst b₁ ver ap₁,et⟩],_,_,rfl,hsub₃,nd_snoc hnd₂ hns,hF₃,hL₂.step (e := ⟨ek,vst b₁ ver ap₁,et⟩) hf₂ fun x => by rw [ed,hfx],by rw [← push_snoc]⟩
    intro hall₃
    have hpermX := perm_all hsub₂ hnd₂ (by simpa using hall₃) hFR.st.nd
    have hL3 : Los f2 f3 fR.has := hL₂.all fun k x ⟨ap,s,hk,_⟩ => by
     obtain ⟨e,he,rfl⟩ := hFR.no k (by rw [hk]; simp)
     exact List.mem_map_of_mem (hpermX.mem_iff.2 he)
    clear hsub₂ hnd₂ hpermX
    refine gn ?_
    refine o_range rfl rfl ?_
    intro bq
    refine gn ?_
    refine WP.only [(bq,.mapIter (some m) c #[] c),(m,mp es3 c)] ?_
    refine WP.loopK ([34] ++ List.range' 293 11) (fun k g Z'' H' => ∃ d₂ es₂ f₂,k = left es3 d₂ ∧ (∀ e ∈ es₂,e ∈ es3) ∧ MF Z'' U ver es₂ c f₂ ∧ (∀ k x,f₂.has k x ↔ f3.has k x) ∧ (∀ k,f₂ k ≠ none → f3 k ≠ none) ∧
     H' = [(bq,.mapIter (some m) c (d₂.map En.t).toArray c),(m,mp es₂ c)]) (left es3 []) ⟨[],es3,f3,rfl,fun _ h => h,hF3,fun _ _ => Iff.rfl,fun _ h => h,rfl⟩ ?_
    rintro k g Z₅ H' hzN ⟨d₂,es₂,f₂,rfl,hsub₂,hF₂,hh₂,hk₂,rfl⟩
    have hz15 := (hz.trans hzL).trans (hzM.trans hzN)
    refine gn ?_
    refine o_next rfl rfl hF₂.st.lt ?_ ?_
    ·intro _
     refine gn ?_
     refine fk3 (A := [(m,mp es₂ c)]) (.inr ⟨cb,es₂,f₂,rb,mm',ab,R,M,A,rfl,rfl,hz15 _ _ hcb,⟨sR.mono hz15,wR⟩,⟨sM.mono hz15,wM⟩,⟨sA.mono hz15,wA⟩,hcmp,hF₂,fun k x => ?_,fun k hk => ?_⟩)
     ·rw [hh₂,hL3.has,hL2.has,hC.has,hR.has]
      have := hkf k x
      grind
     ·exact (hL2.key k).1 ((hL3.key k).1 (hk₂ k hk))
    ·intro e he hns
     obtain ⟨b₁,ap₁,s₁,hev,hs₁,hf₁⟩ := hF₂.en e he
     obtain ⟨b₂,hlk,hs₂⟩ := hF₂.get hf₁
     obtain ⟨ek,ev,et⟩ := e
     simp only at hev hf₁ hlk hs₂
     subst hev
     refine gn ?_
     refine o_entry rfl rfl he hF₂.st.nd ?_
     refine gn ?_
     refine o_lookup rfl rfl rfl ?_
     simp only [Bool.false_eq_true,if_false,hlk,Option.getD_some]
     refine cip (args := []) (f253 b₂ ver ap₁) ?_
     rintro _ rfl
     refine cp (f73' hU hs₂) ?_
     rintro _ ⟨e1,rfl,he1⟩
     cases e1 with
     | false =>
      refine gn ?_
      exact ⟨bk,left es3 (d₂ ++ [⟨ek,vst b₁ ver ap₁,et⟩]),[(bq,.mapIter (some m) c ((d₂.map En.t).toArray.push et) c),(m,mp es₂ c)],_,left_lt (hsub₂ _ he) hns,spp,d₂ ++ [⟨ek,vst b₁ ver ap₁,et⟩],_,f₂,rfl,hsub₂,hF₂,hh₂,hk₂,by rw [← push_snoc]⟩
     | true =>
      refine gn ?_
      refine o_delete rfl rfl rfl ?_
      refine gn ?_
      refine ⟨bk,left es3 (d₂ ++ [⟨ek,vst b₁ ver ap₁,et⟩]),[(bq,.mapIter (some m) c ((d₂.map En.t).toArray.push et) c),(m,mp (del ek es₂) c)],_,left_lt (hsub₂ _ he) hns,spp,d₂ ++ [⟨ek,vst b₁ ver ap₁,et⟩],_,_,rfl,fun e he => hsub₂ e (del_sub.subset he),hF₂.del ek,fun k x => ?_,fun k hk => ?_,by rw [← push_snoc]⟩
      ·rw [← hh₂]
       by_cases hke : k = ek
       ·subst hke
        constructor
        ·rintro ⟨_,_,h1,_⟩; simp [Own.set] at h1
        ·rintro ⟨_,_,h1,h2⟩; rw [hf₁] at h1; cases h1; exact absurd h2 (he1.1 rfl x)
       ·simp only [Own.has,Own.set,if_neg hke]
      ·refine hk₂ k ?_
       by_cases hke : k = ek
       ·subst hke; rw [hf₁]; simp
       ·simpa only [Own.set,if_neg hke] using hk
   | cons e₀ l₀ =>
    have hlb : ∀ k ap s,fC k = some (ap,s) → s.cnt ≤ live.sz ∧ ∀ x,s.has x → x.length ≤ 8589934592 := fun k ap s hk => by
     obtain ⟨_,_,hs⟩ := hFC.get hk
     have hd : ∀ x,s.has x → Dm live x := fun x hx => by have q := (hC.has k x).1 ⟨ap,s,hk,hx⟩; exact hsub k x q.1.2 q.2.1
     exact ⟨by have := cnt_le s hs.2 hL.uk hd; omega,fun x hx => by have := (hd x hx).len; omega⟩
    refine gn ?_
    refine o_nei (r := true) rfl rfl rfl (decide_eq_true (by simp only [List.length_cons,Int.ofNat_eq_natCast]; omega)) ?_
    refine gn ?_
    refine ct (args := [.map (some mC)]) (f100 hU hFC hlb (Nat.le_trans (Nat.mul_le_mul_right _ hlC) hB)) ?_
    rintro _ Z2 Hs hz2 ⟨_,l,cs,hs,hc,rfl,hll⟩
    refine gn ?_
    exact fk3 (A := Hs) (.inl ⟨rfl,_,cs,Hs,l,rfl,hs,hc,hll,rfl⟩)
  ·refine gn ?_
   refine o_range rfl rfl ?_
   intro bj
   refine gn ?_
   refine WP.only [(bj,.mapIter (some mC) cC #[] cC),(m,mp es c),(mC,mp eC cC),(mR,mp eR cR)] ?_
   refine WP.loopK ([30,31] ++ List.range' 243 23) (fun k g Z'' H' => ∃ d₂ es₂ f₂,k = left eC d₂ ∧ (∀ e ∈ d₂,e ∈ eC) ∧ (d₂.map En.t).Nodup ∧ MF Z'' U ver es₂ c f₂ ∧ Los f f₂ (fun k x => k ∈ keys d₂ ∧ fC.has k x) ∧
    H' = [(bj,.mapIter (some mC) cC (d₂.map En.t).toArray cC),(m,mp es₂ c),(mC,mp eC cC),(mR,mp eR cR)]) (left eC []) ⟨[],es,f,rfl,by simp,by simp,hF.mono hz0,.nil,rfl⟩ ?_
   rintro k g Z₂ H' hzL ⟨d₂,es2,f2,rfl,hsub₂,hnd₂,hF2,hL₂,rfl⟩
   refine gn ?_
   refine o_next rfl rfl hFC.st.lt ?_ ?_
   rotate_left
   ·intro e he hns
    obtain ⟨b₁,ap₁,s₁,hev,hs₁,hf₁⟩ := hFC.en e he
    obtain ⟨ek,ev,et⟩ := e
    simp only at hev hf₁
    subst hev
    have hsub₃ : ∀ x ∈ d₂ ++ [⟨ek,vst b₁ ver ap₁,et⟩],x ∈ eC := fun x hx => by
     rcases List.mem_append.1 hx with h | h
     ·exact hsub₂ x h
     ·rw [List.mem_singleton.1 h]; exact he
    obtain ⟨ap₂,s₂,hf₂⟩ := hL₂.ex (hkC (by rw [hf₁]; simp))
    obtain ⟨b₂,hlk,hs₂⟩ := hF2.get hf₂
    have hfx : ∀ x,fC.has ek x ↔ s₁.has x := fun x => by
     constructor
     ·rintro ⟨_,_,h1,h2⟩; rw [hf₁] at h1; cases h1; exact h2
     ·intro hx; exact ⟨ap₁,s₁,hf₁,hx⟩
    refine gn ?_
    refine o_entry rfl rfl he hFC.st.nd ?_
    refine gn ?_
    refine WP.draw3 [(m,mp es2 c)] [(bj,.mapIter (some mC) cC ((d₂.map En.t).toArray.push et) cC),(mC,mp eC cC),(mR,mp eR cR)] [0,1,2,3,4,6,9,10,11,13,14,15,5,7,8,12,16,17] [18] mo (by decide +kernel) (prm rfl) ?_
    refine gn ?_
    refine o_lookup rfl rfl rfl ?_
    simp only [Bool.false_eq_true,if_false,hlk,Option.getD_some]
    refine gn ?_
    refine o_lookup rfl rfl rfl ?_
    simp only [Bool.false_eq_true,if_false,hlk,Option.getD_some]
    refine gn ?_
    refine o_lookup rfl rfl rfl ?_
    simp only [Bool.false_eq_true,if_false,hlk,Option.getD_some]
    refine cip (args := []) (f253 b₂ ver ap₂) ?_
    rintro _ rfl
    refine cip (args := []) (f253 b₁ ver ap₁) ?_
    rintro _ rfl
    refine cg (args := [pt b₂,pt b₁]) (f71' hU hs₂ (hs₁.mono hzL)) ?_
    rintro _ Z₃ hz₃ ⟨bd,sd,rfl,hsd,ed⟩
    refine cip (args := []) (f251 b₂ ver ap₂) ?_
    rintro _ rfl
    refine cip (args := []) (f252 b₂ ver ap₂) ?_
    rintro _ rfl
    refine cp (f61 bd ver ap₂) ?_
    rintro _ rfl
    refine r_two [] ?_
    refine o_mapUpdate (v := vst bd ver ap₂) rfl rfl rfl rfl ?_
    rw [show nxt ek es2 c = c by simp [nxt,hlk]]
    refine gn ?_
    have hF₃ := (hF2.mono hz₃).upd ek (ap := ap₂) hsd
    rw [show nxt ek es2 c = c by simp [nxt,hlk]] at hF₃
    exact ⟨bk,left eC (d₂ ++ [⟨ek,vst b₁ ver ap₁,et⟩]),[(bj,.mapIter (some mC) cC ((d₂.map En.t).toArray.push et) cC),(m,mp (upd ek (vst bd ver ap₂) c es2) c),(mC,mp eC cC),(mR,mp eR cR)],_,left_lt he hns,spp,d₂ ++ [⟨ek,vst b₁ ver ap₁,et⟩],_,_,rfl,hsub₃,nd_snoc hnd₂ hns,hF₃,hL₂.step (e := ⟨ek,vst b₁ ver ap₁,et⟩) hf₂ fun x => by rw [ed,hfx],by rw [← push_snoc]⟩
   intro hall₂
   have hpermX := perm_all hsub₂ hnd₂ (by simpa using hall₂) hFC.st.nd
   have hL2 : Los f f2 fC.has := hL₂.all fun k x ⟨ap,s,hk,_⟩ => by
    obtain ⟨e,he,rfl⟩ := hFC.no k (by rw [hk]; simp)
    exact List.mem_map_of_mem (hpermX.mem_iff.2 he)
   clear hsub₂ hnd₂ hpermX
   refine gn ?_
   refine o_range rfl rfl ?_
   intro bl
   refine gn ?_
   refine WP.only [(bl,.mapIter (some mR) cR #[] cR),(m,mp es2 c),(mR,mp eR cR)] ?_
   refine WP.loopK ([32,33] ++ List.range' 268 23) (fun k g Z'' H' => ∃ d₂ es₂ f₂,k = left eR d₂ ∧ (∀ e ∈ d₂,e ∈ eR) ∧ (d₂.map En.t).Nodup ∧ MF Z'' U ver es₂ c f₂ ∧ Los f2 f₂ (fun k x => k ∈ keys d₂ ∧ fR.has k x) ∧
    H' = [(bl,.mapIter (some mR) cR (d₂.map En.t).toArray cR),(m,mp es₂ c),(mR,mp eR cR)]) (left eR []) ⟨[],es2,f2,rfl,by simp,by simp,hF2,.nil,rfl⟩ ?_
   rintro k g Z₄ H' hzM ⟨d₂,es3,f3,rfl,hsub₂,hnd₂,hF3,hL₂,rfl⟩
   refine gn ?_
   refine o_next rfl rfl hFR.st.lt ?_ ?_
   rotate_left
   ·intro e he hns
    obtain ⟨b₁,ap₁,s₁,hev,hs₁,hf₁⟩ := hFR.en e he
    obtain ⟨ek,ev,et⟩ := e
    simp only at hev hf₁
    subst hev
    have hsub₃ : ∀ x ∈ d₂ ++ [⟨ek,vst b₁ ver ap₁,et⟩],x ∈ eR := fun x hx => by
     rcases List.mem_append.1 hx with h | h
     ·exact hsub₂ x h
     ·rw [List.mem_singleton.1 h]; exact he
    obtain ⟨ap₂,s₂,hf₂⟩ := hL₂.ex ((hL2.key _).2 <| hkR (by rw [hf₁]; simp))
    obtain ⟨b₂,hlk,hs₂⟩ := hF3.get hf₂
    have hfx : ∀ x,fR.has ek x ↔ s₁.has x := fun x => by
     constructor
     ·rintro ⟨_,_,h1,h2⟩; rw [hf₁] at h1; cases h1; exact h2
     ·intro hx; exact ⟨ap₁,s₁,hf₁,hx⟩
    refine gn ?_
    refine o_entry rfl rfl he hFR.st.nd ?_
    refine gn ?_
    refine WP.draw3 [(m,mp es3 c)] [(bl,.mapIter (some mR) cR ((d₂.map En.t).toArray.push et) cR),(mR,mp eR cR)] [0,1,2,3,4,6,9,10,11,13,14,15,5,7,8,12,16,17] [18] mo (by decide +kernel) (prm rfl) ?_
    refine gn ?_
    refine o_lookup rfl rfl rfl ?_
    simp only [Bool.false_eq_true,if_false,hlk,Option.getD_some]
    refine gn ?_
    refine o_lookup rfl rfl rfl ?_
    simp only [Bool.false_eq_true,if_false,hlk,Option.getD_some]
    refine gn ?_
    refine o_lookup rfl rfl rfl ?_
    simp only [Bool.false_eq_true,if_false,hlk,Option.getD_some]
    refine cip (args := []) (f253 b₂ ver ap₂) ?_
    rintro _ rfl
    refine cip (args := []) (f253 b₁ ver ap₁) ?_
    rintro _ rfl
    refine cg (args := [pt b₂,pt b₁]) (f71' hU hs₂ (hs₁.mono (hzL.trans hzM))) ?_
    rintro _ Z₃ hz₃ ⟨bd,sd,rfl,hsd,ed⟩
    refine cip (args := []) (f251 b₂ ver ap₂) ?_
    rintro _ rfl
    refine cip (args := []) (f252 b₂ ver ap₂) ?_
    rintro _ rfl
    refine cp (f61 bd ver ap₂) ?_
    rintro _ rfl
    refine r_two [] ?_
    refine o_mapUpdate (v := vst bd ver ap₂) rfl rfl rfl rfl ?_
    rw [show nxt ek es3 c = c by simp [nxt,hlk]]
    refine gn ?_
    have hF₃ := (hF3.mono hz₃).upd ek (ap := ap₂) hsd
    rw [show nxt ek es3 c = c by simp [nxt,hlk]] at hF₃
    exact ⟨bk,left eR (d₂ ++ [⟨ek,vst b₁ ver ap₁,et⟩]),[(bl,.mapIter (some mR) cR ((d₂.map En.t).toArray.push et) cR),(m,mp (upd ek (vst bd ver ap₂) c es3) c),(mR,mp eR cR)],_,left_lt he hns,spp,d₂ ++ [⟨ek,vst b₁ ver ap₁,et⟩],_,_,rfl,hsub₃,nd_snoc hnd₂ hns,hF₃,hL₂.step (e := ⟨ek,vst b₁ ver ap₁,et⟩) hf₂ fun x => by rw [ed,hfx],by rw [← push_snoc]⟩
   intro hall₃
   have hpermX := perm_all hsub₂ hnd₂ (by simpa using hall₃) hFR.st.nd
   have hL3 : Los f2 f3 fR.has := hL₂.all fun k x ⟨ap,s,hk,_⟩ => by
    obtain ⟨e,he,rfl⟩ := hFR.no k (by rw [hk]; simp)
    exact List.mem_map_of_mem (hpermX.mem_iff.2 he)
   clear hsub₂ hnd₂ hpermX
   refine gn ?_
   refine o_range rfl rfl ?_
   intro bq
   refine gn ?_
   refine WP.only [(bq,.mapIter (some m) c #[] c),(m,mp es3 c)] ?_
   refine WP.loopK ([34] ++ List.range' 293 11) (fun k g Z'' H' => ∃ d₂ es₂ f₂,k = left es3 d₂ ∧ (∀ e ∈ es₂,e ∈ es3) ∧ MF Z'' U ver es₂ c f₂ ∧ (∀ k x,f₂.has k x ↔ f3.has k x) ∧ (∀ k,f₂ k ≠ none → f3 k ≠ none) ∧
    H' = [(bq,.mapIter (some m) c (d₂.map En.t).toArray c),(m,mp es₂ c)]) (left es3 []) ⟨[],es3,f3,rfl,fun _ h => h,hF3,fun _ _ => Iff.rfl,fun _ h => h,rfl⟩ ?_
   rintro k g Z₅ H' hzN ⟨d₂,es₂,f₂,rfl,hsub₂,hF₂,hh₂,hk₂,rfl⟩
   have hz15 := (hz.trans hzL).trans (hzM.trans hzN)
   refine gn ?_
   refine o_next rfl rfl hF₂.st.lt ?_ ?_
   ·intro _
    refine gn ?_
    refine fk3 (A := [(m,mp es₂ c)]) (.inr ⟨cb,es₂,f₂,rb,mm',ab,R,M,A,rfl,rfl,hz15 _ _ hcb,⟨sR.mono hz15,wR⟩,⟨sM.mono hz15,wM⟩,⟨sA.mono hz15,wA⟩,hcmp,hF₂,fun k x => ?_,fun k hk => ?_⟩)
    ·rw [hh₂,hL3.has,hL2.has,hC.has,hR.has]
     have := hkf k x
     grind
    ·exact (hL2.key k).1 ((hL3.key k).1 (hk₂ k hk))
   ·intro e he hns
    obtain ⟨b₁,ap₁,s₁,hev,hs₁,hf₁⟩ := hF₂.en e he
    obtain ⟨b₂,hlk,hs₂⟩ := hF₂.get hf₁
    obtain ⟨ek,ev,et⟩ := e
    simp only at hev hf₁ hlk hs₂
    subst hev
    refine gn ?_
    refine o_entry rfl rfl he hF₂.st.nd ?_
    refine gn ?_
    refine o_lookup rfl rfl rfl ?_
    simp only [Bool.false_eq_true,if_false,hlk,Option.getD_some]
    refine cip (args := []) (f253 b₂ ver ap₁) ?_
    rintro _ rfl
    refine cp (f73' hU hs₂) ?_
    rintro _ ⟨e1,rfl,he1⟩
    cases e1 with
    | false =>
     refine gn ?_
     exact ⟨bk,left es3 (d₂ ++ [⟨ek,vst b₁ ver ap₁,et⟩]),[(bq,.mapIter (some m) c ((d₂.map En.t).toArray.push et) c),(m,mp es₂ c)],_,left_lt (hsub₂ _ he) hns,spp,d₂ ++ [⟨ek,vst b₁ ver ap₁,et⟩],_,f₂,rfl,hsub₂,hF₂,hh₂,hk₂,by rw [← push_snoc]⟩
    | true =>
     refine gn ?_
     refine o_delete rfl rfl rfl ?_
     refine gn ?_
     refine ⟨bk,left es3 (d₂ ++ [⟨ek,vst b₁ ver ap₁,et⟩]),[(bq,.mapIter (some m) c ((d₂.map En.t).toArray.push et) c),(m,mp (del ek es₂) c)],_,left_lt (hsub₂ _ he) hns,spp,d₂ ++ [⟨ek,vst b₁ ver ap₁,et⟩],_,_,rfl,fun e he => hsub₂ e (del_sub.subset he),hF₂.del ek,fun k x => ?_,fun k hk => ?_,by rw [← push_snoc]⟩
     ·rw [← hh₂]
      by_cases hke : k = ek
      ·subst hke
       constructor
       ·rintro ⟨_,_,h1,_⟩; simp [Own.set] at h1
       ·rintro ⟨_,_,h1,h2⟩; rw [hf₁] at h1; cases h1; exact absurd h2 (he1.1 rfl x)
      ·simp only [Own.has,Own.set,if_neg hke]
     ·refine hk₂ k ?_
      by_cases hke : k = ek
      ·subst hke; rw [hf₁]; simp
      ·simpa only [Own.set,if_neg hke] using hk
 ·intro e he hns
  obtain ⟨b₀,ap,s₀,hev,hs₀,hf⟩ := hF.en e he
  obtain ⟨ek,ev,et⟩ := e
  simp only at hev hf
  subst hev
  have hsub2 : ∀ x ∈ done ++ [⟨ek,vst b₀ ver ap,et⟩],x ∈ es := fun x hx => by
   rcases List.mem_append.1 hx with h | h
   ·exact hsub' x h
   ·rw [List.mem_singleton.1 h]; exact he
  have hnd2 := nd_snoc hnd hns
  refine gn ?_
  refine o_entry rfl rfl he hF.st.nd ?_
  by_cases hkw : ek = w
  ·subst hkw
   refine gn ?_
   exact ⟨bk,left es (done ++ [⟨ek,vst b₀ ver ap,et⟩]),[(bi,.mapIter (some m) c ((done.map En.t).toArray.push et) c),(m,mp es c),(mV,mp [⟨ver,pt cb,0⟩] 1),(mC,mp eC cC),(mR,mp eR cR)],_,left_lt he hns,spp,done ++ [⟨ek,vst b₀ ver ap,et⟩],eC,cC,fC,eR,cR,fR,rfl,hsub2,hnd2,hFC,hFR,hC.skip rfl,hR.skip rfl,by rw [← push_snoc]⟩
  ·refine gn ?_
   refine cip (args := []) (f251 b₀ ver ap) ?_
   rintro _ rfl
   refine o_lookup rfl rfl rfl ?_
   simp only [if_true,lk_one,Option.getD_some,Option.isSome_some]
   refine gn ?_
   refine WP.draw [] [(bi,.mapIter (some m) c ((done.map En.t).toArray.push et) c),(m,mp es c),(mV,mp [⟨ver,pt cb,0⟩] 1),(mC,mp eC cC),(mR,mp eR cR)] [0,2,3,4,5,6,7,8,9,1,10,11,12] mo (by decide +kernel) (prm rfl) ?_
   refine gn ?_
   refine cip (args := []) (f253 b₀ ver ap) ?_
   rintro _ rfl
   refine cg (args := [pt mm',pt ab]) (f72' hU (⟨sM.mono hz,wM⟩ : ST Z' U M mm') (⟨sA.mono hz,wA⟩ : ST Z' U A ab)) ?_
   rintro _ Z2 hz2 ⟨bu,su,rfl,hsu,eu⟩
   refine cg (args := [pt b₀,pt bu]) (f99' hU ((hs₀.mono hz0).mono hz2) hsu) ?_
   rintro _ Z3 hz3 ⟨bx,sx,rfl,hsx,ex⟩
   refine gn ?_
   refine cp (f73' hU hsx) ?_
   rintro _ ⟨e1,rfl,he1⟩
   have hz13 := hz2.trans hz3
   haveI : Zf Z3 cb _ := ⟨.of (hz13 _ _ (hz _ _ hcb))⟩
   have hf0 : ∀ x,f.has ek x ↔ s₀.has x := fun x => by
    constructor
    ·rintro ⟨ap',s',h1,h2⟩; rw [hf] at h1; cases h1; exact h2
    ·intro h; exact ⟨ap,s₀,hf,h⟩
   have hex : ∀ x,sx.has x ↔ f.has ek x ∧ (M.has x ∨ A.has x) := fun x => by rw [ex,eu,hf0]
   cases e1 with
   | true =>
    have hC' := hC.none (e := ⟨ek,vst b₀ ver ap,et⟩) fun x hx => he1.1 rfl x ((hex x).2 hx)
    have hFC' := hFC.mono hz13
    refine gn ?_
    refine cp (f73' hU (⟨sR.mono (hz.trans hz13),wR⟩ : ST Z3 U R rb)) ?_
    rintro _ ⟨e2,rfl,he2⟩
    cases e2 with
    | true =>
     refine gn ?_
     exact ⟨bk,left es (done ++ [⟨ek,vst b₀ ver ap,et⟩]),[(bi,.mapIter (some m) c ((done.map En.t).toArray.push et) c),(m,mp es c),(mV,mp [⟨ver,pt cb,0⟩] 1),(mC,mp eC cC),(mR,mp eR cR)],_,left_lt he hns,spp,done ++ [⟨ek,vst b₀ ver ap,et⟩],eC,cC,_,eR,cR,fR,rfl,hsub2,hnd2,hFC',hFR.mono hz13,hC',hR.none fun x hx => he2.1 rfl x hx,by rw [← push_snoc]⟩
    | false =>
     refine gn ?_
     refine WP.drawT [] [(bi,.mapIter (some m) c ((done.map En.t).toArray.push et) c),(m,mp es c),(mV,mp [⟨ver,pt cb,0⟩] 1),(mC,mp eC cC),(mR,mp eR cR)] mo (by decide +kernel) (prm rfl) ?_
     refine gn ?_
     refine cip (args := []) (f251 b₀ ver ap) ?_
     rintro _ rfl
     refine cp (f61 rb ver false) ?_
     rintro _ rfl
     refine o_mapUpdate (v := vst rb ver false) rfl rfl rfl rfl ?_
     refine gn ?_
     exact ⟨bk,left es (done ++ [⟨ek,vst b₀ ver ap,et⟩]),[(bi,.mapIter (some m) c ((done.map En.t).toArray.push et) c),(m,mp es c),(mV,mp [⟨ver,pt cb,0⟩] 1),(mC,mp eC cC),(mR,mp (upd ek (vst rb ver false) cR eR) (nxt ek eR cR))],_,left_lt he hns,spp,done ++ [⟨ek,vst b₀ ver ap,et⟩],eC,cC,_,_,_,_,rfl,hsub2,hnd2,hFC',(hFR.mono hz13).upd ek (ap := false) (⟨sR.mono (hz.trans hz13),wR⟩ : ST Z3 U R rb),hC',hR.set hkw fun x => Iff.rfl,by rw [← push_snoc]⟩
   | false =>
    have hC' := hC.set (e := ⟨ek,vst b₀ ver ap,et⟩) (ap := false) (s := sx) hkw hex
    have hFC' := (hFC.mono hz13).upd ek (ap := false) hsx
    refine gn ?_
    refine cip (args := []) (f251 b₀ ver ap) ?_
    rintro _ rfl
    refine cp (f61 bx ver false) ?_
    rintro _ rfl
    refine o_mapUpdate (v := vst bx ver false) rfl rfl rfl rfl ?_
    refine gn ?_
    refine cp (f73' hU (⟨sR.mono (hz.trans hz13),wR⟩ : ST Z3 U R rb)) ?_
    rintro _ ⟨e2,rfl,he2⟩
    cases e2 with
    | true =>
     refine gn ?_
     exact ⟨bk,left es (done ++ [⟨ek,vst b₀ ver ap,et⟩]),[(bi,.mapIter (some m) c ((done.map En.t).toArray.push et) c),(m,mp es c),(mV,mp [⟨ver,pt cb,0⟩] 1),(mC,mp (upd ek (vst bx ver false) cC eC) (nxt ek eC cC)),(mR,mp eR cR)],_,left_lt he hns,spp,done ++ [⟨ek,vst b₀ ver ap,et⟩],(upd ek (vst bx ver false) cC eC),(nxt ek eC cC),_,eR,cR,fR,rfl,hsub2,hnd2,hFC',hFR.mono hz13,hC',hR.none fun x hx => he2.1 rfl x hx,by rw [← push_snoc]⟩
    | false =>
     refine gn ?_
     refine WP.drawT [] [(bi,.mapIter (some m) c ((done.map En.t).toArray.push et) c),(m,mp es c),(mV,mp [⟨ver,pt cb,0⟩] 1),(mC,mp (upd ek (vst bx ver false) cC eC) (nxt ek eC cC)),(mR,mp eR cR)] mo (by decide +kernel) (prm rfl) ?_
     refine gn ?_
     refine cip (args := []) (f251 b₀ ver ap) ?_
     rintro _ rfl
     refine cp (f61 rb ver false) ?_
     rintro _ rfl
     refine o_mapUpdate (v := vst rb ver false) rfl rfl rfl rfl ?_
     refine gn ?_
     exact ⟨bk,left es (done ++ [⟨ek,vst b₀ ver ap,et⟩]),[(bi,.mapIter (some m) c ((done.map En.t).toArray.push et) c),(m,mp es c),(mV,mp [⟨ver,pt cb,0⟩] 1),(mC,mp (upd ek (vst bx ver false) cC eC) (nxt ek eC cC)),(mR,mp (upd ek (vst rb ver false) cR eR) (nxt ek eR cR))],_,left_lt he hns,spp,done ++ [⟨ek,vst b₀ ver ap,et⟩],(upd ek (vst bx ver false) cC eC),(nxt ek eC cC),_,_,_,_,rfl,hsub2,hnd2,hFC',(hFR.mono hz13).upd ek (ap := false) (⟨sR.mono (hz.trans hz13),wR⟩ : ST Z3 U R rb),hC',hR.set hkw fun x => Iff.rfl,by rw [← push_snoc]⟩
end
end Go.Ux
namespace Go.Ux
open Go Go.Proofs
set_option maxRecDepth 20000
attribute [local irreducible] WP Tr
theorem Own.has_set {f : Own} {k : Nm} {ap : Bool} {s : FS} {x : List Nm} : (f.set k (some (ap,s))).has k x ↔ s.has x := by
 constructor
 ·rintro ⟨_,_,h1,h2⟩; simp only [Own.set,if_true,Option.some.injEq,Prod.mk.injEq] at h1; rw [h1.2]; exact h2
 ·intro hx; exact ⟨ap,s,by simp [Own.set],hx⟩
theorem Own.has_ne {f : Own} {k k' : Nm} {v : Option (Bool × FS)} {x : List Nm} (h : k' ≠ k) : (f.set k v).has k' x ↔ f.has k' x := by simp only [Own.has,Own.set,if_neg h]
theorem Own.set_key {f : Own} {k k' : Nm} {v : Option (Bool × FS)} (h : f.set k v k' ≠ none) : k' = k ∨ f k' ≠ none := by
 by_cases e : k' = k
 ·exact .inl e
 ·exact .inr (by simpa only [Own.set,if_neg e] using h)
theorem Own.has_of {f : Own} {k : Nm} {ap : Bool} {s : FS} {x : List Nm} (h : f k = some (ap,s)) : f.has k x ↔ s.has x := by
 constructor
 ·rintro ⟨_,_,h1,h2⟩; rw [h] at h1; cases h1; exact h2
 ·intro hx; exact ⟨ap,s,h,hx⟩
theorem Own.no_has {f : Own} {k : Nm} {x : List Nm} (h : f k = none) : ¬ f.has k x := by rintro ⟨_,_,h1,_⟩; rw [h] at h1; cases h1
theorem lk_upd {k : Nm} {v : Value} {c : Nat} : ∀ {es : List En},lk (upd k v c es) k = some v
 | [] => by simp [upd,lk]
 | e :: es => by
  by_cases h : k = e.k
  ·simp [upd,lk,h]
  ·have ih := lk_upd (k := k) (v := v) (c := c) (es := es)
   simp only [upd,if_neg h,lk,List.find?_cons,decide_eq_false h] at ih ⊢
   exact ih
section
variable {Z : Fz} {U : List Nm} {sc sb lb mb eb nb nb' ms mm uu : Nat}
set_option maxHeartbeats 8000000 in
theorem f39 (h : UX Z sc sb lb mb eb nb ms mm uu) (hU : U.length ≤ 1073741824) {live obj : Tv} {pl po m c : Nat} {es : List En} {f : Own} (ver w : ByteArray) (hL : TyV Z sc nb live pl) (hO : TyV Z sc nb' obj po) (hnb' : Z nb' = some (cl [.string nmD] 9)) (hF : MF Z U ver es c f)
  (hcp : Cp live obj) (hl : live.sz ≤ 4294967296) (hr : obj.sz ≤ 4294967296) (ul : live.inU U) (ur : obj.inU U) (hsub : ∀ k x,f.has k x → Dm live x) (hB : es.length * live.sz ≤ 34359738368) :
  Tr Tryz.prog 39 #[pt uu,pt pl,pt po,.string ver,.map (some m),.string w] Z [(m,mp es c)] fun x Z' H' => ∃ m' es' c' f' R M A,x = .tuple #[pt po,.map (some m'),.nilIface] ∧ H' = [(m',mp es' c')] ∧ MF Z' U ver es' c' f' ∧ Cmp live obj R M A ∧
   (∀ x,f'.has w x ↔ (f.has w x ∧ ¬ R x) ∨ M x ∨ A x) ∧ (∀ k x,k ≠ w → (f'.has k x ↔ f.has k x ∧ ¬ (M x ∨ A x) ∧ ¬ R x)) ∧ ∀ k,f' k ≠ none → k = w ∨ f k ≠ none := by
 refine Tr.introk Tryz.func39 rfl Tryz.ntmps39 Tryz.results39 rfl ?_
 refine gn ?_
 refine ct (args := [pt uu,pt pl,.map (some m)]) (f56 h hL hF) ?_
 rintro _ Z1 _ hz1 ⟨m',es₁,c₁,rfl,rfl,hF₁⟩
 refine gn ?_
 have hlen : es₁.length ≤ es.length := hF₁.len fun k hk => by
  obtain ⟨e,he,rfl⟩ := hF.no k hk
  exact List.mem_map_of_mem he
 refine ct (args := [pt uu,pt pl,pt po,.string ver,.map (some m'),.string w,.bool true]) (f63 (h.mono hz1) hU ver w true (hL.mono hz1) (hO.mono hz1) (hz1 _ _ hnb') hF₁ hcp hl hr ul ur (fun k x _ => hsub k x) (Nat.le_trans (Nat.mul_le_mul_right _ hlen) hB)) ?_
 rintro _ Z2 _ hz2 (⟨hno,_⟩ | ⟨cb,es₂,g,rb,mm',ab,R,M,A,rfl,rfl,hcb,sR,sM,sA,hcmp,hG,hlo⟩)
 ·cases hno
 have hz02 := hz1.trans hz2
 haveI : Zf Z2 uu _ := ⟨.of (hz02 _ _ h.uu)⟩
 haveI : Zf Z2 cb _ := ⟨.of (hcb)⟩
 have hgw : ∀ x,g.has w x ↔ f.has w x := fun x => by rw [hlo.has]; simp
 have hgk : ∀ k x,k ≠ w → (g.has k x ↔ f.has k x ∧ ¬ (M.has x ∨ A.has x) ∧ ¬ R.has x) := fun k x hk => by rw [hlo.has]; grind
 refine gn ?_
 refine o_lookup rfl rfl rfl ?_
 cases hgf : g w with
 | some p =>
  obtain ⟨ap,s⟩ := p
  obtain ⟨b,hlk,hs⟩ := hG.get hgf
  have hzB := Fz.le.refl Z2
  have hkey : ∀ {s' : FS} k,g.set w (some (false,s')) k ≠ none → k = w ∨ f k ≠ none := fun k hk => (Own.set_key hk).imp id (hlo.key k)
  have hgs : ∀ x,f.has w x ↔ s.has x := fun x => by rw [← hgw,Own.has_of hgf]
  simp only [if_true,hlk,Option.getD_some,Option.isSome_some]
  refine gn ?_
  refine WP.only [(m',mp es₂ c₁)] ?_
  refine WP.draw [(m',mp es₂ c₁)] [] [0,1,2,4,5,6,7,9,10,11,12,14,15,16,17,3,8,13,18,19] mo (by decide +kernel) (prm rfl) ?_
  refine gn ?_
  refine o_lookup rfl rfl rfl ?_
  simp only [Bool.false_eq_true,if_false,hlk,Option.getD_some]
  refine gn ?_
  refine cip (args := []) (f253 b ver ap) ?_
  rintro _ rfl
  refine cg (args := [pt b,pt rb]) (f71' hU hs (sR.mono hzB)) ?_
  rintro _ Z3 hz3 ⟨b3,s3,rfl,hs3,e3⟩
  refine cg (args := [pt b3,pt mm']) (f72' hU hs3 (sM.mono (hzB.trans hz3))) ?_
  rintro _ Z4 hz4 ⟨b4,s4,rfl,hs4,e4⟩
  refine cg (args := [pt b4,pt ab]) (f72' hU hs4 (sA.mono (hzB.trans (hz3.trans hz4)))) ?_
  rintro _ Z5 hz5 ⟨b5,s5,rfl,hs5,e5⟩
  have hz35 := hz3.trans (hz4.trans hz5)
  haveI : Zf Z5 uu _ := ⟨.of (hz35 _ _ (hzB _ _ (hz02 _ _ h.uu)))⟩
  refine gn ?_
  refine o_lookup0 rfl rfl rfl ?_
  simp only [Bool.false_eq_true,if_false]
  refine gn ?_
  refine cp (f61 b5 ver false) ?_
  rintro _ rfl
  refine o_mapUpdate (v := vst b5 ver false) rfl rfl rfl rfl ?_
  refine gn ?_
  refine o_lookup rfl rfl rfl ?_
  simp only [Bool.false_eq_true,if_false,lk_upd,Option.getD_some]
  refine cip (args := []) (f253 b5 ver false) ?_
  rintro _ rfl
  refine cp (f73' hU hs5) ?_
  rintro _ ⟨e,rfl,he⟩
  have hw5 : ∀ x,s5.has x ↔ (f.has w x ∧ ¬ R.has x) ∨ M.has x ∨ A.has x := fun x => by rw [e5,e4,e3,← hgs,or_assoc]
  have hF5 := (hG.mono hz35).upd w (ap := false) hs5
  cases e with
  | true =>
   refine gn ?_
   refine o_delete rfl rfl rfl ?_
   refine gn ?_
   refine fk3 (A := [(m',mp (del w (upd w (vst b5 ver false) c₁ es₂)) (nxt w es₂ c₁))]) ⟨m',_,_,_,R.has,M.has,A.has,rfl,rfl,hF5.del w,hcmp,fun x => ?_,fun k x hk => ?_,fun k hk => ?_⟩
   ·rw [← hw5]
    exact ⟨fun hh => absurd hh (Own.no_has (by simp [Own.set])),fun hh => absurd hh (he.1 rfl x)⟩
   ·rw [Own.has_ne hk,Own.has_ne hk,hgk k x hk]
   ·rcases Own.set_key hk with e | hk
    ·exact .inl e
    ·exact hkey k hk
  | false =>
   refine gn ?_
   refine fk3 (A := [(m',mp (upd w (vst b5 ver false) c₁ es₂) (nxt w es₂ c₁))]) ⟨m',_,_,_,R.has,M.has,A.has,rfl,rfl,hF5,hcmp,fun x => ?_,fun k x hk => ?_,fun k hk => ?_⟩
   ·rw [← hw5,Own.has_set]
   ·rw [Own.has_ne hk,hgk k x hk]
   ·exact hkey k hk
 | none =>
  have hlk := hG.none hgf
  simp only [if_true,hlk,Option.getD_none,Option.isSome_none]
  refine gn ?_
  refine cg (args := [.slice none 0 0]) (f70g (U := U) 0) ?_
  rintro _ ZB hzB ⟨b,rfl,hs⟩
  refine gn ?_
  refine cp (f61 b ver false) ?_
  rintro _ rfl
  refine o_mapUpdate (v := vst b ver false) rfl rfl rfl rfl ?_
  haveI : Zf ZB uu _ := ⟨.of (hzB _ _ (hz02 _ _ h.uu))⟩
  haveI : Zf ZB cb _ := ⟨.of (hzB _ _ hcb)⟩
  have hG' := (hG.mono hzB).upd w (ap := false) hs
  have hkey : ∀ {s' : FS} k,(g.set w (some (false,.mk [] []))).set w (some (false,s')) k ≠ none → k = w ∨ f k ≠ none := fun k hk => by
   rcases Own.set_key hk with e | hk
   ·exact .inl e
   ·exact (Own.set_key hk).imp id (hlo.key k)
  have hgs : ∀ x,f.has w x ↔ (FS.mk [] []).has x := fun x => by rw [← hgw]; exact ⟨fun hh => absurd hh (Own.no_has hgf),fun hh => absurd hh (has_none x)⟩
  have hgk' : ∀ k x,k ≠ w → ((g.set w (some (false,.mk [] []))).has k x ↔ f.has k x ∧ ¬ (M.has x ∨ A.has x) ∧ ¬ R.has x) := fun k x hk => by rw [Own.has_ne hk,hgk k x hk]
  refine gn ?_
  refine WP.only [(m',mp (upd w (vst b ver false) c₁ es₂) (nxt w es₂ c₁))] ?_
  refine WP.draw [(m',mp (upd w (vst b ver false) c₁ es₂) (nxt w es₂ c₁))] [] [0,1,2,4,5,6,7,9,10,11,12,14,15,16,17,3,8,13,18,19] mo (by decide +kernel) (prm rfl) ?_
  refine gn ?_
  refine o_lookup rfl rfl rfl ?_
  simp only [Bool.false_eq_true,if_false,lk_upd,Option.getD_some]
  refine gn ?_
  refine cip (args := []) (f253 b ver false) ?_
  rintro _ rfl
  refine cg (args := [pt b,pt rb]) (f71' hU hs (sR.mono hzB)) ?_
  rintro _ Z3 hz3 ⟨b3,s3,rfl,hs3,e3⟩
  refine cg (args := [pt b3,pt mm']) (f72' hU hs3 (sM.mono (hzB.trans hz3))) ?_
  rintro _ Z4 hz4 ⟨b4,s4,rfl,hs4,e4⟩
  refine cg (args := [pt b4,pt ab]) (f72' hU hs4 (sA.mono (hzB.trans (hz3.trans hz4)))) ?_
  rintro _ Z5 hz5 ⟨b5,s5,rfl,hs5,e5⟩
  have hz35 := hz3.trans (hz4.trans hz5)
  haveI : Zf Z5 uu _ := ⟨.of (hz35 _ _ (hzB _ _ (hz02 _ _ h.uu)))⟩
  refine gn ?_
  refine o_lookup0 rfl rfl rfl ?_
  simp only [Bool.false_eq_true,if_false]
  refine gn ?_
  refine cp (f61 b5 ver false) ?_
  rintro _ rfl
  refine o_mapUpdate (v := vst b5 ver false) rfl rfl rfl rfl ?_
  refine gn ?_
  refine o_lookup rfl rfl rfl ?_
  simp only [Bool.false_eq_true,if_false,lk_upd,Option.getD_some]
  refine cip (args := []) (f253 b5 ver false) ?_
  rintro _ rfl
  refine cp (f73' hU hs5) ?_
  rintro _ ⟨e,rfl,he⟩
  have hw5 : ∀ x,s5.has x ↔ (f.has w x ∧ ¬ R.has x) ∨ M.has x ∨ A.has x := fun x => by rw [e5,e4,e3,← hgs,or_assoc]
  have hF5 := (hG'.mono hz35).upd w (ap := false) hs5
  cases e with
  | true =>
   refine gn ?_
   refine o_delete rfl rfl rfl ?_
   refine gn ?_
   refine fk3 (A := [(m',mp (del w (upd w (vst b5 ver false) (nxt w es₂ c₁) (upd w (vst b ver false) c₁ es₂))) (nxt w (upd w (vst b ver false) c₁ es₂) (nxt w es₂ c₁)))]) ⟨m',_,_,_,R.has,M.has,A.has,rfl,rfl,hF5.del w,hcmp,fun x => ?_,fun k x hk => ?_,fun k hk => ?_⟩
   ·rw [← hw5]
    exact ⟨fun hh => absurd hh (Own.no_has (by simp [Own.set])),fun hh => absurd hh (he.1 rfl x)⟩
   ·rw [Own.has_ne hk,Own.has_ne hk,hgk' k x hk]
   ·rcases Own.set_key hk with e | hk
    ·exact .inl e
    ·exact hkey k hk
  | false =>
   refine gn ?_
   refine fk3 (A := [(m',mp (upd w (vst b5 ver false) (nxt w es₂ c₁) (upd w (vst b ver false) c₁ es₂)) (nxt w (upd w (vst b ver false) c₁ es₂) (nxt w es₂ c₁)))]) ⟨m',_,_,_,R.has,M.has,A.has,rfl,rfl,hF5,hcmp,fun x => ?_,fun k x hk => ?_,fun k hk => ?_⟩
   ·rw [← hw5,Own.has_set]
   ·rw [Own.has_ne hk,hgk' k x hk]
   ·exact hkey k hk
end
end Go.Ux
namespace Go.Ux
open Go Go.Proofs
set_option maxRecDepth 20000
attribute [local irreducible] WP Tr
section
variable {Z : Fz} {U : List Nm} {sc sb lb mb eb nb nb' ms mm uu : Nat}
theorem Cp.self {t : Tv} (h : t.uk) : Cp t t := fun _ _ _ hu hv => by rw [h.det hu hv]
set_option maxHeartbeats 8000000 in
theorem f36 (h : UX Z sc sb lb mb eb nb ms mm uu) (hU : U.length ≤ 1073741824) {live obj : Tv} {pl po m c : Nat} {es : List En} {f : Own} (ver w : ByteArray) (force : Bool) (hL : TyV Z sc nb live pl) (hO : TyV Z sc nb' obj po) (hnb' : Z nb' = some (cl [.string nmD] 9)) (hF : MF Z U ver es c f)
  (hcp : Cp live obj) (hoc : obj.cls = 0) (hlr : live.sz + obj.sz ≤ 4294967296) (ul : live.inU U) (ur : obj.inU U) (hsub : ∀ k x,f.has k x → Dm live x) (hB : (es.length + 1) * live.sz ≤ 34359738368) :
  Tr Tryz.prog 36 #[pt uu,pt pl,pt po,.string ver,.map (some m),.string w,.bool force] Z [(m,mp es c)] fun x Z' H' =>
   (force = false ∧ ∃ v cs Hs l mX,x = .tuple #[.pointer none,.map (some mX),.iface 176 v] ∧ Sl 265 2 v cs Hs ∧ CfL Z' l cs ∧ l.length ≤ 34359738368 ∧ H' = (mX,mp [] 0) :: Hs) ∨
   ∃ m' es' c' f' R M A G N pv,x = .tuple #[pv,.map (some m'),.nilIface] ∧ H' = [(m',mp es' c')] ∧ MF Z' U ver es' c' f' ∧ MG (some live) (some obj) G ∧ Pruned f.has w obj G N ∧ Cmp live N R M A ∧ G.uk ∧ N.uk ∧
    ((∃ pN,pv = pt pN ∧ TyV Z' sc nb N pN) ∨ (pv = .pointer none ∧ Al live N)) ∧
    (∀ x,f'.has w x ↔ x ≠ [] ∧ Dm obj x) ∧ (∀ k x,k ≠ w → (f'.has k x ↔ f.has k x ∧ ¬ (M x ∨ A x) ∧ ¬ R x)) ∧ ∀ k,f' k ≠ none → k = w ∨ f k ≠ none := by
 obtain ⟨a,u,hpl,ha,hu⟩ := id hL
 obtain ⟨b,v,hpo,hb,hv⟩ := id hO
 refine Tr.introk Tryz.func36 rfl Tryz.ntmps36 Tryz.results36 rfl ?_
 refine gn ?_
 refine ct (args := [pt uu,pt pl,.map (some m)]) (f56 h hL hF) ?_
 rintro _ Z1 _ hz1 ⟨m',es₁,c₁,rfl,rfl,hF₁⟩
 haveI : Zf Z1 pl _ := ⟨.of (hz1 _ _ hpl)⟩
 refine gn ?_
 have hlen : es₁.length ≤ es.length := hF₁.len fun k hk => by
  obtain ⟨e,he,rfl⟩ := hF.no k hk
  exact List.mem_map_of_mem he
 refine cg (args := [.agg (tv (vv a) sc nb).toArray,pt po]) (f57 (h.mono hz1).sch (h.mono hz1).nm (hz1 _ _ hnb') a u (hz1 _ _ ha) (hu.mono hz1) (hO.mono hz1) hcp (by omega) (by omega)) ?_
 rintro _ Z2 hz2 ⟨pG,G,rfl,hG,mg⟩
 have hz02 := hz1.trans hz2
 haveI : Zf Z2 po _ := ⟨.of (hz02 _ _ hpo)⟩
 refine gn ?_
 refine o_lookup rfl rfl rfl ?_
 simp only [Bool.false_eq_true,if_false]
 have hlv : ∃ lv,(lk es₁ w).getD .nilIface = lv ∧ ((lv = .nilIface ∧ ∀ x,¬ f.has w x) ∨ ∃ b ap L,lv = vst b ver ap ∧ ST Z1 U L b ∧ ∀ x,L.has x ↔ f.has w x) := by
  cases hfw : f w with
  | none => exact ⟨_,rfl,.inl ⟨by rw [hF₁.none hfw]; rfl,fun x => Own.no_has hfw⟩⟩
  | some p =>
   obtain ⟨ap,s⟩ := p
   obtain ⟨b,hlk,hs⟩ := hF₁.get hfw
   exact ⟨_,rfl,.inr ⟨b,ap,s,by rw [hlk]; rfl,hs,fun x => (Own.has_of hfw).symm⟩⟩
 obtain ⟨lv,hlv0,hlv⟩ := hlv
 rw [hlv0]
 haveI : One lv := by rcases hlv with ⟨rfl,_⟩ | ⟨_,_,_,rfl,_⟩ <;> infer_instance
 refine gn ?_
 refine cg (args := [.agg (tv (vv b) sc nb').toArray]) (f59 obj sc sb lb mb eb nb' b v U (by omega) (h.mono hz02).sch (hz02 _ _ hnb') (hz02 _ _ hb) (hv.mono hz02) hU ur) ?_
 rintro _ Z3 hz3 ⟨bs,s,rfl,hs1,hs2,hs3⟩
 have hs4 : ∀ x,s.has x ↔ x ≠ [] ∧ Dm obj x := fun x => (hs3 x).trans TF_root
 have hz03 := hz02.trans hz3
 haveI : Zf Z3 uu _ := ⟨.of (hz03 _ _ h.uu)⟩
 refine gn ?_
 refine o_lookup0 rfl rfl rfl ?_
 simp only [Bool.false_eq_true,if_false]
 refine gn ?_
 refine cp (f61 bs ver true) ?_
 rintro _ rfl
 refine o_mapUpdate (v := vst bs ver true) rfl rfl rfl rfl ?_
 have hF₂ := ((hF₁.mono hz2).mono hz3).upd w (ap := true) (⟨hs1,hs2⟩ : ST Z3 U s bs)
 have hGd : ∀ x,Dm live x → Dm G x := fun x hx => (mg.dom x).2 (.inl (dmo_some.2 hx))
 have hGo : ∀ x,Dm obj x → Dm G x := fun x hx => (mg.dom x).2 (.inr (dmo_some.2 hx))
 have hGs : G.sz ≤ 4294967296 := by have := mg.sz hL.uk hO.uk hG.uk; omega
 have hGu := mg.inU ul ur
 refine gn ?_
 refine ct (args := [pt uu,pt pG,.map (some m'),.string w,lv]) (f62 (own := f.has w) (ap₁ := true) (s₁ := s) (h.mono hz03) hU ver w (hG.mono hz3) hF₂ (by simp [Own.set]) (by
   rcases hlv with h | ⟨b,ap,L,h1,h2,h3⟩
   ·exact .inl h
   ·exact .inr ⟨b,ap,L,h1,(h2.mono hz2).mono hz3,h3⟩) (mg.cls.trans hoc) hGs hGu (fun k x hx => by
   by_cases hk : k = w
   ·subst hk; exact hGo x ((hs4 x).1 (Own.has_set.1 hx)).2
   ·exact hGd x (hsub k x ((Own.has_ne hk).1 hx))) (fun x hx => hGd x (hsub w x hx))) ?_
 rintro _ Z4 _ hz4 ⟨rfl,pN,N,rfl,hN,hpr⟩
 have hz04 := hz03.trans hz4
 have hfe : ∀ x,(∃ k,(f.set w (some (true,s))).has k x) ↔ (x ≠ [] ∧ Dm obj x) ∨ ∃ m,m ≠ w ∧ f.has m x := fun x => by
  constructor
  ·rintro ⟨k,hk⟩
   by_cases hkw : k = w
   ·subst hkw; exact .inl ((hs4 x).1 (Own.has_set.1 hk))
   ·exact .inr ⟨k,hkw,(Own.has_ne hkw).1 hk⟩
  ·rintro (hx | ⟨k,hkw,hk⟩)
   ·exact ⟨w,Own.has_set.2 ((hs4 x).2 hx)⟩
   ·exact ⟨k,(Own.has_ne hkw).2 hk⟩
 have pr : Pruned f.has w obj G N := by
  rcases hpr with h | ⟨p₁,p₂,r1,r2,r3⟩
  ·exact .inl h
  ·exact .inr ⟨p₁,p₂,r1,r2.congr fun x _ => by rw [hfe],r3⟩
 obtain ⟨S,hS⟩ := pr.rm hG.uk
 have hNs : N.sz ≤ G.sz := hS.sz hG.uk hN.uk
 have hcN : Cp N live := pr.cp hG.uk (Cp.merge mg (.self hL.uk) hcp.symm)
 have hlen2 := hF₂.len (es' := ⟨w,.nilIface,0⟩ :: es) fun k hk => by
  rcases Own.set_key hk with e | hk
  ·subst e; simp [keys]
  ·obtain ⟨e,he,rfl⟩ := hF.no k hk
   exact List.mem_cons_of_mem _ (List.mem_map_of_mem he)
 haveI : Zf Z4 pl _ := ⟨.of (hz04 _ _ hpl)⟩
 refine gn ?_
 refine ct (args := [pt uu,pt pl,pt pN,.string ver,.map (some m'),.string w,.bool force]) (f63 (h.mono hz04) hU ver w force (hL.mono hz04) hN (h.mono hz04).nm (hF₂.mono hz4) hcN.symm (by omega) (by omega) ul (hS.inU hGu) (fun k x hk hx => hsub k x ((Own.has_ne hk).1 hx)) (Nat.le_trans (Nat.mul_le_mul_right _ hlen2) (by simpa using hB))) ?_
 rintro _ Z5 H5 hz5 (⟨hfo,v5,cs,Hs,l,rfl,hs,hc,hll,rfl⟩ | ⟨cb,es₂,g,rb,mm',ab,R,M,A,rfl,rfl,hcb,sR,sM,sA,hcmp,hG5,hlo⟩)
 ·refine gn ?_; intro mX
  refine gn ?_
  exact fk3 (A := (mX,mp [] 0) :: H5) (.inl ⟨hfo,v5,cs,H5,l,mX,rfl,hs,hc,hll,rfl⟩)
 ·have hz05 := hz04.trans hz5
  obtain ⟨aN,uN,hpN,haN,huN⟩ := hN.mono hz5
  haveI : Zf Z5 uu _ := ⟨.of (hz05 _ _ h.uu)⟩
  haveI : Zf Z5 pl _ := ⟨.of (hz05 _ _ hpl)⟩
  haveI : Zf Z5 pN _ := ⟨.of (hpN)⟩
  refine gn ?_
  refine WP.only [(m',mp es₂ (nxt w es₁ c₁))] ?_
  refine WP.draw [(m',mp es₂ (nxt w es₁ c₁))] [] [0,1,2,3,4,5,7,8,9,11,12,13,6,10,14,15,16] mo (by decide +kernel) (prm rfl) ?_
  refine gn ?_
  refine ct (args := []) (f65 Z5) ?_
  rintro _ Z6 _ hz6 ⟨bA,rfl,rfl,rfl⟩
  refine cp (f66 (vv a) sc nb) ?_
  rintro _ rfl
  refine cp (f66 (vv aN) sc nb) ?_
  rintro _ rfl
  refine cp (f64 (live.sz + 1) live N (vv a) (vv aN) (.pointer (some ⟨bA,0,none⟩)) Z5 (by omega) ⟨a,u,rfl,hz05 _ _ ha,hu.mono hz05⟩ ⟨aN,uN,rfl,haN,huN⟩) ?_
  rintro _ ⟨e,rfl,he1,he2⟩
  have hgw : ∀ x,g.has w x ↔ x ≠ [] ∧ Dm obj x := fun x => by rw [hlo.has,Own.has_set,hs4]; simp
  have hgk : ∀ k x,k ≠ w → (g.has k x ↔ f.has k x ∧ ¬ (M.has x ∨ A.has x) ∧ ¬ R.has x) := fun k x hk => by rw [hlo.has,Own.has_ne hk]; grind
  have hkey : ∀ k,g k ≠ none → k = w ∨ f k ≠ none := fun k hk => Own.set_key (hlo.key k hk)
  cases e with
  | true =>
   refine gn ?_
   exact fk3 (A := [(m',mp es₂ (nxt w es₁ c₁))]) (.inr ⟨m',es₂,_,g,R.has,M.has,A.has,G,N,_,rfl,rfl,hG5,mg,pr,hcmp,hG.uk,hN.uk,.inr ⟨rfl,(he1 rfl).al hL.uk hN.uk⟩,hgw,hgk,hkey⟩)
  | false =>
   refine gn ?_
   exact fk3 (A := [(m',mp es₂ (nxt w es₁ c₁))]) (.inr ⟨m',es₂,_,g,R.has,M.has,A.has,G,N,_,rfl,rfl,hG5,mg,pr,hcmp,hG.uk,hN.uk,.inl ⟨pN,rfl,⟨aN,uN,hpN,haN,huN⟩⟩,hgw,hgk,hkey⟩)
end
end Go.Ux
namespace Go.Ux
open Go Go.Proofs
set_option maxRecDepth 20000
attribute [local irreducible] WP Tr
section
variable {Z : Fz}
theorem f102 {t : Tv} {a : Nat} {u : Value} (ha : Z a = some (cl [u] 358)) (hu : AV Z t u) (hs : t.sz ≤ 1048576) : Gr Tryz.prog 102 #[vv a] Z fun x Z' => ∃ r cs,x = .agg cs.toArray ∧ Wr Z' t r cs := by
 haveI : Zf Z a _ := ⟨.of (ha)⟩
 refine Gr.intro Tryz.func102 rfl Tryz.ntmps102 Tryz.results102 rfl ?_
 refine gn ?_; intro b2
 refine gn ?_
 refine m_as "Unstructured" (f278 u Z) rfl rfl ?_
 refine cg (args := [u]) (f142 (t.sz + 1) t u Z (by omega) hs hu) ?_
 rintro _ Z2 hz2 ⟨r,cs,rfl,hw⟩
 have hw' := hw.c
 obtain ⟨_,_,_,_,_,_,_,_,_,_,rfl⟩ := hw'.six
 refine gn ?_
 exact finC1 rfl fun Z'' hz'' _ => ⟨r,_,rfl,hw.mono hz''⟩
theorem f68 {t : Tv} {sc nb p : Nat} (h : TyV Z sc nb t p) (hs : t.sz ≤ 1048576) : Gr Tryz.prog 68 #[pt p] Z fun x Z' => ∃ r cs,x = .agg cs.toArray ∧ Wr Z' t r cs := by
 obtain ⟨a,u,hp,ha,hu⟩ := h
 haveI : Zf Z p _ := ⟨.of (hp)⟩
 refine Gr.intro Tryz.func68 rfl Tryz.ntmps68 Tryz.results68 rfl ?_
 refine gn ?_; intro b2
 refine gn ?_
 refine cp (f66 (vv a) sc nb) ?_
 rintro _ rfl
 refine cg (args := [vv a]) (f102 ha hu hs) ?_
 rintro _ Z2 hz2 ⟨r,cs,rfl,hw⟩
 have hw' := hw.c
 obtain ⟨_,_,_,_,_,_,_,_,_,_,rfl⟩ := hw'.six
 refine gn ?_
 exact finC1 rfl fun Z'' hz'' _ => ⟨r,_,rfl,hw.mono hz''⟩
theorem f68n : Gr Tryz.prog 68 #[.pointer none] Z fun x _ => x = .agg zr.toArray := by
 refine Gr.intro Tryz.func68 rfl Tryz.ntmps68 Tryz.results68 rfl ?_
 refine gn ?_; intro b2
 refine gn ?_
 exact finC1 (vs := zr) rfl fun Z'' hz'' _ => rfl
def Bd (s : FS) : Prop := s.cnt ≤ 1048576 ∧ ∀ x,s.has x → x.length ≤ 1048576
theorem nd_of_inc {l : List Ow} (h : Inc (l.map Ow.k)) : (l.map Ow.k).Nodup := h.nodup
set_option maxHeartbeats 4000000 in
theorem f69 {U : List Nm} {ver : ByteArray} {m c : Nat} {es : List En} {f : Own} (hU : U.length ≤ 1073741824) (hm : Z m = some (mp es c)) (hF : MF Z U ver es c f) (hn : es.length ≤ 1048576) (hbd : ∀ k ap s,f k = some (ap,s) → Bd s) :
  Gr Tryz.prog 69 #[.map (some m)] Z fun x Z' => ∃ l cs,Rs (inT Z' 79) 4 x l.length cs ∧ OWl Z' ver l cs ∧ Inc (l.map Ow.k) ∧ l.length = es.length ∧ (∀ o ∈ l,o.ps.length ≤ 1048576) ∧ ∀ k x,f.has k x ↔ ∃ o ∈ l,o.k = k ∧ x ∈ o.ps := by
 haveI : Zf Z m _ := ⟨.of (hm)⟩
 refine Gr.intro Tryz.func69 rfl Tryz.ntmps69 Tryz.results69 rfl ?_
 refine gn ?_
 refine cg (args := [.map (some m)]) (f103 hm hF.st hn) ?_
 rintro kv Z1 hz1 ⟨L,hk,hinc,hLp⟩
 obtain ⟨a,ca,rfl⟩ := hk.sl
 have hLl : L.length = es.length := by rw [hLp.length_eq,List.length_map]
 refine gn ?_
 refine WP.loopK (3 :: 5 :: 6 :: List.range' 10 20) (fun mm g Z' H' => ∃ (i : Nat) (lv : Value) (l : List Ow) (cs : List Value),g 10 = .int .i64 (i : Int) ∧ g 3 = lv ∧ i ≤ L.length ∧ mm = L.length - i ∧ Sl 79 4 lv cs H' ∧ OWl Z' ver l cs ∧ l.map Ow.k = L.take i ∧ (∀ o ∈ l,o.ps.length ≤ 1048576 ∧ ∀ x,x ∈ o.ps ↔ f.has o.k x)) L.length
  ⟨0,_,[],[],rfl,rfl,by omega,by omega,.nil,by simp [OWl],by simp,by simp⟩ ?_
 rintro mm g Z' H' hz ⟨i,lv,l,cs,h10,h3,hi,rfl,hsl,hol,hkk,hall⟩
 haveI := hsl.one
 refine WP.pin 10 h10 ?_
 refine WP.pin 3 h3 ?_
 have hll : l.length = i := by have := congrArg List.length hkk; rw [List.length_map,List.length_take] at this; omega
 have hcl := hol.len
 have hz' := hz1.trans hz
 by_cases hin : i < L.length
 ·obtain ⟨k,hk'⟩ : ∃ k,L[i]? = some k := ⟨L[i],by simp⟩
  obtain ⟨e,he,hek⟩ : ∃ e ∈ es,e.k = k := by
   obtain ⟨e,he,hk⟩ := List.mem_map.1 (hLp.mem_iff.1 (List.mem_of_getElem? hk'))
   exact ⟨e,he,hk⟩
  subst hek
  obtain ⟨bs,ap,s,hv,hs,hf⟩ := hF.en e he
  have hlk := lk_of hF.st.kd he
  rw [hv] at hlk
  obtain ⟨b,off,xs,rfl,hb,hbk⟩ := eltS (hk.mono fun _ _ h => inT.lw hz.lw rfl h).inQ hk'
  haveI : Zf Z' b (cl xs 9) := ⟨hb⟩
  haveI : Zf Z' m (mp es c) := ⟨hz' _ _ hm⟩
  obtain ⟨bd1,bd2⟩ := hbd e.k ap s hf
  refine gn ?_
  refine o_indexAddr rfl rfl rfl hin ?_
  refine gn ?_
  refine o_lookup rfl rfl rfl ?_
  simp only [Bool.false_eq_true,if_false,hlk,Option.getD_some]
  refine gn ?_
  refine cip (args := []) (f251 bs ver ap) ?_
  rintro _ rfl
  refine gn ?_
  refine cip (args := []) (f252 bs ver ap) ?_
  rintro _ rfl
  refine gn ?_
  refine cip (args := []) (f253 bs ver ap) ?_
  rintro _ rfl
  refine cg (args := [pt bs]) (f104 hU (hs.mono hz') (by omega) (fun x hx => by have := bd2 x hx; omega)) ?_
  rintro _ Z2 hz2 ⟨ps,vs,hr,hps,hpl,hpx⟩
  obtain ⟨a',c',rfl⟩ := hr.sl
  refine gn ?_; intro vb
  refine oap hsl rfl rfl rfl (Rs.cells (inferInstance : Mem false _ _ _ vb (cl _ 79)) rfl (Nat.le_refl 1)) (by simp [Value.oneCell']) (by omega) (by simp; omega) ?_
  intro lv2 Hl2 hl2
  haveI := hl2.one
  refine gn ?_
  refine ⟨bk,L.length - (i + 1),Hl2,_,by omega,spp,i + 1,lv2,l ++ [⟨e.k,ap,ps⟩],_,rfl,rfl,by omega,rfl,hl2,(hol.mono hz2).snoc ⟨a',c',vs,rfl,hr,hps⟩,by rw [List.map_append,hkk,List.take_add_one,hk']; rfl,fun o ho => ?_⟩
  rcases List.mem_append.1 ho with ho | ho
  ·exact hall o ho
  ·rw [List.mem_singleton.1 ho]
   exact ⟨by show ps.length ≤ _; omega,fun x => (hpx x).trans (Own.has_of hf).symm⟩
 ·rw [List.take_of_length_le (by omega)] at hkk
  refine gn ?_
  refine fin1 fun Z'' hz'' hp => ?_
  obtain ⟨n',hn'⟩ := hsl.frz hp
  have h1 := hn'.lenk
  have e : n' = l.length := by omega
  subst e
  refine ⟨l,cs,hn',hol.mono hz'',by rw [hkk]; exact hinc,by omega,fun o ho => (hall o ho).1,fun k x => ?_⟩
  constructor
  ·rintro ⟨ap,s,hf,hx⟩
   obtain ⟨e,he,rfl⟩ := hF.no k (by rw [hf]; simp)
   have hkl : e.k ∈ l.map Ow.k := by rw [hkk]; exact hLp.mem_iff.2 (List.mem_map_of_mem he)
   obtain ⟨o,ho,hok⟩ := List.mem_map.1 hkl
   exact ⟨o,ho,hok,((hall o ho).2 x).2 (by rw [hok]; exact ⟨ap,s,hf,hx⟩)⟩
  ·rintro ⟨o,ho,rfl,hx⟩
   exact ((hall o ho).2 x).1 hx
end
end Go.Ux
namespace Go.Ux
open Go Go.Proofs
set_option maxRecDepth 20000
attribute [local irreducible] WP Tr
def c2 (l : List (Nm × Value)) : List Value := l.flatMap fun p => [.string p.1,p.2]
theorem c2_len : ∀ l : List (Nm × Value),(c2 l).length = l.length * 2
 | [] => rfl
 | p :: l => by have := c2_len l; simp only [c2,List.flatMap_cons,List.length_append,List.length_cons,List.length_nil] at this ⊢; omega
theorem c2_app (a b : List (Nm × Value)) : c2 (a ++ b) = c2 a ++ c2 b := by simp [c2]
theorem c2_split {l : List (Nm × Value)} {i : Nat} {p : Nm × Value} (h : l[i]? = some p) : l = l.take i ++ p :: l.drop (i + 1) := by
 obtain ⟨hi,e⟩ := List.getElem?_eq_some_iff.1 h
 rw [← e,List.getElem_cons_drop,List.take_append_drop]
theorem c2_at {l : List (Nm × Value)} {i : Nat} {p : Nm × Value} (rest : List Value) (h : l[i]? = some p) : ((c2 l ++ rest).drop (i * 2)).take 2 = [.string p.1,p.2] := by
 have hi := (List.getElem?_eq_some_iff.1 h).1
 have e := c2_split h
 have hl : (c2 (l.take i)).length = i * 2 := by rw [c2_len,List.length_take,Nat.min_eq_left (by omega)]
 rw [e,c2_app,List.append_assoc,List.drop_append,hl,Nat.sub_self,List.drop_of_length_le (by omega)]
 simp [c2]
theorem c2_get {l : List (Nm × Value)} {i : Nat} {p : Nm × Value} (rest : List Value) (h : l[i]? = some p) : (c2 l ++ rest)[i * 2]? = some (.string p.1) := by
 have h2 := c2_at rest h
 have : (((c2 l ++ rest).drop (i * 2)).take 2)[0]? = some (Value.string p.1) := by rw [h2]; rfl
 rw [List.getElem?_take] at this
 simpa using this
theorem c2_set {l : List (Nm × Value)} {i : Nat} {p q : Nm × Value} (rest : List Value) (h : l[i]? = some p) : setL (c2 l ++ rest) (i * 2) [.string q.1,q.2] = c2 (l.set i q) ++ rest := by
 have hi := (List.getElem?_eq_some_iff.1 h).1
 have e := c2_split h
 have hl : (c2 (l.take i)).length = i * 2 := by rw [c2_len,List.length_take,Nat.min_eq_left (by omega)]
 have e2 : l.set i q = l.take i ++ q :: l.drop (i + 1) := by
  rw [List.set_eq_take_append_cons_drop,if_pos hi]
 rw [e2,c2_app]
 conv => lhs; rw [e,c2_app]
 have := setL_mid [.string q.1,q.2] (c2 (l.take i)) (c2 (p :: l.drop (i + 1)) ++ rest) (by simp [c2])
 rw [hl] at this
 rw [List.append_assoc,this]
 simp [c2]
def SlV (v : Value) : Prop := ∃ a n c,v = .slice a n c
theorem c2_one {l : List (Nm × Value)} (h : ∀ p ∈ l,SlV p.2) : ∀ u ∈ c2 l,u.oneCell' = true := by
 intro u hu
 obtain ⟨p,hp,hu⟩ := List.mem_flatMap.1 hu
 simp only [List.mem_cons,List.mem_nil_iff,or_false] at hu
 rcases hu with rfl | rfl
 ·rfl
 ·obtain ⟨_,_,_,e⟩ := h p hp; rw [e]; rfl
section
variable {Z : Fz}
theorem CfL.at : ∀ {l : List (Nm × List Nm)} {cs : List Value} {i : Nat},CfL Z l cs → i < l.length → ∃ k q,CfE Z k q ((cs.drop (i * 2)).take 2)
 | [],_,_,_,h => by simp at h
 | (k,q) :: l,_,i,⟨c,r,h1,h2,h3⟩,h => by
  subst h1
  have hl : c.length = 2 := by obtain ⟨_,_,_,rfl,_⟩ := h2; rfl
  cases i with
  | zero => exact ⟨k,q,by simpa [List.take_append,hl] using h2⟩
  | succ i =>
   obtain ⟨k',q',h'⟩ := h3.at (i := i) (by simpa using h)
   refine ⟨k',q',?_⟩
   rw [List.drop_append,List.drop_of_length_le (l := c) (by omega),List.nil_append,hl,show (i + 1) * 2 - 2 = i * 2 by omega]
   exact h'
set_option maxHeartbeats 4000000 in
theorem f101Z {b n : Nat} {pcs : List Value} {q : List Nm} (hb : Z b = some (cl pcs 308)) (hl : pcs.length = n * 4) (hp : PM Z q pcs) (hn : pcs.length ≤ 34359738368) :
  Gr Tryz.prog 101 #[.slice (some ⟨b,0,none⟩) n n] Z fun x Z' => Rs (inT Z' 76) 11 x q.length (elC q) := by
 have hql := hp.len
 haveI : Zf Z b _ := ⟨.of (hb)⟩
 refine Gr.intro Tryz.func101 rfl Tryz.ntmps101 Tryz.results101 rfl ?_
 refine gn ?_; intro b6
 refine gn ?_
 refine WP.loopK (3 :: 5 :: List.range' 9 10) (fun m g Z' H' => ∃ (i : Nat) (pv : Value),g 9 = .int .i64 (i : Int) ∧ g 3 = pv ∧ i ≤ n ∧ m = n - i ∧ Sl 76 11 pv (elC (q.take i)) H' ∧ Z = Z') n ⟨0,_,rfl,rfl,by omega,by omega,.row b6 0 0 [] [] rfl rfl (Nat.le_refl 0),rfl⟩ ?_
 rintro m g Z' H' _ ⟨i,pv,h9,h3',hi,rfl,hpv,rfl⟩
 haveI := hpv.one
 refine WP.pin 9 h9 ?_
 refine WP.pin 3 h3' ?_
 by_cases hin : i < n
 ·obtain ⟨k,hk⟩ : ∃ k,q[i]? = some k := ⟨q[i]'(by omega),by simp⟩
  obtain ⟨kb,hkb,hkc⟩ := hp.at hk
  have hld : (pcs.drop (0 + i * 4)).take 4 = pe kb := by rw [Nat.zero_add]; exact hkc
  refine gn ?_
  refine o_indexAddr rfl rfl rfl hin ?_
  refine o_loadN rfl rfl hld rfl ?_
  refine gn ?_; intro b5
  refine gn ?_
  refine cp (f141 hkb) ?_
  rintro _ rfl
  refine gn ?_; intro vb
  refine oap hpv rfl rfl rfl (Rs.cells (inferInstance : Mem false _ _ _ vb (cl _ 76)) rfl (Nat.le_refl 1)) (by simp [Value.oneCell']) (by omega) (by rw [elC_len,List.length_take]; simp; omega) ?_
  intro pv2 Hp2 hp2
  haveI := hp2.one
  refine gn ?_
  refine ⟨bk,n - (i + 1),Hp2,_,by omega,spp,i + 1,pv2,rfl,rfl,by omega,rfl,?_,rfl⟩
  rw [List.take_add_one,hk,elC_app]
  simpa [elC] using hp2
 ·rw [List.take_of_length_le (by omega)] at hpv
  refine gn ?_
  refine fin1 fun Z'' hz'' hp => ?_
  obtain ⟨n',hn'⟩ := hpv.frz hp
  have h1 := hn'.lenk
  have h2 := elC_len q
  have e : n' = q.length := by omega
  subst e
  exact hn'
set_option maxHeartbeats 8000000 in
theorem f67 {a : Option Addr} {n c : Nat} {cs : List Value} {l : List (Nm × List Nm)} (hr : Rs (inT Z 265) 2 (.slice a n c) n cs) (hl : CfL Z l cs) (hn : l.length ≤ 34359738368) :
  Gr Tryz.prog 67 #[.slice a n c] Z fun x _ => SlV x := by
 have hlen := hl.len
 have hk := hr.lenk
 have hnl : n = l.length := by omega
 refine Gr.intro Tryz.func67 rfl Tryz.ntmps67 Tryz.results67 rfl ?_
 refine gn ?_
 refine WP.loopK (3 :: 5 :: 6 :: List.range' 9 51) (fun m g Z' H' => ∃ (i : Nat) (sv : Value) (ps : List (Nm × Value)),g 9 = .int .i64 (i : Int) ∧ g 3 = sv ∧ i ≤ n ∧ m = n - i ∧ Sl 268 2 sv (c2 ps) H' ∧ ps.length = i ∧ ∀ p ∈ ps,SlV p.2) n
  ⟨0,_,[],rfl,rfl,by omega,by omega,.nil,rfl,by simp⟩ ?_
 rintro m g Z' H' hz ⟨i,sv,ps,h9,h3,hi,rfl,hsl,hpl,hps⟩
 haveI := hsl.one
 refine WP.pin 9 h9 ?_
 refine WP.pin 3 h3 ?_
 by_cases hin : i < n
 ·obtain ⟨k,q,hkq⟩ := (hl.mono hz).at (i := i) (by omega)
  obtain ⟨b',n',pcs,e1,hb',⟨hpcs,hpb⟩,hpm⟩ := hkq
  have hpl' := hpm.len
  have hr' := hr.mono fun _ _ h => inT.lw hz.lw rfl h
  obtain ⟨b,off,xs,rfl,hb,he⟩ : ∃ b off xs,a = some ⟨b,off,none⟩ ∧ Z' b = some (cl xs 265) ∧ (xs.drop (off + i * 2)).take 2 = [.string k,.slice (some ⟨b',0,none⟩) n' n'] := by
   cases hr' with
   | nil => omega
   | emp => omega
   | row b off n c U xs ds h hd hl' hn' =>
    obtain ⟨h,ys,e⟩ := h
    cases e
    refine ⟨b,off,_,rfl,h,?_⟩
    rw [← e1,row_at hd hin]
  haveI : Zf Z' b (cl xs 265) := ⟨hb⟩
  refine gn ?_
  refine o_indexAddr rfl rfl rfl hin ?_
  refine o_loadN rfl rfl he rfl ?_
  refine gn ?_; intro b5
  refine gn ?_
  refine WP.draw [(b5,cl [.string k,.slice (some ⟨b',0,none⟩) n' n'] 265)] H' [0,1,2,3,4,5,6,7,8,9] mo (by decide +kernel) (prm rfl) ?_
  refine gn ?_
  refine cg (args := [.slice (some ⟨b',0,none⟩) n' n']) (f101Z hb' hpcs hpm hpb) ?_
  rintro qv Z2 hz2 hqv
  haveI := hqv.one
  obtain ⟨qa,qc,rfl⟩ := hqv.sl
  refine gn ?_; intro vb
  refine oap hsl rfl rfl rfl (Rs.cells (inferInstance : Mem false _ _ _ vb (cl _ 268)) rfl (Nat.le_refl 1)) (by simp [Value.oneCell']) (by omega) (by rw [c2_len]; simp; omega) ?_
  intro sv2 Hs2 hs2
  rw [show c2 ps ++ [Value.string k,.slice qa q.length qc] = c2 (ps ++ [(k,.slice qa q.length qc)]) from by rw [c2_app]; rfl] at hs2
  obtain ⟨pl,hpl2⟩ : ∃ pl,pl = ps ++ [(k,Value.slice qa q.length qc)] := ⟨_,rfl⟩
  rw [← hpl2] at hs2
  have hpn : pl.length = i + 1 := by rw [hpl2,List.length_append,hpl]; rfl
  have hps2 : ∀ p ∈ pl,SlV p.2 := fun p hp => by
   rw [hpl2] at hp
   rcases List.mem_append.1 hp with h | h
   ·exact hps p h
   ·rw [List.mem_singleton.1 h]; exact ⟨_,_,_,rfl⟩
  have hne : c2 pl ≠ [] := fun h => by have := c2_len pl; rw [h,hpn] at this; simp at this
  obtain ⟨b,n2,cc,rest,rfl,rfl,q1,q2,q3⟩ := hs2.ne hne
  rw [c2_len,hpn] at q1
  obtain rfl : n2 = i + 1 := by omega
  refine gn ?_
  refine WP.only [(b,cl (c2 pl ++ rest) 268)] ?_
  refine WP.loopK (6 :: List.range' 25 34) (fun k g Z' H' => ∃ (j : Nat) (pl : List (Nm × Value)),g 6 = .int .i64 (j : Int) ∧ k = j ∧ j ≤ i ∧ pl.length = i + 1 ∧ (∀ p ∈ pl,SlV p.2) ∧ Z2 = Z' ∧ H' = [(b,cl (c2 pl ++ rest) 268)]) i ⟨i,pl,(by show Value.int .i64 (((i + 1 : Nat) : Int) - 1) = _; congr 1; omega),rfl,Nat.le_refl _,hpn,hps2,rfl,rfl⟩ ?_
  rintro k' g' Z' H' _ ⟨j,pl,h6,rfl,hji,hpn,hps2,rfl,rfl⟩
  refine WP.pin 6 h6 ?_
  have hdone : ∃ (i' : Nat) (sv : Value) (ps : List (Nm × Value)),Value.int .i64 ((i + 1 : Nat) : Int) = .int .i64 (i' : Int) ∧ Value.slice (some ⟨b,0,none⟩) (i + 1) cc = sv ∧ i' ≤ n ∧ n - (i + 1) = n - i' ∧ Sl 268 2 sv (c2 ps) [(b,cl (c2 pl ++ rest) 268)] ∧ ps.length = i' ∧ ∀ p ∈ ps,SlV p.2 :=
   ⟨i + 1,_,pl,rfl,rfl,by omega,rfl,.row b _ cc _ rest (by rw [c2_len,hpn]) q2 q3,hpn,hps2⟩
  rcases k' with _ | j
  ·refine gn ?_
   refine WP.drawA mo (by decide +kernel) ?_
   refine gn ?_
   exact ⟨bk,n - (i + 1),[(b,cl (c2 pl ++ rest) 268)],_,by omega,spp,hdone⟩
  ·obtain ⟨⟨x,xv⟩,hx⟩ : ∃ p,pl[j]? = some p := ⟨pl[j]'(by omega),by simp⟩
   obtain ⟨⟨y,yv⟩,hy⟩ : ∃ p,pl[j + 1]? = some p := ⟨pl[j + 1]'(by omega),by simp⟩
   have gx : (c2 pl ++ rest)[0 + j * 2]? = some (.string x) := by rw [Nat.zero_add]; exact c2_get rest hx
   have gy : (c2 pl ++ rest)[0 + (j + 1) * 2]? = some (.string y) := by rw [Nat.zero_add]; exact c2_get rest hy
   have lx : ((c2 pl ++ rest).drop (0 + j * 2)).take 2 = [.string x,xv] := by rw [Nat.zero_add]; exact c2_at rest hx
   have ly : ((c2 pl ++ rest).drop (0 + (j + 1) * 2)).take 2 = [.string y,yv] := by rw [Nat.zero_add]; exact c2_at rest hy
   have hxs := hps2 _ (List.mem_of_getElem? hx)
   have hys := hps2 _ (List.mem_of_getElem? hy)
   have hix : Value.int .i64 (((j + 1 : Nat) : Int) - 1) = .int .i64 ((j : Nat) : Int) := by congr 1; omega
   have s1 : setL (c2 pl ++ rest) (0 + (j + 1) * 2) [.string x,xv] = c2 (pl.set (j + 1) (x,xv)) ++ rest := by rw [Nat.zero_add]; exact c2_set (q := (x,xv)) rest hy
   have s2 : setL (c2 (pl.set (j + 1) (x,xv)) ++ rest) (0 + j * 2) [.string y,yv] = c2 ((pl.set (j + 1) (x,xv)).set j (y,yv)) ++ rest := by
    rw [Nat.zero_add]; exact c2_set (p := (x,xv)) (q := (y,yv)) rest (by rw [List.getElem?_set_ne (by omega)]; exact hx)
   refine gn ?_
   refine WP.drawA mo (by decide +kernel) ?_
   refine gn ?_
   refine o_indexAddr (j := j + 1) rfl rfl rfl (by omega) ?_
   refine gn ?_
   refine o_indexAddr (ik := .i64) (j := j) rfl rfl hix (by omega) ?_
   refine gn ?_
   refine o_lssS rfl rfl rfl rfl ?_
   by_cases hyx : ltN y x
   ·rw [decide_eq_true hyx]
    refine gn ?_
    refine WP.draw3 [(b,cl (c2 pl ++ rest) 268)] [] [0,1,2,3,4,5,6,7,8,9,10,11,12,13] [14,15,16,17] mo (by decide +kernel) (prm rfl) ?_
    refine gn ?_
    refine o_indexAddr (ik := .i64) (j := j) rfl rfl hix (by omega) ?_
    refine o_loadN rfl rfl lx rfl ?_
    refine gn ?_
    refine o_indexAddr (j := j + 1) rfl rfl rfl (by omega) ?_
    refine o_loadN rfl rfl ly rfl ?_
    refine r_two [] ?_
    refine o_indexAddr (j := j + 1) rfl rfl rfl (by omega) ?_
    refine o_store (vs := [.string x,xv]) rfl rfl rfl rfl (by obtain ⟨_,_,_,e⟩ := hxs; rw [show xv = _ from e]; rfl) (by rw [Nat.ble_eq,List.length_append,c2_len]; simp; omega) ?_
    rw [s1]
    refine o_indexAddr (ik := .i64) (j := j) rfl rfl hix (by omega) ?_
    refine o_store (vs := [.string y,yv]) rfl rfl rfl rfl (by obtain ⟨_,_,_,e⟩ := hys; rw [show yv = _ from e]; rfl) (by rw [Nat.ble_eq,List.length_append,c2_len,List.length_set]; simp; omega) ?_
    rw [s2]
    refine gn ?_
    refine ⟨bk,j,[(b,cl (c2 ((pl.set (j + 1) (x,xv)).set j (y,yv)) ++ rest) 268)],_,by omega,spp,j,_,hix,rfl,by omega,by simp [hpn],fun p hp => ?_,rfl,rfl⟩
    rcases List.mem_or_eq_of_mem_set hp with hp | rfl
    ·rcases List.mem_or_eq_of_mem_set hp with hp | rfl
     ·exact hps2 p hp
     ·exact hxs
    ·exact hys
   ·rw [decide_eq_false hyx]
    refine gn ?_
    exact ⟨bk,n - (i + 1),[(b,cl (c2 pl ++ rest) 268)],_,by omega,spp,hdone⟩
 ·refine gn ?_
  exact fin1 fun Z'' hz'' hp => by obtain ⟨_,_,_,e,_⟩ := hsl.val; exact ⟨_,_,_,e⟩
end
end Go.Ux
namespace Go.Ux
open Go Go.Proofs
set_option maxRecDepth 20000
attribute [local irreducible] WP Tr
def OWs (Z : Fz) (ver : ByteArray) (l : List Ow) (mv : Value) : Prop := ∃ cs,Rs (inT Z 79) 4 mv l.length cs ∧ OWl Z ver l cs
theorem OWs.mono {Z Z' : Fz} (hz : Fz.le Z Z') {ver : ByteArray} {l : List Ow} {mv : Value} (h : OWs Z ver l mv) : OWs Z' ver l mv := by
 obtain ⟨cs,h1,h2⟩ := h
 exact ⟨cs,h1.mono fun _ _ h => inT.lw hz.lw rfl h,h2.mono hz⟩
structure AnC (Z : Fz) (ver : ByteArray) (ok ch : Bool) (r : RV) (l : List Ow) (cs : List Value) : Prop where
 c : ∃ a n c lc mv,cs = [.bool ok,.slice a n c,.bool ch] ++ lc ++ [mv] ∧ RVc Z r lc ∧ OWs Z ver l mv
theorem AnC.mono {Z Z' : Fz} (hz : Fz.le Z Z') {ver : ByteArray} {ok ch : Bool} {r : RV} {l : List Ow} {cs : List Value} (h : AnC Z ver ok ch r l cs) : AnC Z' ver ok ch r l cs := by
 obtain ⟨a,n,c,lc,mv,h1,h2,h3⟩ := h.c
 exact ⟨a,n,c,lc,mv,h1,h2.mono hz,h3.mono hz⟩
theorem AnC.ten {Z : Fz} {ver : ByteArray} {ok ch : Bool} {r : RV} {l : List Ow} {cs : List Value} (h : AnC Z ver ok ch r l cs) : ∃ (k n : Int) (f : Nat) (s : ByteArray) (a₀ a a' a₂ : Option Addr) (n₀ c₀ m c m' c' n₂ c₂ : Nat),
  cs = [.bool ok,.slice a₀ n₀ c₀,.bool ch,.int .i64 k,.int .i64 n,.float .f64 f,.string s,.slice a m c,.slice a' m' c',.slice a₂ n₂ c₂] := by
 obtain ⟨a₀,n₀,c₀,lc,mv,rfl,h2,⟨_,h3,_⟩⟩ := h.c
 obtain ⟨_,_,_,_,_,_,_,_,_,_,rfl⟩ := h2.six
 obtain ⟨a₂,c₂,rfl⟩ := h3.sl
 exact ⟨_,_,_,_,_,_,_,_,_,_,_,_,_,_,_,_,rfl⟩
def Wl (t : Tv) (r : RV) : Prop := Cl r ∧ NoN r ∧ ∃ t',Shp r t' ∧ Al t t' ∧ t'.sz ≤ t.sz
structure OwF (f : Own) (l : List Ow) (n : Nat) : Prop where
 inc : Inc (l.map Ow.k)
 len : l.length = n
 bd : ∀ o ∈ l,o.ps.length ≤ 1048576
 has : ∀ k x,f.has k x ↔ ∃ o ∈ l,o.k = k ∧ x ∈ o.ps
section
variable {Z : Fz} {U : List Nm} {ver : ByteArray}
theorem f38c {mv : Value} [One mv] {a : Option Addr} {n c : Nat} {cs : List Value} {l : List (Nm × List Nm)} (hr : Rs (inT Z 265) 2 (.slice a n c) n cs) (hl : CfL Z l cs) (hn : l.length ≤ 34359738368) :
  Gr Tryz.prog 38 #[.pointer none,mv,.iface 176 (.slice a n c)] Z fun x Z' => ∃ cs,x = .agg cs.toArray ∧ AnC Z' ver false false (.mk 0 0 0 ⟨#[]⟩ [] []) [] cs := by
 refine Gr.intro Tryz.func38 rfl Tryz.ntmps38 Tryz.results38 rfl ?_
 refine gn ?_; intro b6
 refine gn ?_
 refine cg (args := [.slice a n c]) (f67 hr hl hn) ?_
 rintro _ Z1 hz1 ⟨a',n',c',rfl⟩
 refine gn ?_
 exact finC1 (vs := [.bool false,.slice a' n' c',.bool false,.int .i64 0,.int .i64 0,.float .f64 0,.string ⟨#[]⟩,.slice none 0 0,.slice none 0 0,.slice none 0 0]) rfl fun Z' _ _ => ⟨_,rfl,⟨a',n',c',zr,_,rfl,.flat,[],.nil 0,by simp [OWl]⟩⟩
theorem f38o {t : Tv} {sc nb p m c : Nat} {es : List En} {f : Own} (hT : TyV Z sc nb t p) (hs : t.sz ≤ 1048576) (hU : U.length ≤ 1073741824) (hm : Z m = some (mp es c)) (hF : MF Z U ver es c f) (hn : es.length ≤ 1048576) (hbd : ∀ k ap s,f k = some (ap,s) → Bd s) :
  Gr Tryz.prog 38 #[pt p,.map (some m),.nilIface] Z fun x Z' => ∃ r l cs,x = .agg cs.toArray ∧ AnC Z' ver true true r l cs ∧ Wl t r ∧ OwF f l es.length := by
 refine Gr.intro Tryz.func38 rfl Tryz.ntmps38 Tryz.results38 rfl ?_
 refine gn ?_; intro b6
 refine gn ?_
 refine cg (args := [pt p]) (f68 hT hs) ?_
 rintro _ Z1 hz1 ⟨r,lc,rfl,hw⟩
 have hw' := hw.c
 obtain ⟨_,_,_,_,_,_,_,_,_,_,rfl⟩ := hw'.six
 refine gn ?_
 refine cg (args := [.map (some m)]) (f69 hU (hz1 _ _ hm) (hF.mono hz1) hn hbd) ?_
 rintro mv Z2 hz2 ⟨l,cs,h1,h2,h3,h4,h5,h6⟩
 obtain ⟨a,c,rfl⟩ := h1.sl
 refine gn ?_
 exact finC1 rfl fun Z' hz' _ => ⟨r,l,_,rfl,⟨_,_,_,_,_,rfl,hw.c.mono (hz2.trans hz'),OWs.mono hz' ⟨cs,h1,h2⟩⟩,⟨hw.cl,hw.nn,hw.sh⟩,⟨h3,h4,h5,h6⟩⟩
theorem f38n {m c : Nat} {es : List En} {f : Own} (hU : U.length ≤ 1073741824) (hm : Z m = some (mp es c)) (hF : MF Z U ver es c f) (hn : es.length ≤ 1048576) (hbd : ∀ k ap s,f k = some (ap,s) → Bd s) :
  Gr Tryz.prog 38 #[.pointer none,.map (some m),.nilIface] Z fun x Z' => ∃ l cs,x = .agg cs.toArray ∧ AnC Z' ver true false (.mk 0 0 0 ⟨#[]⟩ [] []) l cs ∧ OwF f l es.length := by
 refine Gr.intro Tryz.func38 rfl Tryz.ntmps38 Tryz.results38 rfl ?_
 refine gn ?_; intro b6
 refine gn ?_
 refine cg (args := [.pointer none]) f68n ?_
 rintro _ Z1 hz1 rfl
 refine gn ?_
 refine cg (args := [.map (some m)]) (f69 hU (hz1 _ _ hm) (hF.mono hz1) hn hbd) ?_
 rintro mv Z2 hz2 ⟨l,cs,h1,h2,h3,h4,h5,h6⟩
 obtain ⟨a,c,rfl⟩ := h1.sl
 refine gn ?_
 exact finC1 (vs := [.bool true,.slice none 0 0,.bool false,.int .i64 0,.int .i64 0,.float .f64 0,.string ⟨#[]⟩,.slice none 0 0,.slice none 0 0,.slice a l.length c]) rfl fun Z' hz' _ => ⟨l,_,rfl,⟨_,_,_,zr,_,rfl,.flat,OWs.mono hz' ⟨cs,h1,h2⟩⟩,⟨h3,h4,h5,h6⟩⟩
end
end Go.Ux
