/- The proof that FnTreesOwned is true for each history, part 6: G71 G72 G73 G74 G75 H8 E21 H9 H10 I3 I4. No condition beyond the given one on bulk. -/
import Derived.Test.YtfmjodemgaeceaaGreatOwnE
import Derived.Below
import Derived.Test.YtfmjodemgaeceaaGreatRows
import Derived.ProofKit
import Derived.OpenShut
import Derived.JoinedCond
import Derived.WideKeyArgs
namespace Go.Ux
open Go Go.Proofs
set_option maxRecDepth 20000
attribute [local irreducible] WP Tr
abbrev rfc (nm : ByteArray) : List Value := [.bool true,.string nm,.string ⟨#[]⟩,.slice none 0 0,.slice none 0 0,.string ⟨#[]⟩]
abbrev lic (nm rel : ByteArray) : List Value := [.bool true,.string nm,.string ⟨#[]⟩,.slice none 0 0,.slice none 0 0,.string ⟨#[]⟩,.string rel,.slice none 0 0]
abbrev mpc (nm rel : ByteArray) : List Value := [.slice none 0 0,.bool true,.string nm,.string ⟨#[]⟩,.slice none 0 0,.slice none 0 0,.string ⟨#[]⟩,.string rel]
abbrev liT (ab : Nat) (rel : ByteArray) : List Value := [pt ab,.pointer none,.pointer none,.pointer none,.pointer none,.bool false,.string rel,.slice none 0 0]
abbrev mpT (eb : Nat) (rel : ByteArray) : List Value := [.slice none 0 0,.slice none 0 0,pt eb,.pointer none,.pointer none,.pointer none,.pointer none,.bool false,.string rel]
section
variable {n : Nat} {all : Array Oper} {dr : Bool} {Pin : Hp} {K : Fr → Fz → Hp → Prop} {rest : List Oper} {l : List Lay} {D : List Deferred} {Z : Fz} {H : Hp}
variable {d : Tmp} {ty : TypeId} {pos : String} {af : Array Edge} {gd : Option (Nat × Bool)} {x y : Operand}
theorem o_app00 (hg : okO n all ⟨l,D⟩ ⟨some d,.call ⟨.builtin .append,#[x,y],#[34,34]⟩,ty,pos,af,gd⟩ = true) (hx : ev ⟨l,D⟩ x = .slice none 0 0) (hy : ev ⟨l,D⟩ y = .slice none 0 0)
  (h : Rg Tryz.prog n all dr Pin K rest ⟨.s d (.slice none 0 0) :: l,D⟩ Z H) : Rg Tryz.prog n all dr Pin K (⟨some d,.call ⟨.builtin .append,#[x,y],#[34,34]⟩,ty,pos,af,gd⟩ :: rest) ⟨l,D⟩ Z H := by
 refine o_e (fun v Z₁ H₁ => v = .slice none 0 0 ∧ Z₁ = Z ∧ H₁ = H) hg rfl (fun w F hs => ?_) ?_
 ·have h1 : (Builtin.append_ #[34,34] ty #[.slice none 0 0,.slice none 0 0]).run Tryz.prog w = .ok (.slice none 0 0) w := by kernel_rfl
  have : (execOp (ev ⟨l,D⟩) ⟨some d,.call ⟨.builtin .append,#[x,y],#[34,34]⟩,ty,pos,af,gd⟩).run Tryz.prog w = .ok (.value (.slice none 0 0)) w := by
   show Sem.run Tryz.prog (do let d ← resolve (ev ⟨l,D⟩) ⟨.builtin .append,#[x,y],#[34,34]⟩ ty; invoke d.target d.args) w = _
   simp only [resolve,invoke,builtin,Sem.run_bind,Sem.run_pure,Result.andThen_ok,hx,hy,List.map_toArray,List.map_cons,List.map_nil,h1]
  unfold RunO
  rw [this]
  exact ⟨Z,H,.refl Z,hs,.refl w,rfl,rfl,rfl⟩
 ·rintro v Z₁ H₁ _ ⟨rfl,rfl,rfl⟩
  exact h
end
section
variable {Z : Fz}
theorem f49 (nm : ByteArray) : Gr Tryz.prog 49 #[.agg (rfc nm).toArray] Z fun x Z' => ∃ nb,x = .agg (tref nb).toArray ∧ Z' nb = some (cl [.string nm] 9) := by
 refine Gr.intro Tryz.func49 rfl Tryz.ntmps49 Tryz.results49 rfl ?_
 refine gn ?_; intro b1
 refine gn ?_; intro b2
 refine gn ?_; intro b3
 refine gn ?_; intro b4
 refine gn ?_
 exact finC1 (vs := tref b4) rfl fun Z' _ hp => ⟨b4,rfl,hp (b4,cl [.string nm] 9) (by simp)⟩
theorem f115 (nm rel : ByteArray) : Gr Tryz.prog 115 #[.agg (lic nm rel).toArray] Z fun x Z' => ∃ nb,x = .agg (liT nb rel).toArray ∧ Z' nb = some (cl [.string nm] 9) := by
 refine Gr.intro Tryz.func115 rfl Tryz.ntmps115 Tryz.results115 rfl ?_
 refine gn ?_; intro b1
 refine gn ?_; intro b2
 refine gn ?_
 refine WP.draw [(b1,cl (lic nm rel) 85)] [(b2,cl [.pointer none,.pointer none,.pointer none,.pointer none,.pointer none,.bool false,.string ⟨#[]⟩,.slice none 0 0] 293)] [0,1,3,4,5,6,2,7,8,9] mo (by decide +kernel) (prm rfl) ?_
 refine gn ?_
 refine cg (args := [.agg (rfc nm).toArray]) (f49 nm) ?_
 rintro _ Z1 hz1 ⟨nb,rfl,hnb⟩
 refine o_app00 rfl rfl rfl ?_
 refine gn ?_
 exact finC1 (vs := liT nb rel) rfl fun Z' hz' _ => ⟨nb,rfl,hz' _ _ hnb⟩
theorem f116 (nm rel : ByteArray) : Gr Tryz.prog 116 #[.agg (mpc nm rel).toArray] Z fun x Z' => ∃ nb,x = .agg (mpT nb rel).toArray ∧ Z' nb = some (cl [.string nm] 9) := by
 refine Gr.intro Tryz.func116 rfl Tryz.ntmps116 Tryz.results116 rfl ?_
 refine gn ?_; intro b1
 refine gn ?_; intro b2
 refine gn ?_
 refine WP.draw [(b1,cl (mpc nm rel) 88)] [(b2,cl [.slice none 0 0,.slice none 0 0,.pointer none,.pointer none,.pointer none,.pointer none,.pointer none,.bool false,.string ⟨#[]⟩] 298)] [0,1,3,4,2,5,6,7] mo (by decide +kernel) (prm rfl) ?_
 refine gn ?_
 refine cg (args := [.agg (rfc nm).toArray]) (f49 nm) ?_
 rintro _ Z1 hz1 ⟨nb,rfl,hnb⟩
 refine gn ?_; intro b3
 refine gn ?_
 refine WP.only [(b3,cl (mpT nb rel) 298),(b2,cl [.slice none 0 0,.slice none 0 0,.pointer none,.pointer none,.pointer none,.pointer none,.pointer none,.bool false,.string ⟨#[]⟩] 298)] ?_
 refine WP.loopK (5 :: List.range' 15 12) (fun m g Z' H' => g 15 = .int .i64 0 ∧ Z1 = Z' ∧ H' = [(b3,cl (mpT nb rel) 298),(b2,cl [.slice none 0 0,.slice none 0 0,.pointer none,.pointer none,.pointer none,.pointer none,.pointer none,.bool false,.string ⟨#[]⟩] 298)]) 0 ⟨rfl,rfl,rfl⟩ ?_
 rintro m g Z' H' hz ⟨h15,rfl,rfl⟩
 refine WP.pin 15 h15 ?_
 refine gn ?_
 exact finC1 (vs := mpT nb rel) rfl fun Z' hz' _ => ⟨nb,rfl,hz' _ _ hnb⟩
structure Ats (Z : Fz) (nm rel : ByteArray) (sb lb mb eb : Nat) : Prop where
 s : Z sb = some (cl [.string stU] 291)
 l : ∃ ab,Z lb = some (cl (liT ab stA) 293) ∧ Z ab = some (cl [.string nmA] 9)
 m : Z mb = some (cl (mpT eb rel) 298)
 e : Z eb = some (cl [.string nm] 9)
theorem Ats.mono {Z Z' : Fz} (hz : Fz.le Z Z') {nm rel : ByteArray} {sb lb mb eb : Nat} (h : Ats Z nm rel sb lb mb eb) : Ats Z' nm rel sb lb mb eb := by
 obtain ⟨h1,⟨ab,h2,h3⟩,h4,h5⟩ := h
 exact ⟨hz _ _ h1,⟨ab,hz _ _ h2,hz _ _ h3⟩,hz _ _ h4,hz _ _ h5⟩
theorem f77 (nm rel : ByteArray) {lb0 mb0 lc mc : Nat} (hl : Z lb0 = some (cl (lic nmA stA) 85)) (hm : Z mb0 = some (cl (mpc nm rel) 88)) :
  Gr Tryz.prog 77 #[.agg #[.string stU,.slice (some ⟨lb0,0,none⟩) 1 lc,.slice (some ⟨mb0,0,none⟩) 1 mc]] Z fun x Z' => ∃ sb lb mb eb,x = .agg (atom sb lb mb).toArray ∧ Ats Z' nm rel sb lb mb eb := by
 haveI : Zf Z lb0 _ := ⟨.of (hl)⟩
 haveI : Zf Z mb0 _ := ⟨.of (hm)⟩
 refine Gr.intro Tryz.func77 rfl Tryz.ntmps77 Tryz.results77 rfl ?_
 refine gn ?_; intro b1
 refine gn ?_; intro b2
 refine gn ?_; intro b3
 refine gn ?_
 refine o_nes rfl rfl rfl (r := true) (by decide +kernel) ?_
 refine gn ?_; intro sb
 refine gn ?_
 refine o_indexAddrN 0 0 rfl (by omega) rfl rfl rfl ?_
 refine gn ?_
 refine cg (args := [.agg (lic nmA stA).toArray]) (f115 nmA stA) ?_
 rintro _ Z1 hz1 ⟨ab,rfl,hab⟩
 refine gn ?_; intro lb
 refine gn ?_
 haveI : Zf Z1 mb0 _ := ⟨.of (hz1 _ _ hm)⟩
 refine o_indexAddrN 0 0 rfl (by omega) rfl rfl rfl ?_
 refine gn ?_
 refine cg (args := [.agg (mpc nm rel).toArray]) (f116 nm rel) ?_
 rintro _ Z2 hz2 ⟨eb,rfl,heb⟩
 refine gn ?_; intro mb
 refine gn ?_
 exact finC1 (vs := atom sb lb mb) rfl fun Z' hz' hp => ⟨sb,lb,mb,eb,rfl,hp (sb,cl [.string stU] 291) (by simp),⟨ab,hp (lb,cl (liT ab stA) 293) (by simp),hz' _ _ (hz2 _ _ hab)⟩,hp (mb,cl (mpT eb rel) 298) (by simp),hz' _ _ heb⟩
set_option maxHeartbeats 4000000 in
theorem f48 {tb c l₁ l₂ m₁ m₂ a₁ a₂ d₁ d₂ : Nat} (ht : Z tb = some (cl [.string nmA,.string stU,.slice (some ⟨l₁,0,none⟩) 1 a₁,.slice (some ⟨m₁,0,none⟩) 1 d₁,.string nmD,.string stU,.slice (some ⟨l₂,0,none⟩) 1 a₂,.slice (some ⟨m₂,0,none⟩) 1 d₂] 90))
  (h1 : Z l₁ = some (cl (lic nmA stA) 85)) (h2 : Z m₁ = some (cl (mpc nmA stA) 88)) (h3 : Z l₂ = some (cl (lic nmA stA) 85)) (h4 : Z m₂ = some (cl (mpc nmD stS) 88)) :
  Gr Tryz.prog 48 #[.agg #[.slice (some ⟨tb,0,none⟩) 2 c]] Z fun x Z' => ∃ sc sb lb mb eb sb' lb' mb' eb',x = pt sc ∧ Sc2 Z' sc sb lb mb eb sb' lb' mb' eb' := by
 refine Gr.intro Tryz.func48 rfl Tryz.ntmps48 Tryz.results48 rfl ?_
 refine gn ?_; intro b1
 refine gn ?_; intro sc
 refine gn ?_
 refine WP.only [(sc,cl [.slice none 0 0] 192)] ?_
 refine WP.loopK (5 :: List.range' 11 20) (fun m g Z' H' => (m = 2 ∧ g 11 = .int .i64 0 ∧ H' = [(sc,cl [.slice none 0 0] 192)]) ∨
   (m = 1 ∧ g 11 = .int .i64 1 ∧ ∃ tv Ht sb lb mb eb,H' = Ht ++ [(sc,cl [tv] 192)] ∧ Sl 195 4 tv (.string nmA :: atom sb lb mb) Ht ∧ Ats Z' nmA stA sb lb mb eb) ∨
   (m = 0 ∧ g 11 = .int .i64 2 ∧ ∃ tv Ht sb lb mb eb sb' lb' mb' eb',H' = Ht ++ [(sc,cl [tv] 192)] ∧ Sl 195 4 tv (.string nmA :: atom sb lb mb ++ .string nmD :: atom sb' lb' mb') Ht ∧ Ats Z' nmA stA sb lb mb eb ∧ Ats Z' nmD stS sb' lb' mb' eb')) 2 (.inl ⟨rfl,rfl,rfl⟩) ?_
 rintro m g Z' H' hz (⟨rfl,h11,rfl⟩ | ⟨rfl,h11,tv,Ht,sb,lb,mb,eb,rfl,hsl,hat⟩ | ⟨rfl,h11,tv,Ht,sb,lb,mb,eb,sb',lb',mb',eb',rfl,hsl,hat,hat'⟩)
 ·haveI : Zf Z' tb _ := ⟨.of (hz _ _ ht)⟩
  refine WP.pin 11 h11 ?_
  refine gn ?_
  refine o_indexAddrN 0 0 rfl (by omega) rfl rfl rfl ?_
  refine gn ?_; intro b5
  refine gn ?_
  refine WP.drawS [(sc,cl [.slice none 0 0] 192),(b5,cl [.string nmA,.string stU,.slice (some ⟨l₁,0,none⟩) 1 a₁,.slice (some ⟨m₁,0,none⟩) 1 d₁] 90)] [] 13 mo (by decide +kernel) (prm rfl) ?_
  refine gn ?_
  refine cg (args := [.agg #[.string stU,.slice (some ⟨l₁,0,none⟩) 1 a₁,.slice (some ⟨m₁,0,none⟩) 1 d₁]]) (f77 nmA stA (hz _ _ h1) (hz _ _ h2)) ?_
  rintro _ Z2 hz2 ⟨sb,lb,mb,eb,rfl,hat⟩
  refine gn ?_; intro vb
  refine oap (.nil : Sl 195 4 (.slice none 0 0) [] []) rfl rfl rfl (Rs.cells (inferInstance : Mem false _ _ _ vb (cl _ 195)) rfl (Nat.le_refl 1)) (by simp [Value.oneCell']) (by omega) (by simp) ?_
  intro tv Ht hsl
  haveI := hsl.one
  refine r_two [] ?_
  refine gn ?_
  exact ⟨bk,1,Ht ++ [(sc,cl [tv] 192)],_,by omega,spp,.inr (.inl ⟨rfl,rfl,tv,Ht,sb,lb,mb,eb,rfl,hsl,hat⟩)⟩
 ·haveI : Zf Z' tb _ := ⟨.of (hz _ _ ht)⟩
  haveI := hsl.one
  refine WP.pin 11 h11 ?_
  refine gn ?_
  refine o_indexAddrN 1 4 rfl (by omega) rfl rfl rfl ?_
  refine gn ?_; intro b5
  refine gn ?_
  refine WP.drawS [(sc,cl [tv] 192),(b5,cl [.string nmD,.string stU,.slice (some ⟨l₂,0,none⟩) 1 a₂,.slice (some ⟨m₂,0,none⟩) 1 d₂] 90)] Ht 13 mo (by decide +kernel) (prm rfl) ?_
  refine gn ?_
  refine cg (args := [.agg #[.string stU,.slice (some ⟨l₂,0,none⟩) 1 a₂,.slice (some ⟨m₂,0,none⟩) 1 d₂]]) (f77 nmD stS (hz _ _ h3) (hz _ _ h4)) ?_
  rintro _ Z2 hz2 ⟨sb',lb',mb',eb',rfl,hat'⟩
  refine gn ?_; intro vb
  refine oap hsl rfl rfl rfl (Rs.cells (inferInstance : Mem false _ _ _ vb (cl _ 195)) rfl (Nat.le_refl 1)) (by simp [Value.oneCell']) (by omega) (by simp) ?_
  intro tv2 Ht2 hsl2
  haveI := hsl2.one
  refine r_two [] ?_
  refine gn ?_
  exact ⟨bk,0,Ht2 ++ [(sc,cl [tv2] 192)],_,by omega,spp,.inr (.inr ⟨rfl,rfl,tv2,Ht2,sb,lb,mb,eb,sb',lb',mb',eb',rfl,hsl2,hat.mono hz2,hat'⟩)⟩
 ·refine WP.pin 11 h11 ?_
  refine gn ?_
  obtain ⟨b,n,cc,rest,rfl,rfl,q1,q2,q3⟩ := hsl.ne (by simp)
  have e : n = 2 := by simp at q1; omega
  subst e
  refine fin1 fun Z'' hz'' hp => ⟨sc,sb',lb',mb',eb',sb,lb,mb,eb,rfl,?_⟩
  have hb := hp (b,cl (.string nmA :: atom sb lb mb ++ .string nmD :: atom sb' lb' mb' ++ rest) 195) (by simp)
  have hsc := hp (sc,cl [.slice (some ⟨b,0,none⟩) 2 cc] 192) (by simp)
  obtain ⟨s1,⟨ab,l1,l2⟩,m1,e1⟩ := hat.mono hz''
  obtain ⟨s1',⟨ab',l1',l2'⟩,m1',e1'⟩ := hat'.mono hz''
  exact ⟨⟨⟨b,cc,rest,_,_,_,hsc,q3,hb⟩,s1',⟨ab',l1',l2'⟩,m1',e1'⟩,⟨b,cc,_,hsc,q3,hb⟩,s1,⟨ab,l1,l2⟩,m1,e1⟩
end
end Go.Ux
namespace Go.Ux
open Go Go.Proofs
set_option maxRecDepth 20000
attribute [local irreducible] WP Tr
section
variable {Z : Fz} {sc sb lb mb eb sb' lb' mb' eb' nb : Nat}
theorem f80 {t : Tv} {a : Nat} {u : Value} (hS : Sc2 Z sc sb lb mb eb sb' lb' mb' eb') (hnb : Z nb = some (cl [.string nmD] 9)) (ha : Z a = some (cl [u] 358)) (hu : AV Z t u) (ht : t.sz ≤ 34359738368) :
  Gr Tryz.prog 80 #[vv a,pt sc,.agg (tref nb).toArray,.slice none 0 0] Z fun x Z' => ∃ p,x = .tuple #[pt p,.nilIface] ∧ TyV Z' sc nb t p := by
 refine Gr.intro Tryz.func80 rfl Tryz.ntmps80 Tryz.results80 rfl ?_
 refine gn ?_; intro b6
 refine gn ?_; intro p
 refine gn ?_
 refine ct (args := [.agg (tv (vv a) sc nb).toArray,.slice none 0 0]) (f117 t sc nb a true u ht hS.ty hnb ha hu) ?_
 rintro _ Z1 _ hz1 ⟨rfl,rfl⟩
 refine gn ?_
 exact fin2 fun Z' hz' hp => ⟨p,rfl,a,u,hp (p,cl (tv (vv a) sc nb) 220) (by simp),(hz1.trans hz') _ _ ha,hu.mono (hz1.trans hz')⟩
theorem f52 {t : Tv} {u : Value} (hS : Sc2 Z sc sb lb mb eb sb' lb' mb' eb') (hnb : Z nb = some (cl [.string nmD] 9)) (hu : AV Z t u) (ht : t.sz ≤ 34359738368) :
  Gr Tryz.prog 52 #[pt sc,.agg (tref nb).toArray,u,.bool false] Z fun x Z' => ∃ p,x = .tuple #[pt p,.bool true] ∧ TyV Z' sc nb t p := by
 haveI := hu.oneI
 refine Gr.intro Tryz.func52 rfl Tryz.ntmps52 Tryz.results52 rfl ?_
 refine gn ?_; intro b5
 refine gn ?_
 refine WP.draw [(b5,cl (tref nb) 100)] [] [0,2,3,4,1,5,6,7,8,9,10] mo (by decide +kernel) (prm rfl) ?_
 refine gn ?_
 refine cg (args := [u]) (f81 u Z hu.cells hu.cell1) ?_
 rintro _ Z1 hz1 ⟨a,rfl,ha⟩
 refine cg (args := [vv a,pt sc,.agg (tref nb).toArray,.slice none 0 0]) (f80 (hS.mono hz1) (hz1 _ _ hnb) ha (hu.mono hz1) ht) ?_
 rintro _ Z2 hz2 ⟨p,rfl,hp⟩
 refine gn ?_
 refine WP.drawA mo (by decide +kernel) ?_
 refine gn ?_
 exact fin2 fun Z' hz' _ => ⟨p,rfl,hp.mono hz'⟩
theorem f33 {r : RV} {cs : List Value} (hS : Sc2 Z sc sb lb mb eb sb' lb' mb' eb') (hnb : Z nb = some (cl [.string nmD] 9)) (hr : RVc Z r cs) (hs : r.sz ≤ 1048576) (hn : NoN r.clean) (ht : ∀ t,Shp r.clean t → t.sz ≤ 34359738368) :
  Gr Tryz.prog 33 #[pt sc,.agg (tref nb).toArray,.agg cs.toArray,.bool false] Z fun x Z' => ∃ p t,x = .tuple #[pt p,.bool true] ∧ TyV Z' sc nb t p ∧ Shp r.clean t := by
 have hr' := hr
 obtain ⟨_,_,_,_,_,_,_,_,_,_,rfl⟩ := hr'.six
 refine Gr.intro Tryz.func33 rfl Tryz.ntmps33 Tryz.results33 rfl ?_
 refine gn ?_; intro b5
 refine gn ?_; intro b6
 refine gn ?_
 refine WP.draw _ [] [0,1,2,4,3,5,6,7,8,9] mo (by decide +kernel) (by rw [List.append_nil]) ?_
 refine gn ?_
 refine cg (args := [.agg #[_,_,_,_,_,_]]) (f50 (r.sz + 1) r _ Z (by omega) hs hr) ?_
 rintro u Z1 hz1 hu
 obtain ⟨t,hav,hsh⟩ := hu.2 hn
 haveI := hav.oneI
 refine cg (args := [pt sc,.agg (tref nb).toArray,u,.bool false]) (f52 (hS.mono hz1) (hz1 _ _ hnb) hav (ht t hsh)) ?_
 rintro _ Z2 hz2 ⟨p,rfl,hp⟩
 refine gn ?_
 exact fin2 fun Z' hz' _ => ⟨p,t,rfl,hp.mono hz',hsh⟩
abbrev vsn0 : List Value := [.slice none 0 0,.pointer none,.pointer none,.pointer none,.pointer none,.pointer none,.pointer none,.bool false,.map none,.map none]
abbrev wcl (tb tc : Nat) (k n : Int) (f : Nat) (s : ByteArray) (a a' a₂ : Option Addr) (m c m' c' n₂ c₂ : Nat) (at_ : ByteArray) : List Value :=
 [.slice (some ⟨tb,0,none⟩) 2 tc,.bool true,.string nmD,.string ⟨#[]⟩,.slice none 0 0,.slice none 0 0,.string ⟨#[]⟩,.int .i64 k,.int .i64 n,.float .f64 f,.string s,.slice a m c,.slice a' m' c',.slice a₂ n₂ c₂,.slice none 0 0,.slice none 0 0,.slice none 0 0,.bool false,.bool false,.slice none 0 0,.string at_,.bool false]
structure Shc (Z : Fz) (tb : Nat) : Prop where
 h : ∃ l₁ l₂ m₁ m₂ a₁ a₂ d₁ d₂,Z tb = some (cl [.string nmA,.string stU,.slice (some ⟨l₁,0,none⟩) 1 a₁,.slice (some ⟨m₁,0,none⟩) 1 d₁,.string nmD,.string stU,.slice (some ⟨l₂,0,none⟩) 1 a₂,.slice (some ⟨m₂,0,none⟩) 1 d₂] 90) ∧
  Z l₁ = some (cl (lic nmA stA) 85) ∧ Z m₁ = some (cl (mpc nmA stA) 88) ∧ Z l₂ = some (cl (lic nmA stA) 85) ∧ Z m₂ = some (cl (mpc nmD stS) 88)
theorem Shc.mono {Z Z' : Fz} (hz : Fz.le Z Z') {tb : Nat} (h : Shc Z tb) : Shc Z' tb := by
 obtain ⟨l₁,l₂,m₁,m₂,a₁,a₂,d₁,d₂,h1,h2,h3,h4,h5⟩ := h.h
 exact ⟨l₁,l₂,m₁,m₂,a₁,a₂,d₁,d₂,hz _ _ h1,hz _ _ h2,hz _ _ h3,hz _ _ h4,hz _ _ h5⟩
theorem Shc.f48 {tb c : Nat} (h : Shc Z tb) : Gr Tryz.prog 48 #[.agg #[.slice (some ⟨tb,0,none⟩) 2 c]] Z fun x Z' => ∃ sc sb lb mb eb sb' lb' mb' eb',x = pt sc ∧ Sc2 Z' sc sb lb mb eb sb' lb' mb' eb' := by
 obtain ⟨l₁,l₂,m₁,m₂,a₁,a₂,d₁,d₂,h1,h2,h3,h4,h5⟩ := h.h
 exact Ux.f48 h1 h2 h3 h4 h5
section
variable {tb tc : Nat} {k n : Int} {f : Nat} {s : ByteArray} {a a' a₂ : Option Addr} {m c m' c' n₂ c₂ : Nat} {at_ : ByteArray}
set_option maxHeartbeats 4000000 in
theorem f31 (hh : Shc Z tb) : Gr Tryz.prog 31 #[.agg (wcl tb tc k n f s a a' a₂ m c m' c' n₂ c₂ at_).toArray] Z fun x Z' => ∃ sc sb lb mb eb sb' lb' mb' eb' nb ms mm,x = .agg (vsn sc nb ms mm).toArray ∧ Sc2 Z' sc sb lb mb eb sb' lb' mb' eb' ∧ Z' nb = some (cl [.string nmD] 9) ∧ Z' ms = some (mp [] 0) ∧ Z' mm = some (mp [] 0) := by
 refine Gr.intro Tryz.func31 rfl Tryz.ntmps31 Tryz.results31 rfl ?_
 refine gn ?_; intro b1
 refine gn ?_; intro b2
 refine gn ?_
 refine WP.drawX [(b1,cl (wcl tb tc k n f s a a' a₂ m c m' c' n₂ c₂ at_) 43)] [0,1,2,3,5,6,4,7,8,9,10,11,12] mo (by decide +kernel) ?_
 refine gn ?_
 refine cg (args := [.agg #[.slice (some ⟨tb,0,none⟩) 2 tc]]) hh.f48 ?_
 rintro _ Z1 hz1 ⟨sc,sb,lb,mb,eb,sb',lb',mb',eb',rfl,hS⟩
 refine cg (args := [.agg (rfc nmD).toArray]) (f49 nmD) ?_
 rintro _ Z2 hz2 ⟨nb,rfl,hnb⟩
 refine gn ?_; intro ms
 refine gn ?_; intro mm
 refine gn ?_; intro b3
 refine gn ?_
 refine WP.only [(b3,cl (vsn sc nb ms mm) 104),(b2,cl vsn0 104),(b1,cl (wcl tb tc k n f s a a' a₂ m c m' c' n₂ c₂ at_) 43),(ms,mp [] 0),(mm,mp [] 0)] ?_
 refine WP.loopK (5 :: List.range' 22 12) (fun _ g Z' H' => g 22 = .int .i64 0 ∧ Z2 = Z' ∧ H' = [(b3,cl (vsn sc nb ms mm) 104),(b2,cl vsn0 104),(b1,cl (wcl tb tc k n f s a a' a₂ m c m' c' n₂ c₂ at_) 43),(ms,mp [] 0),(mm,mp [] 0)]) 0 ⟨rfl,rfl,rfl⟩ ?_
 rintro _ g _ _ _ ⟨h22,rfl,rfl⟩
 refine WP.pin 22 h22 ?_
 refine gn ?_
 refine WP.loopK (7 :: List.range' 37 8) (fun _ g Z' H' => g 37 = .int .i64 0 ∧ Z2 = Z' ∧ H' = [(b3,cl (vsn sc nb ms mm) 104),(b2,cl vsn0 104),(b1,cl (wcl tb tc k n f s a a' a₂ m c m' c' n₂ c₂ at_) 43),(ms,mp [] 0),(mm,mp [] 0)]) 0 ⟨rfl,rfl,rfl⟩ ?_
 rintro _ g _ _ _ ⟨h37,rfl,rfl⟩
 refine WP.pin 37 h37 ?_
 refine gn ?_
 exact finC1 (vs := vsn sc nb ms mm) rfl fun Z' hz' hp => ⟨sc,sb,lb,mb,eb,sb',lb',mb',eb',nb,ms,mm,rfl,hS.mono (hz2.trans hz'),hz' _ _ hnb,hp (ms,mp [] 0) (by simp),hp (mm,mp [] 0) (by simp)⟩
set_option maxHeartbeats 4000000 in
theorem f32 {sc sb lb mb eb sb' lb' mb' eb' nb ms mm : Nat} (hS : Sc2 Z sc sb lb mb eb sb' lb' mb' eb') (hnb : Z nb = some (cl [.string nmD] 9)) (hms : Z ms = some (mp [] 0)) {r : RV} (ver : ByteArray) (hat : at_ = ⟨#[]⟩ ∨ at_ = ver)
  (hr : RVc Z r [.int .i64 k,.int .i64 n,.float .f64 f,.string s,.slice a m c,.slice a' m' c']) (hs : r.sz ≤ 1048576) (hn : NoN r.clean) (ht : ∀ t,Shp r.clean t → t.sz ≤ 34359738368) :
  Gr Tryz.prog 32 #[.agg (vsn sc nb ms mm).toArray,.agg (wcl tb tc k n f s a a' a₂ m c m' c' n₂ c₂ at_).toArray,.string ver] Z fun x Z' => ∃ p t,x = .tuple #[pt p,.bool true] ∧ TyV Z' sc nb t p ∧ Shp r.clean t := by
 refine Gr.intro Tryz.func32 rfl Tryz.ntmps32 Tryz.results32 rfl ?_
 refine gn ?_; intro b3
 refine gn ?_; intro b4
 refine gn ?_
 refine cg (args := [.agg #[_,_,_,_,_,_]]) (f50 (r.sz + 1) r _ Z (by omega) hs hr) ?_
 rintro u Z1 hz1 hu
 obtain ⟨t,hav,hsh⟩ := hu.2 hn
 haveI := hav.oneI
 have hat' : at_ = ⟨#[]⟩ ∨ (at_ ≠ ⟨#[]⟩ ∧ at_ = ver) := by
  by_cases e : at_ = ⟨#[]⟩
  ·exact .inl e
  ·exact .inr ⟨e,hat.resolve_left e⟩
 rcases hat' with he | ⟨hne,he⟩
 all_goals
  refine gn ?_
  refine WP.drawX [(b4,cl (wcl tb tc k n f s a a' a₂ m c m' c' n₂ c₂ at_) 43),(b3,cl (vsn sc nb ms mm) 104)] [0,1,2,3,5,6,7,4,8,9,10,11,12] mo (by decide +kernel) ?_
  refine gn ?_
  refine cp (f34 sc nb ms mm ver (hz1 _ _ hms)) ?_
  rintro _ rfl
  refine cg (args := [pt sc,.agg (tref nb).toArray,u,.bool false]) (f52 (hS.mono hz1) (hz1 _ _ hnb) hav (ht t hsh)) ?_
  rintro _ Z2 hz2 ⟨p,rfl,hp⟩
  refine gn ?_
  exact fin2 fun Z' hz' _ => ⟨p,t,rfl,hp.mono hz',hsh⟩
theorem f55 (b sc nb ms mm : Nat) : Tr Tryz.prog 55 #[pt b] Z [(b,cl [.iface 104 (.agg (vsn sc nb ms mm).toArray),.map none,.map none,.bool false] 141)] fun x _Z' H' => ∃ uu,x = pt uu ∧ H' = [(uu,cl [.iface 104 (.agg (vsn sc nb ms mm).toArray),.map none,.map none,.bool false] 158)] := by
 refine Tr.introk Tryz.func55 rfl Tryz.ntmps55 Tryz.results55 rfl ?_
 refine gn ?_
 refine WP.drawA mo (by decide +kernel) ?_
 refine gn ?_; intro uu
 refine gn ?_
 exact fk1 (A := [(uu,cl [.iface 104 (.agg (vsn sc nb ms mm).toArray),.map none,.map none,.bool false] 158)]) ⟨uu,rfl,rfl⟩
theorem f35 {sc nb ms mm : Nat} : Gr Tryz.prog 35 #[.agg (wcl tb tc k n f s a a' a₂ m c m' c' n₂ c₂ at_).toArray,.agg (vsn sc nb ms mm).toArray] Z fun x Z' => ∃ uu,x = pt uu ∧ Z' uu = some (cl [.iface 104 (.agg (vsn sc nb ms mm).toArray),.map none,.map none,.bool false] 158) := by
 refine Gr.intro Tryz.func35 rfl Tryz.ntmps35 Tryz.results35 rfl ?_
 refine gn ?_; intro b2
 refine gn ?_; intro b3
 refine gn ?_; intro b5
 refine gn ?_
 refine ct (args := [pt b5]) (f55 b5 sc nb ms mm) ?_
 rintro _ Z1 _ hz1 ⟨uu,rfl,rfl⟩
 refine gn ?_
 exact fin1 fun Z' _ hp => ⟨uu,rfl,hp (uu,cl [.iface 104 (.agg (vsn sc nb ms mm).toArray),.map none,.map none,.bool false] 158) (by simp)⟩
end
end
end Go.Ux
namespace Go.Ux
open Go Go.Proofs
set_option maxRecDepth 20000
attribute [local irreducible] WP Tr
theorem Good.pth {U : List Nm} {r : RV} {l : List Ow} (h : Good U r l) {o : Ow} (ho : o ∈ l) {p : List Nm} (hp : p ∈ o.ps) : p ≠ [] ∧ (∃ u,RAt r p u) ∧ ∀ k ∈ p,k ∈ U := by
 obtain ⟨h1,u,h2⟩ := h.inv.sub o.k p ⟨o,ho,rfl,hp⟩
 exact ⟨h1,⟨u,h2⟩,h.inU p u h2⟩
theorem nxt_of {U : List Nm} {r o rn : RV} {l l' : List Ow} {t : Tv} {f : Own} {n : Nat} (hw : Wl t rn) (hf : OwF f l' n) (hi : Inv t f.has) (hU : t.inU U) (hs : t.sz ≤ r.nodes + o.nodes) (hn : n ≤ l.length + 1)
  (hc : ∀ b tb,Cl b → Shp b tb → CpR r b → CpR o b → Cp t tb) : Nxt U r l o rn l' := by
 obtain ⟨h1,h2,t',h3,h4,h5⟩ := hw
 refine ⟨⟨h1,h2,?_,RV.inU.of (h4.inU hU) h3,hf.inc.nodup,hf.bd⟩,by rw [← h3.nodes]; omega,by rw [hf.len]; exact hn,fun b hb c1 c2 => ?_⟩
 ·exact (InvR.of (hi.sim h4.symm) h3).congr hf.has
 ·obtain ⟨tb,htb⟩ := Shp.ex b hb
  exact CpR.of (h4.cp (hc b tb hb htb c1 c2)) h3 htb
section
variable {Z : Fz} {U : List Nm} {tb tc : Nat} {k n : Int} {f : Nat} {s : ByteArray} {a a' a₂ : Option Addr} {m c m' c' c₂ : Nat} {at_ ver : ByteArray} {r ro : RV} {l : List Ow} {mcs oc : List Value}
theorem mf_bd {ver : ByteArray} {es : List En} {cc : Nat} {g : Own} {t : Tv} (hF : MF Z U ver es cc g) (hi : Inv t g.has) (hu : t.uk) (hs : t.sz ≤ 1048576) : ∀ k ap s,g k = some (ap,s) → Bd s := fun k ap s hk => by
 obtain ⟨b,_,hst⟩ := hF.get hk
 have hd : ∀ x,s.has x → Dm t x := fun x hx => (hi.sub k x ⟨ap,s,hk,hx⟩).2
 have := cnt_le s hst.2 hu hd
 exact ⟨by omega,fun x hx => by have := (hd x hx).len; omega⟩
set_option maxHeartbeats 8000000 in
theorem f19 (hU : U.length ≤ 1073741824) (hh : Shc Z tb) (hr : RVc Z r [.int .i64 k,.int .i64 n,.float .f64 f,.string s,.slice a m c,.slice a' m' c']) (hm : Rs (inT Z 79) 4 (.slice a₂ l.length c₂) l.length mcs) (hl : OWl Z ver l mcs) (hat : at_ = ⟨#[]⟩ ∨ at_ = ver)
  (hg : Good U r l) (hro : RVc Z ro oc) (hso : ro.sz ≤ 1048576) (hno : NoN ro.clean) (hoU : ro.clean.inU U) (hcp : CpR r ro.clean) (hb : r.nodes + ro.clean.nodes ≤ 262144) (hll : l.length ≤ 1024) (w : ByteArray) :
  Gr Tryz.prog 19 #[.agg (wcl tb tc k n f s a a' a₂ m c m' c' l.length c₂ at_).toArray,.agg oc.toArray,.string ver,.string w] Z fun x Z' => ∃ r' l' cs,x = .agg cs.toArray ∧ AnC Z' ver true true r' l' cs ∧ Nxt U r l ro.clean r' l' := by
 have hro' := hro
 obtain ⟨k₀,n₀,f₀,s₀,a₀,a₀',m₀,c₀,m₀',c₀',rfl⟩ := hro'.six
 have hrs := hg.cl.sz
 have hrn := r.sz_pos
 have hon : 1 ≤ ro.clean.nodes := by cases ro.clean; simp only [RV.nodes]; omega
 have hrN : 1 ≤ r.nodes := by cases r; simp only [RV.nodes]; omega
 refine Gr.intro Tryz.func19 rfl Tryz.ntmps19 Tryz.results19 rfl ?_
 refine gn ?_; intro b4
 refine gn ?_; intro b5
 refine gn ?_; intro b8
 refine gn ?_
 refine cg (args := [.agg (wcl tb tc k n f s a a' a₂ m c m' c' l.length c₂ at_).toArray]) (f31 hh) ?_
 rintro _ Z1 hz1 ⟨sc,sb,lb,mb,eb,sb',lb',mb',eb',nb,ms,mm,rfl,hS,hnb,hms,hmm⟩
 refine gn ?_; intro b9
 refine gn ?_
 have hrc : r.clean = r := hg.cl
 refine cg (args := [.agg (vsn sc nb ms mm).toArray,.agg (wcl tb tc k n f s a a' a₂ m c m' c' l.length c₂ at_).toArray,.string ver]) (f32 hS hnb hms ver hat (hr.mono hz1) (by omega) (by rw [hrc]; exact hg.nn) (fun t ht => by rw [hrc] at ht; have := ht.nodes; omega)) ?_
 rintro _ Z2 hz2 ⟨pl,t₁,rfl,hL,hs₁⟩
 rw [hrc] at hs₁
 have n₁ := hs₁.nodes
 refine gn ?_
 refine WP.drawX [(b9,cl (vsn sc nb ms mm) 104),(b4,cl (wcl tb tc k n f s a a' a₂ m c m' c' l.length c₂ at_) 43),(b5,cl [.int .i64 k₀,.int .i64 n₀,.float .f64 f₀,.string s₀,.slice a₀ m₀ c₀,.slice a₀' m₀' c₀'] 37)] [0,1,2,3,5,6,7,4,8,9,10,11,12,13] mo (by decide +kernel) ?_
 refine gn ?_
 have hz02 := hz1.trans hz2
 refine cp (f34 sc nb ms mm ver (hz2 _ _ hms)) ?_
 rintro _ rfl
 refine cg (args := [pt sc,.agg (tref nb).toArray,.agg #[.int .i64 k₀,.int .i64 n₀,.float .f64 f₀,.string s₀,.slice a₀ m₀ c₀,.slice a₀' m₀' c₀'],.bool false]) (f33 (hS.mono hz2) (hz2 _ _ hnb) (hro.mono hz02) hso hno (fun t ht => by have := ht.nodes; omega)) ?_
 rintro _ Z3 hz3 ⟨po,t₂,rfl,hO,hs₂⟩
 have n₂ := hs₂.nodes
 have hz13 := hz2.trans hz3
 refine gn ?_
 refine WP.drawX [(b9,cl (vsn sc nb ms mm) 104),(b4,cl (wcl tb tc k n f s a a' a₂ m c m' c' l.length c₂ at_) 43)] [0,1,3,4,5,6,7,9,2,8,10,11,12,13,14,15,16,17] mo (by decide +kernel) ?_
 refine gn ?_
 refine cg (args := [.agg (wcl tb tc k n f s a a' a₂ m c m' c' l.length c₂ at_).toArray,.agg (vsn sc nb ms mm).toArray]) f35 ?_
 rintro _ Z4 hz4 ⟨uu,rfl,huu⟩
 have hz14 := hz13.trans hz4
 have hz04 := hz1.trans hz14
 refine ct (args := [.slice a₂ l.length c₂]) (f37 (ver := ver) hU (by omega) (hm.mono fun _ _ h => inT.lw hz04.lw rfl h) (hl.mono hz04) (fun o ho => ⟨by have := hg.bd o ho; omega,fun p hp => by
  obtain ⟨h1,⟨u,h2⟩,h3⟩ := hg.pth ho hp
  have := (hs₁.dm.2 ⟨u,h2⟩).len
  exact ⟨by omega,h3⟩⟩) hg.nd) ?_
 rintro _ Z5 _ hz5 ⟨mm₁,es,cc,F,rfl,rfl,hF,hFx,hel⟩
 have hz15 := hz14.trans hz5
 have hFo : ∀ k x,F.has k x ↔ ownL l k x := fun k x => by
  rw [hFx]
  constructor
  ·rintro ⟨o,ho,hk,hx,_⟩; exact ⟨o,ho,hk,hx⟩
  ·rintro ⟨o,ho,hk,hx⟩; exact ⟨o,ho,hk,hx,(hg.pth ho hx).1⟩
 have hI : Inv t₁ F.has := (hg.inv.congr fun k x => (hFo k x).symm).inv hs₁
 have ux : UX Z5 sc sb lb mb eb nb ms mm uu := ⟨(hS.mono hz15).d,hz15 _ _ hnb,hz15 _ _ hms,hz15 _ _ hmm,hz5 _ _ huu⟩
 have hL5 := hL.mono (hz3.trans (hz4.trans hz5))
 have hO5 := hO.mono (hz4.trans hz5)
 have hcp' := hcp.cp hs₁ hs₂
 refine ct (args := [pt uu,pt pl,pt po,.string ver,.map (some mm₁),.string w]) (f39 ux hU ver w hL5 hO5 (hz15 _ _ hnb) hF hcp' (by omega) (by omega) (hg.inU.tv hs₁) (hoU.tv hs₂) (fun k x hx => (hI.sub k x hx).2) (by
  have : es.length * t₁.sz ≤ 1024 * 262144 := Nat.mul_le_mul (by omega) (by omega)
  omega)) ?_
 rintro _ Z6 _ hz6 ⟨mm₂,es',cc',G,R,M,A,rfl,rfl,hG,hcmp,hw,hk,hkey⟩
 have hI' : Inv t₂ G.has := hI.update hL.uk hcp' hcmp hw hk
 have hel' : es'.length ≤ es.length + 1 := by
  have := hG.len (es' := ⟨w,.nilIface,0⟩ :: es) fun k hk' => by
   rcases hkey k hk' with e | hk'
   ·subst e; simp [keys]
   ·obtain ⟨e,he,rfl⟩ := hF.no k hk'
    exact List.mem_cons_of_mem _ (List.mem_map_of_mem he)
  simpa using this
 refine o_move rfl ?_
 refine o_extract rfl rfl rfl ?_
 refine o_extract rfl rfl rfl ?_
 refine o_extract rfl rfl rfl ?_
 refine o_assign rfl ?_
 refine o_assign rfl ?_
 refine o_assign rfl ?_
 refine r_end ?_
 refine q_n ?_
 refine WP.fz mm₂ ?_
 intro Z7 hz7 hmz
 refine gn ?_
 refine cg (args := [pt po,.map (some mm₂),.nilIface]) (f38o (hO5.mono (hz6.trans hz7)) (by omega) hU hmz (hG.mono hz7) (by omega) (mf_bd hG hI' hO.uk (by omega))) ?_
 rintro _ Z8 hz8 ⟨r',l',cs,rfl,hac,hwl,hof⟩
 obtain ⟨_,_,_,_,_,_,_,_,_,_,_,_,_,_,_,_,rfl⟩ := hac.ten
 refine gn ?_
 exact finC1 rfl fun Z' hz' _ => ⟨r',l',_,rfl,hac.mono hz',nxt_of hwl hof hI' (hoU.tv hs₂) (by omega) (by omega) fun b tb hb htb c1 c2 => c2.cp hs₂ htb⟩
end
end Go.Ux
namespace Go.Ux
open Go Go.Proofs
set_option maxRecDepth 20000
attribute [local irreducible] WP Tr
theorem WP.fzSH {P : Program} {n e k : Nat} {c : Code} {Q : Post} {f : Fr} {Z : Fz} {H R : Hp} {v : Value} {cs : List Value} (hs : Sl e k v cs H) (h : ∀ Z' m,Fz.le Z Z' → Rs (inT Z' e) k v m cs → WP P n c Q f Z' R) : WP P n c Q f Z (H ++ R) := by
 cases hs with
 | nil => exact h Z 0 (.refl Z) (.nil 0)
 | row b n c cs rest h1 h2 h3 => exact WP.freeze fun Z' hz hb => h Z' n hz (.row b 0 n c e _ _ ⟨hb,_,rfl⟩ (by simp [← h1]) h1 h3)
section
variable {Z : Fz} {U : List Nm} {tb tc : Nat} {k n : Int} {f : Nat} {s : ByteArray} {a a' a₂ : Option Addr} {m c m' c' c₂ : Nat} {at_ ver : ByteArray} {r ro : RV} {l : List Ow} {mcs oc : List Value}
set_option maxHeartbeats 8000000 in
theorem f18 (hU : U.length ≤ 1073741824) (hh : Shc Z tb) (hr : RVc Z r [.int .i64 k,.int .i64 n,.float .f64 f,.string s,.slice a m c,.slice a' m' c']) (hm : Rs (inT Z 79) 4 (.slice a₂ l.length c₂) l.length mcs) (hl : OWl Z ver l mcs) (hat : at_ = ⟨#[]⟩ ∨ at_ = ver)
  (hg : Good U r l) (hro : RVc Z ro oc) (hso : ro.sz ≤ 1048576) (hno : NoN ro.clean) (hoU : ro.clean.inU U) (hcp : CpR r ro.clean) (ho6 : ro.clean.k = 6) (hb : r.nodes + ro.clean.nodes ≤ 262144) (hll : l.length ≤ 1024) (w : ByteArray) (force : Bool) :
  Gr Tryz.prog 18 #[.agg (wcl tb tc k n f s a a' a₂ m c m' c' l.length c₂ at_).toArray,.agg oc.toArray,.string ver,.string w,.bool force] Z fun x Z' => ∃ ok ch r' l' cs,x = .agg cs.toArray ∧ AnC Z' ver ok ch r' l' cs ∧ (ok = true → Nxt U r l ro.clean (if ch then r' else r) l') := by
 have hro' := hro
 obtain ⟨k₀,n₀,f₀,s₀,a₀,a₀',m₀,c₀,m₀',c₀',rfl⟩ := hro'.six
 have hrs := hg.cl.sz
 have hon : 1 ≤ ro.clean.nodes := by cases ro.clean; simp only [RV.nodes]; omega
 have hrN : 1 ≤ r.nodes := by cases r; simp only [RV.nodes]; omega
 refine Gr.intro Tryz.func18 rfl Tryz.ntmps18 Tryz.results18 rfl ?_
 refine gn ?_; intro b5
 refine gn ?_; intro b6
 refine gn ?_; intro b10
 refine gn ?_
 refine cg (args := [.agg (wcl tb tc k n f s a a' a₂ m c m' c' l.length c₂ at_).toArray]) (f31 hh) ?_
 rintro _ Z1 hz1 ⟨sc,sb,lb,mb,eb,sb',lb',mb',eb',nb,ms,mm,rfl,hS,hnb,hms,hmm⟩
 refine gn ?_; intro b11
 refine gn ?_
 have hrc : r.clean = r := hg.cl
 refine cg (args := [.agg (vsn sc nb ms mm).toArray,.agg (wcl tb tc k n f s a a' a₂ m c m' c' l.length c₂ at_).toArray,.string ver]) (f32 hS hnb hms ver hat (hr.mono hz1) (by omega) (by rw [hrc]; exact hg.nn) (fun t ht => by rw [hrc] at ht; have := ht.nodes; omega)) ?_
 rintro _ Z2 hz2 ⟨pl,t₁,rfl,hL,hs₁⟩
 rw [hrc] at hs₁
 have n₁ := hs₁.nodes
 refine gn ?_
 refine WP.drawX [(b11,cl (vsn sc nb ms mm) 104),(b5,cl (wcl tb tc k n f s a a' a₂ m c m' c' l.length c₂ at_) 43),(b6,cl [.int .i64 k₀,.int .i64 n₀,.float .f64 f₀,.string s₀,.slice a₀ m₀ c₀,.slice a₀' m₀' c₀'] 37)] [0,1,2,3,5,4,6,7,8,9,10,11] mo (by decide +kernel) ?_
 refine gn ?_
 have hz02 := hz1.trans hz2
 refine cp (f34 sc nb ms mm ver (hz2 _ _ hms)) ?_
 rintro _ rfl
 refine cg (args := [pt sc,.agg (tref nb).toArray,.agg #[.int .i64 k₀,.int .i64 n₀,.float .f64 f₀,.string s₀,.slice a₀ m₀ c₀,.slice a₀' m₀' c₀'],.bool false]) (f33 (hS.mono hz2) (hz2 _ _ hnb) (hro.mono hz02) hso hno (fun t ht => by have := ht.nodes; omega)) ?_
 rintro _ Z3 hz3 ⟨po,t₂,rfl,hO,hs₂⟩
 have n₂ := hs₂.nodes
 have hz13 := hz2.trans hz3
 refine gn ?_
 refine WP.drawX [(b11,cl (vsn sc nb ms mm) 104),(b5,cl (wcl tb tc k n f s a a' a₂ m c m' c' l.length c₂ at_) 43)] [0,1,3,4,5,6,7,9,10,2,8,11,12,13,14,15,16,17,18] mo (by decide +kernel) ?_
 refine gn ?_
 refine cg (args := [.agg (wcl tb tc k n f s a a' a₂ m c m' c' l.length c₂ at_).toArray,.agg (vsn sc nb ms mm).toArray]) f35 ?_
 rintro _ Z4 hz4 ⟨uu,rfl,huu⟩
 have hz14 := hz13.trans hz4
 have hz04 := hz1.trans hz14
 refine ct (args := [.slice a₂ l.length c₂]) (f37 (ver := ver) hU (by omega) (hm.mono fun _ _ h => inT.lw hz04.lw rfl h) (hl.mono hz04) (fun o ho => ⟨by have := hg.bd o ho; omega,fun p hp => by
  obtain ⟨h1,⟨u,h2⟩,h3⟩ := hg.pth ho hp
  have := (hs₁.dm.2 ⟨u,h2⟩).len
  exact ⟨by omega,h3⟩⟩) hg.nd) ?_
 rintro _ Z5 _ hz5 ⟨mm₁,es,cc,F,rfl,rfl,hF,hFx,hel⟩
 have hz15 := hz14.trans hz5
 have hFo : ∀ k x,F.has k x ↔ ownL l k x := fun k x => by
  rw [hFx]
  constructor
  ·rintro ⟨o,ho,hk,hx,_⟩; exact ⟨o,ho,hk,hx⟩
  ·rintro ⟨o,ho,hk,hx⟩; exact ⟨o,ho,hk,hx,(hg.pth ho hx).1⟩
 have hI : Inv t₁ F.has := (hg.inv.congr fun k x => (hFo k x).symm).inv hs₁
 have ux : UX Z5 sc sb lb mb eb nb ms mm uu := ⟨(hS.mono hz15).d,hz15 _ _ hnb,hz15 _ _ hms,hz15 _ _ hmm,hz5 _ _ huu⟩
 have hL5 := hL.mono (hz3.trans (hz4.trans hz5))
 have hO5 := hO.mono (hz4.trans hz5)
 have hcp' := hcp.cp hs₁ hs₂
 have hoc : t₂.cls = 0 := hs₂.kind.2.2.2.1 ho6
 refine ct (args := [pt uu,pt pl,pt po,.string ver,.map (some mm₁),.string w,.bool force]) (f36 ux hU ver w force hL5 hO5 (hz15 _ _ hnb) hF hcp' hoc (by omega) (hg.inU.tv hs₁) (hoU.tv hs₂) (fun k x hx => (hI.sub k x hx).2) (by
  have : (es.length + 1) * t₁.sz ≤ 1025 * 262144 := Nat.mul_le_mul (by omega) (by omega)
  omega)) ?_
 rintro _ Z6 H6 hz6 (⟨_,v6,cs6,Hs6,l6,mX,rfl,hsl6,hcl6,hll6,rfl⟩ | ⟨mm₂,es',cc',g,R,M,A,G,N,pv,rfl,rfl,hG,mg,pr,hcmp,gu,nu,hpv,hw,hk,hkey⟩)
 ·haveI := hsl6.one
  refine o_move rfl ?_
  refine o_extract rfl rfl rfl ?_
  refine o_extract rfl rfl rfl ?_
  refine o_extract rfl rfl rfl ?_
  refine o_assign rfl ?_
  refine o_assign rfl ?_
  refine o_assign rfl ?_
  refine r_end ?_
  refine q_n ?_
  refine WP.only (Hs6 ++ [(b10,cl [.bool false,.slice none 0 0,.bool false,.int .i64 0,.int .i64 0,.float .f64 0,.string ⟨#[]⟩,.slice none 0 0,.slice none 0 0,.slice none 0 0] 49)]) ?_
  refine WP.fzSH hsl6 ?_
  intro Z7 mm₂ hz7 hrs7
  obtain ⟨ax,cx,rfl⟩ := hrs7.sl
  refine gn ?_
  refine cg (args := [.pointer none,.map (some mX),.iface 176 (.slice ax mm₂ cx)]) (f38c (ver := ver) (mv := .map (some mX)) hrs7 (hcl6.mono hz7) hll6) ?_
  rintro _ Z8 hz8 ⟨cs,rfl,hac⟩
  obtain ⟨_,_,_,_,_,_,_,_,_,_,_,_,_,_,_,_,rfl⟩ := hac.ten
  refine gn ?_
  exact finC1 rfl fun Z' hz' _ => ⟨false,false,_,_,_,rfl,hac.mono hz',fun h => by cases h⟩
 ·obtain ⟨S,hSm⟩ := pr.rm gu
  have hGs := mg.sz hL.uk hO.uk gu
  have hNs := hSm.sz gu nu
  have hNU := hSm.inU (mg.inU (hg.inU.tv hs₁) (hoU.tv hs₂))
  have hI' : Inv N g.has := hI.apply hL.uk gu nu mg pr hcmp hw hk
  have hel' : es'.length ≤ es.length + 1 := by
   have := hG.len (es' := ⟨w,.nilIface,0⟩ :: es) fun k hk' => by
    rcases hkey k hk' with e | hk'
    ·subst e; simp [keys]
    ·obtain ⟨e,he,rfl⟩ := hF.no k hk'
     exact List.mem_cons_of_mem _ (List.mem_map_of_mem he)
   simpa using this
  rcases hpv with ⟨pN,rfl,hN⟩ | ⟨rfl,hal⟩
  ·refine o_move rfl ?_
   refine o_extract rfl rfl rfl ?_
   refine o_extract rfl rfl rfl ?_
   refine o_extract rfl rfl rfl ?_
   refine o_assign rfl ?_
   refine o_assign rfl ?_
   refine o_assign rfl ?_
   refine r_end ?_
   refine q_n ?_
   refine WP.fz mm₂ ?_
   intro Z7 hz7 hmz
   refine gn ?_
   refine cg (args := [pt pN,.map (some mm₂),.nilIface]) (f38o (hN.mono hz7) (by omega) hU hmz (hG.mono hz7) (by omega) (mf_bd hG hI' nu (by omega))) ?_
   rintro _ Z8 hz8 ⟨r',l',cs,rfl,hac,hwl,hof⟩
   obtain ⟨_,_,_,_,_,_,_,_,_,_,_,_,_,_,_,_,rfl⟩ := hac.ten
   refine gn ?_
   exact finC1 rfl fun Z' hz' _ => ⟨true,true,r',l',_,rfl,hac.mono hz',fun _ => nxt_of hwl hof hI' hNU (by omega) (by omega) fun b tb hb htb c1 c2 => pr.cp gu (Cp.merge mg (c1.cp hs₁ htb) (c2.cp hs₂ htb))⟩
  ·refine o_move rfl ?_
   refine o_extract rfl rfl rfl ?_
   refine o_extract rfl rfl rfl ?_
   refine o_extract rfl rfl rfl ?_
   refine o_assign rfl ?_
   refine o_assign rfl ?_
   refine o_assign rfl ?_
   refine r_end ?_
   refine q_n ?_
   refine WP.fz mm₂ ?_
   intro Z7 hz7 hmz
   refine gn ?_
   refine cg (args := [.pointer none,.map (some mm₂),.nilIface]) (f38n hU hmz (hG.mono hz7) (by omega) (mf_bd hG hI' nu (by omega))) ?_
   rintro _ Z8 hz8 ⟨l',cs,rfl,hac,hof⟩
   obtain ⟨_,_,_,_,_,_,_,_,_,_,_,_,_,_,_,_,rfl⟩ := hac.ten
   refine gn ?_
   exact finC1 rfl fun Z' hz' _ => ⟨true,false,_,l',_,rfl,hac.mono hz',fun _ => ⟨⟨hg.cl,hg.nn,(InvR.of (hI'.sim hal) hs₁).congr hof.has,hg.inU,hof.inc.nodup,hof.bd⟩,by simp,by have := hof.len; omega,fun b _ c1 _ => c1⟩⟩
end
end Go.Ux
namespace Go.Ux
open Go Go.Proofs
set_option maxRecDepth 20000
attribute [local irreducible] WP Tr
structure Stp where
 ap : Bool
 fc : Bool
 mg : Nm
 vr : Nm
 ob : RV
structure Ans where
 ok : Bool
 ch : Bool
 r : RV
 l : List Ow
def STc (Z : Fz) (t : Stp) (cs : List Value) : Prop := ∃ oc,cs = [.bool t.ap,.bool t.fc,.string t.mg,.string t.vr] ++ oc ∧ RVc Z t.ob oc
def STl (Z : Fz) : List Stp → List Value → Prop
 | [],cs => cs = []
 | t :: l,cs => ∃ c r,cs = c ++ r ∧ STc Z t c ∧ STl Z l r
def ANl (Z : Fz) (ver : ByteArray) : List Ans → List Value → Prop
 | [],cs => cs = []
 | t :: l,cs => ∃ c r,cs = c ++ r ∧ AnC Z ver t.ok t.ch t.r t.l c ∧ ANl Z ver l r
section
variable {Z Z' : Fz} {ver : ByteArray}
theorem STc.mono (hz : Fz.le Z Z') {t : Stp} {cs : List Value} (h : STc Z t cs) : STc Z' t cs := by
 obtain ⟨oc,h1,h2⟩ := h
 exact ⟨oc,h1,h2.mono hz⟩
theorem STl.mono (hz : Fz.le Z Z') : ∀ {l : List Stp} {cs : List Value},STl Z l cs → STl Z' l cs
 | [],_,h => h
 | _ :: _,_,⟨c,r,h1,h2,h3⟩ => ⟨c,r,h1,h2.mono hz,h3.mono hz⟩
theorem STc.len {t : Stp} {cs : List Value} (h : STc Z t cs) : cs.length = 10 := by
 obtain ⟨oc,rfl,h⟩ := h
 have := h.len
 simp [this]
theorem STl.len : ∀ {l : List Stp} {cs : List Value},STl Z l cs → cs.length = l.length * 10
 | [],_,h => by simp only [STl] at h; subst h; rfl
 | _ :: _,_,⟨c,r,h1,h2,h3⟩ => by rw [h1,List.length_append,h2.len,h3.len,List.length_cons]; omega
theorem STl.at : ∀ {l : List Stp} {cs : List Value} {i : Nat} {t : Stp},STl Z l cs → l[i]? = some t → STc Z t ((cs.drop (i * 10)).take 10)
 | [],_,_,_,_,h => by simp at h
 | q :: l,_,i,o,⟨c,r,h1,h2,h3⟩,h => by
  subst h1
  have hl := h2.len
  cases i with
  | zero =>
   simp at h; subst h
   simpa [List.take_append,hl] using h2
  | succ i =>
   simp only [List.getElem?_cons_succ] at h
   have := h3.at h
   rw [List.drop_append,List.drop_of_length_le (l := c) (by omega),List.nil_append,hl,show (i + 1) * 10 - 10 = i * 10 by omega]
   exact this
theorem ANl.mono (hz : Fz.le Z Z') : ∀ {l : List Ans} {cs : List Value},ANl Z ver l cs → ANl Z' ver l cs
 | [],_,h => h
 | _ :: _,_,⟨c,r,h1,h2,h3⟩ => ⟨c,r,h1,h2.mono hz,h3.mono hz⟩
theorem AnC.len {ok ch : Bool} {r : RV} {l : List Ow} {cs : List Value} (h : AnC Z ver ok ch r l cs) : cs.length = 10 := by
 obtain ⟨_,_,_,_,_,_,_,_,_,_,_,_,_,_,_,_,rfl⟩ := h.ten; rfl
theorem ANl.len : ∀ {l : List Ans} {cs : List Value},ANl Z ver l cs → cs.length = l.length * 10
 | [],_,h => by simp only [ANl] at h; subst h; rfl
 | _ :: _,_,⟨c,r,h1,h2,h3⟩ => by rw [h1,List.length_append,h2.len,h3.len,List.length_cons]; omega
theorem ANl.snoc {t : Ans} {e : List Value} (h' : AnC Z ver t.ok t.ch t.r t.l e) : ∀ {l : List Ans} {cs : List Value},ANl Z ver l cs → ANl Z ver (l ++ [t]) (cs ++ e)
 | [],_,h => by simp only [ANl] at h; subst h; exact ⟨e,[],by simp,h',rfl⟩
 | _ :: _,_,⟨c,r,h1,h2,h3⟩ => ⟨c,r ++ e,by rw [h1,List.append_assoc],h2,h3.snoc h'⟩
theorem ANl.at : ∀ {l : List Ans} {cs : List Value} {i : Nat} {t : Ans},ANl Z ver l cs → l[i]? = some t → AnC Z ver t.ok t.ch t.r t.l ((cs.drop (i * 10)).take 10)
 | [],_,_,_,_,h => by simp at h
 | q :: l,_,i,o,⟨c,r,h1,h2,h3⟩,h => by
  subst h1
  have hl := h2.len
  cases i with
  | zero =>
   simp at h; subst h
   simpa [List.take_append,hl] using h2
  | succ i =>
   simp only [List.getElem?_cons_succ] at h
   have := h3.at h
   rw [List.drop_append,List.drop_of_length_le (l := c) (by omega),List.nil_append,hl,show (i + 1) * 10 - 10 = i * 10 by omega]
   exact this
theorem elt10 {T : Nat} {a : Option Addr} {n c i : Nat} {cs e : List Value} (hr : Rs (inQ Z T) 10 (.slice a n c) n cs) (he : (cs.drop (i * 10)).take 10 = e) (hi : i < n) :
  ∃ b off xs,a = some ⟨b,off,none⟩ ∧ Rdz Z b (cl xs T) ∧ (xs.drop (off + i * 10)).take 10 = e := by
 cases hr with
 | nil => omega
 | emp => omega
 | row b off n c U xs ds h hd hl hn =>
  obtain ⟨h,ys,e'⟩ := h
  cases e'
  exact ⟨b,off,_,rfl,h,by rw [row_at hd hi]; exact he⟩
theorem AnC.full {ok ch : Bool} {r : RV} {l : List Ow} {cs : List Value} (h : AnC Z ver ok ch r l cs) : ∃ (a₀ : Option Addr) (n₀ c₀ : Nat) (k n : Int) (f : Nat) (s : ByteArray) (a a' a₂ : Option Addr) (m c m' c' c₂ : Nat) (mcs : List Value),
  cs = [.bool ok,.slice a₀ n₀ c₀,.bool ch,.int .i64 k,.int .i64 n,.float .f64 f,.string s,.slice a m c,.slice a' m' c',.slice a₂ l.length c₂] ∧ RVc Z r [.int .i64 k,.int .i64 n,.float .f64 f,.string s,.slice a m c,.slice a' m' c'] ∧
  Rs (inT Z 79) 4 (.slice a₂ l.length c₂) l.length mcs ∧ OWl Z ver l mcs := by
 obtain ⟨a₀,n₀,c₀,lc,mv,rfl,h2,⟨mcs,h3,h4⟩⟩ := h.c
 have h2' := h2
 obtain ⟨k,n,f,s,a,a',m,c,m',c',rfl⟩ := h2'.six
 obtain ⟨a₂,c₂,rfl⟩ := h3.sl
 exact ⟨a₀,n₀,c₀,k,n,f,s,a,a',a₂,m,c,m',c',c₂,mcs,rfl,h2,h3,h4⟩
end
def stp (p : RV × List Ow) (a : Ans) : RV × List Ow := if a.ok then (if a.ch then a.r else p.1,a.l) else p
structure GoodB (U : List Nm) (p : RV × List Ow) : Prop where
 g : Good U p.1 p.2
 n : p.1.nodes ≤ 200000
 l : p.2.length ≤ 1000
def Chn (U : List Nm) (p : RV × List Ow) (aw : List Ans) : Prop := ∀ i,i ≤ aw.length → GoodB U ((aw.take i).foldl stp p)
theorem Chn.snoc {U : List Nm} {p : RV × List Ow} {aw : List Ans} {a : Ans} (h : Chn U p aw) (hg : GoodB U (stp (aw.foldl stp p) a)) : Chn U p (aw ++ [a]) := by
 intro i hi
 rw [List.length_append,List.length_singleton] at hi
 by_cases h1 : i ≤ aw.length
 ·rw [List.take_append_of_le_length h1]; exact h i h1
 ·have e : i = aw.length + 1 := by omega
  subst e
  rw [List.take_of_length_le (by simp),List.foldl_append]
  exact hg
def nmV : ByteArray := ⟨#[118,49]⟩
structure Okay (U : List Nm) (ts : List Stp) : Prop where
 len : ts.length ≤ 12
 vr : ∀ t ∈ ts,t.vr = nmV
 sz : ∀ t ∈ ts,t.ob.sz ≤ 1048576
 nn : ∀ t ∈ ts,NoN t.ob.clean
 nd : ∀ t ∈ ts,t.ob.clean.nodes ≤ 400
 k6 : ∀ t ∈ ts,t.ob.clean.k = 6
 inU : ∀ t ∈ ts,t.ob.clean.inU U
 cp : ∀ t ∈ ts,∀ t' ∈ ts,CpR t.ob.clean t'.ob.clean
section
variable {Z : Fz} {U : List Nm} {tb tc : Nat} {k n : Int} {f : Nat} {s : ByteArray} {a a' a₂ : Option Addr} {m c m' c' c₂ : Nat} {at_ ver : ByteArray} {r ro : RV} {l : List Ow} {mcs oc : List Value}
theorem f19' (hU : U.length ≤ 1073741824) (hh : Shc Z tb) (hr : RVc Z r [.int .i64 k,.int .i64 n,.float .f64 f,.string s,.slice a m c,.slice a' m' c']) (hm : Rs (inT Z 79) 4 (.slice a₂ l.length c₂) l.length mcs) (hl : OWl Z ver l mcs) (hat : at_ = ⟨#[]⟩ ∨ at_ = ver)
  (hg : Good U r l) (hro : RVc Z ro oc) (hso : ro.sz ≤ 1048576) (hno : NoN ro.clean) (hoU : ro.clean.inU U) (hcp : CpR r ro.clean) (hb : r.nodes + ro.clean.nodes ≤ 262144) (hll : l.length ≤ 1024) (w : ByteArray) :
  Gr Tryz.prog 19 #[.agg (wcl tb tc k n f s a a' a₂ m c m' c' l.length c₂ at_).toArray,.agg oc.toArray,.string ver,.string w] Z fun x Z' => ∃ ok ch r' l' cs,x = .agg cs.toArray ∧ AnC Z' ver ok ch r' l' cs ∧ (ok = true → Nxt U r l ro.clean (if ch then r' else r) l') :=
 Tr.mono (f19 hU hh hr hm hl hat hg hro hso hno hoU hcp hb hll w) fun _ _ _ ⟨⟨r',l',cs,h1,h2,h3⟩,h4⟩ => ⟨⟨true,true,r',l',cs,h1,h2,fun _ => h3⟩,h4⟩
set_option maxHeartbeats 16000000 in
theorem f6 {a₁ : Option Addr} {c₁ : Nat} {ts : List Stp} {tcs : List Value} (hU : U.length ≤ 1073741824) (hh : Shc Z tb) (hr : RVc Z r [.int .i64 k,.int .i64 n,.float .f64 f,.string s,.slice a m c,.slice a' m' c']) (hm : Rs (inT Z 79) 4 (.slice a₂ 0 c₂) 0 []) (hg : Good U r []) (hrn : r.nodes ≤ 1)
  (hts : Rs (inQ Z 61) 10 (.slice a₁ ts.length c₁) ts.length tcs) (htl : STl Z ts tcs) (hok : Okay U ts) (hcr : ∀ t ∈ ts,CpR r t.ob.clean) :
  Gr Tryz.prog 6 #[.agg (wcl tb tc k n f s a a' a₂ m c m' c' 0 c₂ ⟨#[]⟩).toArray,.slice a₁ ts.length c₁] Z fun x Z' => ∃ aw acs,Rs (inT Z' 49) 10 x aw.length acs ∧ ANl Z' nmV aw acs ∧ aw.length = ts.length ∧ Chn U (r,[]) aw := by
 have hol := hok.len
 refine Gr.intro Tryz.func6 rfl Tryz.ntmps6 Tryz.results6 rfl ?_
 refine gn ?_; intro b2
 refine gn ?_
 refine WP.loopK (5 :: 7 :: 8 :: List.range' 11 42) (fun mm g Z' H' => ∃ (i : Nat) (lv : Value) (aw : List Ans) (acs : List Value) (Hl : Hp) (rn : RV) (ln : List Ow) (k n : Int) (f : Nat) (s : ByteArray) (a a' a₂ : Option Addr) (m c m' c' c₂ : Nat) (at_ : ByteArray) (mcs : List Value),
   g 11 = .int .i64 (i : Int) ∧ g 5 = lv ∧ i ≤ ts.length ∧ mm = ts.length - i ∧ Sl 49 10 lv acs Hl ∧ ANl Z' nmV aw acs ∧ aw.length = i ∧ Chn U (r,[]) aw ∧ aw.foldl stp (r,[]) = (rn,ln) ∧ Good U rn ln ∧ rn.nodes ≤ 1 + 400 * i ∧ ln.length ≤ i ∧ (∀ t ∈ ts,CpR rn t.ob.clean) ∧ (at_ = ⟨#[]⟩ ∨ at_ = nmV) ∧
   RVc Z' rn [.int .i64 k,.int .i64 n,.float .f64 f,.string s,.slice a m c,.slice a' m' c'] ∧ Rs (inT Z' 79) 4 (.slice a₂ ln.length c₂) ln.length mcs ∧ OWl Z' nmV ln mcs ∧ H' = Hl ++ [(b2,cl (wcl tb tc k n f s a a' a₂ m c m' c' ln.length c₂ at_) 43)]) ts.length
  ⟨0,_,[],[],[],r,[],k,n,f,s,a,a',a₂,m,c,m',c',c₂,⟨#[]⟩,[],rfl,rfl,by omega,by omega,.nil,by simp [ANl],rfl,fun i hi => by
   have : i = 0 := by simpa using hi
   subst this
   exact ⟨hg,by show r.nodes ≤ _; omega,by simp⟩,rfl,hg,by omega,by simp,hcr,.inl rfl,hr,hm,by simp [OWl],rfl⟩ ?_
 rintro mm g Z' H' hz ⟨i,lv,aw,acs,Hl,rn,ln,k,n,f,s,a,a',a₂,m,c,m',c',c₂,at_,mcs,h11,h5,hi,rfl,hsl,hal,hasl,hch,hfin,hgn,hnn,hln,hcn,hat,hrn',hmn,holn,rfl⟩
 haveI := hsl.one
 refine WP.pin 11 h11 ?_
 refine WP.pin 5 h5 ?_
 have hacl := hal.len
 by_cases hin : i < ts.length
 ·obtain ⟨t,ht⟩ : ∃ t,ts[i]? = some t := ⟨ts[i],by simp⟩
  have htm := List.mem_of_getElem? ht
  obtain ⟨ap,fc,mg,vr,ob⟩ := t
  have e1 := hok.vr _ htm
  simp only at e1
  subst e1
  obtain ⟨oc,hoc,hob⟩ := (htl.mono hz).at ht
  simp only at hoc hob
  have hob' := hob
  obtain ⟨k₀,n₀,f₀,s₀,a₀,a₀',m₀,c₀,m₀',c₀',rfl⟩ := hob'.six
  have h2 := hok.nd _ htm
  have h3 := hok.k6 _ htm
  simp only at h2 h3
  obtain ⟨b,off,xs,rfl,hb,hld⟩ := elt10 (hts.mono fun _ _ h => inQ.le hz h) hoc hin
  simp only [List.cons_append,List.nil_append] at hld
  haveI : Zf Z' b (cl xs 61) := ⟨hb⟩
  have hh' := hh.mono hz
  cases ap
  all_goals
   refine gn ?_
   refine o_indexAddr rfl rfl rfl hin ?_
   refine o_loadN rfl rfl hld rfl ?_
   refine gn ?_; intro b7
   refine gn ?_; intro b8
   refine gn ?_
   first
    | refine cg (args := [.agg (wcl tb tc k n f s a a' a₂ m c m' c' ln.length c₂ at_).toArray,.agg #[.int .i64 k₀,.int .i64 n₀,.float .f64 f₀,.string s₀,.slice a₀ m₀ c₀,.slice a₀' m₀' c₀'],.string nmV,.string mg,.bool fc]) (f18 hU hh' hrn' hmn holn hat hgn hob (hok.sz _ htm) (hok.nn _ htm) (hok.inU _ htm) (hcn _ htm) h3 (by omega) (by omega) mg fc) ?_
    | refine cg (args := [.agg (wcl tb tc k n f s a a' a₂ m c m' c' ln.length c₂ at_).toArray,.agg #[.int .i64 k₀,.int .i64 n₀,.float .f64 f₀,.string s₀,.slice a₀ m₀ c₀,.slice a₀' m₀' c₀'],.string nmV,.string mg]) (f19' hU hh' hrn' hmn holn hat hgn hob (hok.sz _ htm) (hok.nn _ htm) (hok.inU _ htm) (hcn _ htm) (by omega) (by omega) mg) ?_
   rintro _ Z2 hz2 ⟨ok,ch,r',l',cs,rfl,hac,hnx⟩
   have hac0 := hac
   obtain ⟨aA,nA,cA,kk,nn,ff,ss,aa,aa',aa₂,mm',cc,mm'',cc',cc₂,mcs',rfl,hr',hm',ho'⟩ := hac0.full
   have hal2 := (hal.mono hz2).snoc (t := ⟨ok,ch,r',l'⟩) hac
   refine gn ?_; intro vb
   refine oap hsl rfl rfl rfl (Rs.cells (inferInstance : Mem false _ _ _ vb (cl _ 49)) rfl (Nat.le_refl 1)) (by simp [Value.oneCell']) (by omega) (by simp; omega) ?_
   intro lv2 Hl2 hl2
   haveI := hl2.one
   have hmz := hmn.mono fun _ _ h => inT.lw hz2.lw rfl h
   cases ok with
   | false =>
    refine gn ?_
    exact ⟨bk,ts.length - (i + 1),Hl2 ++ [(b2,cl (wcl tb tc k n f s a a' a₂ m c m' c' ln.length c₂ at_) 43)],_,by omega,spp,i + 1,lv2,aw ++ [⟨false,ch,r',l'⟩],_,Hl2,rn,ln,k,n,f,s,a,a',a₂,m,c,m',c',c₂,at_,mcs,rfl,rfl,by omega,rfl,hl2,hal2,by simp [hasl],
     hch.snoc (by rw [hfin]; exact ⟨hgn,by show rn.nodes ≤ _; omega,by show ln.length ≤ _; omega⟩),by rw [List.foldl_append,hfin]; rfl,hgn,by omega,by omega,hcn,hat,hrn'.mono hz2,hmz,holn.mono hz2,rfl⟩
   | true =>
    have nx := hnx rfl
    have q1 := nx.nodes
    have q2 := nx.len
    have hcp2 : ∀ t ∈ ts,CpR (if ch then r' else rn) t.ob.clean := fun t ht => nx.cp _ (.of _) (hcn t ht) (hok.cp _ htm t ht)
    cases ch with
    | false =>
     refine gn ?_
     exact ⟨bk,ts.length - (i + 1),Hl2 ++ [(b2,cl (wcl tb tc k n f s a a' aa₂ m c m' c' l'.length cc₂ at_) 43)],_,by omega,spp,i + 1,lv2,aw ++ [⟨true,false,r',l'⟩],_,Hl2,rn,l',k,n,f,s,a,a',aa₂,m,c,m',c',cc₂,at_,mcs',rfl,rfl,by omega,rfl,hl2,hal2,by simp [hasl],
      hch.snoc (by rw [hfin]; exact ⟨nx.gd,by show rn.nodes ≤ _; omega,by show l'.length ≤ _; omega⟩),by rw [List.foldl_append,hfin]; rfl,nx.gd,by omega,by omega,hcp2,hat,hrn'.mono hz2,hm',ho',rfl⟩
    | true =>
     refine gn ?_
     first
      | refine WP.drawX [(b8,cl [.bool true,.slice aA nA cA,.bool true,.int .i64 kk,.int .i64 nn,.float .f64 ff,.string ss,.slice aa mm' cc,.slice aa' mm'' cc',.slice aa₂ l'.length cc₂] 49),(b7,cl [.bool true,.bool fc,.string mg,.string nmV,.int .i64 k₀,.int .i64 n₀,.float .f64 f₀,.string s₀,.slice a₀ m₀ c₀,.slice a₀' m₀' c₀'] 61)] [0,1,2,3,4,5,6,7] mo (by decide +kernel) ?_
      | refine WP.drawX [(b8,cl [.bool true,.slice aA nA cA,.bool true,.int .i64 kk,.int .i64 nn,.float .f64 ff,.string ss,.slice aa mm' cc,.slice aa' mm'' cc',.slice aa₂ l'.length cc₂] 49),(b7,cl [.bool false,.bool fc,.string mg,.string nmV,.int .i64 k₀,.int .i64 n₀,.float .f64 f₀,.string s₀,.slice a₀ m₀ c₀,.slice a₀' m₀' c₀'] 61)] [0,1,2,3,4,5,6,7] mo (by decide +kernel) ?_
     refine gn ?_
     simp only [if_true] at q1
     exact ⟨bk,ts.length - (i + 1),Hl2 ++ [(b2,cl (wcl tb tc kk nn ff ss aa aa' aa₂ mm' cc mm'' cc' l'.length cc₂ nmV) 43)],_,by omega,spp,i + 1,lv2,aw ++ [⟨true,true,r',l'⟩],_,Hl2,r',l',kk,nn,ff,ss,aa,aa',aa₂,mm',cc,mm'',cc',cc₂,nmV,mcs',rfl,rfl,by omega,rfl,hl2,hal2,by simp [hasl],
      hch.snoc (by rw [hfin]; exact ⟨nx.gd,by show r'.nodes ≤ _; omega,by show l'.length ≤ _; omega⟩),by rw [List.foldl_append,hfin]; rfl,nx.gd,by omega,by omega,hcp2,.inr rfl,hr',hm',ho',rfl⟩
 ·refine gn ?_
  refine fin1 fun Z'' hz'' hp => ?_
  obtain ⟨n',hn'⟩ := hsl.frz fun p h => hp p (List.mem_append_left _ h)
  have h1 := hn'.lenk
  have e : n' = aw.length := by omega
  subst e
  exact ⟨aw,acs,hn',hal.mono hz'',by omega,hch⟩
end
end Go.Ux
namespace Go.Ux
open Go Go.Proofs
set_option maxRecDepth 20000
attribute [local irreducible] WP Tr
structure Full (ts : List Stp) : Prop where
 tr : ∀ t ∈ ts,TrO t.ob
 vr : ∀ t ∈ ts,t.vr = nmV
 ka : ∀ t ∈ ts,∀ t' ∈ ts,KA t.ob.clean t'.ob.clean
theorem Full.snoc {l : List Stp} {t : Stp} (h : Full l) (h1 : TrO t.ob) (h2 : t.vr = nmV) (h3 : ∀ t' ∈ l,KA t.ob.clean t'.ob.clean) : Full (l ++ [t]) := by
 refine ⟨fun x hx => ?_,fun x hx => ?_,fun x hx y hy => ?_⟩
 ·rcases List.mem_append.1 hx with hx | hx
  ·exact h.tr x hx
  ·rw [List.mem_singleton] at hx; subst hx; exact h1
 ·rcases List.mem_append.1 hx with hx | hx
  ·exact h.vr x hx
  ·rw [List.mem_singleton] at hx; subst hx; exact h2
 ·rcases List.mem_append.1 hx with hx' | hx'
  ·rcases List.mem_append.1 hy with hy' | hy'
   ·exact h.ka x hx' y hy'
   ·rw [List.mem_singleton.1 hy']; exact (h3 x hx').symm
  ·rw [List.mem_singleton.1 hx']
   rcases List.mem_append.1 hy with hy' | hy'
   ·exact h3 y hy'
   ·rw [List.mem_singleton.1 hy']; exact KA.self (.of _)
section
variable {Z : Fz}
set_option maxHeartbeats 8000000 in
theorem f4 {a : Option Addr} {c : Nat} {ts : List Stp} {tcs : List Value} (hts : Rs (inQ Z 61) 10 (.slice a ts.length c) ts.length tcs) (htl : STl Z ts tcs) (hsz : ∀ t ∈ ts,t.ob.sz ≤ 1048576) (hlen : ts.length ≤ 1073741824) :
  Gr Tryz.prog 4 #[.slice a ts.length c] Z fun x _ => ∃ b,x = .bool b ∧ (b = true → Full ts ∧ ts.length ≤ 12) := by
 have hcap := hts.cap
 refine Gr.intro Tryz.func4 rfl Tryz.ntmps4 Tryz.results4 rfl ?_
 refine gn ?_
 refine WP.loopK (2 :: 3 :: 4 :: 6 :: List.range' 9 30) (fun mm g Z' H' => ∃ (i : Nat),g 9 = .int .i64 (i : Int) ∧ i ≤ ts.length ∧ mm = ts.length - i ∧ Full (ts.take i) ∧ H' = []) ts.length
  ⟨0,rfl,by omega,by omega,⟨by simp,by simp,by simp⟩,rfl⟩ ?_
 rintro mm g Z' H' hz ⟨i,h9,hi,rfl,hfu,rfl⟩
 refine WP.pin 9 h9 ?_
 by_cases hin : i < ts.length
 ·obtain ⟨t,ht⟩ : ∃ t,ts[i]? = some t := ⟨ts[i],by simp⟩
  have htm := List.mem_of_getElem? ht
  have htk : ts.take (i + 1) = ts.take i ++ [t] := by rw [List.take_add_one,ht]; rfl
  obtain ⟨ap,fc,mg,vr,ob⟩ := t
  obtain ⟨oc,hoc,hob⟩ := (htl.mono hz).at ht
  simp only at hoc hob
  have hos := hsz _ htm
  simp only at hos
  have hob' := hob
  obtain ⟨k₀,n₀,f₀,s₀,a₀,a₀',m₀,c₀,m₀',c₀',rfl⟩ := hob'.six
  obtain ⟨b,off,xs,rfl,hb,hld⟩ := elt10 (hts.mono fun _ _ h => inQ.le hz h) hoc hin
  simp only [List.cons_append,List.nil_append] at hld
  haveI : Zf Z' b (cl xs 61) := ⟨hb⟩
  refine gn ?_
  refine o_indexAddr rfl rfl rfl hin ?_
  refine o_loadN rfl rfl hld rfl ?_
  refine gn ?_; intro b4
  refine gn ?_
  refine cg (args := [.agg #[_,_,_,_,_,_]]) (f14 hob hos) ?_
  rintro _ Z2 hz2 ⟨q,rfl,hq⟩
  cases q with
  | false =>
   refine gn ?_
   exact fin1 fun _ _ _ => ⟨false,rfl,fun h => by cases h⟩
  | true =>
   by_cases hv : vr = nmV
   ·subst hv
    refine gn ?_
    refine o_sliceH (j := i) rfl rfl rfl (by omega) ?_
    refine gn ?_
    refine WP.loopK (2 :: 6 :: List.range' 27 11) (fun mm g Z' H' => ∃ (j : Nat),g 27 = .int .i64 (j : Int) ∧ j ≤ i ∧ mm = i - j ∧ (∀ t' ∈ ts.take j,KA ob.clean t'.ob.clean) ∧
     H' = [(b4,cl [.bool ap,.bool fc,.string mg,.string nmV,.int .i64 k₀,.int .i64 n₀,.float .f64 f₀,.string s₀,.slice a₀ m₀ c₀,.slice a₀' m₀' c₀'] 61)]) i ⟨0,rfl,by omega,by omega,by simp,rfl⟩ ?_
    rintro mm g3 Z3 H3 hz3 ⟨j,h27,hj,rfl,hal,rfl⟩
    refine WP.pin 27 h27 ?_
    by_cases hjn : j < i
    ·obtain ⟨t',ht'⟩ : ∃ t,ts[j]? = some t := ⟨ts[j],by simp⟩
     have htm' := List.mem_of_getElem? ht'
     have htk' : ts.take (j + 1) = ts.take j ++ [t'] := by rw [List.take_add_one,ht']; rfl
     obtain ⟨ap',fc',mg',vr',ob'⟩ := t'
     have hz4 := (hz.trans hz2).trans hz3
     obtain ⟨oc',hoc',hobb⟩ := (htl.mono hz4).at ht'
     simp only at hoc' hobb
     have hos' := hsz _ htm'
     simp only at hos'
     have hobb' := hobb
     obtain ⟨k₁,n₁,f₁,s₁,a₁,a₁',m₁,c₁,m₁',c₁',rfl⟩ := hobb'.six
     obtain ⟨b',off',xs',e',hb',hld'⟩ := elt10 (hts.mono fun _ _ h => inQ.le hz4 h) hoc' (by omega)
     simp only [Option.some.injEq,Addr.mk.injEq,and_true] at e'
     obtain ⟨rfl,rfl⟩ := e'
     simp only [List.cons_append,List.nil_append] at hld'
     haveI : Zf Z3 b (cl xs' 61) := ⟨hb'⟩
     refine gn ?_
     refine o_indexAddr rfl rfl rfl hjn ?_
     refine o_loadN rfl rfl hld' rfl ?_
     refine gn ?_; intro b6
     refine gn ?_
     refine cg (args := [.agg #[_,_,_,_,_,_],.agg #[_,_,_,_,_,_]]) (f15 (ob.sz + 1) ob ob' _ _ Z3 (by omega) hos hos' (hob.mono (hz2.trans hz3)) hobb) ?_
     rintro _ Z5 hz5 ⟨q,rfl,hqq⟩
     cases q with
     | false =>
      refine gn ?_
      exact fin1 fun _ _ _ => ⟨false,rfl,fun h => by cases h⟩
     | true =>
      refine gn ?_
      exact ⟨bk,i - (j + 1),[(b4,cl [.bool ap,.bool fc,.string mg,.string nmV,.int .i64 k₀,.int .i64 n₀,.float .f64 f₀,.string s₀,.slice a₀ m₀ c₀,.slice a₀' m₀' c₀'] 61)],_,by omega,spp,j + 1,rfl,by omega,rfl,by
       rw [htk']
       intro t' ht'
       rcases List.mem_append.1 ht' with ht' | ht'
       ·exact hal t' ht'
       ·rw [List.mem_singleton] at ht'; subst ht'; exact hqq rfl,rfl⟩
    ·have : j = i := by omega
     subst this
     refine gn ?_
     exact ⟨bk,ts.length - (j + 1),[],_,by omega,spp,j + 1,rfl,by omega,rfl,by rw [htk]; exact hfu.snoc (hq rfl) rfl hal,rfl⟩
   ·refine gn ?_
    exact fin1 fun _ _ _ => ⟨false,rfl,fun h => by cases h⟩
 ·have : i = ts.length := by omega
  subst this
  rw [List.take_length] at hfu
  by_cases h12 : ts.length ≤ 12
  ·refine gn ?_
   exact fin1 fun _ _ _ => ⟨true,rfl,fun _ => ⟨hfu,h12⟩⟩
  ·refine gn ?_
   exact fin1 fun _ _ _ => ⟨false,rfl,fun h => by cases h⟩
end
end Go.Ux
namespace Go.Ux
open Go Go.Proofs
theorem fill_two {k : Nat} {zs : List Value} {w w' : Value} (hc : w.cells.size = k) (hc' : w'.cells.size = k) (hz : zs.length = 2 * k) : Instr.fill (fun i => some (i * k,k)) zs.toArray [(0,w),(1,w')] = some (w.cells.toList ++ w'.cells.toList).toArray := by
 have l1 : w.cells.toList.length = k := by simpa using hc
 have l2 : w'.cells.toList.length = k := by simpa using hc'
 simp only [Instr.fill,Nat.zero_mul,Nat.one_mul]
 have e1 : (decide (w.cells.size ≠ k) || decide (0 + w.cells.size > zs.toArray.size)) = false := by
  simp [hc,hz]; omega
 rw [e1]
 simp only [Bool.false_eq_true,if_false]
 rw [fold_cells]
 have h1 := setL_mid w.cells.toList [] zs (by omega)
 simp only [List.nil_append,List.length_nil] at h1
 rw [h1]
 have e2 : (decide (w'.cells.size ≠ k) || decide (k + w'.cells.size > (w.cells.toList ++ zs.drop w.cells.toList.length).toArray.size)) = false := by
  simp [hc,hc',hz]; omega
 rw [e2]
 simp only [Bool.false_eq_true,if_false]
 rw [fold_cells]
 have h2 := setL_all w'.cells.toList w.cells.toList (zs.drop w.cells.toList.length) (by simp [hc,hc',hz]; omega)
 rw [l1] at h2 ⊢
 rw [h2]
section
variable {P : Program} {n : Nat} {all : Array Oper} {dr : Bool} {Pin : Hp} {K : Fr → Fz → Hp → Prop} {rest : List Oper} {l : List Lay} {D : List Deferred} {Z : Fz} {H : Hp}
variable {d : Tmp} {ty : TypeId} {pos : String} {af : Array Edge} {gd : Option (Nat × Bool)} {x y : Operand} {T : TypeId}
theorem g_bSlice2 {f : Fr} (h : Rg P n all dr Pin K (⟨some d,.buildSlice T 2 #[(0,x),(1,y)],ty,pos,af,gd⟩ :: rest) f Z H) : Rg P n all dr Pin K (⟨some d,.buildSlice T 2 #[(0,x),(1,y)],ty,pos,af,gd⟩ :: rest) f Z H := h
theorem o_bSliceA2 {e k : Nat} {zs vs vs' : List Value} [Und P T (.slice e)] [Ty P e k true] [Zero P e zs] (hg : okO n all ⟨l,D⟩ ⟨some d,.buildSlice T 2 #[(0,x),(1,y)],ty,pos,af,gd⟩ = true)
  (hx : ev ⟨l,D⟩ x = .agg vs.toArray) (hy : ev ⟨l,D⟩ y = .agg vs'.toArray) (hk : (Nat.beq vs.length k && Nat.beq vs'.length k && Nat.blt 0 k && Nat.ble k 1000) = true) (h : ∀ b,Rg P n all dr Pin K rest ⟨.s d (.slice (some ⟨b,0,none⟩) 2 2) :: l,D⟩ Z ((b,cl (vs ++ vs') e) :: H)) :
  Rg P n all dr Pin K (⟨some d,.buildSlice T 2 #[(0,x),(1,y)],ty,pos,af,gd⟩ :: rest) ⟨l,D⟩ Z H := by
 refine o_a (mk := fun b => .slice (some ⟨b,0,none⟩) 2 2) (ob := cl (vs ++ vs') e) hg rfl (fun w => ?_) h
 simp only [Bool.and_eq_true,Nat.blt_eq,Nat.ble_eq] at hk
 have hl : vs.length = k := Nat.eq_of_beq_eq_true hk.1.1.1
 have hl' : vs'.length = k := Nat.eq_of_beq_eq_true hk.1.1.2
 obtain ⟨zv,h1,h2⟩ := Zero.run (P := P) (T := e) w
 have hne : ¬ (2 * k = 0) := by omega
 have hbig : ¬ (2 * k > 2 ^ 24) := by omega
 have e1 : (ev ⟨l,D⟩ x).cells = vs.toArray := by rw [hx]; rfl
 have e2 : (ev ⟨l,D⟩ y).cells = vs'.toArray := by rw [hy]; rfl
 have hf := fill_two (k := k) (w := ev ⟨l,D⟩ x) (w' := ev ⟨l,D⟩ y) (zs := ((Array.range (2 * k)).map (zv.cells[· % zv.cells.size]!)).toList) (by rw [e1]; simpa using hl) (by rw [e2]; simpa using hl') (by simp)
 rw [Array.toArray_toList,e1,e2] at hf
 show Sem.run P (do pure (Next.value (← Instr.buildSlice T 2 (#[(0,x),(1,y)].map fun p => (p.1,ev ⟨l,D⟩ p.2))))) w = _
 simp only [List.map_toArray,List.map_cons,List.map_nil,Instr.buildSlice,newRow,Sem.run_bind,Sem.run_pure,Result.andThen_ok,Und.run (P := P) (T := T),Ty.size (P := P) (T := e) (n := k) (agg := true),if_neg hne,if_neg hbig,h1,hf,run_newObj]
 rfl
end
end Go.Ux
namespace Go.Ux
open Go Go.Proofs
set_option maxRecDepth 20000
attribute [local irreducible] WP Tr
section
variable {Z : Fz} {tb tc : Nat} {k n : Int} {f : Nat} {s : ByteArray} {a a' : Option Addr} {m c m' c' : Nat} {mv : Value} {at_ : ByteArray} {ok ch : Bool} {a₀ : Option Addr} {n₀ c₀ : Nat} {k₁ n₁ : Int} {f₁ : Nat} {s₁ : ByteArray} {a₁ a₁' a₂ : Option Addr} {m₁ c₁ m₁' c₁' m₂ c₂ m₃ c₃ : Nat} {a₃ : Option Addr}
theorem f20 : Pu Tryz.prog 20 #[.agg (wcl tb tc k n f s a a' a₂ m c m' c' m₂ c₂ at_).toArray,.agg #[.bool ok,.slice a₀ n₀ c₀,.bool ch,.int .i64 k₁,.int .i64 n₁,.float .f64 f₁,.string s₁,.slice a₁ m₁ c₁,.slice a₁' m₁' c₁',mv]] Z fun x =>
  x = if ch then .agg #[.int .i64 k₁,.int .i64 n₁,.float .f64 f₁,.string s₁,.slice a₁ m₁ c₁,.slice a₁' m₁' c₁'] else .agg #[.int .i64 k,.int .i64 n,.float .f64 f,.string s,.slice a m c,.slice a' m' c'] := by
 refine Pu.intro Tryz.func20 rfl Tryz.ntmps20 Tryz.results20 rfl ?_
 refine gn ?_; intro b1
 refine gn ?_; intro b2
 refine gn ?_; intro b3
 cases ch with
 | true =>
  refine gn ?_
  exact finC1 rfl ⟨rfl,rfl⟩
 | false =>
  refine gn ?_
  exact finC1 rfl ⟨rfl,rfl⟩
theorem f7 : Pu Tryz.prog 7 #[.agg (wcl tb tc k n f s a a' a₂ m c m' c' m₂ c₂ at_).toArray,.agg #[.bool ok,.slice a₀ n₀ c₀,.bool ch,.int .i64 k₁,.int .i64 n₁,.float .f64 f₁,.string s₁,.slice a₁ m₁ c₁,.slice a₁' m₁' c₁',.slice a₃ m₃ c₃]] Z fun x =>
  x = if ok then (if ch then .agg (wcl tb tc k₁ n₁ f₁ s₁ a₁ a₁' a₃ m₁ c₁ m₁' c₁' m₃ c₃ at_).toArray else .agg (wcl tb tc k n f s a a' a₃ m c m' c' m₃ c₃ at_).toArray) else .agg (wcl tb tc k n f s a a' a₂ m c m' c' m₂ c₂ at_).toArray := by
 refine Pu.intro Tryz.func7 rfl Tryz.ntmps7 Tryz.results7 rfl ?_
 refine gn ?_; intro b1
 refine gn ?_; intro b2
 refine gn ?_; intro b3
 cases ok with
 | true =>
  refine gn ?_
  refine WP.drawX [(b2,cl [.bool true,.slice a₀ n₀ c₀,.bool ch,.int .i64 k₁,.int .i64 n₁,.float .f64 f₁,.string s₁,.slice a₁ m₁ c₁,.slice a₁' m₁' c₁',.slice a₃ m₃ c₃] 49)] [0,1,3,4,2,5,6,7,8] mo (by decide +kernel) ?_
  refine o_loadH rfl (by decide +kernel) rfl rfl rfl ?_
  refine gn ?_
  refine cp (args := [.agg (wcl tb tc k n f s a a' a₂ m c m' c' m₂ c₂ at_).toArray,.agg #[_,_,_,_,_,_,_,_,_,_]]) f20 ?_
  rintro _ rfl
  cases ch with
  | true =>
   refine gn ?_
   exact finC1 rfl ⟨rfl,rfl⟩
  | false =>
   refine gn ?_
   exact finC1 rfl ⟨rfl,rfl⟩
 | false =>
  refine gn ?_
  exact finC1 rfl ⟨rfl,rfl⟩
end
section
variable {P : Program} {Z : Fz} {H : Hp} {R : Value → Fz → Hp → Prop} {l : List Lay} {D : List Deferred}
theorem finCC {a a' : Tmp} {T T' b b' k k' U U' : Nat} {xs xs' vs vs' : List Value} [Ty P T k true] [Ty P T' k' true] [hm : Mem false Z [] H b (cl xs U)] [s : Seg xs 0 k vs] [hm' : Mem false Z [] H b' (cl xs' U')] [s' : Seg xs' 0 k' vs']
  (hv : look l a = .pointer (some ⟨b,0,none⟩)) (hv' : look l a' = .pointer (some ⟨b',0,none⟩)) (h : R (.tuple #[.agg vs.toArray,.agg vs'.toArray]) Z H) : Fin P [.cell a T,.cell a' T'] R [] ⟨l,D⟩ Z H :=
 fin_nil (.cell b ⟨⟨b,0,none⟩,hv,fun w hs => loadVar_agg (k := k) (hm.heap (w := w) hs) s.h s.l⟩ (.cell b' ⟨⟨b',0,none⟩,hv',fun w hs => loadVar_agg (k := k') (hm'.heap (w := w) hs) s'.h s'.l⟩ .nil)) h
end
section
variable {Z : Fz}
theorem f16 : Gr Tryz.prog 16 #[] Z fun x Z' => ∃ tb tc,x = .tuple #[.agg #[.slice (some ⟨tb,0,none⟩) 2 tc],.agg (rfc nmD).toArray] ∧ Shc Z' tb := by
 refine Gr.intro Tryz.func16 rfl Tryz.ntmps16 Tryz.results16 rfl ?_
 refine gn ?_; intro b0
 refine gn ?_; intro b1
 refine gn ?_; intro b2
 refine gn ?_; intro b3
 refine gn ?_; intro l₁
 refine gn ?_
 refine WP.drawX [(b2,cl (rfc ⟨#[95,95,117,110,116,121,112,101,100,95,97,116,111,109,105,99,95]⟩) 32),(b3,cl (rfc ⟨#[95,95,117,110,116,121,112,101,100,95,100,101,100,117,99,101,100,95]⟩) 32)] [0,1,2,3,4,8,9,10,11,12,18,5,6,7,13,14,15,16,17,19,20] mo (by decide +kernel) ?_
 refine gn ?_; intro m₁
 refine gn ?_; intro m₂
 refine gn ?_
 refine g_bSlice2 ?_
 refine o_bSliceA2 (k := 4) rfl rfl rfl (by rfl) ?_; intro tb
 refine gn ?_
 refine finCC (vs := [.slice (some ⟨tb,0,none⟩) 2 2]) (vs' := rfc nmD) rfl rfl fun Z' hz' hp => ⟨tb,2,rfl,⟨l₁,l₁,m₁,m₂,1,1,1,1,hp (tb,_) ?_,hp (l₁,_) ?_,hp (m₁,_) ?_,hp (l₁,_) ?_,hp (m₂,_) ?_⟩⟩
 all_goals repeat (first | exact List.mem_cons_self .. | apply List.mem_cons_of_mem)
theorem f5 : Gr Tryz.prog 5 #[] Z fun x Z' => ∃ tb tc,x = .agg (wcl tb tc 6 0 0 ⟨#[]⟩ none none none 0 0 0 0 0 0 ⟨#[]⟩).toArray ∧ Shc Z' tb := by
 refine Gr.intro Tryz.func5 rfl Tryz.ntmps5 Tryz.results5 rfl ?_
 refine gn ?_; intro b0
 refine gn ?_
 refine cg (args := []) f16 ?_
 rintro _ Z1 hz1 ⟨tb,tc,rfl,hh⟩
 refine gn ?_; intro b1
 refine gn ?_; intro b2
 refine gn ?_
 refine WP.drawX [(b1,cl [.slice (some ⟨tb,0,none⟩) 2 tc] 26),(b2,cl (rfc nmD) 32)] [0,1,2,3,4] mo (by decide +kernel) ?_
 refine gn ?_
 refine cp (args := []) f17 ?_
 rintro _ rfl
 refine gn ?_
 exact finC1 rfl fun Z' hz' _ => ⟨tb,tc,rfl,hh.mono hz'⟩
end
end Go.Ux
namespace Go.Ux
open Go Go.Proofs
set_option maxRecDepth 20000
attribute [local irreducible] WP Tr
abbrev rE : RV := .mk 6 0 0 ⟨#[]⟩ [] []
theorem Cl.rE : Cl rE := Cl.mkM ⟨by simp [Inc],rfl,by simp⟩
theorem RAt.rE {q : List Nm} {u : RV} (h : RAt rE q u) : q = [] ∧ u = rE := by
 cases q with
 | nil => exact ⟨rfl,(RAt.nil_iff.1 h).symm⟩
 | cons k q =>
  obtain ⟨_,x,hx,_⟩ := RAt.cons_iff.1 h
  simp [RV.ks,RV.l] at hx
theorem Good.rE {U : List Nm} : Good U rE [] :=
 ⟨Cl.rE,by simp [NoN,NoNL],⟨fun m x ⟨o,h,_⟩ => by simp at h,fun x u hx hu _ => absurd hu.rE.1 hx⟩,fun q u h k hk => by rw [h.rE.1] at hk; simp at hk,by simp,by simp⟩
theorem cp6 {r : RV} (h : r.k = 6) : CpR rE r := fun q u v hu hv => by
 obtain ⟨rfl,rfl⟩ := hu.rE
 rw [RAt.nil_iff] at hv; subst hv
 rw [h]; rfl
theorem RVc.rE {Z : Fz} : RVc Z rE [.int .i64 6,.int .i64 0,.float .f64 0,.string ⟨#[]⟩,.slice none 0 0,.slice none 0 0] := by
 simp only [RVc]
 exact ⟨_,_,[],rfl,.nil 0,.nil 0,by simp [RVl]⟩
theorem totO_le {n : Nat} : ∀ {l : List Ow},(∀ o ∈ l,o.ps.length ≤ n) → totO l ≤ l.length * n
 | [],_ => by simp [totO]
 | o :: l,h => by
  have h1 := totO_le (l := l) fun x hx => h x (List.mem_cons_of_mem _ hx)
  have h2 := h o (List.mem_cons_self ..)
  have e : totO (o :: l) = o.ps.length + totO l := by simp [totO]
  rw [e,List.length_cons,Nat.add_mul,Nat.one_mul]
  omega
theorem Full.okay {U : List Nm} {ts : List Stp} (h : Full ts) (h12 : ts.length ≤ 12) (hs : ∀ t ∈ ts,t.ob.sz ≤ 1048576) (hi : ∀ t ∈ ts,t.ob.clean.inU U) : Okay U ts :=
 ⟨h12,h.vr,hs,fun t ht => (h.tr t ht).nn,fun t ht => (h.tr t ht).nd,fun t ht => (h.tr t ht).k6,hi,
  fun t ht t' ht' => (h.ka t ht t' ht').cp (.of _) (.of _) (h.tr t ht).nu (h.tr t' ht').nu⟩
section
variable {Z : Fz} {U : List Nm} {tb tc : Nat} {k n : Int} {f : Nat} {s : ByteArray} {a a' a₂ : Option Addr} {m c m' c' c₂ : Nat} {at_ : ByteArray} {r : RV} {l : List Ow} {mcs : List Value}
theorem f7w {t : Ans} {cs : List Value} (hr : RVc Z r [.int .i64 k,.int .i64 n,.float .f64 f,.string s,.slice a m c,.slice a' m' c']) (hm : Rs (inT Z 79) 4 (.slice a₂ l.length c₂) l.length mcs) (hl : OWl Z nmV l mcs) (ht : AnC Z nmV t.ok t.ch t.r t.l cs) :
  Pu Tryz.prog 7 #[.agg (wcl tb tc k n f s a a' a₂ m c m' c' l.length c₂ at_).toArray,.agg cs.toArray] Z fun x => ∃ (k n : Int) (f : Nat) (s : ByteArray) (a a' a₂ : Option Addr) (m c m' c' c₂ : Nat) (mcs : List Value),
   x = .agg (wcl tb tc k n f s a a' a₂ m c m' c' (stp (r,l) t).2.length c₂ at_).toArray ∧ RVc Z (stp (r,l) t).1 [.int .i64 k,.int .i64 n,.float .f64 f,.string s,.slice a m c,.slice a' m' c'] ∧
   Rs (inT Z 79) 4 (.slice a₂ (stp (r,l) t).2.length c₂) (stp (r,l) t).2.length mcs ∧ OWl Z nmV (stp (r,l) t).2 mcs := by
 obtain ⟨ok,ch,r',l'⟩ := t
 obtain ⟨a₀,n₀,c₀,k₁,n₁,f₁,s₁,a₁,a₁',a₃,m₁,c₁,m₁',c₁',c₃,mcs',rfl,hr',hm',hl'⟩ := ht.full
 refine Tr.mono f7 ?_
 rintro x Z' H' ⟨rfl,e⟩
 refine ⟨?_,e⟩
 cases ok with
 | false => exact ⟨k,n,f,s,a,a',a₂,m,c,m',c',c₂,mcs,rfl,hr,hm,hl⟩
 | true =>
  cases ch with
  | false => exact ⟨k,n,f,s,a,a',a₃,m,c,m',c',c₃,mcs',rfl,hr,hm',hl'⟩
  | true => exact ⟨k₁,n₁,f₁,s₁,a₁,a₁',a₃,m₁,c₁,m₁',c₁',c₃,mcs',rfl,hr',hm',hl'⟩
theorem kd06 {u : RV} (h : Cl u) (h0 : clR u.k = 0) : u.k = 0 ∨ u.k = 6 := by
 unfold clR at h0
 rcases h.kd with e | e | e | e | e | e | e <;> simp_all
set_option maxHeartbeats 16000000 in
theorem f3 {a₁ : Option Addr} {c₁ : Nat} {ts : List Stp} {tcs : List Value} (hU : U.length ≤ 1073741824) (hUs : ∀ k ∈ U,k.size ≤ 1099511627776) (hts : Rs (inQ Z 61) 10 (.slice a₁ ts.length c₁) ts.length tcs) (htl : STl Z ts tcs)
  (hsz : ∀ t ∈ ts,t.ob.sz ≤ 1048576) (hlen : ts.length ≤ 1073741824) (hin : ∀ t ∈ ts,t.ob.clean.inU U) :
  Gr Tryz.prog 3 #[.slice a₁ ts.length c₁] Z fun x _ => x = .bool true := by
 refine Gr.intro Tryz.func3 rfl Tryz.ntmps3 Tryz.results3 rfl ?_
 refine gn ?_
 refine cg (args := [.slice a₁ ts.length c₁]) (f4 hts htl hsz hlen) ?_
 rintro _ Z1 hz1 ⟨b,rfl,hb⟩
 cases b with
 | false =>
  refine gn ?_
  exact fin1 fun _ _ _ => rfl
 | true =>
 obtain ⟨hfu,h12⟩ := hb rfl
 have hok := hfu.okay h12 hsz hin
 refine gn ?_
 refine cg (args := []) f5 ?_
 rintro _ Z2 hz2 ⟨tb,tc,rfl,hh⟩
 refine gn ?_; intro b3
 have hz12 := hz1.trans hz2
 refine gn ?_
 refine cg (args := [.agg (wcl tb tc 6 0 0 ⟨#[]⟩ none none none 0 0 0 0 0 0 ⟨#[]⟩).toArray,.slice a₁ ts.length c₁]) (f6 hU hh RVc.rE (.nil 0) Good.rE (by decide) (hts.mono fun _ _ h => inQ.le hz12 h) (htl.mono hz12) hok fun t ht => cp6 (hok.k6 t ht)) ?_
 rintro v Z3 hz3 ⟨aw,acs,hra,hal,hel,hch⟩
 obtain ⟨a₄,c₄,rfl⟩ := hra.sl
 rw [hel] at hra ⊢
 refine gn ?_
 refine WP.only [(b3,cl (wcl tb tc 6 0 0 ⟨#[]⟩ none none none 0 0 0 0 0 0 ⟨#[]⟩) 43)] ?_
 refine WP.loopK (2 :: 6 :: 7 :: 8 :: 10 :: 11 :: 12 :: List.range' 30 43) (fun mm g Z' H' => ∃ (i : Nat) (rn : RV) (ln : List Ow) (k n : Int) (f : Nat) (s : ByteArray) (a a' a₂ : Option Addr) (m c m' c' c₂ : Nat) (mcs : List Value),
   g 30 = .int .i64 (i : Int) ∧ i ≤ ts.length ∧ mm = ts.length - i ∧ (aw.take i).foldl stp (rE,[]) = (rn,ln) ∧ RVc Z' rn [.int .i64 k,.int .i64 n,.float .f64 f,.string s,.slice a m c,.slice a' m' c'] ∧
   Rs (inT Z' 79) 4 (.slice a₂ ln.length c₂) ln.length mcs ∧ OWl Z' nmV ln mcs ∧ H' = [(b3,cl (wcl tb tc k n f s a a' a₂ m c m' c' ln.length c₂ ⟨#[]⟩) 43)]) ts.length
  ⟨0,rE,[],6,0,0,⟨#[]⟩,none,none,none,0,0,0,0,0,[],rfl,by omega,by omega,rfl,RVc.rE,.nil 0,by simp [OWl],rfl⟩ ?_
 rintro mm g Z' H' hz ⟨i,rn,ln,k,n,f,s,a,a',a₂,m,c,m',c',c₂,mcs,h30,hi,rfl,hfo,hr,hm,hl,rfl⟩
 refine WP.pin 30 h30 ?_
 by_cases hin : i < ts.length
 ·obtain ⟨t,ht⟩ : ∃ t,aw[i]? = some t := ⟨aw[i],by simp⟩
  have hac := (hal.mono hz).at ht
  obtain ⟨b,off,xs,rfl,hb,hld⟩ := elt10 (hra.mono fun _ _ h => inT.lw hz.lw rfl h).inQ rfl hin
  generalize (acs.drop (i * 10)).take 10 = ac at hac hld
  have hac' := hac
  obtain ⟨aA,nA,cA,kk,nn,ff,ss,aa,aa',aa₂,mm',cc,mm'',cc',cc₂,mcs',rfl,_,_,_⟩ := hac'.full
  haveI : Zf Z' b (cl xs 49) := ⟨hb⟩
  refine gn ?_
  refine o_indexAddr rfl rfl rfl hin ?_
  refine o_loadN rfl rfl hld rfl ?_
  refine gn ?_; intro b6
  refine gn ?_
  refine cp (args := [.agg (wcl tb tc k n f s a a' a₂ m c m' c' ln.length c₂ ⟨#[]⟩).toArray,.agg #[_,_,_,_,_,_,_,_,_,_]]) (f7w hr hm hl hac) ?_
  rintro _ ⟨k,n,f,s,a,a',a₂,m,c,m',c',c₂,mcs,rfl,hr,hm,hl⟩
  have hgb : GoodB U (stp (rn,ln) t) := by
   have := hch (i + 1) (by omega)
   rw [List.take_add_one,ht,List.foldl_append,hfo] at this
   exact this
  have hfo2 : (aw.take (i + 1)).foldl stp (rE,[]) = stp (rn,ln) t := by rw [List.take_add_one,ht,List.foldl_append,hfo]; rfl
  generalize stp (rn,ln) t = st at hr hm hl hgb hfo2 ⊢
  obtain ⟨rn',ln'⟩ := st
  simp only at hr hm hl
  have hg := hgb.g
  have hgn := hgb.n
  have hgl := hgb.l
  simp only at hg hgn hgl
  have hcl := hg.cl
  have hcc : rn'.clean = rn' := hcl
  have hszr := hcl.sz
  have hsq : ∀ q u,RAt rn' q u → q.length ≤ 8589934592 ∧ Sq q := fun q u hu => by
   have h1 := hu.len
   exact ⟨by omega,by omega,fun x hx => hUs x (hg.inU q u hu x hx)⟩
  have hto : totO ln' ≤ 1000 * 1048576 := Nat.le_trans (totO_le hg.bd) (Nat.mul_le_mul_right _ hgl)
  refine gn ?_
  refine WP.drawX [(b3,cl (wcl tb tc k n f s a a' a₂ m c m' c' ln'.length c₂ ⟨#[]⟩) 43)] [0,1,4,5,2,3,6,7,8] mo (by decide +kernel) ?_
  refine gn ?_
  refine cg (args := [.agg #[_,_,_,_,_,_],.slice none 0 0]) (f9 (rn'.sz + 1) rn' _ [] none 0 Z' (by omega) (by omega) (by simp; omega) hr (.nil 0)) ?_
  rintro pv Z4 hz4 ⟨ps,vs,hp,hps,hpl,hpm⟩
  obtain ⟨pa,pc,rfl⟩ := hp.sl
  rw [hcc] at hpm
  have hpq : ∀ p ∈ ps,p.length ≤ 8589934592 ∧ Sq p := fun p hp' => by
   obtain ⟨s,u,_,rfl,hu⟩ := (hpm p).1 hp'
   exact hsq _ u hu
  refine cg (args := [.slice pa ps.length pc]) (f8 hp hps (by omega) hpq) ?_
  rintro iv Z5 hz5 ⟨ins,ivs,hi1,hi2,hi3,hi4,hi5⟩
  obtain ⟨ia,ic,rfl⟩ := hi1.sl
  have hz45 := hz4.trans hz5
  refine cg (args := [.slice a₂ ln'.length c₂]) (f10 (by omega) (hm.mono fun _ _ h => inT.lw hz45.lw rfl h) (hl.mono hz45) (by omega) fun o ho p hp' => by
   obtain ⟨_,u,hu⟩ := hg.inv.sub o.k p ⟨o,ho,rfl,hp'⟩
   exact hsq p u hu) ?_
  rintro ov Z6 hz6 ⟨own,ovs,ho1,ho2,ho3,ho4,ho5⟩
  obtain ⟨oa,oc,rfl⟩ := ho1.sl
  have hinq : ∀ q,q ∈ ins ↔ q ≠ [] ∧ ∃ u,RAt rn' q u := fun q => by
   rw [hi5,hpm]
   constructor
   ·rintro ⟨⟨s,u,hs,rfl,hu⟩,hq⟩; exact ⟨hq,u,by simpa using hu⟩
   ·rintro ⟨hq,u,hu⟩; exact ⟨⟨q,u,hq,by simp,hu⟩,hq⟩
  have hoq : ∀ q,q ∈ own ↔ q ≠ [] ∧ ∃ m,ownL ln' m q := fun q => by
   rw [ho5]
   constructor
   ·rintro ⟨hq,o,ho,h⟩; exact ⟨hq,o.k,o,ho,rfl,h⟩
   ·rintro ⟨hq,m,o,ho,_,h⟩; exact ⟨hq,o,ho,h⟩
  have hisq : ∀ q ∈ ins,q.length ≤ 8589934592 ∧ Sq q := fun q hq => by obtain ⟨_,u,hu⟩ := (hinq q).1 hq; exact hsq q u hu
  have hosq : ∀ q ∈ own,q.length ≤ 8589934592 ∧ Sq q := fun q hq => by
   obtain ⟨_,m,h⟩ := (hoq q).1 hq
   obtain ⟨_,u,hu⟩ := hg.inv.sub m q h
   exact hsq q u hu
  have hi1' := hi1.mono fun _ _ h => inT.lw hz6.lw rfl h
  have hi2' := hi2.mono hz6
  refine gn ?_
  refine cg (args := [.slice oa own.length oc,.slice ia ins.length ic]) (f11 hi1' hi2' hisq (by omega) ho1 ho2 hosq (by omega)) ?_
  rintro _ Z7 hz7 ⟨wb,rfl,hwb⟩
  have hw : wb = true := hwb.2 fun p hp' hne => by
   obtain ⟨_,m,h⟩ := (hoq p).1 hp'
   exact (hinq p).2 (hg.inv.sub m p h)
  subst hw
  refine gn ?_
  refine cg (args := [.slice ia ins.length ic,.slice oa own.length oc]) (f12 (ho1.mono fun _ _ h => inT.lw hz7.lw rfl h) (ho2.mono hz7) ho3 (fun q hq => (hosq q hq).2) (by omega) (hi1'.mono fun _ _ h => inT.lw hz7.lw rfl h) (hi2'.mono hz7) (fun q hq => (hisq q hq).2) (by omega)) ?_
  rintro uv Z8 hz8 ⟨us,hu1,hu2⟩
  obtain ⟨ua,uc,rfl⟩ := hu1.sl
  have hum : ∀ p ∈ mnW ins own,∃ u,RAt rn' p u ∧ clR u.k = 0 := fun p hp' => by
   obtain ⟨h1,h2⟩ := mem_mnW.1 hp'
   obtain ⟨hne,u,hu⟩ := (hinq p).1 h1
   refine ⟨u,hu,?_⟩
   apply Classical.byContradiction
   intro h0
   obtain ⟨m,hm'⟩ := hg.inv.cov p u hne hu h0
   exact h2 ⟨(hoq p).2 ⟨hne,m,hm'⟩,hne⟩
  have hul : (mnW ins own).length ≤ ins.length := List.length_filter_le ..
  generalize mnW ins own = un at hu1 hu2 hum hul ⊢
  have hz48 := (hz45.trans hz6).trans (hz7.trans hz8)
  have hr8 := hr.mono hz48
  refine gn ?_
  refine WP.only [(b3,cl (wcl tb tc k n f s a a' a₂ m c m' c' ln'.length c₂ ⟨#[]⟩) 43)] ?_
  refine WP.loopK (2 :: 10 :: 11 :: 12 :: List.range' 52 20) (fun mm g Z' H' => ∃ (j : Nat),g 52 = .int .i64 (j : Int) ∧ j ≤ un.length ∧ mm = un.length - j ∧ H' = [(b3,cl (wcl tb tc k n f s a a' a₂ m c m' c' ln'.length c₂ ⟨#[]⟩) 43)]) un.length ⟨0,rfl,by omega,by omega,rfl⟩ ?_
  rintro mm g9 Z9 H9 hz9 ⟨j,h52,hj,rfl,rfl⟩
  refine WP.pin 52 h52 ?_
  by_cases hjn : j < un.length
  ·obtain ⟨p,hp'⟩ : ∃ p,un[j]? = some p := ⟨un[j],by simp⟩
   obtain ⟨b',off',xs',a9,c9,rfl,hb',he,hrp⟩ := eltP (hu1.mono fun _ _ h => inT.lw hz9.lw rfl h) (hu2.mono hz9) hp'
   haveI : Zf Z9 b' (cl xs' 57) := ⟨hb'⟩
   obtain ⟨u,hu,hu0⟩ := hum p (List.mem_of_getElem? hp')
   refine gn ?_
   refine o_indexAddr rfl rfl rfl hjn ?_
   refine gn ?_
   refine cg (args := [.agg #[_,_,_,_,_,_],.slice a9 p.length c9]) (f13 (hr8.mono hz9) (by omega) hrp (hsq p u hu).1) ?_
   rintro _ Z10 hz10 ⟨bb,u',us',rfl,hu',hue⟩
   have e := hue u (by rw [hcc]; exact hu)
   subst e
   have hu6 := hu'
   obtain ⟨k₂,n₂,f₂,s₂,d₂,d₂',m₂,e₂,m₂',e₂',rfl⟩ := hu6.six
   have hk := hu'.kd
   rcases kd06 (hcl.at hu) hu0 with e0 | e0
   ·rw [e0] at hk; subst hk
    refine gn ?_; intro b11
    refine gn ?_
    exact ⟨bk,un.length - (j + 1),[(b3,cl (wcl tb tc k n f s a a' a₂ m c m' c' ln'.length c₂ ⟨#[]⟩) 43)],_,by omega,spp,j + 1,rfl,by omega,rfl,rfl⟩
   ·rw [e0] at hk; subst hk
    refine gn ?_; intro b11
    refine gn ?_
    exact ⟨bk,un.length - (j + 1),[(b3,cl (wcl tb tc k n f s a a' a₂ m c m' c' ln'.length c₂ ⟨#[]⟩) 43)],_,by omega,spp,j + 1,rfl,by omega,rfl,rfl⟩
  ·refine gn ?_
   have hzz := hz48.trans hz9
   exact ⟨bk,ts.length - (i + 1),[(b3,cl (wcl tb tc k n f s a a' a₂ m c m' c' ln'.length c₂ ⟨#[]⟩) 43)],_,by omega,spp,i + 1,rn',ln',k,n,f,s,a,a',a₂,m,c,m',c',c₂,mcs,rfl,by omega,rfl,hfo2,hr.mono hzz,hm.mono fun _ _ h => inT.lw hzz.lw rfl h,hl.mono hzz,rfl⟩
 ·refine gn ?_
  exact fin1 fun _ _ _ => rfl
end
end Go.Ux
namespace Go.Ux
open Go Go.Proofs Go.RowKit
set_option maxRecDepth 20000
section
variable {H : Type} {enc : TypeId × Value → H} {w : World} {hd : Bool} {B : DataW H → Nat} {BA : List (DataW H) → Nat}
def nmsS (ts : List Stp) : List Nm := ts.flatMap fun t => t.ob.nms
theorem nmsS_app {ts : List Stp} {t : Stp} : nmsS (ts ++ [t]) = nmsS ts ++ t.ob.nms := by simp [nmsS]
theorem STl.app {Z : Fz} {t : Stp} {e : List Value} (h' : STc Z t e) : ∀ {l : List Stp} {cs : List Value},STl Z l cs → STl Z (l ++ [t]) (cs ++ e)
 | [],_,h => by simp only [STl] at h; subst h; exact ⟨e,[],by simp,h',rfl⟩
 | _ :: _,_,⟨c,r,h1,h2,h3⟩ => ⟨c,r ++ e,by rw [h1,List.append_assoc],h2,h3.app h'⟩
theorem rd_step (hB : Bk B BA) {fuel : Nat} {cs : List Value} {d : DataW H} {p : List MemPlace} (h : DataW.trod enc Tryz.prog w 0 (fun _ => true) hd fuel 61 cs = some (d,p)) :
  ∃ t : Stp,STc (zW w) t cs ∧ t.ob.sz ≤ B d ∧ ∀ k ∈ t.ob.nms,k.size ≤ B d := by
 obtain ⟨hl,fuel',ys,rfl,hyl,rfl,hf⟩ := td_fields (L := [(4,0),(4,1),(9,2),(9,3),(37,4)]) Tryz.underlying61 rfl h
 rw [cof61] at hl
 obtain ⟨v0,v1,v2,v3,oc,rfl,ho⟩ : ∃ v0 v1 v2 v3 oc,cs = [v0,v1,v2,v3] ++ oc ∧ oc.length = 6 := by
  match cs,hl with
  | v0 :: v1 :: v2 :: v3 :: oc,hl => exact ⟨v0,v1,v2,v3,oc,rfl,by simpa using hl⟩
 obtain ⟨y0,q0,g0,h0⟩ := hf 0 4 0 rfl
 obtain ⟨y1,q1,g1,h1⟩ := hf 1 4 1 rfl
 obtain ⟨y2,q2,g2,h2⟩ := hf 2 9 2 rfl
 obtain ⟨y3,q3,g3,h3⟩ := hf 3 9 3 rfl
 obtain ⟨y4,q4,g4,h4⟩ := hf 4 37 4 rfl
 obtain rfl : ys = [y0,y1,y2,y3,y4] := by
  match ys,hyl,g0,g1,g2,g3,g4 with
  | [a,b,c,d,e],_,g0,g1,g2,g3,g4 => simp at g0 g1 g2 g3 g4; simp [*]
 rw [cof4] at h0 h1
 rw [cof9] at h2 h3
 rw [cof37] at h4
 obtain ⟨n0,e0,rfl⟩ := td_bool Tryz.underlying4 h0
 obtain ⟨n1,e1,rfl⟩ := td_bool Tryz.underlying4 h1
 obtain ⟨s2,e2,rfl⟩ := td_string Tryz.underlying9 h2
 obtain ⟨s3,e3,rfl⟩ := td_string Tryz.underlying9 h3
 simp at e0 e1 e2 e3
 subst e0 e1 e2 e3
 have e4 : (([.bool n0,.bool n1,.string s2,.string s3] ++ oc : List Value).drop 4).take 6 = oc := by
  show oc.take 6 = oc
  exact List.take_of_length_le (by omega)
 rw [e4] at h4
 obtain ⟨r,r1,r2,r3⟩ := rd_val hB _ _ _ _ h4
 have hbd : B (.agg [.lit (.bool n0),.lit (.bool n1),.lit (.string s2.data.toList),.lit (.string s3.data.toList),y4]) ≥ B y4 := by
  rw [hB.agg]; simp only [hB.cons,hB.nil]; omega
 exact ⟨⟨n0,n1,s2,s3,r⟩,⟨oc,rfl,r1⟩,by simp only; omega,fun k hk => by have := r3 k hk; omega⟩
theorem rd_steps (hB : Bk B BA) {fuel : Nat} {v : Value} {d : DataW H} {p : List MemPlace} (h : DataW.trod enc Tryz.prog w 0 (fun _ => true) hd fuel 22 [v] = some (d,p)) :
  ∃ (a : Option Addr) (c : Nat) (ts : List Stp) (tcs : List Value),v = .slice a ts.length c ∧ Rs (inQ (zW w) 61) 10 v ts.length tcs ∧ STl (zW w) ts tcs ∧ (∀ t ∈ ts,t.ob.sz ≤ B d) ∧ ts.length ≤ B d ∧ (nmsS ts).length ≤ B d ∧ ∀ k ∈ nmsS ts,k.size ≤ B d := by
 rcases td_slice (t := 22) Tryz.underlying22 (by rw [cof61]; decide) (cs := [v]) h with ⟨e,rfl⟩ | ⟨a,e,rfl⟩ | ⟨b,off,len,cap,fuel'',c,T,fr,es,rs,e,hlc,hc,rfl,hel,rfl,hrow⟩
 all_goals simp only [List.cons.injEq,and_true] at e
 all_goals subst e
 ·exact ⟨none,0,[],[],rfl,.nil 0,by simp [STl],by simp,by simp,by simp [nmsS],by simp [nmsS]⟩
 ·exact ⟨some a,0,[],[],rfl,.emp a,by simp [STl],by simp,by simp,by simp [nmsS],by simp [nmsS]⟩
 ·have key : ∀ n,n ≤ len → ∃ ts : List Stp,ts.length = n ∧ STl (zW w) ts ((c.toList.drop off).take (n * 10)) ∧ (∀ t ∈ ts,t.ob.sz ≤ BA (es.take n)) ∧ n ≤ BA (es.take n) ∧ (nmsS ts).length ≤ BA (es.take n) ∧ ∀ k ∈ nmsS ts,k.size ≤ BA (es.take n) := by
   intro n
   induction n with
   | zero => intro _; exact ⟨[],rfl,by simp [STl],by simp,by simp,by simp [nmsS],by simp [nmsS]⟩
   | succ n ihn =>
    intro hn
    obtain ⟨ts,a1,a2,a3,a4,a5,a6⟩ := ihn (by omega)
    obtain ⟨y,q,b1,b2,b3⟩ := hrow n (by omega)
    rw [cof61] at b2 b3
    obtain ⟨t,r1,r2,r3⟩ := rd_step hB b3
    have hb := hB.snoc b1
    have hnm := nms_sz t.ob
    have hpos := t.ob.sz_pos
    refine ⟨ts ++ [t],by simp [a1],?_,fun x hx => ?_,by omega,?_,fun k hk => ?_⟩
    ·rw [row_snoc]; exact a2.app r1
    ·rcases List.mem_append.1 hx with hx | hx
     ·have := a3 x hx; omega
     ·rw [List.mem_singleton.1 hx]; omega
    ·rw [nmsS_app,List.length_append]; omega
    ·rw [nmsS_app] at hk
     rcases List.mem_append.1 hk with hk | hk
     ·have := a6 k hk; omega
     ·have := r3 k hk; omega
  obtain ⟨ts,a1,a2,a3,a4,a5,a6⟩ := key len (Nat.le_refl _)
  rw [List.take_of_length_le (by omega)] at a3 a4 a5 a6
  have := hB.sl es rs
  refine ⟨some ⟨b,off,none⟩,cap,ts,_,by rw [a1],?_,a2,fun t ht => by have := a3 t ht; omega,by omega,by omega,fun k hk => by have := a6 k hk; omega⟩
  rw [a1]
  exact .row b off len cap 61 c.toList _ (rdz_row hc) rfl (a2.len.trans (by rw [a1])) hlc
theorem call3 (hB : Bk B BA) {fuel : Nat} {v : Value} {d : DataW H} {p : List MemPlace} (h : DataW.trod enc Tryz.prog w 0 (fun _ => true) hd fuel 22 [v] = some (d,p)) (hb : B d ≤ 1048576) :
  Calls Tryz.prog 3 #[v] w fun e w' => e = .returned (.bool true) ∧ Below w.heap.size w w' := by
 obtain ⟨a,c,ts,tcs,rfl,h1,h2,h3,h4,h5,h6⟩ := rd_steps hB h
 have hs : Sat w (zW w) ([] ++ []) := ⟨fun _ _ h => h,by simp,by simp,by simp⟩
 have hg := f3 (Z := zW w) (U := nmsS ts) (by omega) (fun k hk => by have := h6 k hk; omega) h1 h2 (fun t ht => by have := h3 t ht; omega) (by omega) (fun t ht q u hu k hk => by
  exact List.mem_flatMap.2 ⟨t,ht,clean_inU _ t.ob (Nat.lt_succ_self _) q u hu k hk⟩)
 refine Calls.mono (hg w [] hs) ?_
 rintro e w' ⟨x,rfl,Z',H',hz,hs',ht,rfl,_⟩
 refine ⟨rfl,ht.os,ht.tape,ht.output,ht.size,fun k hk => ?_⟩
 obtain ⟨o,ho⟩ : ∃ o,w.heap[k]? = some o := ⟨w.heap[k],by simp [hk]⟩
 rw [ho]
 exact hs'.fz k o (hz k o ho)
end
end Go.Ux
namespace Go.Proofs.YtfmjodemgaeceaaGreat.fnTreesOwned
open Go.ChangeShapes Go.WideShapes Go.ChangeAt Go.RowKit
theorem own : ownKnob Tryz.prog.godebug = none := by kernel_rfl
theorem bk (H : Type) : Ux.Bk (H := H) Rows.uptoBulk Rows.uptoBulkAll :=
 ⟨fun _ => by simp only [Rows.uptoBulk],fun _ _ => by simp only [Rows.uptoBulk],fun _ => by simp only [Rows.uptoBulk],by simp only [Rows.uptoBulkAll],fun _ _ => by simp only [Rows.uptoBulkAll]⟩
theorem laid : laidOutB Tryz.prog = true := by kernel_rfl
theorem kept {W W' : World} (h : Below W.heap.size W W') (may : MemPlace → Prop) : W.keptBut W' may := by
 obtain ⟨_,_,h3⟩ := World.keptBut_refl W may
 refine ⟨h.os,h.output,fun i hi => ?_⟩
 rw [h.block i hi]
 exact h3 i hi
set_option maxRecDepth 100000 in
theorem contract (H : Type) (enc : TypeId × Value → H) (W : World) (base : Nat) (args : Array Value) (ds gs : List (DataW H)) (before : List MemPlace)
  (hval : ∀ (j : Nat) t v,Tryz.f3.params[j]? = some t → args[j]? = some v → Value.okWide Tryz.prog W .any base t v)
  (hW : DataW.Whole enc Tryz.prog Tryz.f3.params.toList Rows.fnTreesOwnedSpec.vars false W args.toList ds gs before) (hk : Rows.uptoSmall H (ds ++ gs) = true) :
  Calls Tryz.prog 3 args W fun e W' => ∃ v,e = .returned v ∧ Rows.fnTreesOwnedSpec.post enc Tryz.prog Tryz.f3 false true false false W args v W' := by
 have hW' := hW
 obtain ⟨p,q,hA0,hV,rfl,hfz,hnd⟩ := hW
 have hA : DataW.TrodAll enc Tryz.prog W 0 (fun _ => true) true Tryz.f3.params.toList args.toList ds p := hA0
 rw [Tryz.params3] at hA hval
 obtain ⟨v0,vs0,d0,ds0,p0,q0,hargs,rfl,rfl,h0,r0⟩ := trodAll_cons hA
 obtain ⟨rfl,rfl,rfl⟩ := trodAll_nil r0
 obtain rfl : args = #[v0] := by cases args; simp_all
 obtain ⟨rfl,rfl⟩ := trodVars_none hV
 clear hA0
 simp only [List.append_nil] at hW' hk
 have hbl : Rows.uptoBulk d0 ≤ 1048576 := by
  have h : Rows.uptoBulkAll [d0] ≤ 1048576 := of_decide_eq_true hk
  simp only [Rows.uptoBulkAll] at h
  omega
 have hlt : ∀ x ∈ p0,x.block < W.heap.size := fun x hx => by simpa using hW'.lt x hx
 have h0' := h0
 obtain ⟨fuel,hf⟩ := h0'
 have hc1 : v0.cells.toList = [v0] := by
  have h := hval 0 22 v0 (by simp) (by simp)
  unfold Value.okWide at h
  rw [Tryz.underlying22] at h
  simp only [] at h
  unfold Cell.okWide at h
  rw [Tryz.underlying22] at h
  cases v0 <;> first | rfl | (simp [Cell.ok,Tryz.underlying22] at h)
 rw [hc1] at hf
 refine (Ux.call3 (bk H) hf hbl).mono fun e W' ⟨he,hg⟩ => ?_
 subst he
 have hs : ∀ sp : Nat → Bool,(∀ x ∈ p0,sp x.block = true) → DataW.TrodAll enc Tryz.prog W' 0 sp true Tryz.f3.params.toList #[v0].toList [d0] p0 := fun sp hsp => by
  rw [Tryz.params3]
  exact trodAll_mk1 (WideElems.Trod_stays laid (by kernel_rfl) (of_decide_eq_true (by kernel_rfl)) h0 (fun x hx => hg.same (hlt x hx)) hsp)
 exact ⟨_,rfl,[d0],[],p0,[],p0,[],hW',trodAll_cons_mk (shut_bool Tryz.underlying4 _) trodAll_mk0,hs _ (fun x hx => by simpa using hlt x hx),rfl,kept hg _,fun h => by cases h⟩
set_option maxRecDepth 100000 in
theorem lifted (os : Os) (started : os.Started) (H : Type) (enc : TypeId × Value → H) (F : Stop.Interp) :
  ReturnsInHanded {} Tryz.checked os 3 .any ((Rows.OpenSpec.upto Rows.fnTreesOwnedSpec).pre6 enc Tryz.prog Tryz.f3 Rows.fnTreesOwnedUptoRow.domain false) (((Rows.OpenSpec.upto Rows.fnTreesOwnedSpec).at F).post enc Tryz.prog Tryz.f3 false true false false) := by
 refine returnsInHanded_of_cond (C := Tryz.checked) (s := Rows.OpenSpec.upto Rows.fnTreesOwnedSpec) (k := Rows.uptoSmall) rfl own started (by kernel_rfl) Tryz.func3
  (OpenSpec.witness (enc := enc) (C := Tryz.checked) (s := Rows.OpenSpec.upto Rows.fnTreesOwnedSpec) (k := Rows.uptoSmall) rfl false ⟨#[],#[.slice none 0 0],[]⟩ 8 (by kernel_rfl) (by kernel_rfl) (by kernel_rfl)
   (x := ([.nil],[],[])) (by kernel_rfl) rfl (by kernel_rfl)) ?_
 intro W base args ds gs before hval hW _ hk _
 exact contract H enc W base args ds gs before hval hW hk
abbrev row : OpenClaim := Rows.fnTreesOwnedUptoRow
theorem a1 : row.wf (OpenSpec.ofChange Rows.fnTreesOwnedSpec) = true := by kernel_rfl
theorem a3 : mapsRowed Tryz.prog = true := by kernel_rfl
theorem a7 : (Tryz.prog.stops == []) = true := by kernel_rfl
theorem a9 : (Tryz.prog.stopKnobs == []) = true := by kernel_rfl
theorem a10 : (row.inPlace == Tryz.prog.inPlace 3) = true := by kernel_rfl
theorem a11 : (row.unfollowed == Tryz.prog.unfollowed 3) = true := by kernel_rfl
theorem a12 : (row.recurses == Tryz.prog.recurses 3) = true := by kernel_rfl
theorem a13 : (row.named == Tryz.prog.varsNamed 3) = true := by kernel_rfl
theorem a17 : (row.loops == (Tryz.f3.params.toList ++ Rows.fnTreesOwnedSpec.plain.varTypes Tryz.prog).any (Tryz.prog.loopsFrom ·)) = true := by kernel_rfl
theorem a18 : (row.wideKeys == (Tryz.f3.params.toList ++ Rows.fnTreesOwnedSpec.plain.varTypes Tryz.prog ++ Tryz.f3.resultTypes.toList).any (Tryz.prog.wideKeysFrom ·)) = true := by kernel_rfl
theorem a20 : (row.plainKeys == Tryz.prog.plainKeys) = true := by kernel_rfl
theorem a21 : Tryz.prog.stopsHeard = true := by kernel_rfl
theorem a22 : Tryz.prog.mayEnter = true := by kernel_rfl
theorem a23 : (row.lifted == Tryz.prog.liftsFinal) = true := by kernel_rfl
theorem closed : joinedFacts Tryz.prog 3 Tryz.f3 Rows.fnTreesOwnedSpec row = true := by
 unfold joinedFacts
 simp only [Bool.and_eq_true]
 repeat' apply And.intro
 all_goals first
  | with_reducible exact a1 | with_reducible exact laid | with_reducible exact a3 | with_reducible exact a7 | with_reducible exact a9 | with_reducible exact a10 | with_reducible exact a11 | with_reducible exact a12
  | with_reducible exact a13 | with_reducible exact a17 | with_reducible exact a18 | with_reducible exact a20 | with_reducible exact a21 | with_reducible exact a22 | with_reducible exact a23
  | as_aux_lemma => kernel_rfl
set_option maxRecDepth 100000 in
theorem proved : Rows.FnTreesOwnedUptoSaid :=
 OpenClaim.holds_of_cond 3 Tryz.f3 rfl rfl rfl rfl rfl rfl rfl ⟨rfl,rfl,rfl,rfl,rfl⟩ rfl rfl rfl rfl rfl (by kernel_rfl) Tryz.func3 closed
  (of_decide_eq_true (by kernel_rfl)) (by unfold Func.isWrapper; first | (rw [if_pos (by decide +kernel)]; kernel_rfl) | (rw [if_neg (by decide +kernel)]; exact ⟨rfl,rfl⟩))
  (fun os started H enc _ F => lifted os started H enc F)
#print axioms proved
end Go.Proofs.YtfmjodemgaeceaaGreat.fnTreesOwned
