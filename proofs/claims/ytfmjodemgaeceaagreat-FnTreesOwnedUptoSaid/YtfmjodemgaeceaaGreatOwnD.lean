/- The proof that FnTreesOwned is true for each history, part 4: G31 G32 G33 G34 G35 G36 G37 G38 G39 G40 G41 G42 L6 L7 R8 G57 G58 G59 G43 G44 G45 G46 G47 G48 G49 R7 R9 L9 I2. No condition beyond the given one on bulk. -/
import Derived.Test.YtfmjodemgaeceaaGreatOwnC
namespace Go.Ux
open Go Go.Proofs
set_option maxRecDepth 20000
instance : Ent Tryz.prog 338 := ⟨fun a w => by kernel_rfl⟩
attribute [local irreducible] WP Tr
def szO : Option Tv → Nat
 | none => 0
 | some t => t.sz
theorem szO_kid {l : Option Tv} {k : Nm} {y : Option Tv} (hy : Lk (kids l) k y) : szO y ≤ szO l ∧ (y ≠ none → szO y < szO l) := by
 cases y with
 | none => exact ⟨Nat.zero_le _,fun h => absurd rfl h⟩
 | some t =>
  match l,hy with
  | some (.mp c),hy =>
   have h : t.sz ≤ szM c := sz_memM hy
   simp only [szO,Tv.sz]
   exact ⟨by omega,fun _ => by omega⟩
theorem sz_kids {l r : Option Tv} {k : Nm} {y z : Option Tv} (hy : Lk (kids l) k y) (hz : Lk (kids r) k z) (h : y ≠ none ∨ z ≠ none) : szO y + szO z < szO l + szO r := by
 have h1 := szO_kid hy
 have h2 := szO_kid hz
 rcases h with h | h
 ·have := h1.2 h; omega
 ·have := h2.2 h; omega
def T135 (N : Nat) : Prop := ∀ (l r : Option Tv) (Z : Fz) (w sc sb lb mb eb nb cb rb mm ab B : Nat) (lv rv pv sp rr : Value) (π U : List Nm) (pcs : List Value) (R M A : FS) (Hq HC Hs : Hp),
 szO l + szO r < N → (l ≠ none ∨ r ≠ none) → OV Z l lv → OV Z r rv → CpO l r → N ≤ B → B ≤ 17179869184 → π.length + N ≤ 17179869184 → CX Z U π pcs sc sb lb mb eb nb cb rb mm ab → inUO U l → inUO U r → Sl 308 4 pv pcs Hq → CS Z R M A rb mm ab HC → R.Wf U → M.Wf U → A.Wf U → SPc B sp Hs →
 Tr Tryz.prog 135 #[pt w,.nilFunc] Z ((w,cl (cw lv rv sc nb pv cb false sp rr) 343) :: (Hq ++ (HC ++ Hs))) fun v Z' H' => v = .slice none 0 0 ∧ ∃ q' pv' sp' R' M' A' Hq' G HC' Hs',H' = (w,cl (cw lv rv sc nb pv' cb q' sp' rr) 343) :: (Hq' ++ (G ++ (HC' ++ Hs'))) ∧ Sl 308 4 pv' pcs Hq' ∧ Kept pv pcs pv' G ∧ CS Z' R' M' A' rb mm ab HC' ∧ CR U l r π R M A R' M' A' ∧ SPc B sp' Hs' ∧ ((∃ b,sp = pt b) → sp' = sp)
theorem Sl.hd {e k : Nat} {v : Value} {cs ds : List Value} {H : Hp} (h : Sl e k v (cs ++ ds) H) (hd : ds.length = k) (hk : 0 < k) : ∃ a n c,v = .slice a (n + 1) c := by
 obtain ⟨a,n,c,rfl,h1,_⟩ := h.val
 rw [List.length_append,hd] at h1
 cases n with
 | zero => simp at h1; omega
 | succ n => exact ⟨a,n,c,rfl⟩
section
variable {Z : Fz} {U π : List Nm} {pcs : List Value} {sc sb lb mb eb nb cb rb mm ab : Nat} {l r : Option Tv} {lv rv pv sp rr : Value} {R M A : FS} {Hq HC Hs : Hp}
set_option maxHeartbeats 2000000 in
theorem f339 {N : Nat} (ih : T135 N) (w mo' B : Nat) (k : Nm) [One lv] [One rv] (cx : CX Z U π pcs sc sb lb mb eb nb cb rb mm ab) {y z : Option Tv} {vy vz : Value} (hy : OV Z y vy) (hz : OV Z z vz) (hsz : szO y + szO z < N) (hne : y ≠ none ∨ z ≠ none) (hcp : CpO y z)
  (hN : N ≤ B) (hB : B ≤ 17179869184) (hπ : π.length + 1 + N ≤ 17179869184) (hk : k ∈ U) (uy : inUO U y) (uz : inUO U z) (hq : Sl 308 4 pv pcs Hq) (hc : CS Z R M A rb mm ab HC) (wr : R.Wf U) (wm : M.Wf U) (wa : A.Wf U) (hs : SPc (B + 1) sp Hs) :
  Tr Tryz.prog 339 #[pt w,pt mb,.map (some mo'),.string k,vy,vz] Z ((w,cl (cw lv rv sc nb pv cb false sp rr) 343) :: (Hq ++ (HC ++ Hs))) fun x Z' H' => x = .slice none 0 0 ∧ ∃ pv' sp' R' M' A' Hq' G HC' Hs',H' = (w,cl (cw lv rv sc nb pv' cb false sp' rr) 343) :: (Hq' ++ (G ++ (HC' ++ Hs'))) ∧ Sl 308 4 pv' pcs Hq' ∧ Kept pv pcs pv' G ∧ CS Z' R' M' A' rb mm ab HC' ∧ CR U y z (π ++ [k]) R M A R' M' A' ∧ SPc (B + 1) sp' Hs' ∧ ((∃ b,sp = pt b) → sp' = sp) := by
 haveI := hs.one
 haveI := hq.one
 haveI := hy.one
 haveI := hz.one
 have hpl := cx.pm.len
 haveI : Zf Z mb _ := ⟨.of (cx.sch.m)⟩
 haveI : Zf Z cb _ := ⟨.of (cx.cmp)⟩
 refine Tr.introk Tryz.func339 rfl Tryz.ntmps339 Tryz.results339 rfl ?_
 refine gn ?_; intro b9
 refine gn ?_; intro b13
 refine gn ?_
 refine cp (f132 cx.sch k) ?_
 rintro _ rfl
 refine gn ?_; intro b14
 refine gn ?_; intro b16
 refine gn ?_
 refine WP.only ((w,cl (cw lv rv sc nb pv cb false sp rr) 343) :: (b16,cl (pe b9) 308) :: (b13,cl (tref eb) 100) :: (b9,cl [.string k] 9) :: (Hq ++ (HC ++ Hs))) ?_
 refine WP.drawS [(w,cl (cw lv rv sc nb pv cb false sp rr) 343),(b16,cl (pe b9) 308),(b13,cl (tref eb) 100)] ((b9,cl [.string k] 9) :: (Hq ++ (HC ++ Hs))) 7 mo (by decide +kernel) (prm rfl) ?_
 refine gn ?_
 refine ⟨[],_,spp,?_⟩
 refine ct (args := [pt w,.agg (pe b9).toArray,.agg (tref eb).toArray,pt cb]) (f340 w sc nb eb cb cb B b9 lv rv pv sp rr pcs Hq Hs hq (by omega) hs (by omega)) ?_
 rintro _ _ _ _ ⟨w',sp',pv',Hq',Hs',G,rfl,rfl,rfl,hq',hG,hs',⟨sb',rfl⟩,hk'⟩
 haveI := hq'.one
 refine o_assign rfl ?_
 refine r_end ?_
 refine q_n ?_
 refine WP.fz b9 ?_
 intro Z1 hz1 hb9
 refine gn ?_
 have cx1 : CX Z1 U (π ++ [k]) (pcs ++ pe b9) sc sb lb mb eb eb cb rb mm ab := ⟨cx.sch.mono hz1,hz1 _ _ cx.sch.e,hz1 _ _ cx.cmp,(cx.pm.mono hz1).app (show PM Z1 [k] (pe b9) from ⟨b9,[],rfl,hb9,rfl⟩),cx.u,fun x hx => by
  rcases List.mem_append.1 hx with h | h
  ·exact cx.k x h
  ·simp only [List.mem_singleton] at h; exact h ▸ hk⟩
 refine ct (args := [pt w',.nilFunc]) (ih y z Z1 w' sc sb lb mb eb eb cb rb mm ab B vy vz pv' (pt sb') rr (π ++ [k]) U (pcs ++ pe b9) R M A Hq' HC Hs' hsz hne (hy.lw hz1) (hz.lw hz1) hcp hN hB (by simp; omega) cx1 uy uz hq' (hc.lw hz1.lw) wr wm wa hs') ?_
 rintro _ Z₂ _ hz₂ ⟨rfl,q₂,pv₂,sp₂,R₂,M₂,A₂,Hq₂,G₂,HC₂,Hs₂,rfl,hq₂,hG₂,hc₂,cr,hs₂,hk₂⟩
 cases hk₂ ⟨_,rfl⟩
 obtain ⟨a,n,c,rfl⟩ := hq₂.hd rfl (by omega)
 refine o_apnil (k := 2) rfl rfl rfl ?_
 refine gn ?_
 refine ct (f341 w w' sb' sc nb eb cb cb B b9 n c a q₂ lv rv vy vz pv rr pcs Hq₂ Hs₂ hq₂ (by omega) hs₂ (by omega)) ?_
 rintro _ _ _ _ ⟨Hs₃,rfl,rfl,hq₃,hs₃⟩
 refine gn ?_
 rcases Kept.pop hq hG hG₂ rfl with hK | hK
 ·refine fk1 (A := (w,cl (cw lv rv sc nb (.slice a n c) cb false (pt sb') rr) 343) :: (Hq₂ ++ (G ++ (HC₂ ++ Hs₃)))) ?_
  exact ⟨rfl,_,_,R₂,M₂,A₂,Hq₂,G,HC₂,Hs₃,rfl,hq₃,hK,hc₂,cr,hs₃,hk'⟩
 ·refine fk1 (A := (w,cl (cw lv rv sc nb (.slice a n c) cb false (pt sb') rr) 343) :: (Hq₂ ++ (G₂ ++ (HC₂ ++ Hs₃)))) ?_
  exact ⟨rfl,_,_,R₂,M₂,A₂,Hq₂,G₂,HC₂,Hs₃,rfl,hq₃,hK,hc₂,cr,hs₃,hk'⟩
theorem Tr.frm {P : Program} {g : FuncId} {args : Array Value} {Z : Fz} {H A B : Hp} {Q Q' : Value → Fz → Hp → Prop} (h : Tr P g args Z A Q) [s : Spl A H B] (k : ∀ v Z' A',Fz.le Z Z' → Q v Z' A' → ∃ T X,(A' ++ B).Perm (T ++ X) ∧ Q' v Z' T) : Tr P g args Z H Q' := by
 unfold Tr at *
 intro w F hs
 have hs' : Sat w Z (A ++ (B ++ F)) := by
  refine hs.perm ?_
  rw [← List.append_assoc]; exact s.h.append_right F
 refine Calls.mono (h w (B ++ F) hs') ?_
 rintro e w' ⟨v,he,Z',H',hz,hs2,ht,hq⟩
 obtain ⟨T,X,hp,hq'⟩ := k v Z' H' hz hq
 refine ⟨v,he,Z',T,hz,?_,ht,hq'⟩
 have h3 : Sat w' Z' ((T ++ X) ++ F) := hs2.perm (by rw [← List.append_assoc]; exact hp.append_right F)
 have h4 : ((T ++ X) ++ F).Perm (X ++ (T ++ F)) := by
  rw [← List.append_assoc]; exact List.perm_append_comm.append_right F
 exact (h3.perm h4).drop
theorem f338 {N : Nat} (ih : T135 N) (w mo' B b8 b4 b5 b9 : Nat) (k : Nm) [One lv] [One rv] (cx : CX Z U π pcs sc sb lb mb eb nb cb rb mm ab) {y z : Option Tv} {vy vz : Value} (hy : OV Z y vy) (hz : OV Z z vz) (hsz : szO y + szO z < N) (hne : y ≠ none ∨ z ≠ none) (hcp : CpO y z)
  (hN : N ≤ B) (hB : B ≤ 17179869184) (hπ : π.length + 1 + N ≤ 17179869184) (hk : k ∈ U) (uy : inUO U y) (uz : inUO U z) (hq : Sl 308 4 pv pcs Hq) (hc : CS Z R M A rb mm ab HC) (wr : R.Wf U) (wm : M.Wf U) (wa : A.Wf U) (hs : SPc (B + 1) sp Hs)
  (h4 : Z b4 = some (cl [pt w] 340)) (h5 : Z b5 = some (cl [pt mb] 95)) (h9 : Z b9 = some (cl [.map (some mo')] 198)) :
  Tr Tryz.prog 338 #[.string k,vy,vz,pt b8,pt b4,pt b5,pt b9] Z ((b8,cl [.slice none 0 0] 229) :: (w,cl (cw lv rv sc nb pv cb false sp rr) 343) :: (Hq ++ (HC ++ Hs))) fun x Z' H' => x = .bool true ∧ ∃ pv' sp' R' M' A' Hq' G HC' Hs',H' = (b8,cl [.slice none 0 0] 229) :: (w,cl (cw lv rv sc nb pv' cb false sp' rr) 343) :: (Hq' ++ (G ++ (HC' ++ Hs'))) ∧ Sl 308 4 pv' pcs Hq' ∧ Kept pv pcs pv' G ∧ CS Z' R' M' A' rb mm ab HC' ∧ CR U y z (π ++ [k]) R M A R' M' A' ∧ SPc (B + 1) sp' Hs' ∧ ((∃ b,sp = pt b) → sp' = sp) := by
 haveI := hs.one
 haveI := hq.one
 haveI := hy.one
 haveI := hz.one
 haveI : Zf Z b4 _ := ⟨.of (h4)⟩
 haveI : Zf Z b5 _ := ⟨.of (h5)⟩
 haveI : Zf Z b9 _ := ⟨.of (h9)⟩
 refine Tr.introk Tryz.func338 rfl Tryz.ntmps338 Tryz.results338 rfl ?_
 refine gn ?_
 refine WP.drawS [(b8,cl [.slice none 0 0] 229)] ((w,cl (cw lv rv sc nb pv cb false sp rr) 343) :: (Hq ++ (HC ++ Hs))) 9 mo (by decide +kernel) (prm rfl) ?_
 refine gn ?_
 refine ct (args := [pt w,pt mb,.map (some mo'),.string k,vy,vz]) (f339 (lv := lv) (rv := rv) (sp := sp) (rr := rr) (Hs := Hs) ih w mo' B k cx hy hz hsz hne hcp hN hB hπ hk uy uz hq hc wr wm wa hs) ?_
 rintro _ Z₂ _ hz₂ ⟨rfl,pv₂,sp₂,R₂,M₂,A₂,Hq₂,G₂,HC₂,Hs₂,rfl,hq₂,hG₂,hc₂,cr,hs₂,hk₂⟩
 refine o_apnil (k := 2) rfl rfl rfl ?_
 refine r_two [] ?_
 refine gn ?_
 refine fk1 (A := (b8,cl [.slice none 0 0] 229) :: (w,cl (cw lv rv sc nb pv₂ cb false sp₂ rr) 343) :: (Hq₂ ++ (G₂ ++ (HC₂ ++ Hs₂)))) ?_
 exact ⟨rfl,_,_,R₂,M₂,A₂,Hq₂,G₂,HC₂,Hs₂,rfl,hq₂,hG₂,hc₂,cr,hs₂,hk₂⟩
set_option maxHeartbeats 1000000 in
theorem f335 {N : Nat} (ih : T135 N) (w B : Nat) [One lv] [One rv] (cx : CX Z U π pcs sc sb lb mb eb nb cb rb mm ab) (hsz : szO l + szO r < N + 1) (hcp : CpO l r) {x y : Value} (hx : MO Z (kids l) x) (hy : MO Z (kids r) y)
  (hN : N ≤ B) (hB : B ≤ 17179869184) (hπ : π.length + 1 + N ≤ 17179869184) (ul : inUO U l) (ur : inUO U r) (hq : Sl 308 4 pv pcs Hq) (hc : CS Z R M A rb mm ab HC) (wr : R.Wf U) (wm : M.Wf U) (wa : A.Wf U) (hs : SPc (B + 1) sp Hs) :
  Tr Tryz.prog 335 #[pt w,pt mb,x,y] Z ((w,cl (cw lv rv sc nb pv cb false sp rr) 343) :: (Hq ++ (HC ++ Hs))) fun x Z' H' => x = .slice none 0 0 ∧ ∃ pv' sp' R' M' A' Hq' G HC' Hs',H' = (w,cl (cw lv rv sc nb pv' cb false sp' rr) 343) :: (Hq' ++ (G ++ (HC' ++ Hs'))) ∧ Sl 308 4 pv' pcs Hq' ∧ Kept pv pcs pv' G ∧ CS Z' R' M' A' rb mm ab HC' ∧ CF U l r π R M A R' M' A' ∧ SPc (B + 1) sp' Hs' ∧ ((∃ b,sp = pt b) → sp' = sp) := by
 haveI := hs.one
 haveI := hq.one
 haveI := hx.one
 haveI := hy.one
 refine Tr.introk Tryz.func335 rfl Tryz.ntmps335 Tryz.results335 rfl ?_
 refine gn ?_; intro b4
 refine gn ?_; intro b5
 refine gn ?_; intro b8
 refine gn ?_; intro mo'
 refine gn ?_; intro b9
 refine o_store1 (v := .map (some mo')) rfl rfl rfl ?_
 refine r_end ?_
 refine q_n ?_
 refine WP.fz b4 ?_
 intro Z1 hz1 h4
 refine WP.fz b5 ?_
 intro Z2 hz2 h5
 refine WP.fz b9 ?_
 intro Z3 hz3 h9
 have hz : Fz.le Z Z3 := (hz1.trans hz2).trans hz3
 replace h4 := hz3 _ _ (hz2 _ _ h4)
 replace h5 := hz3 _ _ h5
 haveI : Zf Z3 b4 _ := ⟨.of (h4)⟩
 have n1 : nodK l := hx.nd
 have n2 : nodK r := hy.nd
 refine WP.only ((b8,cl [.slice none 0 0] 229) :: (w,cl (cw lv rv sc nb pv cb false sp rr) 343) :: (Hq ++ (HC ++ Hs))) ?_
 refine gn ?_
 refine ct (args := [.iface 261 rr,x,y,.int .i64 0,.func (.func 338) #[] #[pt b8,pt b4,pt b5,pt b9]]) (f205 (g := 338) (fs := []) (cs := [pt b8,pt b4,pt b5,pt b9]) (Z := Z3) (la := kids l) (lb := kids r) (r := rr) (H := (b8,cl [.slice none 0 0] 229) :: (w,cl (cw lv rv sc nb pv cb false sp rr) 343) :: (Hq ++ (HC ++ Hs)))
  (I := fun done Z' H' => ∃ pv' sp' R' M' A' Hq' G HC' Hs',H' = (b8,cl [.slice none 0 0] 229) :: (w,cl (cw lv rv sc nb pv' cb false sp' rr) 343) :: (Hq' ++ (G ++ (HC' ++ Hs'))) ∧ Sl 308 4 pv' pcs Hq' ∧ Kept pv pcs pv' G ∧ CS Z' R' M' A' rb mm ab HC' ∧ CK U l r π done R M A R' M' A' ∧ SPc (B + 1) sp' Hs' ∧ ((∃ b,sp = pt b) → sp' = sp))
  ?zc ?st x y (hx.mono hz) (hy.mono hz) ⟨pv,sp,R,M,A,Hq,[],HC,Hs,rfl,hq,.refl,hc.lw hz.lw,.nil wr wm wa,hs,fun _ => rfl⟩) ?_
 case st =>
  rintro done Z Z' H hz ⟨pv',sp',R',M',A',Hq',G,HC',Hs',h1,h2,h3,h4,h5⟩
  exact ⟨pv',sp',R',M',A',Hq',G,HC',Hs',h1,h2,h3,h4.lw hz,h5⟩
 case zc =>
  rintro done k a b va vb Z₁ H₁ hz₁ ⟨pv₁,sp₁,R₁,M₁,A₁,Hq₁,G₁,HC₁,Hs₁,rfl,hq₁,hG₁,hc₁,ck,hs₁,hk₁⟩ hkd ha hb hne va' vb'
  have hku : k ∈ U := by
   rcases hne with h | h
   ·cases a with
    | none => exact absurd rfl h
    | some t => exact ul.key ha
   ·cases b with
    | none => exact absurd rfl h
    | some t => exact ur.key hb
  refine Tr.frm (A := (b8,cl [.slice none 0 0] 229) :: (w,cl (cw lv rv sc nb pv₁ cb false sp₁ rr) 343) :: (Hq₁ ++ (HC₁ ++ Hs₁))) (f338 (lv := lv) (rv := rv) (sp := sp₁) (rr := rr) (Hs := Hs₁) ih w mo' B b8 b4 b5 b9 k (cx.mono (hz.trans hz₁)) va' vb' (Nat.lt_of_lt_of_le (sz_kids ha hb hne) (by omega)) hne (hcp.kid ha hb) hN hB hπ hku (ul.kid ha) (ur.kid hb) hq₁ hc₁ ck.wr ck.wm ck.wa hs₁ (hz₁ _ _ h4) (hz₁ _ _ h5) (hz₁ _ _ h9)) ?_
  rintro _ Z₂ _ _ ⟨rfl,pv₂,sp₂,R₂,M₂,A₂,Hq₂,G₂,HC₂,Hs₂,rfl,hq₂,hG₂,hc₂,cr,hs₂,hk₂⟩
  have hk₃ : (∃ b,sp = pt b) → sp₂ = sp := fun ⟨b,h⟩ => (hk₂ ⟨b,(hk₁ ⟨b,h⟩).trans h⟩).trans (hk₁ ⟨b,h⟩)
  rcases hG₁.trans hG₂ with hK | ⟨rfl,hK⟩
  ·exact ⟨(b8,cl [.slice none 0 0] 229) :: (w,cl (cw lv rv sc nb pv₂ cb false sp₂ rr) 343) :: (Hq₂ ++ (G₁ ++ (HC₂ ++ Hs₂))),_,spp,rfl,pv₂,sp₂,R₂,M₂,A₂,Hq₂,G₁,HC₂,Hs₂,rfl,hq₂,hK,hc₂,ck.step n1 n2 ha hb cr,hs₂,hk₃⟩
  ·exact ⟨(b8,cl [.slice none 0 0] 229) :: (w,cl (cw lv rv sc nb pv₂ cb false sp₂ rr) 343) :: (Hq₂ ++ (G₂ ++ (HC₂ ++ Hs₂))),_,spp,rfl,pv₂,sp₂,R₂,M₂,A₂,Hq₂,G₂,HC₂,Hs₂,rfl,hq₂,hK,hc₂,ck.step n1 n2 ha hb cr,hs₂,hk₃⟩
 rintro _ Z₁ _ hz₁ ⟨rfl,done,hd,pv₁,sp₁,R₁,M₁,A₁,Hq₁,G₁,HC₁,Hs₁,rfl,hq₁,hG₁,hc₁,ck,hs₁,hk₁⟩
 refine gn ?_
 exact fkS (A := (w,cl (cw lv rv sc nb pv₁ cb false sp₁ rr) 343) :: (Hq₁ ++ (G₁ ++ (HC₁ ++ Hs₁)))) rfl rfl ⟨rfl,pv₁,sp₁,R₁,M₁,A₁,Hq₁,G₁,HC₁,Hs₁,rfl,hq₁,hG₁,hc₁,ck.all hd,hs₁,hk₁⟩
end
end Go.Ux
namespace Go.Ux
open Go Go.Proofs
set_option maxRecDepth 20000
attribute [local irreducible] WP Tr
def HQ (U : List Nm) (l r : Option Tv) (π : List Nm) (R M A : FS) (q' : Bool) (R' M' A' : FS) : Prop := (q' = true ∧ CR U l r π R M A R' M' A') ∨ (q' = false ∧ Nlf l ∧ Nlf r ∧ CF U l r π R M A R' M' A')
def PQ (U : List Nm) (l r : Option Tv) (π : List Nm) (pcs : List Value) (R M A : FS) (lv rv pv sp rr : Value) (w sc nb cb rb mm ab B : Nat) (x : Value) (Z' : Fz) (H' : Hp) : Prop :=
 x = .slice none 0 0 ∧ ∃ q' pv' sp' R' M' A' Hq' G HC' Hs',H' = (w,cl (cw lv rv sc nb pv' cb q' sp' rr) 343) :: (Hq' ++ (G ++ (HC' ++ Hs'))) ∧ Sl 308 4 pv' pcs Hq' ∧ Kept pv pcs pv' G ∧ CS Z' R' M' A' rb mm ab HC' ∧ HQ U l r π R M A q' R' M' A' ∧ SPc B sp' Hs' ∧ ((∃ b,sp = pt b) → sp' = sp)
section
variable {Z : Fz} {U π : List Nm} {pcs : List Value} {sc sb lb mb eb nb cb rb mm ab : Nat} {l r : Option Tv} {lv rv pv sp rr : Value} {R M A : FS} {Hq HC Hs : Hp}
set_option maxHeartbeats 4000000 in
theorem f330 {N : Nat} (ih : T135 N) (w B : Nat) (cx : CX Z U π pcs sc sb lb mb eb nb cb rb mm ab) (hl : OV Z l lv) (hr : OV Z r rv) (nl : Nlf l) (nr : Nlf r) (hne : l ≠ none ∨ r ≠ none) (hsz : szO l + szO r < N + 1) (hcp : CpO l r)
  (hN : N ≤ B) (hB : B ≤ 17179869184) (hπ : π.length + 1 + N ≤ 17179869184) (ul : inUO U l) (ur : inUO U r) (hq : Sl 308 4 pv pcs Hq) (hc : CS Z R M A rb mm ab HC) (wr : R.Wf U) (wm : M.Wf U) (wa : A.Wf U) (hs : SPc (B + 1) sp Hs) :
  Tr Tryz.prog 330 #[pt w,pt mb] Z ((w,cl (cw lv rv sc nb pv cb false sp rr) 343) :: (Hq ++ (HC ++ Hs))) (PQ U l r π pcs R M A lv rv pv sp rr w sc nb cb rb mm ab (B + 1)) := by
 haveI := hs.one
 haveI := hq.one
 haveI := hl.one
 haveI := hr.one
 haveI : Zf Z mb _ := ⟨.of (cx.sch.m)⟩
 refine Tr.introk Tryz.func330 rfl Tryz.ntmps330 Tryz.results330 rfl ?_
 refine gn ?_
 refine ct (f334 (lv := lv) (rv := rv) (pv := pv) (sp := sp) (rr := rr) (sc := sc) (nb := nb) (cb := cb) w false (.string _) lv hl nl) ?_
 rintro _ _ _ _ ⟨rfl,rfl,x,rfl,hx⟩
 haveI := hx.one
 rcases hx with ⟨k1,rfl⟩ | ⟨m1,rfl,hm1⟩
 ·refine gn ?_
  refine ct (f334 (lv := lv) (rv := rv) (pv := pv) (sp := sp) (rr := rr) (sc := sc) (nb := nb) (cb := cb) w false (.string _) rv hr nr) ?_
  rintro _ _ _ _ ⟨rfl,rfl,y,rfl,hy⟩
  haveI := hy.one
  rcases hy with ⟨k2,rfl⟩ | ⟨m2,rfl,hm2⟩
  ·refine gn ?_
   refine o_eqs rfl rfl rfl (r := false) (by decide +kernel) ?_
   refine gn ?_
   refine ct (f328 (Hs := Hs) (sp := sp) (rr := rr) w cx hl hr k1 k2 hne hq hc wr wm wa) ?_
   rintro _ _ _ _ ⟨rfl,rfl,R',M',A',HC',rfl,h1,h2⟩
   refine gn ?_
   exact fk1 (A := (w,cl (cw lv rv sc nb pv cb true sp rr) 343) :: (Hq ++ ([] ++ (HC' ++ Hs)))) ⟨rfl,true,pv,sp,R',M',A',Hq,[],HC',Hs,rfl,hq,.refl,h1,.inl ⟨rfl,h2⟩,hs,fun _ => rfl⟩
  ·refine gn ?_
   refine o_free rfl rfl ?_
   refine gn ?_
   obtain ⟨es2,c2,es2',hz2,hst2,hp2,hav2⟩ := id hm2
   haveI : Zf Z m2 _ := ⟨.of (hz2)⟩
   refine cip (args := []) (f369 m2 c2 es2 Z) ?_
   rintro _ rfl
   by_cases he2 : es2.length = 0
   ·rw [decide_eq_true he2]
    refine gn ?_
    refine o_eqs rfl rfl rfl (r := false) (by decide +kernel) ?_
    refine gn ?_
    refine ct (f328 (Hs := Hs) (sp := sp) (rr := rr) w cx hl hr k1 ((MP.nil hp2 hav2).1 he2) hne hq hc wr wm wa) ?_
    rintro _ _ _ _ ⟨rfl,rfl,R',M',A',HC',rfl,h1,h2⟩
    refine gn ?_
    refine fin_free ?_
    exact fk1 (A := (w,cl (cw lv rv sc nb pv cb true sp rr) 343) :: (Hq ++ ([] ++ (HC' ++ Hs)))) ⟨rfl,true,pv,sp,R',M',A',Hq,[],HC',Hs,rfl,hq,.refl,h1,.inl ⟨rfl,h2⟩,hs,fun _ => rfl⟩
   ·rw [decide_eq_false he2]
    refine gn ?_
    refine o_eqs rfl rfl rfl (r := false) (by decide +kernel) ?_
    refine gn ?_
    refine ct (f335 (lv := lv) (rv := rv) (Hs := Hs) (sp := sp) (rr := rr) ih w B cx hsz hcp (.inl ⟨k1,rfl⟩) (.inr ⟨m2,rfl,hm2⟩) hN hB hπ ul ur hq hc wr wm wa hs) ?_
    rintro _ Z₁ _ hz₁ ⟨rfl,pv₁,sp₁,R₁,M₁,A₁,Hq₁,G₁,HC₁,Hs₁,rfl,hq₁,hG₁,hc₁,cf,hs₁,hk₁⟩
    refine o_apnil (k := 2) rfl rfl rfl ?_
    refine gn ?_
    refine fin_free ?_
    exact fk1 (A := (w,cl (cw lv rv sc nb pv₁ cb false sp₁ rr) 343) :: (Hq₁ ++ (G₁ ++ (HC₁ ++ Hs₁)))) ⟨rfl,false,pv₁,sp₁,R₁,M₁,A₁,Hq₁,G₁,HC₁,Hs₁,rfl,hq₁,hG₁,hc₁,.inr ⟨rfl,nl,nr,cf⟩,hs₁,hk₁⟩
 ·refine gn ?_
  refine o_free rfl rfl ?_
  refine gn ?_
  refine ct (f334 (lv := lv) (rv := rv) (pv := pv) (sp := sp) (rr := rr) (sc := sc) (nb := nb) (cb := cb) w false (.string _) rv hr nr) ?_
  rintro _ _ _ _ ⟨rfl,rfl,y,rfl,hy⟩
  haveI := hy.one
  rcases hy with ⟨k2,rfl⟩ | ⟨m2,rfl,hm2⟩
  ·refine gn ?_
   obtain ⟨es1,c1,es1',hz1,hst1,hp1,hav1⟩ := id hm1
   haveI : Zf Z m1 _ := ⟨.of (hz1)⟩
   refine cip (args := []) (f369 m1 c1 es1 Z) ?_
   rintro _ rfl
   by_cases he1 : es1.length = 0
   ·rw [decide_eq_true he1]
    refine gn ?_
    refine o_eqs rfl rfl rfl (r := false) (by decide +kernel) ?_
    refine gn ?_
    refine ct (f328 (Hs := Hs) (sp := sp) (rr := rr) w cx hl hr ((MP.nil hp1 hav1).1 he1) k2 hne hq hc wr wm wa) ?_
    rintro _ _ _ _ ⟨rfl,rfl,R',M',A',HC',rfl,h1,h2⟩
    refine gn ?_
    refine fin_free ?_
    exact fk1 (A := (w,cl (cw lv rv sc nb pv cb true sp rr) 343) :: (Hq ++ ([] ++ (HC' ++ Hs)))) ⟨rfl,true,pv,sp,R',M',A',Hq,[],HC',Hs,rfl,hq,.refl,h1,.inl ⟨rfl,h2⟩,hs,fun _ => rfl⟩
   ·rw [decide_eq_false he1]
    refine gn ?_
    refine o_eqs rfl rfl rfl (r := false) (by decide +kernel) ?_
    refine gn ?_
    refine ct (f335 (lv := lv) (rv := rv) (Hs := Hs) (sp := sp) (rr := rr) ih w B cx hsz hcp (.inr ⟨m1,rfl,hm1⟩) (.inl ⟨k2,rfl⟩) hN hB hπ ul ur hq hc wr wm wa hs) ?_
    rintro _ Z₁ _ hz₁ ⟨rfl,pv₁,sp₁,R₁,M₁,A₁,Hq₁,G₁,HC₁,Hs₁,rfl,hq₁,hG₁,hc₁,cf,hs₁,hk₁⟩
    refine o_apnil (k := 2) rfl rfl rfl ?_
    refine gn ?_
    refine fin_free ?_
    exact fk1 (A := (w,cl (cw lv rv sc nb pv₁ cb false sp₁ rr) 343) :: (Hq₁ ++ (G₁ ++ (HC₁ ++ Hs₁)))) ⟨rfl,false,pv₁,sp₁,R₁,M₁,A₁,Hq₁,G₁,HC₁,Hs₁,rfl,hq₁,hG₁,hc₁,.inr ⟨rfl,nl,nr,cf⟩,hs₁,hk₁⟩
  ·refine gn ?_
   refine o_free rfl rfl ?_
   refine gn ?_
   obtain ⟨es1,c1,es1',hz1,hst1,hp1,hav1⟩ := id hm1
   haveI : Zf Z m1 _ := ⟨.of (hz1)⟩
   refine cip (args := []) (f369 m1 c1 es1 Z) ?_
   rintro _ rfl
   by_cases he1 : es1.length = 0
   ·rw [decide_eq_true he1]
    refine gn ?_
    obtain ⟨es2,c2,es2',hz2,hst2,hp2,hav2⟩ := id hm2
    haveI : Zf Z m2 _ := ⟨.of (hz2)⟩
    refine cip (args := []) (f369 m2 c2 es2 Z) ?_
    rintro _ rfl
    by_cases he2 : es2.length = 0
    ·rw [decide_eq_true he2]
     refine gn ?_
     refine o_eqs rfl rfl rfl (r := false) (by decide +kernel) ?_
     refine gn ?_
     refine ct (f328 (Hs := Hs) (sp := sp) (rr := rr) w cx hl hr ((MP.nil hp1 hav1).1 he1) ((MP.nil hp2 hav2).1 he2) hne hq hc wr wm wa) ?_
     rintro _ _ _ _ ⟨rfl,rfl,R',M',A',HC',rfl,h1,h2⟩
     refine gn ?_
     refine fin_free ?_
     refine fin_free ?_
     exact fk1 (A := (w,cl (cw lv rv sc nb pv cb true sp rr) 343) :: (Hq ++ ([] ++ (HC' ++ Hs)))) ⟨rfl,true,pv,sp,R',M',A',Hq,[],HC',Hs,rfl,hq,.refl,h1,.inl ⟨rfl,h2⟩,hs,fun _ => rfl⟩
    ·rw [decide_eq_false he2]
     refine gn ?_
     refine o_eqs rfl rfl rfl (r := false) (by decide +kernel) ?_
     refine gn ?_
     refine ct (f335 (lv := lv) (rv := rv) (Hs := Hs) (sp := sp) (rr := rr) ih w B cx hsz hcp (.inr ⟨m1,rfl,hm1⟩) (.inr ⟨m2,rfl,hm2⟩) hN hB hπ ul ur hq hc wr wm wa hs) ?_
     rintro _ Z₁ _ hz₁ ⟨rfl,pv₁,sp₁,R₁,M₁,A₁,Hq₁,G₁,HC₁,Hs₁,rfl,hq₁,hG₁,hc₁,cf,hs₁,hk₁⟩
     refine o_apnil (k := 2) rfl rfl rfl ?_
     refine gn ?_
     refine fin_free ?_
     refine fin_free ?_
     exact fk1 (A := (w,cl (cw lv rv sc nb pv₁ cb false sp₁ rr) 343) :: (Hq₁ ++ (G₁ ++ (HC₁ ++ Hs₁)))) ⟨rfl,false,pv₁,sp₁,R₁,M₁,A₁,Hq₁,G₁,HC₁,Hs₁,rfl,hq₁,hG₁,hc₁,.inr ⟨rfl,nl,nr,cf⟩,hs₁,hk₁⟩
   ·rw [decide_eq_false he1]
    refine gn ?_
    refine o_eqs rfl rfl rfl (r := false) (by decide +kernel) ?_
    refine gn ?_
    refine ct (f335 (lv := lv) (rv := rv) (Hs := Hs) (sp := sp) (rr := rr) ih w B cx hsz hcp (.inr ⟨m1,rfl,hm1⟩) (.inr ⟨m2,rfl,hm2⟩) hN hB hπ ul ur hq hc wr wm wa hs) ?_
    rintro _ Z₁ _ hz₁ ⟨rfl,pv₁,sp₁,R₁,M₁,A₁,Hq₁,G₁,HC₁,Hs₁,rfl,hq₁,hG₁,hc₁,cf,hs₁,hk₁⟩
    refine o_apnil (k := 2) rfl rfl rfl ?_
    refine gn ?_
    refine fin_free ?_
    refine fin_free ?_
    exact fk1 (A := (w,cl (cw lv rv sc nb pv₁ cb false sp₁ rr) 343) :: (Hq₁ ++ (G₁ ++ (HC₁ ++ Hs₁)))) ⟨rfl,false,pv₁,sp₁,R₁,M₁,A₁,Hq₁,G₁,HC₁,Hs₁,rfl,hq₁,hG₁,hc₁,.inr ⟨rfl,nl,nr,cf⟩,hs₁,hk₁⟩
theorem f159c {N : Nat} (ih : T135 N) (w B : Nat) (t : Tv) (cx : CX Z U π pcs sc sb lb mb eb nb cb rb mm ab) (hl : OV Z l lv) (hr : OV Z r rv) (cl' : ∀ s,l = some s → s.cls = t.cls) (cr' : ∀ s,r = some s → s.cls = t.cls) (hne : l ≠ none ∨ r ≠ none) (hsz : szO l + szO r < N + 1) (hcp : CpO l r)
  (hN : N ≤ B) (hB : B ≤ 17179869184) (hπ : π.length + 1 + N ≤ 17179869184) (ul : inUO U l) (ur : inUO U r) (hq : Sl 308 4 pv pcs Hq) (hc : CS Z R M A rb mm ab HC) (wr : R.Wf U) (wm : M.Wf U) (wa : A.Wf U) (hs : SPc (B + 1) sp Hs) :
  Tr Tryz.prog 159 #[.agg (t.at1.cells sb lb mb).toArray,.agg (tref nb).toArray,.iface 340 (pt w)] Z ((w,cl (cw lv rv sc nb pv cb false sp rr) 343) :: (Hq ++ (HC ++ Hs))) (PQ U l r π pcs R M A lv rv pv sp rr w sc nb cb rb mm ab (B + 1)) := by
 haveI := hs.one
 have sc1 : ∀ {o : Option Tv} {u : Value},(∀ s,o = some s → s.cls = (Tv.sc u).cls) → ScO o := fun h s hs => by
  have := h s hs
  cases s <;> simp [Tv.cls] at this
  exact ⟨_,rfl⟩
 have li1 : ∀ {o : Option Tv} {u : Value} {ts : List Tv},(∀ s,o = some s → s.cls = (Tv.li u ts).cls) → LiO o := fun h s hs => by
  have := h s hs
  cases s <;> simp [Tv.cls] at this
  exact ⟨_,_,rfl⟩
 have fin : ∀ {x : Value} {Z' : Fz} {H' : Hp},(x = .slice none 0 0 ∧ Z = Z' ∧ ∃ R' M' A' HC',H' = (w,cl (cw lv rv sc nb pv cb true sp rr) 343) :: (Hq ++ (HC' ++ Hs)) ∧ CS Z R' M' A' rb mm ab HC' ∧ CR U l r π R M A R' M' A') → PQ U l r π pcs R M A lv rv pv sp rr w sc nb cb rb mm ab (B + 1) x Z' H' := by
  rintro x Z' H' ⟨rfl,rfl,R',M',A',HC',rfl,h1,h2⟩
  exact ⟨rfl,true,pv,sp,R',M',A',Hq,[],HC',Hs,rfl,hq,.refl,h1,.inl ⟨rfl,h2⟩,hs,fun _ => rfl⟩
 cases t with
 | null => exact f159_mp _ (.inr rfl) (f330 ih w B cx hl hr cl' cr' hne hsz hcp hN hB hπ ul ur hq hc wr wm wa hs)
 | sc u => exact f159_sc (Tr.mono (f331 (sp := sp) (rr := rr) (Hs := Hs) w cx hl hr (sc1 cl') (sc1 cr') hne hq hc wr wm wa) fun _ _ _ h => fin h)
 | li u ts => exact f159_li (Tr.mono (f329 (sp := sp) (rr := rr) (Hs := Hs) w cx hl hr (li1 cl') (li1 cr') hne hq hc wr wm wa) fun _ _ _ h => fin h)
 | mp c => exact f159_mp _ (.inl rfl) (f330 ih w B cx hl hr cl' cr' hne hsz hcp hN hB hπ ul ur hq hc wr wm wa hs)
end
end Go.Ux
namespace Go.Ux
open Go Go.Proofs
set_option maxRecDepth 20000
attribute [local irreducible] WP Tr
theorem ov_nodK {Z : Fz} {t : Option Tv} {v : Value} (h : OV Z t v) : nodK t := by
 cases t with
 | none => simp [nodK,kids]
 | some t =>
  obtain ⟨a,u,_,_,hu⟩ := ov_tr h
  cases t with
  | mp l => exact hu.uk [] l (.here _)
  | _ => simp [nodK,kids]
section
variable {sb lb mb : Nat}
theorem at1_len (x : At1) : (At1.cells sb lb mb x).length = 3 := by cases x <;> rfl
theorem at1_one (x : At1) : (At1.cells sb lb mb x).all Value.oneCell' = true := by cases x <;> rfl
theorem at1_take (x : At1) : ((At1.cells sb lb mb x).drop 0).take 3 = At1.cells sb lb mb x := by cases x <;> rfl
theorem at1_set (x : At1) : SetS [.pointer none,.pointer none,.pointer none] 0 (At1.cells sb lb mb x) (At1.cells sb lb mb x) := SetS.full (by rw [at1_len]; rfl)
end
theorem cw_all {lv rv pv sp rr : Value} {sc nb cb : Nat} {q : Bool} [h1 : One lv] [h2 : One rv] [h3 : One pv] [h4 : One sp] : (cw lv rv sc nb pv cb q sp rr).all Value.oneCell' = true := by
 simp only [List.all_cons,List.all_nil,h1.h.2,h2.h.2,h3.h.2,h4.h.2]; rfl
theorem WP.keepP {P : Program} {n : Nat} {c : Code} {Q : Post} {f : Fr} {Z : Fz} {H : Hp} (A : Hp) {X : Hp} (hp : H.Perm (A ++ X)) (h : WP P n c Q f Z A) : WP P n c Q f Z H :=
 WP.perm (hp.trans List.perm_append_comm) (WP.drop h)
theorem back2 {B : Nat} {pv pv₀ sp sp₀ : Value} {pcs : List Value} {Hq₀ G₀ Hs Hs₀ HC : Hp} (hq : Sl 308 4 pv₀ pcs Hq₀) (hG : Kept pv pcs pv₀ G₀) (hs : SPc B sp Hs) (hs₀ : SPc B sp₀ Hs₀) (hk : (∃ b,sp = pt b) → sp₀ = sp) :
  ∃ Hq₂ Hs₂ X,(Hq₀ ++ (G₀ ++ (HC ++ Hs₀))).Perm ((Hq₂ ++ (HC ++ Hs₂)) ++ X) ∧ Sl 308 4 pv pcs Hq₂ ∧ SPc B sp Hs₂ := by
 have h1 : ∃ Hs₂ Y,Hs₀.Perm (Hs₂ ++ Y) ∧ SPc B sp Hs₂ := by
  rcases hs with ⟨rfl,rfl⟩ | ⟨b,_,_,_,_,rfl,_⟩
  ·exact ⟨[],Hs₀,.refl _,.nil⟩
  ·rw [hk ⟨b,rfl⟩] at hs₀; exact ⟨Hs₀,[],by rw [List.append_nil],hs₀⟩
 obtain ⟨Hs₂,Y,hY,hs₂⟩ := h1
 rcases hG with ⟨rfl,rfl⟩ | hG
 ·refine ⟨Hq₀,Hs₂,Y,?_,hq,hs₂⟩
  rw [List.nil_append,List.append_assoc,List.append_assoc]
  exact (hY.append_left HC).append_left Hq₀
 ·refine ⟨G₀,Hs₂,Y ++ Hq₀,?_,hG,hs₂⟩
  refine (List.perm_append_comm (l₁ := Hq₀)).trans ?_
  rw [← List.append_assoc (G₀ ++ (HC ++ Hs₂))]
  refine List.Perm.append_right Hq₀ ?_
  rw [List.append_assoc,List.append_assoc]
  exact (hY.append_left HC).append_left G₀
set_option maxHeartbeats 8000000 in
theorem f135 : ∀ N,T135 N
 | 0 => fun l r Z w sc sb lb mb eb nb cb rb mm ab B lv rv pv sp rr π U pcs R M A Hq HC Hs hsz => by omega
 | N + 1 => by
  intro l r Z w sc sb lb mb eb nb cb rb mm ab B lv rv pv sp rr π U pcs R M A Hq HC Hs hsz hne hl hr hcp hN hB hπ cx ul ur hq hc wr wm wa hs
  obtain ⟨B,rfl⟩ : ∃ B',B = B' + 1 := ⟨B - 1,by omega⟩
  haveI := hs.one
  haveI := hq.one
  have ih := f135 N
  refine Tr.introk Tryz.func135 rfl Tryz.ntmps135 Tryz.results135 rfl ?_
  cases l with
  | none =>
   cases r with
   | none => exact absurd rfl (hne.resolve_left fun h => h rfl)
   | some t =>
    obtain ⟨b,u,rfl,hb,hu⟩ := ov_tr hr
    cases ov_no hl
    refine gn ?_
    refine WP.drawT [(w,cl (cw .nilIface (vv b) sc nb pv cb false sp rr) 343)] (Hq ++ (HC ++ Hs)) mo (by decide +kernel) (prm rfl) ?_
    refine gn ?_
    refine cp (args := [pt sc,.agg (tref nb).toArray]) (f131 cx.sch nb cx.nm) ?_
    rintro _ rfl
    refine gn ?_; intro b5
    refine gn ?_
    refine WP.drawT [(w,cl (cw .nilIface (vv b) sc nb pv cb false sp rr) 343),(b5,cl (atom sb lb mb) 97)] (Hq ++ (HC ++ Hs)) mo (by decide +kernel) (prm rfl) ?_
    refine gn ?_
    refine cp (args := [.agg (atom sb lb mb).toArray,.nilIface]) (f162 _ _ hl) ?_
    rintro _ rfl
    refine gn ?_; intro b7
    haveI := at1_set (sb := sb) (lb := lb) (mb := mb) (dt none)
    refine o_storeA (vs := At1.cells sb lb mb (dt none)) rfl rfl rfl (at1_len _) (at1_one _) ?_
    refine gn ?_
    refine WP.drawT [(w,cl (cw .nilIface (vv b) sc nb pv cb false sp rr) 343),(b5,cl (atom sb lb mb) 97)] ((b7,cl (At1.cells sb lb mb (dt none)) 97) :: (Hq ++ (HC ++ Hs))) mo (by decide +kernel) (prm rfl) ?_
    refine gn ?_
    refine cp (args := [.agg (atom sb lb mb).toArray,(vv b)]) (f162 _ _ hr) ?_
    rintro _ rfl
    refine gn ?_; intro b8
    haveI := at1_set (sb := sb) (lb := lb) (mb := mb) (dt (some t))
    refine o_storeA (vs := At1.cells sb lb mb (dt (some t))) rfl rfl rfl (at1_len _) (at1_one _) ?_
    refine r_end ?_
    refine q_n ?_
    refine WP.only ((b7,cl (At1.cells sb lb mb (dt none)) 97) :: (b8,cl (At1.cells sb lb mb (dt (some t))) 97) :: (w,cl (cw .nilIface (vv b) sc nb pv cb false sp rr) 343) :: (Hq ++ (HC ++ Hs))) ?_
    refine WP.fz b7 ?_
    intro Z1 hz1 h7
    refine WP.fz b8 ?_
    intro Z2 hz2 h8
    have hz : Fz.le Z Z2 := hz1.trans hz2
    replace h7 := hz2 _ _ h7
    replace cx := cx.mono hz
    replace hl := hl.lw hz
    replace hr := hr.lw hz
    replace hc := hc.lw hz.lw
    clear hz1 hz2 hz
    haveI : Zf Z2 b7 _ := ⟨.of (h7)⟩
    haveI : Zf Z2 b8 _ := ⟨.of (h8)⟩
    refine gn ?_
    refine WP.draw3 [(w,cl (cw .nilIface (vv b) sc nb pv cb false sp rr) 343)] (Hq ++ (HC ++ Hs)) [0,1,2,3,4,5,6,7] [8,9,10] mo (by decide +kernel) (prm rfl) ?_
    refine gn ?_
    refine o_loadN (vs := At1.cells sb lb mb (dt (some t))) rfl rfl (at1_take _) (at1_len _) ?_
    refine gn ?_
    refine ⟨[],_,spp,?_⟩
    refine ct (args := [.agg (At1.cells sb lb mb (dt (some t))).toArray,.agg (tref nb).toArray,.iface 340 (pt w)]) (f159c (sp := sp) (rr := rr) (Hs := Hs) ih w B t cx hl hr (fun _ h => by cases h) (fun _ h => by cases h; rfl) hne hsz hcp (by omega) (by omega) (by omega) ul ur hq hc wr wm wa hs) ?_
    rintro _ Z₃ _ hz₃ ⟨rfl,q₁,pv₁,sp₁,R₁,M₁,A₁,Hq₁,G₁,HC₁,Hs₁,rfl,hq₁,hG₁,hc₁,hQ,hs₁,hk₁⟩
    replace cx := cx.mono hz₃
    haveI := hq₁.one
    haveI := hs₁.one
    haveI : Zf Z₃ cb _ := ⟨.of (cx.cmp)⟩
    refine o_apnil (k := 2) rfl rfl rfl ?_
    rcases hQ with ⟨rfl,cr⟩ | ⟨rfl,n1,n2,cf⟩
    ·refine gn ?_
     refine cp (f163 .nilFunc) ?_
     rintro _ rfl
     refine gn ?_
     refine fk1 (A := (w,cl (cw .nilIface (vv b) sc nb pv₁ cb true sp₁ rr) 343) :: (Hq₁ ++ (G₁ ++ (HC₁ ++ Hs₁)))) ?_
     exact ⟨rfl,_,_,_,R₁,M₁,A₁,Hq₁,G₁,_,Hs₁,rfl,hq₁,hG₁,hc₁,cr,hs₁,hk₁⟩
    ·obtain ⟨HR,HM,HA,rfl,oR,oM,oA⟩ := hc₁
     refine gn ?_
     refine WP.only ((w,cl (cw .nilIface (vv b) sc nb pv₁ cb false sp₁ rr) 343) :: (Hq₁ ++ (G₁ ++ ((HR ++ (HM ++ HA)) ++ Hs₁)))) ?_
     refine WP.drawT [(w,cl (cw .nilIface (vv b) sc nb pv₁ cb false sp₁ rr) 343)] (Hq₁ ++ (G₁ ++ ((HR ++ (HM ++ HA)) ++ Hs₁))) mo (by decide +kernel) (prm rfl) ?_
     refine gn ?_
     refine ct (f82o ab pv₁ π pcs _ HA Hq₁ U Z₃ oA cf.wa cx.u hq₁ cx.pm cx.k) ?_
     rintro _ _ _ _ ⟨rfl,rfl,A₂,HA₂,rfl,o₂,w₂,hx⟩
     refine gn ?_
     refine cp (f163 .nilFunc) ?_
     rintro _ rfl
     refine gn ?_
     refine fk1 (A := (w,cl (cw .nilIface (vv b) sc nb pv₁ cb false sp₁ rr) 343) :: (Hq₁ ++ (G₁ ++ ((HR ++ (HM ++ HA₂)) ++ Hs₁)))) ?_
     exact ⟨rfl,_,_,_,R₁,M₁,A₂,Hq₁,G₁,_,Hs₁,rfl,hq₁,hG₁,⟨HR,HM,HA₂,rfl,oR,oM,o₂⟩,cf.addl (ov_nodK hr) (by simp) w₂ hx,hs₁,hk₁⟩
  | some s =>
   obtain ⟨a,v,rfl,ha,hv⟩ := ov_tr hl
   cases r with
   | none =>
    cases ov_no hr
    refine gn ?_
    refine WP.drawT [(w,cl (cw (vv a) .nilIface sc nb pv cb false sp rr) 343)] (Hq ++ (HC ++ Hs)) mo (by decide +kernel) (prm rfl) ?_
    refine gn ?_
    refine cp (args := [pt sc,.agg (tref nb).toArray]) (f131 cx.sch nb cx.nm) ?_
    rintro _ rfl
    refine gn ?_; intro b5
    refine gn ?_
    refine WP.drawT [(w,cl (cw (vv a) .nilIface sc nb pv cb false sp rr) 343),(b5,cl (atom sb lb mb) 97)] (Hq ++ (HC ++ Hs)) mo (by decide +kernel) (prm rfl) ?_
    refine gn ?_
    refine cp (args := [.agg (atom sb lb mb).toArray,(vv a)]) (f162 _ _ hl) ?_
    rintro _ rfl
    refine gn ?_; intro b7
    haveI := at1_set (sb := sb) (lb := lb) (mb := mb) (dt (some s))
    refine o_storeA (vs := At1.cells sb lb mb (dt (some s))) rfl rfl rfl (at1_len _) (at1_one _) ?_
    refine gn ?_
    refine WP.drawT [(w,cl (cw (vv a) .nilIface sc nb pv cb false sp rr) 343),(b5,cl (atom sb lb mb) 97)] ((b7,cl (At1.cells sb lb mb (dt (some s))) 97) :: (Hq ++ (HC ++ Hs))) mo (by decide +kernel) (prm rfl) ?_
    refine gn ?_
    refine cp (args := [.agg (atom sb lb mb).toArray,.nilIface]) (f162 _ _ hr) ?_
    rintro _ rfl
    refine gn ?_; intro b8
    haveI := at1_set (sb := sb) (lb := lb) (mb := mb) (dt none)
    refine o_storeA (vs := At1.cells sb lb mb (dt none)) rfl rfl rfl (at1_len _) (at1_one _) ?_
    refine r_end ?_
    refine q_n ?_
    refine WP.only ((b7,cl (At1.cells sb lb mb (dt (some s))) 97) :: (b8,cl (At1.cells sb lb mb (dt none)) 97) :: (w,cl (cw (vv a) .nilIface sc nb pv cb false sp rr) 343) :: (Hq ++ (HC ++ Hs))) ?_
    refine WP.fz b7 ?_
    intro Z1 hz1 h7
    refine WP.fz b8 ?_
    intro Z2 hz2 h8
    have hz : Fz.le Z Z2 := hz1.trans hz2
    replace h7 := hz2 _ _ h7
    replace cx := cx.mono hz
    replace hl := hl.lw hz
    replace hr := hr.lw hz
    replace hc := hc.lw hz.lw
    clear hz1 hz2 hz
    haveI : Zf Z2 b7 _ := ⟨.of (h7)⟩
    haveI : Zf Z2 b8 _ := ⟨.of (h8)⟩
    refine gn ?_
    refine WP.draw3 [(w,cl (cw (vv a) .nilIface sc nb pv cb false sp rr) 343)] (Hq ++ (HC ++ Hs)) [0,1,2,3,4,5,6,7] [8,9,10] mo (by decide +kernel) (prm rfl) ?_
    refine gn ?_
    refine o_loadN (vs := At1.cells sb lb mb (dt (some s))) rfl rfl (at1_take _) (at1_len _) ?_
    refine gn ?_
    refine ⟨[],_,spp,?_⟩
    refine ct (args := [.agg (At1.cells sb lb mb (dt (some s))).toArray,.agg (tref nb).toArray,.iface 340 (pt w)]) (f159c (sp := sp) (rr := rr) (Hs := Hs) ih w B s cx hl hr (fun _ h => by cases h; rfl) (fun _ h => by cases h) hne hsz hcp (by omega) (by omega) (by omega) ul ur hq hc wr wm wa hs) ?_
    rintro _ Z₃ _ hz₃ ⟨rfl,q₁,pv₁,sp₁,R₁,M₁,A₁,Hq₁,G₁,HC₁,Hs₁,rfl,hq₁,hG₁,hc₁,hQ,hs₁,hk₁⟩
    replace cx := cx.mono hz₃
    haveI := hq₁.one
    haveI := hs₁.one
    haveI : Zf Z₃ cb _ := ⟨.of (cx.cmp)⟩
    refine o_apnil (k := 2) rfl rfl rfl ?_
    rcases hQ with ⟨rfl,cr⟩ | ⟨rfl,n1,n2,cf⟩
    ·refine gn ?_
     refine cp (f163 .nilFunc) ?_
     rintro _ rfl
     refine gn ?_
     refine fk1 (A := (w,cl (cw (vv a) .nilIface sc nb pv₁ cb true sp₁ rr) 343) :: (Hq₁ ++ (G₁ ++ (HC₁ ++ Hs₁)))) ?_
     exact ⟨rfl,_,_,_,R₁,M₁,A₁,Hq₁,G₁,_,Hs₁,rfl,hq₁,hG₁,hc₁,cr,hs₁,hk₁⟩
    ·obtain ⟨HR,HM,HA,rfl,oR,oM,oA⟩ := hc₁
     refine gn ?_
     refine WP.only ((w,cl (cw (vv a) .nilIface sc nb pv₁ cb false sp₁ rr) 343) :: (Hq₁ ++ (G₁ ++ ((HR ++ (HM ++ HA)) ++ Hs₁)))) ?_
     refine WP.drawT [(w,cl (cw (vv a) .nilIface sc nb pv₁ cb false sp₁ rr) 343)] (Hq₁ ++ (G₁ ++ ((HR ++ (HM ++ HA)) ++ Hs₁))) mo (by decide +kernel) (prm rfl) ?_
     refine gn ?_
     refine ct (f82o rb pv₁ π pcs _ HR Hq₁ U Z₃ oR cf.wr cx.u hq₁ cx.pm cx.k) ?_
     rintro _ _ _ _ ⟨rfl,rfl,A₂,HA₂,rfl,o₂,w₂,hx⟩
     refine gn ?_
     refine cp (f163 .nilFunc) ?_
     rintro _ rfl
     refine gn ?_
     refine fk1 (A := (w,cl (cw (vv a) .nilIface sc nb pv₁ cb false sp₁ rr) 343) :: (Hq₁ ++ (G₁ ++ ((HA₂ ++ (HM ++ HA)) ++ Hs₁)))) ?_
     exact ⟨rfl,_,_,_,A₂,M₁,A₁,Hq₁,G₁,_,Hs₁,rfl,hq₁,hG₁,⟨HA₂,HM,HA,rfl,o₂,oM,oA⟩,cf.addr (ov_nodK hl) (by simp) w₂ hx,hs₁,hk₁⟩
   | some t =>
    obtain ⟨b,u,rfl,hb,hu⟩ := ov_tr hr
    refine gn ?_
    refine WP.drawT [(w,cl (cw (vv a) (vv b) sc nb pv cb false sp rr) 343)] (Hq ++ (HC ++ Hs)) mo (by decide +kernel) (prm rfl) ?_
    refine gn ?_
    refine cp (args := [pt sc,.agg (tref nb).toArray]) (f131 cx.sch nb cx.nm) ?_
    rintro _ rfl
    refine gn ?_; intro b5
    refine gn ?_
    refine WP.drawT [(w,cl (cw (vv a) (vv b) sc nb pv cb false sp rr) 343),(b5,cl (atom sb lb mb) 97)] (Hq ++ (HC ++ Hs)) mo (by decide +kernel) (prm rfl) ?_
    refine gn ?_
    refine cp (args := [.agg (atom sb lb mb).toArray,(vv a)]) (f162 _ _ hl) ?_
    rintro _ rfl
    refine gn ?_; intro b7
    haveI := at1_set (sb := sb) (lb := lb) (mb := mb) (dt (some s))
    refine o_storeA (vs := At1.cells sb lb mb (dt (some s))) rfl rfl rfl (at1_len _) (at1_one _) ?_
    refine gn ?_
    refine WP.drawT [(w,cl (cw (vv a) (vv b) sc nb pv cb false sp rr) 343),(b5,cl (atom sb lb mb) 97)] ((b7,cl (At1.cells sb lb mb (dt (some s))) 97) :: (Hq ++ (HC ++ Hs))) mo (by decide +kernel) (prm rfl) ?_
    refine gn ?_
    refine cp (args := [.agg (atom sb lb mb).toArray,(vv b)]) (f162 _ _ hr) ?_
    rintro _ rfl
    refine gn ?_; intro b8
    haveI := at1_set (sb := sb) (lb := lb) (mb := mb) (dt (some t))
    refine o_storeA (vs := At1.cells sb lb mb (dt (some t))) rfl rfl rfl (at1_len _) (at1_one _) ?_
    refine r_end ?_
    refine q_n ?_
    refine WP.only ((b7,cl (At1.cells sb lb mb (dt (some s))) 97) :: (b8,cl (At1.cells sb lb mb (dt (some t))) 97) :: (w,cl (cw (vv a) (vv b) sc nb pv cb false sp rr) 343) :: (Hq ++ (HC ++ Hs))) ?_
    refine WP.fz b7 ?_
    intro Z1 hz1 h7
    refine WP.fz b8 ?_
    intro Z2 hz2 h8
    have hz : Fz.le Z Z2 := hz1.trans hz2
    replace h7 := hz2 _ _ h7
    replace cx := cx.mono hz
    replace hl := hl.lw hz
    replace hr := hr.lw hz
    replace hc := hc.lw hz.lw
    clear hz1 hz2 hz
    haveI : Zf Z2 b7 _ := ⟨.of (h7)⟩
    haveI : Zf Z2 b8 _ := ⟨.of (h8)⟩
    refine gn ?_
    refine cp (f161 cx.sch (dt (some s)) (dt (some t)) b7 b8 h7 h8) ?_
    rintro _ rfl
    have hcls : s.cls = t.cls := hcp.top
    cases (dt (some s)).same (dt (some t)) with
    | true =>
     refine gn ?_
     refine WP.draw3 [(w,cl (cw (vv a) (vv b) sc nb pv cb false sp rr) 343)] (Hq ++ (HC ++ Hs)) [0,1,2,3,4,5,6,7] [8,9,10] mo (by decide +kernel) (prm rfl) ?_
     refine gn ?_
     refine o_loadN (vs := At1.cells sb lb mb (dt (some t))) rfl rfl (at1_take _) (at1_len _) ?_
     refine gn ?_
     refine ⟨[],_,spp,?_⟩
     refine ct (args := [.agg (At1.cells sb lb mb (dt (some t))).toArray,.agg (tref nb).toArray,.iface 340 (pt w)]) (f159c (sp := sp) (rr := rr) (Hs := Hs) ih w B t cx hl hr (fun _ h => by cases h; exact hcls) (fun _ h => by cases h; rfl) hne hsz hcp (by omega) (by omega) (by omega) ul ur hq hc wr wm wa hs) ?_
     rintro _ Z₃ _ hz₃ ⟨rfl,q₁,pv₁,sp₁,R₁,M₁,A₁,Hq₁,G₁,HC₁,Hs₁,rfl,hq₁,hG₁,hc₁,hQ,hs₁,hk₁⟩
     replace cx := cx.mono hz₃
     haveI := hq₁.one
     haveI := hs₁.one
     haveI : Zf Z₃ cb _ := ⟨.of (cx.cmp)⟩
     refine o_apnil (k := 2) rfl rfl rfl ?_
     rcases hQ with ⟨rfl,cr⟩ | ⟨rfl,n1,n2,cf⟩
     ·refine gn ?_
      refine cp (f163 .nilFunc) ?_
      rintro _ rfl
      refine gn ?_
      refine fk1 (A := (w,cl (cw (vv a) (vv b) sc nb pv₁ cb true sp₁ rr) 343) :: (Hq₁ ++ (G₁ ++ (HC₁ ++ Hs₁)))) ?_
      exact ⟨rfl,_,_,_,R₁,M₁,A₁,Hq₁,G₁,_,Hs₁,rfl,hq₁,hG₁,hc₁,cr,hs₁,hk₁⟩
     ·refine gn ?_
      refine cp (f163 .nilFunc) ?_
      rintro _ rfl
      refine gn ?_
      refine fk1 (A := (w,cl (cw (vv a) (vv b) sc nb pv₁ cb false sp₁ rr) 343) :: (Hq₁ ++ (G₁ ++ (HC₁ ++ Hs₁)))) ?_
      exact ⟨rfl,_,_,_,R₁,M₁,A₁,Hq₁,G₁,_,Hs₁,rfl,hq₁,hG₁,hc₁,cf.both (ov_nodK hl) (ov_nodK hr) (by simp) (by simp),hs₁,hk₁⟩
    | false =>
     refine gn ?_; intro b9
     haveI := SetS.full (xs := cw .nilIface .nilIface sc nb pv cb false sp rr) (vs := cw (vv a) (vv b) sc nb pv cb false sp rr) rfl
     refine o_storeA (vs := cw (vv a) (vv b) sc nb pv cb false sp rr) rfl rfl rfl rfl cw_all ?_
     refine gn ?_
     refine WP.only ((w,cl (cw (vv a) (vv b) sc nb pv cb false sp rr) 343) :: (b9,cl (cw (vv a) (vv b) sc nb pv cb false sp rr) 343) :: (Hq ++ (HC ++ Hs))) ?_
     refine WP.draw3 [(w,cl (cw (vv a) (vv b) sc nb pv cb false sp rr) 343)] ((b9,cl (cw (vv a) (vv b) sc nb pv cb false sp rr) 343) :: (Hq ++ (HC ++ Hs))) [0,1,2,3,4,5,6] [7,8,9] mo (by decide +kernel) (prm rfl) ?_
     refine gn ?_
     refine o_loadN (vs := At1.cells sb lb mb (dt (some s))) rfl rfl (at1_take _) (at1_len _) ?_
     refine gn ?_
     refine ⟨[],_,spp,?_⟩
     refine ct (args := [.agg (At1.cells sb lb mb (dt (some s))).toArray,.agg (tref nb).toArray,.iface 340 (pt b9)]) (f159c (sp := sp) (rr := rr) (Hs := Hs) ih b9 B s cx hl hr (fun _ h => by cases h; rfl) (fun _ h => by cases h; exact hcls.symm) hne hsz hcp (by omega) (by omega) (by omega) ul ur hq hc wr wm wa hs) ?_
     rintro _ Z₀ _ hz₀ ⟨rfl,q₀,pv₀,sp₀,R₀,M₀,A₀,Hq₀,G₀,HC₀,Hs₀,rfl,hq₀,hG₀,hc₀,hQ₀,hs₀,hk₀⟩
     have cr₀ : CR U (some s) (some t) π R M A R₀ M₀ A₀ := by
      rcases hQ₀ with ⟨_,h⟩ | ⟨_,_,_,h⟩
      ·exact h
      ·exact h.both (ov_nodK hl) (ov_nodK hr) (by simp) (by simp)
     replace cx := cx.mono hz₀
     replace hl := hl.lw hz₀
     replace hr := hr.lw hz₀
     haveI : Zf Z₀ b8 _ := ⟨.of (hz₀ _ _ h8)⟩
     refine o_apnil (k := 2) rfl rfl rfl ?_
     refine gn ?_
     refine WP.only ((w,cl (cw (vv a) (vv b) sc nb pv cb false sp rr) 343) :: (Hq₀ ++ (G₀ ++ (HC₀ ++ Hs₀)))) ?_
     obtain ⟨Hq₂,Hs₂,X,hX,hq₂,hs₂⟩ := back2 hq₀ hG₀ hs hs₀ hk₀ (HC := HC₀)
     refine WP.keepP ((w,cl (cw (vv a) (vv b) sc nb pv cb false sp rr) 343) :: (Hq₂ ++ (HC₀ ++ Hs₂))) (X := X) (hX.cons _) ?_
     refine WP.draw3 [(w,cl (cw (vv a) (vv b) sc nb pv cb false sp rr) 343)] (Hq₂ ++ (HC₀ ++ Hs₂)) [0,1,2,3,4,5,6,7] [8,9,10] mo (by decide +kernel) (prm rfl) ?_
     refine gn ?_
     refine o_loadN (vs := At1.cells sb lb mb (dt (some t))) rfl rfl (at1_take _) (at1_len _) ?_
     refine gn ?_
     refine ⟨[],_,spp,?_⟩
     refine ct (args := [.agg (At1.cells sb lb mb (dt (some t))).toArray,.agg (tref nb).toArray,.iface 340 (pt w)]) (f159c (sp := sp) (rr := rr) (Hs := Hs₂) ih w B t cx hl hr (fun _ h => by cases h; exact hcls) (fun _ h => by cases h; rfl) hne hsz hcp (by omega) (by omega) (by omega) ul ur hq₂ hc₀ cr₀.wr cr₀.wm cr₀.wa hs₂) ?_
     rintro _ Z₃ _ hz₃ ⟨rfl,q₁,pv₁,sp₁,R₁,M₁,A₁,Hq₁,G₁,HC₁,Hs₁,rfl,hq₁,hG₁,hc₁,hQ,hs₁,hk₁⟩
     replace cx := cx.mono hz₃
     haveI := hq₁.one
     haveI := hs₁.one
     haveI : Zf Z₃ cb _ := ⟨.of (cx.cmp)⟩
     refine o_apnil (k := 2) rfl rfl rfl ?_
     rcases hQ with ⟨rfl,cr⟩ | ⟨rfl,n1,n2,cf⟩
     ·refine gn ?_
      refine cp (f163 .nilFunc) ?_
      rintro _ rfl
      refine gn ?_
      refine fk1 (A := (w,cl (cw (vv a) (vv b) sc nb pv₁ cb true sp₁ rr) 343) :: (Hq₁ ++ (G₁ ++ (HC₁ ++ Hs₁)))) ?_
      exact ⟨rfl,_,_,_,R₁,M₁,A₁,Hq₁,G₁,_,Hs₁,rfl,hq₁,hG₁,hc₁,cr₀.twice cr,hs₁,hk₁⟩
     ·refine gn ?_
      refine cp (f163 .nilFunc) ?_
      rintro _ rfl
      refine gn ?_
      refine fk1 (A := (w,cl (cw (vv a) (vv b) sc nb pv₁ cb false sp₁ rr) 343) :: (Hq₁ ++ (G₁ ++ (HC₁ ++ Hs₁)))) ?_
      exact ⟨rfl,_,_,_,R₁,M₁,A₁,Hq₁,G₁,_,Hs₁,rfl,hq₁,hG₁,hc₁,cr₀.twice (cf.both (ov_nodK hl) (ov_nodK hr) (by simp) (by simp)),hs₁,hk₁⟩
end Go.Ux
namespace Go.Ux
open Go Go.Proofs
set_option maxRecDepth 20000
attribute [local irreducible] WP Tr
def CmR (Z : Fz) (U : List Nm) (l r : Tv) (cb : Nat) : Prop := ∃ rb mm ab R M A,Z cb = some (cl [pt rb,pt mm,pt ab] 185) ∧ SR Z R rb ∧ SR Z M mm ∧ SR Z A ab ∧ R.Wf U ∧ M.Wf U ∧ A.Wf U ∧ Cmp l r R.has M.has A.has
section
variable {Z : Fz} {U : List Nm} {sc sb lb mb eb nb nb' a b p : Nat} {l r : Tv} {u v : Value}
theorem f96 (hsc : Sch Z sc sb lb mb eb) (hnb : Z nb = some (cl [.string nmD] 9)) (hnb' : Z nb' = some (cl [.string nmD] 9)) (ha : Z a = some (cl [u] 358)) (hu : AV Z l u) (hb : Z b = some (cl [v] 358)) (hv : AV Z r v) (hp : Z p = some (cl (tv (vv b) sc nb') 220))
  (hcp : Cp l r) (hl : l.sz ≤ 4294967296) (hr : r.sz ≤ 4294967296) (hU : U.length ≤ 1073741824) (ul : l.inU U) (ur : r.inU U) :
  Gr Tryz.prog 96 #[.agg (tv (vv a) sc nb).toArray,pt p] Z fun x Z' => ∃ cb,x = .tuple #[pt cb,.nilIface] ∧ CmR Z' U l r cb := by
 haveI : Zf Z p _ := ⟨.of (hp)⟩
 refine Gr.intro Tryz.func96 rfl Tryz.ntmps96 Tryz.results96 rfl ?_
 refine gn ?_; intro b2
 refine gn ?_; intro b6
 refine gn ?_
 refine WP.fz b6 ?_
 intro Z1 hz1 h6
 haveI : Zf Z1 b6 _ := ⟨.of (h6)⟩
 haveI : Zf Z1 p _ := ⟨.of (hz1 _ _ hp)⟩
 haveI : Zf Z1 nb _ := ⟨.of (hz1 _ _ hnb)⟩
 haveI : Zf Z1 nb' _ := ⟨.of (hz1 _ _ hnb')⟩
 refine WP.only [] ?_
 refine WP.drawA mo (by decide +kernel) ?_
 refine gn ?_
 refine o_neps rfl rfl rfl ?_
 refine gn ?_
 refine cp (f127 b6 p 1 1 220 220 nb nb' (tv (vv a) sc nb) (tv (vv b) sc nb') nmD Z1 rfl rfl) ?_
 rintro _ rfl
 refine gn ?_; intro b28
 refine gn ?_
 refine ct (f70 0 _) ?_
 rintro _ _ HR _ ⟨rb,rfl,rfl,oR⟩
 refine ct (f70 0 _) ?_
 rintro _ _ HM _ ⟨mm,rfl,rfl,oM⟩
 refine ct (f70 0 _) ?_
 rintro _ _ HA _ ⟨ab,rfl,rfl,oA⟩
 refine gn ?_; intro cb
 refine o_nilCheck rfl rfl ?_
 refine o_fieldAddr0 rfl rfl ?_
 refine o_store1 (v := pt cb) rfl rfl rfl ?_
 refine r_end ?_
 refine q_n ?_
 refine WP.only ((cb,cl [pt rb,pt mm,pt ab] 185) :: (b28,cl [vv a,vv b,pt sc,pt nb,.pointer none,.pointer none,.pointer none,.pointer none,.bool false,.slice none 0 0,pt cb,.bool false,.pointer none,.nilIface] 343) :: (HR ++ (HM ++ HA))) ?_
 refine WP.fz cb ?_
 intro Z2 hz2 hcb
 have hz := hz1.trans hz2
 refine gn ?_
 refine ct (f65 _) ?_
 rintro _ _ _ _ ⟨rr,rfl,rfl,rfl⟩
 refine gn ?_
 refine ct (args := [pt b28,.nilFunc]) (f135 (l.sz + r.sz + 1) (some l) (some r) Z2 b28 sc sb lb mb eb nb cb rb mm ab (l.sz + r.sz + 1) (vv a) (vv b) (.slice none 0 0) (.pointer none) (pt rr) [] U [] (.mk [] []) (.mk [] []) (.mk [] []) [] (HR ++ (HM ++ HA)) [] (by simp [szO]) (.inl (by simp)) (.some ⟨a,u,rfl,hz _ _ ha,hu.mono hz⟩) (.some ⟨b,v,rfl,hz _ _ hb,hv.mono hz⟩) (.of hcp) (by omega) (by omega) (by simp; omega)
  ⟨hsc.mono hz,hz _ _ hnb,hcb,rfl,hU,by simp⟩ (.of ul) (.of ur) .nil ⟨HR,HM,HA,rfl,oR.lw hz2.lw,oM.lw hz2.lw,oA.lw hz2.lw⟩ .empty .empty .empty .nil) ?_
 rintro _ Z₃ _ hz₃ ⟨rfl,q',pv',sp',R',M',A',Hq',G,HC',Hs',rfl,hq',hG,⟨HR',HM',HA',rfl,oR',oM',oA'⟩,cr,hs',hk⟩
 refine gn ?_
 refine fin2 ?_
 intro Z' hz' hp'
 refine ⟨cb,rfl,rb,mm,ab,R',M',A',hz' _ _ (hz₃ _ _ hcb),oR'.frz hz' fun p h => hp' p (by simp [h]),oM'.frz hz' fun p h => hp' p (by simp [h]),oA'.frz hz' fun p h => hp' p (by simp [h]),cr.wr,cr.wm,cr.wa,?_⟩
 refine cmp_of (fun x => ?_) (fun x => ?_) (fun x hx => ?_)
 ·rw [cr.rem]; exact ⟨fun h => h.resolve_left (FS.no x),.inr⟩
 ·rw [cr.add]; exact ⟨fun h => h.resolve_left (FS.no x),.inr⟩
 ·exact (cr.mod x hx).resolve_left (FS.no x)
end
end Go.Ux
namespace Go.Ux
open Go Go.Proofs
set_option maxRecDepth 20000
attribute [local irreducible] WP Tr
instance : One .nilFunc := ⟨rfl,rfl⟩
abbrev mw (lv rv : Value) (sc nb : Nat) (pv : Value) (ov : Value) (q : Bool) (sp r : Value) : List Value := [lv,rv,pt sc,pt nb,.pointer none,.pointer none,.pointer none,.pointer none,.bool false,pv,.func (.func 86) #[] #[],.nilFunc,ov,.bool q,sp,.iface 261 r]
theorem mw_all {lv rv pv ov sp rr : Value} {sc nb : Nat} {q : Bool} [h1 : One lv] [h2 : One rv] [h3 : One pv] [h4 : One ov] [h5 : One sp] : (mw lv rv sc nb pv ov q sp rr).all Value.oneCell' = true := by
 simp only [List.all_cons,List.all_nil,h1.h.2,h2.h.2,h3.h.2,h4.h.2,h5.h.2]; rfl
abbrev SPm (B : Nat) : Value → Hp → Prop := SP 323 319 553 16 B
section
variable {Z : Fz}
set_option maxHeartbeats 1000000 in
theorem f321 (w sc nb nb' B kb : Nat) (lv rv pv ov sp r : Value) (pcs : List Value) (Hq Hs : Hp) [One lv] [One rv] [One ov] (hp : Sl 308 4 pv pcs Hq) (hn : pcs.length ≤ 68719476736) (hs : SPm (B + 1) sp Hs) (hB : B ≤ 68719476736) :
  Tr Tryz.prog 321 #[pt w,.agg (pe kb).toArray,.agg (tref nb').toArray] Z ((w,cl (mw lv rv sc nb pv ov false sp r) 323) :: (Hq ++ Hs)) fun x Z' H' => ∃ w' sp' pv' Hq' Hs' G,x = pt w' ∧ Z = Z' ∧ H' = (w,cl (mw lv rv sc nb pv ov false sp' r) 323) :: (w',cl (mw .nilIface .nilIface sc nb' pv' (.pointer none) false sp' r) 323) :: (Hq' ++ (G ++ Hs')) ∧ Sl 308 4 pv' (pcs ++ pe kb) Hq' ∧ Gk pv pv' 1 Hq G ∧ SPm B sp' Hs' ∧ (∃ b,sp' = pt b) ∧ ((∃ b,sp = pt b) → sp' = sp) := by
 refine Tr.introk Tryz.func321 rfl Tryz.ntmps321 Tryz.results321 rfl ?_
 haveI : One sp := hs.one
 obtain ⟨pa,pn,pc,rfl,hpl,hpc⟩ := hp.val
 refine gn ?_; intro b4
 refine gn ?_; intro b5
 rcases hs with ⟨rfl,rfl⟩ | ⟨sb',sv,ps,Hr,Hw,rfl,rfl,h1,h2,h3⟩
 ·refine gn ?_; intro b1
  refine gn ?_; intro b2
  refine gn ?_; intro b3
  refine gn ?_
  refine o_storeA rfl rfl rfl rfl mw_all ?_
  refine gn ?_
  refine WP.only ((w,cl (mw lv rv sc nb (.slice pa pn pc) ov false (.pointer (some ⟨b2,0,none⟩)) r) 323) :: (b3,cl (mw lv rv sc nb' (.slice pa pn pc) ov false (.pointer (some ⟨b2,0,none⟩)) r) 323) :: (b4,cl (pe kb) 308) :: (Hq ++ [(b2,cl [.slice (some ⟨b1,0,none⟩) 0 0] 553),(b1,cl [] 319)])) ?_
  refine WP.drawS [(b3,cl (mw lv rv sc nb' (.slice pa pn pc) ov false (.pointer (some ⟨b2,0,none⟩)) r) 323),(b4,cl (pe kb) 308)] ((w,cl (mw lv rv sc nb (.slice pa pn pc) ov false (.pointer (some ⟨b2,0,none⟩)) r) 323) :: (Hq ++ [(b2,cl [.slice (some ⟨b1,0,none⟩) 0 0] 553),(b1,cl [] 319)])) 8 mo (by decide +kernel) (prm rfl) ?_
  refine gn ?_; intro b6
  refine oapk (ds := pe kb) hp rfl rfl rfl (Rs.cells (inferInstance : Mem _ Z _ _ b6 (cl _ 308)) rfl (Nat.le_refl 1)) (by simp [Value.oneCell']) (by omega) (by simp; omega) ?_
  intro pv' Hq' G hp' hG
  haveI := hp'.one
  refine r_two [] ?_
  refine gn ?_
  refine fk1 (A := (w,cl (mw lv rv sc nb (.slice pa pn pc) ov false (.pointer (some ⟨b2,0,none⟩)) r) 323) :: (b3,cl (mw .nilIface .nilIface sc nb' pv' (.pointer none) false (.pointer (some ⟨b2,0,none⟩)) r) 323) :: (Hq' ++ (G ++ [(b2,cl [.slice (some ⟨b1,0,none⟩) 0 0] 553),(b1,cl [] 319)]))) ?_
  exact ⟨b3,_,_,Hq',_,G,rfl,rfl,rfl,hp',hG,.inr ⟨b2,_,[],[_],[],rfl,rfl,.row b1 0 0 [] [] rfl rfl (by omega),rfl,by simp⟩,⟨_,rfl⟩,fun ⟨_,h⟩ => by cases h⟩
 ·obtain ⟨oa,n,c,rfl,hcl,hnc⟩ := h1.val
  refine gn ?_
  rcases List.eq_nil_or_concat ps with rfl | ⟨ps',p,rfl⟩
  ·have hn : n = 0 := by simpa using hcl.symm
   subst hn
   refine gn ?_; intro b3
   refine gn ?_
   refine o_storeA rfl rfl rfl rfl mw_all ?_
   refine gn ?_
   refine WP.only ((w,cl (mw lv rv sc nb (.slice pa pn pc) ov false (.pointer (some ⟨sb',0,none⟩)) r) 323) :: (b3,cl (mw lv rv sc nb' (.slice pa pn pc) ov false (.pointer (some ⟨sb',0,none⟩)) r) 323) :: (b4,cl (pe kb) 308) :: (Hq ++ (sb',cl [.slice oa 0 c] 553) :: (Hr ++ Hw))) ?_
   refine WP.drawS [(b3,cl (mw lv rv sc nb' (.slice pa pn pc) ov false (.pointer (some ⟨sb',0,none⟩)) r) 323),(b4,cl (pe kb) 308)] ((w,cl (mw lv rv sc nb (.slice pa pn pc) ov false (.pointer (some ⟨sb',0,none⟩)) r) 323) :: (Hq ++ (sb',cl [.slice oa 0 c] 553) :: (Hr ++ Hw))) 8 mo (by decide +kernel) (prm rfl) ?_
   refine gn ?_; intro b6
   refine oapk (ds := pe kb) hp rfl rfl rfl (Rs.cells (inferInstance : Mem _ Z _ _ b6 (cl _ 308)) rfl (Nat.le_refl 1)) (by simp [Value.oneCell']) (by omega) (by simp; omega) ?_
   intro pv' Hq' G hp' hG
   haveI := hp'.one
   refine r_two [] ?_
   refine gn ?_
   refine fk1 (A := (w,cl (mw lv rv sc nb (.slice pa pn pc) ov false (.pointer (some ⟨sb',0,none⟩)) r) 323) :: (b3,cl (mw .nilIface .nilIface sc nb' pv' (.pointer none) false (.pointer (some ⟨sb',0,none⟩)) r) 323) :: (Hq' ++ (G ++ (sb',cl [.slice oa 0 c] 553) :: (Hr ++ Hw)))) ?_
   exact ⟨b3,_,_,Hq',_,G,rfl,rfl,rfl,hp',hG,.inr ⟨sb',_,[],Hr,Hw,rfl,rfl,h1,h2,by simp⟩,⟨_,rfl⟩,fun _ => rfl⟩
  ·rw [List.concat_eq_append] at *
   obtain ⟨pb,px,Hw',rfl,hpx,rfl,hw'⟩ := h2.snoc
   obtain ⟨rb,_,_,ro,e0,rfl,hr1,hr2,hr3⟩ := h1.ne (by simp)
   cases e0
   have hn : n = ps'.length + 1 := by simpa using hr1.symm
   subst hn
   refine o_gtr rfl rfl rfl (r := true) (decide_eq_true (by omega)) ?_
   refine gn ?_
   refine WP.drawS [(w,cl (mw lv rv sc nb (.slice pa pn pc) ov false (.pointer (some ⟨sb',0,none⟩)) r) 323),(sb',cl [.slice (some ⟨rb,0,none⟩) (ps'.length + 1) c] 553),(rb,cl (ps' ++ [.pointer (some ⟨pb,0,none⟩)] ++ ro) 319)] ((b4,cl (pe kb) 308) :: (b5,cl (tref nb') 100) :: (Hq ++ (Hw' ++ [(pb,cl px 323)]))) 24 mo (by decide +kernel) (prm rfl) ?_
   refine gn ?_
   refine o_indexAddrN (ik := .i64) ps'.length ps'.length (by omega) (by omega) rfl rfl (int_eq (by simp only [Int.ofNat_eq_natCast]; omega)) ?_
   refine o_load1 (v := .pointer (some ⟨pb,0,none⟩)) rfl rfl (by simp) ?_
   refine gn ?_
   refine o_sliceH (ik := .i64) (j := ps'.length) rfl rfl (int_eq (by simp only [Int.ofNat_eq_natCast]; omega)) (by omega) ?_
   refine gn ?_
   refine ⟨[],_,spp,?_⟩
   refine gn ?_
   haveI := SetS.full (xs := px) (vs := mw lv rv sc nb (.slice pa pn pc) ov false (.pointer (some ⟨sb',0,none⟩)) r) hpx
   refine o_storeA rfl rfl rfl rfl mw_all ?_
   refine gn ?_
   refine WP.only ((w,cl (mw lv rv sc nb (.slice pa pn pc) ov false (.pointer (some ⟨sb',0,none⟩)) r) 323) :: (pb,cl (mw lv rv sc nb' (.slice pa pn pc) ov false (.pointer (some ⟨sb',0,none⟩)) r) 323) :: (b4,cl (pe kb) 308) :: (Hq ++ (sb',cl [.slice (some ⟨rb,0,none⟩) ps'.length c] 553) :: ([(rb,cl (ps' ++ [.pointer (some ⟨pb,0,none⟩)] ++ ro) 319)] ++ Hw'))) ?_
   refine WP.drawS [(pb,cl (mw lv rv sc nb' (.slice pa pn pc) ov false (.pointer (some ⟨sb',0,none⟩)) r) 323),(b4,cl (pe kb) 308)] ((w,cl (mw lv rv sc nb (.slice pa pn pc) ov false (.pointer (some ⟨sb',0,none⟩)) r) 323) :: (Hq ++ (sb',cl [.slice (some ⟨rb,0,none⟩) ps'.length c] 553) :: ([(rb,cl (ps' ++ [.pointer (some ⟨pb,0,none⟩)] ++ ro) 319)] ++ Hw'))) 8 mo (by decide +kernel) (prm rfl) ?_
   refine gn ?_; intro b6
   refine oapk (ds := pe kb) hp rfl rfl rfl (Rs.cells (inferInstance : Mem _ Z _ _ b6 (cl _ 308)) rfl (Nat.le_refl 1)) (by simp [Value.oneCell']) (by omega) (by simp; omega) ?_
   intro pv' Hq' G hp' hG
   haveI := hp'.one
   refine r_two [] ?_
   refine gn ?_
   refine fk1 (A := (w,cl (mw lv rv sc nb (.slice pa pn pc) ov false (.pointer (some ⟨sb',0,none⟩)) r) 323) :: (pb,cl (mw .nilIface .nilIface sc nb' pv' (.pointer none) false (.pointer (some ⟨sb',0,none⟩)) r) 323) :: (Hq' ++ (G ++ (sb',cl [.slice (some ⟨rb,0,none⟩) ps'.length c] 553) :: ([(rb,cl (ps' ++ [.pointer (some ⟨pb,0,none⟩)] ++ ro) 319)] ++ Hw')))) ?_
   exact ⟨pb,_,_,Hq',_,G,rfl,rfl,rfl,hp',hG,.inr ⟨sb',_,ps',[_],Hw',rfl,rfl,(List.append_assoc .. ▸ .row rb _ c _ _ (by omega) (by simp; omega) (by omega)),hw',by simp at h3; omega⟩,⟨_,rfl⟩,fun _ => rfl⟩
theorem f322 (w w' sb' sc nb nb' B kb n c : Nat) (a : Option Addr) (q' : Bool) (lv rv lv' rv' pv ov ov' r : Value) (pcs : List Value) (Hq Hs : Hp) [One pv] [One ov] [One ov'] (hp : Sl 308 4 (.slice a (n + 1) c) (pcs ++ pe kb) Hq) (hn : pcs.length ≤ 68719476736) (hs : SPm B (pt sb') Hs) (hB : B ≤ 68719476736) :
  Tr Tryz.prog 322 #[pt w,pt w'] Z ((w,cl (mw lv rv sc nb pv ov false (pt sb') r) 323) :: (w',cl (mw lv' rv' sc nb' (.slice a (n + 1) c) ov' q' (pt sb') r) 323) :: (Hq ++ Hs)) fun _x Z' H' => ∃ Hs',Z = Z' ∧ H' = (w,cl (mw lv rv sc nb (.slice a n c) ov false (pt sb') r) 323) :: (Hq ++ Hs') ∧ Sl 308 4 (.slice a n c) pcs Hq ∧ SPm (B + 1) (pt sb') Hs' := by
 refine Tr.introk Tryz.func322 rfl Tryz.ntmps322 Tryz.results322 rfl ?_
 rcases hs with ⟨h,_⟩ | ⟨_,sv,ps,Hr,Hw,h,rfl,h1,h2,h3⟩
 ·cases h
 cases h
 obtain ⟨_,_,_,e0,hpl,hpc⟩ := hp.val
 cases e0
 rw [List.length_append,show (pe kb).length = 4 from rfl] at hpl
 refine gn ?_
 refine WP.drawT [(w',cl (mw lv' rv' sc nb' (.slice a (n + 1) c) ov' q' (pt sb') r) 323)] ((w,cl (mw lv rv sc nb pv ov false (pt sb') r) 323) :: (Hq ++ (sb',cl [sv] 553) :: (Hr ++ Hw))) mo (by decide +kernel) (prm rfl) ?_
 refine gn ?_
 refine o_sliceH (ik := .i64) (j := n) rfl rfl (int_eq (by simp only [Int.ofNat_eq_natCast]; omega)) (by omega) ?_
 refine gn ?_
 refine WP.drawS [(w,cl (mw lv rv sc nb (.slice a n c) ov false (pt sb') r) 323),(sb',cl [sv] 553)] ((w',cl (mw lv' rv' sc nb' (.slice a (n + 1) c) ov' q' (pt sb') r) 323) :: (Hq ++ (Hr ++ Hw))) 13 mo (by decide +kernel) (prm rfl) ?_
 haveI := h1.one
 refine gn ?_; intro b1
 refine oap (ds := [.pointer (some ⟨w',0,none⟩)]) h1 rfl rfl rfl (Rs.cells (inferInstance : Mem _ Z _ _ b1 (cl _ 319)) rfl (Nat.le_refl 1)) (by simp [Value.oneCell']) (by omega) (by simp; omega) ?_
 intro sv' Hr' h1'
 haveI := h1'.one
 refine r_two [] ?_
 refine gn ?_
 refine fk0 (A := (w,cl (mw lv rv sc nb (.slice a n c) ov false (pt sb') r) 323) :: (Hq ++ ((sb',cl [sv'] 553) :: (Hr' ++ (Hw ++ [(w',cl (mw lv' rv' sc nb' (.slice a (n + 1) c) ov' q' (pt sb') r) 323)]))))) ?_
 exact ⟨_,rfl,rfl,hp.pop rfl (by omega),.inr ⟨sb',sv',_,Hr',_,rfl,rfl,h1',h2.add (k := 16) rfl,by simp; omega⟩⟩
end
end Go.Ux
namespace Go.Ux
open Go Go.Proofs
set_option maxRecDepth 20000
attribute [local irreducible] WP Tr
theorem AV.oneI {Z : Fz} {t : Tv} {v : Value} (h : AV Z t v) : One v := ⟨h.cells,h.cell1⟩
def OutV (Z : Fz) (o : Tv) (ov : Value) : Prop := ∃ b u,ov = pt b ∧ Z b = some (cl [u] 20) ∧ AV Z o u
theorem OutV.one {Z : Fz} {o : Tv} {ov : Value} (h : OutV Z o ov) : One ov := by obtain ⟨b,u,rfl,_⟩ := h; infer_instance
theorem OutV.mono {Z Z' : Fz} (hz : Fz.le Z Z') {o : Tv} {ov : Value} (h : OutV Z o ov) : OutV Z' o ov := by
 obtain ⟨b,u,rfl,h1,h2⟩ := h
 exact ⟨b,u,rfl,hz _ _ h1,h2.mono hz⟩
section
variable {Z : Fz} {sc sb lb mb eb nb : Nat} {l r : Option Tv} {lv rv pv ov sp rr : Value} {Hs : Hp}
theorem f86 (w : Nat) (q : Bool) [One pv] [One ov] [One sp] (hl : OV Z l lv) (hr : OV Z r rv) (kl : kids l = []) (hne : l ≠ none ∨ r ≠ none) :
  Tr Tryz.prog 86 #[pt w] Z ((w,cl (mw lv rv sc nb pv ov q sp rr) 323) :: Hs) fun x Z' H' => x = .tuple #[] ∧ ∃ o ov',H' = (w,cl (mw lv rv sc nb pv ov' q sp rr) 323) :: Hs ∧ OutV Z' o ov' ∧ MG l r o := by
 haveI := hl.one
 haveI := hr.one
 refine Tr.introk Tryz.func86 rfl Tryz.ntmps86 Tryz.results86 rfl ?_
 cases r with
 | none =>
  cases l with
  | none => exact absurd rfl (hne.resolve_left fun h => h rfl)
  | some s =>
   obtain ⟨a,v,rfl,ha,hv⟩ := ov_tr hl
   cases ov_no hr
   haveI : Zf Z a _ := ⟨.of (ha)⟩
   haveI := hv.oneI
   refine gn ?_
   refine m_as "Unstructured" (f278 _ Z) rfl rfl ?_
   refine gn ?_; intro b2
   haveI := hv.oneI
   refine o_store1 (v := v) rfl rfl rfl ?_
   refine r_end ?_
   refine q_n ?_
   refine WP.fz b2 ?_
   intro Z1 hz1 h2
   refine gn ?_
   exact fk0 (A := (w,cl (mw (vv a) .nilIface sc nb pv (pt b2) q sp rr) 323) :: Hs) ⟨rfl,s,_,rfl,⟨b2,_,rfl,h2,hv.mono hz1⟩,.left hv.uk⟩
 | some t =>
  obtain ⟨b,u,rfl,hb,hu⟩ := ov_tr hr
  haveI : Zf Z b _ := ⟨.of (hb)⟩
  haveI := hu.oneI
  refine gn ?_
  refine m_as "Unstructured" (f278 _ Z) rfl rfl ?_
  refine gn ?_; intro b2
  haveI := hu.oneI
  refine o_store1 (v := u) rfl rfl rfl ?_
  refine r_end ?_
  refine q_n ?_
  refine WP.fz b2 ?_
  intro Z1 hz1 h2
  refine gn ?_
  exact fk0 (A := (w,cl (mw lv (vv b) sc nb pv (pt b2) q sp rr) 323) :: Hs) ⟨rfl,t,_,rfl,⟨b2,_,rfl,h2,hu.mono hz1⟩,.right kl hu.uk⟩
theorem f296 (w : Nat) [One pv] [One ov] [One sp] (hl : OV Z l lv) (hr : OV Z r rv) (kl : kids l = []) (_kr : kids r = []) (hne : l ≠ none ∨ r ≠ none) :
  Tr Tryz.prog 296 #[pt w] Z ((w,cl (mw lv rv sc nb pv ov false sp rr) 323) :: Hs) fun x Z' H' => x = .tuple #[] ∧ ∃ o ov',H' = (w,cl (mw lv rv sc nb pv ov' true sp rr) 323) :: Hs ∧ OutV Z' o ov' ∧ MG l r o := by
 haveI := hl.one
 haveI := hr.one
 refine Tr.introk Tryz.func296 rfl Tryz.ntmps296 Tryz.results296 rfl ?_
 refine gn ?_
 refine cv (fs := []) (cs := []) (ys := [pt w]) (f86 (lv := lv) (rv := rv) (pv := pv) (ov := ov) (sp := sp) (rr := rr) (sc := sc) (nb := nb) (Hs := Hs) w true hl hr kl hne) ?_
 rintro _ Z₁ _ _ ⟨rfl,o,ov',rfl,h1,h2⟩
 refine gn ?_
 exact fk0 (A := (w,cl (mw lv rv sc nb pv ov' true sp rr) 323) :: Hs) ⟨rfl,o,ov',rfl,h1,h2⟩
theorem f299 (w : Nat) [One pv] [One ov] [One sp] (hsb : Z sb = some (cl [.string stU] 291)) (hl : OV Z l lv) (hr : OV Z r rv) (kl : ScO l) (kr : ScO r) (hne : l ≠ none ∨ r ≠ none) :
  Tr Tryz.prog 299 #[pt w,pt sb] Z ((w,cl (mw lv rv sc nb pv ov false sp rr) 323) :: Hs) fun x Z' H' => x = .slice none 0 0 ∧ ∃ o ov',H' = (w,cl (mw lv rv sc nb pv ov' true sp rr) 323) :: Hs ∧ OutV Z' o ov' ∧ MG l r o := by
 haveI := hl.one
 haveI := hr.one
 refine Tr.introk Tryz.func299 rfl Tryz.ntmps299 Tryz.results299 rfl ?_
 refine gn ?_
 refine cp (f304o _ hl kl hsb) ?_
 rintro _ rfl
 refine gn ?_
 refine cp (f304o _ hr kr hsb) ?_
 rintro _ rfl
 refine gn ?_
 refine ct (f296 (Hs := Hs) (lv := lv) (rv := rv) (pv := pv) (ov := ov) (sp := sp) (rr := rr) (sc := sc) (nb := nb) w hl hr kl.kids kr.kids hne) ?_
 rintro _ Z₁ _ hz₁ ⟨rfl,o,ov',rfl,h1,h2⟩
 refine gn ?_
 exact fk1 (A := (w,cl (mw lv rv sc nb pv ov' true sp rr) 323) :: Hs) ⟨rfl,o,ov',rfl,h1,h2⟩
theorem f302 (w : Nat) (q : Bool) (s v : Value) {t : Option Tv} (h : OV Z t v) (hn : Nlf t) [One s] :
  Tr Tryz.prog 302 #[pt w,s,v] Z [(w,cl (mw lv rv sc nb pv ov q sp rr) 323)] fun x Z' H' => Z = Z' ∧ H' = [(w,cl (mw lv rv sc nb pv ov q sp rr) 323)] ∧ ∃ mv,x = .tuple #[mv,.slice none 0 0] ∧ MO Z (kids t) mv := by
 refine Tr.introk Tryz.func302 rfl Tryz.ntmps302 Tryz.results302 rfl ?_
 cases t with
 | none =>
  cases ov_no h
  refine gn ?_
  exact fk2 (A := [(w,cl (mw lv rv sc nb pv ov q sp rr) 323)]) ⟨rfl,rfl,.nilIface,rfl,.inl ⟨rfl,rfl⟩⟩
 | some t =>
  obtain ⟨a,u,rfl,ha,hu⟩ := ov_tr h
  have hc := hn t rfl
  cases t with
  | sc _ => simp [Tv.cls] at hc
  | li _ _ => simp [Tv.cls] at hc
  | null =>
   simp only [AV] at hu; subst hu
   refine gn ?_
   refine cp (f239_n rr a ha) ?_
   rintro _ rfl
   refine gn ?_
   exact fk2 (A := [(w,cl (mw lv rv sc nb pv ov q sp rr) 323)]) ⟨rfl,rfl,.nilIface,rfl,.inl ⟨rfl,rfl⟩⟩
  | mp l =>
   obtain ⟨m,rfl,hm⟩ := hu.mp
   refine gn ?_
   refine cp (f239 rr a m ha) ?_
   rintro _ rfl
   refine gn ?_
   exact fk2 (A := [(w,cl (mw lv rv sc nb pv ov q sp rr) 323)]) ⟨rfl,rfl,_,rfl,.inr ⟨m,rfl,hm⟩⟩
theorem f300 (w : Nat) (q : Bool) (s v : Value) {t : Option Tv} (h : OV Z t v) (hn : LiO t) [One s] :
  Tr Tryz.prog 300 #[pt w,s,v] Z [(w,cl (mw lv rv sc nb pv ov q sp rr) 323)] fun x Z' H' => Z = Z' ∧ H' = [(w,cl (mw lv rv sc nb pv ov q sp rr) 323)] ∧ ∃ mv,x = .tuple #[mv,.slice none 0 0] ∧ LV mv := by
 refine Tr.introk Tryz.func300 rfl Tryz.ntmps300 Tryz.results300 rfl ?_
 cases t with
 | none =>
  cases ov_no h
  refine gn ?_
  exact fk2 (A := [(w,cl (mw lv rv sc nb pv ov q sp rr) 323)]) ⟨rfl,rfl,.nilIface,rfl,.inl rfl⟩
 | some t =>
  obtain ⟨a,u,rfl,ha,hu⟩ := ov_tr h
  obtain ⟨y,ts,rfl⟩ := hn t rfl
  simp only [AV] at hu; obtain ⟨rfl,z,n,vs,rfl,_,h3,_⟩ := hu
  refine gn ?_
  refine cp (f237 rr z a ha) ?_
  rintro _ rfl
  refine gn ?_
  refine fk2 (A := [(w,cl (mw lv rv sc nb pv ov q sp rr) 323)]) ⟨rfl,rfl,_,rfl,.inr ?_⟩
  cases h3 with
  | nil c => exact ⟨_,_,_,rfl⟩
  | emp => exact ⟨_,_,_,rfl⟩
  | row => exact ⟨_,_,_,rfl⟩
set_option maxHeartbeats 2000000 in
theorem f297 (w : Nat) [One pv] [One ov] [One sp] (hsc : Sch Z sc sb lb mb eb) (hl : OV Z l lv) (hr : OV Z r rv) (kl : LiO l) (kr : LiO r) (hne : l ≠ none ∨ r ≠ none) :
  Tr Tryz.prog 297 #[pt w,pt lb] Z ((w,cl (mw lv rv sc nb pv ov false sp rr) 323) :: Hs) fun x Z' H' => x = .slice none 0 0 ∧ ∃ o ov',H' = (w,cl (mw lv rv sc nb pv ov' true sp rr) 323) :: Hs ∧ OutV Z' o ov' ∧ MG l r o := by
 haveI := hl.one
 haveI := hr.one
 obtain ⟨eb',hlb,_⟩ := hsc.l
 haveI : Zf Z lb _ := ⟨.of (hlb)⟩
 refine Tr.introk Tryz.func297 rfl Tryz.ntmps297 Tryz.results297 rfl ?_
 refine gn ?_
 refine ct (f300 (lv := lv) (rv := rv) (pv := pv) (ov := ov) (sp := sp) (rr := rr) (sc := sc) (nb := nb) w false (.string _) lv hl kl) ?_
 rintro _ _ _ _ ⟨rfl,rfl,x,rfl,hx⟩
 haveI := hx.one
 rcases hx with rfl | ⟨a1,n1,c1,rfl⟩
 ·refine gn ?_
  refine ct (f300 (lv := lv) (rv := rv) (pv := pv) (ov := ov) (sp := sp) (rr := rr) (sc := sc) (nb := nb) w false (.string _) rv hr kr) ?_
  rintro _ _ _ _ ⟨rfl,rfl,y,rfl,hy⟩
  haveI := hy.one
  rcases hy with rfl | ⟨a2,n2,c2,rfl⟩
  ·refine gn ?_
   refine ct (f296 (Hs := Hs) (lv := lv) (rv := rv) (pv := pv) (ov := ov) (sp := sp) (rr := rr) (sc := sc) (nb := nb) w hl hr kl.kids kr.kids hne) ?_
   rintro _ Z₁ _ hz₁ ⟨rfl,o,ov',rfl,h1,h2⟩
   refine gn ?_
   exact fk1 (A := (w,cl (mw lv rv sc nb pv ov' true sp rr) 323) :: Hs) ⟨rfl,o,ov',rfl,h1,h2⟩
  ·refine gn ?_
   refine o_free rfl rfl ?_
   refine gn ?_
   refine cip (args := []) (f364 a2 n2 c2 Z) ?_
   rintro _ rfl
   refine o_eqi rfl rfl rfl (r := decide (n2 = 0)) (len0 n2) ?_
   cases decide (n2 = 0)
   ·refine gn ?_
    refine ct (f296 (Hs := Hs) (lv := lv) (rv := rv) (pv := pv) (ov := ov) (sp := sp) (rr := rr) (sc := sc) (nb := nb) w hl hr kl.kids kr.kids hne) ?_
    rintro _ Z₁ _ hz₁ ⟨rfl,o,ov',rfl,h1,h2⟩
    refine gn ?_
    refine fin_free ?_
    exact fk1 (A := (w,cl (mw lv rv sc nb pv ov' true sp rr) 323) :: Hs) ⟨rfl,o,ov',rfl,h1,h2⟩
   ·refine gn ?_
    refine ct (f296 (Hs := Hs) (lv := lv) (rv := rv) (pv := pv) (ov := ov) (sp := sp) (rr := rr) (sc := sc) (nb := nb) w hl hr kl.kids kr.kids hne) ?_
    rintro _ Z₁ _ hz₁ ⟨rfl,o,ov',rfl,h1,h2⟩
    refine gn ?_
    refine fin_free ?_
    exact fk1 (A := (w,cl (mw lv rv sc nb pv ov' true sp rr) 323) :: Hs) ⟨rfl,o,ov',rfl,h1,h2⟩
 ·refine gn ?_
  refine o_free rfl rfl ?_
  refine gn ?_
  refine ct (f300 (lv := lv) (rv := rv) (pv := pv) (ov := ov) (sp := sp) (rr := rr) (sc := sc) (nb := nb) w false (.string _) rv hr kr) ?_
  rintro _ _ _ _ ⟨rfl,rfl,y,rfl,hy⟩
  haveI := hy.one
  rcases hy with rfl | ⟨a2,n2,c2,rfl⟩
  ·refine gn ?_
   refine cip (args := []) (f364 a1 n1 c1 Z) ?_
   rintro _ rfl
   refine o_eqi rfl rfl rfl (r := decide (n1 = 0)) (len0 n1) ?_
   cases decide (n1 = 0)
   ·refine gn ?_
    refine ct (f296 (Hs := Hs) (lv := lv) (rv := rv) (pv := pv) (ov := ov) (sp := sp) (rr := rr) (sc := sc) (nb := nb) w hl hr kl.kids kr.kids hne) ?_
    rintro _ Z₁ _ hz₁ ⟨rfl,o,ov',rfl,h1,h2⟩
    refine gn ?_
    refine fin_free ?_
    exact fk1 (A := (w,cl (mw lv rv sc nb pv ov' true sp rr) 323) :: Hs) ⟨rfl,o,ov',rfl,h1,h2⟩
   ·refine gn ?_
    refine ct (f296 (Hs := Hs) (lv := lv) (rv := rv) (pv := pv) (ov := ov) (sp := sp) (rr := rr) (sc := sc) (nb := nb) w hl hr kl.kids kr.kids hne) ?_
    rintro _ Z₁ _ hz₁ ⟨rfl,o,ov',rfl,h1,h2⟩
    refine gn ?_
    refine fin_free ?_
    exact fk1 (A := (w,cl (mw lv rv sc nb pv ov' true sp rr) 323) :: Hs) ⟨rfl,o,ov',rfl,h1,h2⟩
  ·refine gn ?_
   refine o_free rfl rfl ?_
   refine gn ?_
   refine cip (args := []) (f364 a1 n1 c1 Z) ?_
   rintro _ rfl
   refine o_eqi rfl rfl rfl (r := decide (n1 = 0)) (len0 n1) ?_
   cases decide (n1 = 0)
   ·refine gn ?_
    refine ct (f296 (Hs := Hs) (lv := lv) (rv := rv) (pv := pv) (ov := ov) (sp := sp) (rr := rr) (sc := sc) (nb := nb) w hl hr kl.kids kr.kids hne) ?_
    rintro _ Z₁ _ hz₁ ⟨rfl,o,ov',rfl,h1,h2⟩
    refine gn ?_
    refine fin_free ?_
    refine fin_free ?_
    exact fk1 (A := (w,cl (mw lv rv sc nb pv ov' true sp rr) 323) :: Hs) ⟨rfl,o,ov',rfl,h1,h2⟩
   ·refine gn ?_
    refine cip (args := []) (f364 a2 n2 c2 Z) ?_
    rintro _ rfl
    refine o_eqi rfl rfl rfl (r := decide (n2 = 0)) (len0 n2) ?_
    cases decide (n2 = 0)
    ·refine gn ?_
     refine ct (f296 (Hs := Hs) (lv := lv) (rv := rv) (pv := pv) (ov := ov) (sp := sp) (rr := rr) (sc := sc) (nb := nb) w hl hr kl.kids kr.kids hne) ?_
     rintro _ Z₁ _ hz₁ ⟨rfl,o,ov',rfl,h1,h2⟩
     refine gn ?_
     refine fin_free ?_
     refine fin_free ?_
     exact fk1 (A := (w,cl (mw lv rv sc nb pv ov' true sp rr) 323) :: Hs) ⟨rfl,o,ov',rfl,h1,h2⟩
    ·refine gn ?_
     refine ct (f296 (Hs := Hs) (lv := lv) (rv := rv) (pv := pv) (ov := ov) (sp := sp) (rr := rr) (sc := sc) (nb := nb) w hl hr kl.kids kr.kids hne) ?_
     rintro _ Z₁ _ hz₁ ⟨rfl,o,ov',rfl,h1,h2⟩
     refine gn ?_
     refine fin_free ?_
     refine fin_free ?_
     exact fk1 (A := (w,cl (mw lv rv sc nb pv ov' true sp rr) 323) :: Hs) ⟨rfl,o,ov',rfl,h1,h2⟩
end
end Go.Ux
namespace Go.Ux
open Go Go.Proofs
set_option maxRecDepth 20000
instance : Ent Tryz.prog 312 := ⟨fun a w => by kernel_rfl⟩
attribute [local irreducible] WP Tr
theorem upd_new {k : Nm} {v : Value} {c : Nat} : ∀ {es : List En},(∀ e ∈ es,e.k ≠ k) → upd k v c es = es ++ [⟨k,v,c⟩]
 | [],_ => rfl
 | e :: es,h => by
  have h1 : k ≠ e.k := fun x => h e (List.mem_cons_self ..) x.symm
  simp only [upd,if_neg h1,List.cons_append,upd_new fun x hx => h x (List.mem_cons_of_mem _ hx)]
theorem nxt_new {k : Nm} {c : Nat} {es : List En} (h : ∀ e ∈ es,e.k ≠ k) : nxt k es c = c + 1 := by
 have : lk es k = none := by
  unfold lk
  rw [Option.map_eq_none_iff,List.find?_eq_none]
  intro e he; simpa using fun x => h e he x.symm
 simp [nxt,this]
theorem Stm.snoc {es : List En} {c : Nat} {k : Nm} {v : Value} (h : Stm es c) (hk : ∀ e ∈ es,e.k ≠ k) : Stm (es ++ [⟨k,v,c⟩]) (c + 1) := by
 refine ⟨fun e he => ?_,?_,?_⟩
 ·rcases List.mem_append.1 he with he | he
  ·have := h.lt e he; omega
  ·simp only [List.mem_singleton] at he; subst he; exact Nat.lt_succ_self c
 ·rw [List.map_append,List.nodup_append]
  refine ⟨h.nd,by simp,fun a ha b hb => ?_⟩
  simp only [List.map_cons,List.map_nil,List.mem_singleton] at hb; subst hb
  obtain ⟨e,he,rfl⟩ := List.mem_map.1 ha
  have := h.lt e he; omega
 ·rw [List.map_append,List.nodup_append]
  refine ⟨h.kd,by simp,fun a ha b hb => ?_⟩
  simp only [List.map_cons,List.map_nil,List.mem_singleton] at hb; subst hb
  obtain ⟨e,he,rfl⟩ := List.mem_map.1 ha
  exact hk e he
theorem AVm.snoc {Z : Fz} {k : Nm} {o : Tv} {v : Value} {c : Nat} (hv : AV Z o v) : ∀ {l : List (Nm × Tv)} {es : List En},AVm Z l es → AVm Z (l ++ [(k,o)]) (es ++ [⟨k,v,c⟩])
 | [],es,h => by simp only [AVm] at h; subst h; simp only [List.nil_append,AVm]; exact ⟨_,[],rfl,rfl,hv,rfl⟩
 | (k',t) :: l,es,h => by
  simp only [AVm] at h
  obtain ⟨e,es',rfl,h1,h2,h3⟩ := h
  simp only [List.cons_append,AVm]
  exact ⟨e,_,rfl,h1,h2,h3.snoc hv⟩
theorem or_ex {α : Type} {p q : α → Prop} {t : α} (h : p t ∨ q t) : (∃ t,p t) ∨ ∃ t,q t := h.imp (fun h => ⟨t,h⟩) fun h => ⟨t,h⟩
def T128 (N : Nat) : Prop := ∀ (l r : Option Tv) (Z : Fz) (w sc sb lb mb eb nb B : Nat) (lv rv pv ov sp rr : Value) (pcs : List Value) (Hq Hs : Hp),
 szO l + szO r < N → (l ≠ none ∨ r ≠ none) → OV Z l lv → OV Z r rv → CpO l r → N ≤ B → B ≤ 17179869184 → pcs.length + 4 * N ≤ 68719476736 → Sch Z sc sb lb mb eb → Z nb = some (cl [.string nmD] 9) → One ov → Sl 308 4 pv pcs Hq → SPm B sp Hs →
 Tr Tryz.prog 128 #[pt w,.nilFunc] Z ((w,cl (mw lv rv sc nb pv ov false sp rr) 323) :: (Hq ++ Hs)) fun v Z' H' => v = .slice none 0 0 ∧ ∃ q' pv' sp' o ov' Hq' G Hs',H' = (w,cl (mw lv rv sc nb pv' ov' q' sp' rr) 323) :: (Hq' ++ (G ++ Hs')) ∧ Sl 308 4 pv' pcs Hq' ∧ Kept pv pcs pv' G ∧ OutV Z' o ov' ∧ MG l r o ∧ SPm B sp' Hs' ∧ ((∃ b,sp = pt b) → sp' = sp)
section
variable {Z : Fz} {pcs : List Value} {sc sb lb mb eb nb : Nat} {l r : Option Tv} {lv rv pv ov sp rr : Value} {Hq Hs : Hp}
set_option maxHeartbeats 2000000 in
theorem f313 {N : Nat} (ih : T128 N) (w mm c B : Nat) (es : List En) (k : Nm) [One lv] [One rv] [One ov] (hsc : Sch Z sc sb lb mb eb) {y z : Option Tv} {vy vz : Value} (hy : OV Z y vy) (hz : OV Z z vz) (hsz : szO y + szO z < N) (hne : y ≠ none ∨ z ≠ none) (hcp : CpO y z)
  (hN : N ≤ B) (hB : B ≤ 17179869184) (hπ : pcs.length + 4 + 4 * N ≤ 68719476736) (hq : Sl 308 4 pv pcs Hq) (hs : SPm (B + 1) sp Hs) (hk : ∀ e ∈ es,e.k ≠ k) :
  Tr Tryz.prog 313 #[pt w,pt mb,.map (some mm),.string k,vy,vz] Z ((mm,mp es c) :: (w,cl (mw lv rv sc nb pv ov false sp rr) 323) :: (Hq ++ Hs)) fun x Z' H' => x = .slice none 0 0 ∧ ∃ pv' sp' o u Hq' G Hs',H' = (mm,mp (es ++ [⟨k,u,c⟩]) (c + 1)) :: (w,cl (mw lv rv sc nb pv' ov false sp' rr) 323) :: (Hq' ++ (G ++ Hs')) ∧ Sl 308 4 pv' pcs Hq' ∧ Kept pv pcs pv' G ∧ AV Z' o u ∧ MG y z o ∧ SPm (B + 1) sp' Hs' ∧ ((∃ b,sp = pt b) → sp' = sp) := by
 haveI := hs.one
 haveI := hq.one
 haveI := hy.one
 haveI := hz.one
 haveI : Zf Z mb _ := ⟨.of (hsc.m)⟩
 refine Tr.introk Tryz.func313 rfl Tryz.ntmps313 Tryz.results313 rfl ?_
 refine gn ?_; intro b9
 refine gn ?_; intro b13
 refine gn ?_
 refine cp (f132 hsc k) ?_
 rintro _ rfl
 refine gn ?_; intro b14
 refine gn ?_; intro b16
 refine gn ?_
 refine ct (args := [pt w,.agg (pe b9).toArray,.agg (tref eb).toArray]) (f321 w sc nb eb B b9 lv rv pv ov sp rr pcs Hq Hs hq (by omega) hs (by omega)) ?_
 rintro _ _ _ _ ⟨w',sp',pv',Hq',Hs',G,rfl,rfl,rfl,hq',hG,hs',⟨sb',rfl⟩,hk'⟩
 haveI := hq'.one
 refine o_assign rfl ?_
 refine r_end ?_
 refine q_n ?_
 refine WP.fz b9 ?_
 intro Z1 hz1 hb9
 refine gn ?_
 refine ct (args := [pt w',.nilFunc]) (ih y z Z1 w' sc sb lb mb eb eb B vy vz pv' (.pointer none) (pt sb') rr (pcs ++ pe b9) Hq' Hs' hsz hne (hy.lw hz1) (hz.lw hz1) hcp hN hB (by simp; omega) (hsc.mono hz1) (hz1 _ _ hsc.e) inferInstance hq' hs') ?_
 rintro _ Z₂ _ hz₂ ⟨rfl,q₂,pv₂,sp₂,o,_,Hq₂,G₂,Hs₂,rfl,hq₂,hG₂,⟨b,u,rfl,hb,hu⟩,mg,hs₂,hk₂⟩
 cases hk₂ ⟨_,rfl⟩
 obtain ⟨a,n,c',rfl⟩ := hq₂.hd rfl (by omega)
 haveI : Zf Z₂ b _ := ⟨.of (hb)⟩
 haveI : Zf Z₂ b9 _ := ⟨.of (hz₂ _ _ hb9)⟩
 haveI := hu.oneI
 refine o_apnil (k := 2) rfl rfl rfl ?_
 refine gn ?_
 refine WP.only ((w',cl (mw vy vz sc eb (.slice a (n + 1) c') (pt b) q₂ (pt sb') rr) 323) :: (mm,mp es c) :: (w,cl (mw lv rv sc nb pv ov false (pt sb') rr) 323) :: (Hq₂ ++ (G ++ (G₂ ++ Hs₂)))) ?_
 refine WP.drawT [(w',cl (mw vy vz sc eb (.slice a (n + 1) c') (pt b) q₂ (pt sb') rr) 323)] ((mm,mp es c) :: (w,cl (mw lv rv sc nb pv ov false (pt sb') rr) 323) :: (Hq₂ ++ (G ++ (G₂ ++ Hs₂)))) mo (by decide +kernel) (prm rfl) ?_
 refine gn ?_
 refine o_mapUpdate (v := u) rfl rfl rfl rfl ?_
 rw [upd_new hk,nxt_new hk]
 refine gn ?_
 refine ct (f322 w w' sb' sc nb eb B b9 n c' a q₂ lv rv vy vz pv ov (pt b) rr pcs Hq₂ Hs₂ hq₂ (by omega) hs₂ (by omega)) ?_
 rintro _ _ _ _ ⟨Hs₃,rfl,rfl,hq₃,hs₃⟩
 refine gn ?_
 rcases Kept.pop hq hG hG₂ rfl with hK | hK
 ·refine fk1 (A := (mm,mp (es ++ [⟨k,u,c⟩]) (c + 1)) :: (w,cl (mw lv rv sc nb (.slice a n c') ov false (pt sb') rr) 323) :: (Hq₂ ++ (G ++ Hs₃))) ?_
  exact ⟨rfl,_,_,o,u,Hq₂,G,Hs₃,rfl,hq₃,hK,hu,mg,hs₃,hk'⟩
 ·refine fk1 (A := (mm,mp (es ++ [⟨k,u,c⟩]) (c + 1)) :: (w,cl (mw lv rv sc nb (.slice a n c') ov false (pt sb') rr) 323) :: (Hq₂ ++ (G₂ ++ Hs₃))) ?_
  exact ⟨rfl,_,_,o,u,Hq₂,G₂,Hs₃,rfl,hq₃,hK,hu,mg,hs₃,hk'⟩
theorem f312 {N : Nat} (ih : T128 N) (w mm c B b8 b4 b5 b9 : Nat) (es : List En) (k : Nm) [One lv] [One rv] [One ov] (hsc : Sch Z sc sb lb mb eb) {y z : Option Tv} {vy vz : Value} (hy : OV Z y vy) (hz : OV Z z vz) (hsz : szO y + szO z < N) (hne : y ≠ none ∨ z ≠ none) (hcp : CpO y z)
  (hN : N ≤ B) (hB : B ≤ 17179869184) (hπ : pcs.length + 4 + 4 * N ≤ 68719476736) (hq : Sl 308 4 pv pcs Hq) (hs : SPm (B + 1) sp Hs) (hk : ∀ e ∈ es,e.k ≠ k)
  (h4 : Z b4 = some (cl [pt w] 319)) (h5 : Z b5 = some (cl [pt mb] 95)) (h9 : Z b9 = some (cl [.map (some mm)] 198)) :
  Tr Tryz.prog 312 #[.string k,vy,vz,pt b8,pt b4,pt b5,pt b9] Z ((b8,cl [.slice none 0 0] 229) :: (mm,mp es c) :: (w,cl (mw lv rv sc nb pv ov false sp rr) 323) :: (Hq ++ Hs)) fun x Z' H' => x = .bool true ∧ ∃ pv' sp' o u Hq' G Hs',H' = (b8,cl [.slice none 0 0] 229) :: (mm,mp (es ++ [⟨k,u,c⟩]) (c + 1)) :: (w,cl (mw lv rv sc nb pv' ov false sp' rr) 323) :: (Hq' ++ (G ++ Hs')) ∧ Sl 308 4 pv' pcs Hq' ∧ Kept pv pcs pv' G ∧ AV Z' o u ∧ MG y z o ∧ SPm (B + 1) sp' Hs' ∧ ((∃ b,sp = pt b) → sp' = sp) := by
 haveI := hs.one
 haveI := hq.one
 haveI := hy.one
 haveI := hz.one
 haveI : Zf Z b4 _ := ⟨.of (h4)⟩
 haveI : Zf Z b5 _ := ⟨.of (h5)⟩
 haveI : Zf Z b9 _ := ⟨.of (h9)⟩
 refine Tr.introk Tryz.func312 rfl Tryz.ntmps312 Tryz.results312 rfl ?_
 refine gn ?_
 refine WP.drawS [(b8,cl [.slice none 0 0] 229)] ((mm,mp es c) :: (w,cl (mw lv rv sc nb pv ov false sp rr) 323) :: (Hq ++ Hs)) 9 mo (by decide +kernel) (prm rfl) ?_
 refine gn ?_
 refine ct (args := [pt w,pt mb,.map (some mm),.string k,vy,vz]) (f313 (nb := nb) (lv := lv) (rv := rv) (ov := ov) (sp := sp) (rr := rr) (Hs := Hs) ih w mm c B es k hsc hy hz hsz hne hcp hN hB hπ hq hs hk) ?_
 rintro _ Z₂ _ hz₂ ⟨rfl,pv₂,sp₂,o,u,Hq₂,G₂,Hs₂,rfl,hq₂,hG₂,hu,mg,hs₂,hk₂⟩
 refine o_apnil (k := 2) rfl rfl rfl ?_
 refine r_two [] ?_
 refine gn ?_
 refine fk1 (A := (b8,cl [.slice none 0 0] 229) :: (mm,mp (es ++ [⟨k,u,c⟩]) (c + 1)) :: (w,cl (mw lv rv sc nb pv₂ ov false sp₂ rr) 323) :: (Hq₂ ++ (G₂ ++ Hs₂))) ?_
 exact ⟨rfl,_,_,o,u,Hq₂,G₂,Hs₂,rfl,hq₂,hG₂,hu,mg,hs₂,hk₂⟩
set_option maxHeartbeats 2000000 in
theorem f303 {N : Nat} (ih : T128 N) (w B : Nat) [One lv] [One rv] [One ov] (hsc : Sch Z sc sb lb mb eb) (hsz : szO l + szO r < N + 1) (hcp : CpO l r) {x y : Value} (hx : MO Z (kids l) x) (hy : MO Z (kids r) y) (nl : Nlf l) (nr : Nlf r) (hne : ∃ k t,(k,t) ∈ kids l ∨ (k,t) ∈ kids r)
  (hN : N ≤ B) (hB : B ≤ 17179869184) (hπ : pcs.length + 4 + 4 * N ≤ 68719476736) (hq : Sl 308 4 pv pcs Hq) (hs : SPm (B + 1) sp Hs) :
  Tr Tryz.prog 303 #[pt w,pt mb,x,y] Z ((w,cl (mw lv rv sc nb pv ov false sp rr) 323) :: (Hq ++ Hs)) fun x Z' H' => x = .slice none 0 0 ∧ ∃ pv' sp' o ov' Hq' G Hs',H' = (w,cl (mw lv rv sc nb pv' ov' false sp' rr) 323) :: (Hq' ++ (G ++ Hs')) ∧ Sl 308 4 pv' pcs Hq' ∧ Kept pv pcs pv' G ∧ OutV Z' o ov' ∧ MG l r o ∧ SPm (B + 1) sp' Hs' ∧ ((∃ b,sp = pt b) → sp' = sp) := by
 haveI := hs.one
 haveI := hq.one
 haveI := hx.one
 haveI := hy.one
 refine Tr.introk Tryz.func303 rfl Tryz.ntmps303 Tryz.results303 rfl ?_
 refine gn ?_; intro b4
 refine gn ?_; intro b5
 refine gn ?_; intro b8
 refine gn ?_; intro mm
 refine gn ?_; intro b9
 refine o_store1 (v := .map (some mm)) rfl rfl rfl ?_
 refine r_end ?_
 refine q_n ?_
 refine WP.fz b4 ?_
 intro Z1 hz1 h4
 refine WP.fz b5 ?_
 intro Z2 hz2 h5
 refine WP.fz b9 ?_
 intro Z3 hz3 h9
 have hz : Fz.le Z Z3 := (hz1.trans hz2).trans hz3
 replace h4 := hz3 _ _ (hz2 _ _ h4)
 replace h5 := hz3 _ _ h5
 haveI : Zf Z3 b4 _ := ⟨.of (h4)⟩
 have n1 : nodK l := hx.nd
 have n2 : nodK r := hy.nd
 refine WP.only ((b8,cl [.slice none 0 0] 229) :: (mm,mp [] 0) :: (w,cl (mw lv rv sc nb pv ov false sp rr) 323) :: (Hq ++ Hs)) ?_
 refine gn ?_
 refine ct (args := [.iface 261 rr,x,y,.int .i64 0,.func (.func 312) #[] #[pt b8,pt b4,pt b5,pt b9]]) (f205 (g := 312) (fs := []) (cs := [pt b8,pt b4,pt b5,pt b9]) (Z := Z3) (la := kids l) (lb := kids r) (r := rr) (H := (b8,cl [.slice none 0 0] 229) :: (mm,mp [] 0) :: (w,cl (mw lv rv sc nb pv ov false sp rr) 323) :: (Hq ++ Hs))
  (I := fun done Z' H' => ∃ pv' sp' es c outs Hq' G Hs',H' = (b8,cl [.slice none 0 0] 229) :: (mm,mp es c) :: (w,cl (mw lv rv sc nb pv' ov false sp' rr) 323) :: (Hq' ++ (G ++ Hs')) ∧ Sl 308 4 pv' pcs Hq' ∧ Kept pv pcs pv' G ∧ Stm es c ∧ AVm Z' outs es ∧ (∀ k,k ∈ es.map En.k ↔ k ∈ done) ∧ (∀ k o,(k,o) ∈ outs → ∃ y z,Lk (kids l) k y ∧ Lk (kids r) k z ∧ MG y z o) ∧ SPm (B + 1) sp' Hs' ∧ ((∃ b,sp = pt b) → sp' = sp))
  ?zc ?st x y (hx.mono hz) (hy.mono hz) ⟨pv,sp,[],0,[],Hq,[],Hs,rfl,hq,.refl,⟨by simp,by simp,by simp⟩,by simp [AVm],by simp,by simp,hs,fun _ => rfl⟩) ?_
 case st =>
  rintro done Z Z' H hz ⟨pv',sp',es,c,outs,Hq',G,Hs',h1,h2,h3,h4,h5,h6⟩
  exact ⟨pv',sp',es,c,outs,Hq',G,Hs',h1,h2,h3,h4,h5.lw hz,h6⟩
 case zc =>
  rintro done k a b va vb Z₁ H₁ hz₁ ⟨pv₁,sp₁,es,c,outs,Hq₁,G₁,Hs₁,rfl,hq₁,hG₁,hst,hav,hks,hos,hs₁,hk₁⟩ hkd ha hb hne va' vb'
  have hke : ∀ e ∈ es,e.k ≠ k := fun e he hk => hkd ((hks k).1 (hk ▸ List.mem_map_of_mem (f := En.k) he))
  refine Tr.frm (A := (b8,cl [.slice none 0 0] 229) :: (mm,mp es c) :: (w,cl (mw lv rv sc nb pv₁ ov false sp₁ rr) 323) :: (Hq₁ ++ Hs₁)) (f312 (nb := nb) (lv := lv) (rv := rv) (ov := ov) (sp := sp₁) (rr := rr) (Hs := Hs₁) ih w mm c B b8 b4 b5 b9 es k (hsc.mono (hz.trans hz₁)) va' vb' (Nat.lt_of_lt_of_le (sz_kids ha hb hne) (by omega)) hne (hcp.kid ha hb) hN hB hπ hq₁ hs₁ hke (hz₁ _ _ h4) (hz₁ _ _ h5) (hz₁ _ _ h9)) ?_
  rintro _ Z₂ _ hz₂ ⟨rfl,pv₂,sp₂,o,u,Hq₂,G₂,Hs₂,rfl,hq₂,hG₂,hu,mg,hs₂,hk₂⟩
  have hk₃ : (∃ b,sp = pt b) → sp₂ = sp := fun ⟨b,h⟩ => (hk₂ ⟨b,(hk₁ ⟨b,h⟩).trans h⟩).trans (hk₁ ⟨b,h⟩)
  have e1 : ∀ k',k' ∈ (es ++ [(⟨k,u,c⟩ : En)]).map En.k ↔ k' ∈ done ++ [k] := fun k' => by
   rw [List.map_append,List.mem_append,List.mem_append,hks]; simp
  have e2 : ∀ k' o',(k',o') ∈ outs ++ [(k,o)] → ∃ y z,Lk (kids l) k' y ∧ Lk (kids r) k' z ∧ MG y z o' := fun k' o' h => by
   rcases List.mem_append.1 h with h | h
   ·exact hos k' o' h
   ·simp only [List.mem_singleton,Prod.mk.injEq] at h
    obtain ⟨rfl,rfl⟩ := h
    exact ⟨a,b,ha,hb,mg⟩
  rcases hG₁.trans hG₂ with hK | ⟨rfl,hK⟩
  ·exact ⟨(b8,cl [.slice none 0 0] 229) :: (mm,mp (es ++ [⟨k,u,c⟩]) (c + 1)) :: (w,cl (mw lv rv sc nb pv₂ ov false sp₂ rr) 323) :: (Hq₂ ++ (G₁ ++ Hs₂)),_,spp,rfl,pv₂,sp₂,_,_,_,Hq₂,G₁,Hs₂,rfl,hq₂,hK,hst.snoc hke,(hav.mono hz₂).snoc hu,e1,e2,hs₂,hk₃⟩
  ·exact ⟨(b8,cl [.slice none 0 0] 229) :: (mm,mp (es ++ [⟨k,u,c⟩]) (c + 1)) :: (w,cl (mw lv rv sc nb pv₂ ov false sp₂ rr) 323) :: (Hq₂ ++ (G₂ ++ Hs₂)),_,spp,rfl,pv₂,sp₂,_,_,_,Hq₂,G₂,Hs₂,rfl,hq₂,hK,hst.snoc hke,(hav.mono hz₂).snoc hu,e1,e2,hs₂,hk₃⟩
 rintro _ Z₁ _ hz₁ ⟨rfl,done,hd,pv₁,sp₁,es,c,outs,Hq₁,G₁,Hs₁,rfl,hq₁,hG₁,hst,hav,hks,hos,hs₁,hk₁⟩
 haveI : Zf Z₁ b9 _ := ⟨.of (hz₁ _ _ h9)⟩
 haveI : Zf Z₁ b4 _ := ⟨.of (hz₁ _ _ h4)⟩
 have hpos : 0 < es.length := by
  obtain ⟨k,t,h⟩ := hne
  have : k ∈ es.map En.k := (hks k).2 ((hd k).2 (or_ex h))
  obtain ⟨e,he,_⟩ := List.mem_map.1 this
  exact List.length_pos_of_mem he
 have hnc : (outs.map (·.1)).Nodup := by rw [hav.keys]; exact hst.kd
 have mg : MG l r (.mp outs) := by
  refine .map nl nr n1 n2 hnc ?_ hos fun k t h => ?_
  ·obtain ⟨k,t,h⟩ := hne
   refine h.imp (fun h e => ?_) fun h e => ?_ <;> (rw [e] at h; cases h)
  ·have : k ∈ outs.map (·.1) := by rw [hav.keys]; exact (hks k).2 ((hd k).2 (or_ex h))
   obtain ⟨⟨k',z⟩,hz,rfl⟩ := List.mem_map.1 this
   exact ⟨z,hz⟩
 refine gn ?_
 refine o_gtr rfl rfl rfl (r := true) (decide_eq_true (by simp only [Int.ofNat_eq_natCast]; omega)) ?_
 refine gn ?_; intro b10
 refine o_store1 (v := .iface 198 (.map (some mm))) rfl rfl rfl ?_
 refine r_end ?_
 refine q_n ?_
 refine WP.fz mm ?_
 intro Z4 hz4 hmm
 refine WP.fz b10 ?_
 intro Z5 hz5 h10
 haveI : Zf Z5 b4 _ := ⟨.of (hz5 _ _ (hz4 _ _ (hz₁ _ _ h4)))⟩
 refine gn ?_
 refine fkS (A := (w,cl (mw lv rv sc nb pv₁ (pt b10) false sp₁ rr) 323) :: (Hq₁ ++ (G₁ ++ Hs₁))) rfl rfl ⟨rfl,pv₁,sp₁,.mp outs,_,Hq₁,G₁,Hs₁,rfl,hq₁,hG₁,⟨b10,_,rfl,h10,?_⟩,mg,hs₁,hk₁⟩
 simp only [AV]
 exact ⟨mm,es,c,es,rfl,hz5 _ _ hmm,hst,.refl _,(hav.mono hz4).mono hz5⟩
end
end Go.Ux
namespace Go.Ux
open Go Go.Proofs
set_option maxRecDepth 20000
attribute [local irreducible] WP Tr
theorem MP.ex {Z : Fz} {l : List (Nm × Tv)} {es es' : List En} (hp : es.Perm es') (h : AVm Z l es') (he : ¬ es.length = 0) : ∃ k t,(k,t) ∈ l := by
 cases l with
 | nil => exact absurd ((MP.nil hp h).2 rfl) he
 | cons p l => exact ⟨p.1,p.2,List.mem_cons_self ..⟩
section
variable {n : Nat} {all : Array Oper} {dr : Bool} {Pin : Hp} {K : Fr → Fz → Hp → Prop} {rest : List Oper} {l : List Lay} {D : List Deferred} {Z : Fz} {H : Hp}
variable {d : Tmp} {ty T' : TypeId} {pos : String} {af : Array Edge} {gd : Option (Nat × Bool)} {x y : Operand}
theorem o_nenf (hg : okO n all ⟨l,D⟩ ⟨some d,.binOp .neq 315 x y T',ty,pos,af,gd⟩ = true) (hx : ev ⟨l,D⟩ x = .nilFunc) (hy : ev ⟨l,D⟩ y = .nilFunc)
  (h : Rg Tryz.prog n all dr Pin K rest ⟨.s d (.bool false) :: l,D⟩ Z H) : Rg Tryz.prog n all dr Pin K (⟨some d,.binOp .neq 315 x y T',ty,pos,af,gd⟩ :: rest) ⟨l,D⟩ Z H :=
 o_bin hg (fun w _ => by rw [hx,hy]; kernel_rfl) h
end
def MQ (l r : Option Tv) (pcs : List Value) (lv rv pv sp rr : Value) (w sc nb B : Nat) (x : Value) (Z' : Fz) (H' : Hp) : Prop :=
 x = .slice none 0 0 ∧ ∃ q' pv' sp' o ov' Hq' G Hs',H' = (w,cl (mw lv rv sc nb pv' ov' q' sp' rr) 323) :: (Hq' ++ (G ++ Hs')) ∧ Sl 308 4 pv' pcs Hq' ∧ Kept pv pcs pv' G ∧ OutV Z' o ov' ∧ MG l r o ∧ SPm B sp' Hs' ∧ ((∃ b,sp = pt b) → sp' = sp)
section
variable {Z : Fz} {pcs : List Value} {sc sb lb mb eb nb : Nat} {l r : Option Tv} {lv rv pv ov sp rr : Value} {Hq Hs : Hp}
set_option maxHeartbeats 4000000 in
theorem f298 {N : Nat} (ih : T128 N) (w B : Nat) [One ov] (hsc : Sch Z sc sb lb mb eb) (hl : OV Z l lv) (hr : OV Z r rv) (nl : Nlf l) (nr : Nlf r) (hne : l ≠ none ∨ r ≠ none) (hsz : szO l + szO r < N + 1) (hcp : CpO l r)
  (hN : N ≤ B) (hB : B ≤ 17179869184) (hπ : pcs.length + 4 + 4 * N ≤ 68719476736) (hq : Sl 308 4 pv pcs Hq) (hs : SPm (B + 1) sp Hs) :
  Tr Tryz.prog 298 #[pt w,pt mb] Z ((w,cl (mw lv rv sc nb pv ov false sp rr) 323) :: (Hq ++ Hs)) (MQ l r pcs lv rv pv sp rr w sc nb (B + 1)) := by
 haveI := hs.one
 haveI := hq.one
 haveI := hl.one
 haveI := hr.one
 haveI : Zf Z mb _ := ⟨.of (hsc.m)⟩
 refine Tr.introk Tryz.func298 rfl Tryz.ntmps298 Tryz.results298 rfl ?_
 refine gn ?_
 refine ct (f302 (lv := lv) (rv := rv) (pv := pv) (ov := ov) (sp := sp) (rr := rr) (sc := sc) (nb := nb) w false (.string _) lv hl nl) ?_
 rintro _ _ _ _ ⟨rfl,rfl,x,rfl,hx⟩
 haveI := hx.one
 rcases hx with ⟨k1,rfl⟩ | ⟨m1,rfl,hm1⟩
 ·refine gn ?_
  refine ct (f302 (lv := lv) (rv := rv) (pv := pv) (ov := ov) (sp := sp) (rr := rr) (sc := sc) (nb := nb) w false (.string _) rv hr nr) ?_
  rintro _ _ _ _ ⟨rfl,rfl,y,rfl,hy⟩
  haveI := hy.one
  rcases hy with ⟨k2,rfl⟩ | ⟨m2,rfl,hm2⟩
  ·refine gn ?_
   refine o_eqs rfl rfl rfl (r := false) (by decide +kernel) ?_
   refine gn ?_
   refine ct (f296 (Hs := Hq ++ Hs) (lv := lv) (rv := rv) (pv := pv) (ov := ov) (sp := sp) (rr := rr) (sc := sc) (nb := nb) w hl hr k1 k2 hne) ?_
   rintro _ Z₁ _ hz₁ ⟨rfl,o,ov',rfl,h1,h2⟩
   refine gn ?_
   exact fk1 (A := (w,cl (mw lv rv sc nb pv ov' true sp rr) 323) :: (Hq ++ ([] ++ Hs))) ⟨rfl,true,pv,sp,o,ov',Hq,[],Hs,rfl,hq,.refl,h1,h2,hs,fun _ => rfl⟩
  ·refine gn ?_
   refine o_free rfl rfl ?_
   refine gn ?_
   obtain ⟨es2,c2,es2',hz2,hst2,hp2,hav2⟩ := id hm2
   haveI : Zf Z m2 _ := ⟨.of (hz2)⟩
   refine cip (args := []) (f369 m2 c2 es2 Z) ?_
   rintro _ rfl
   by_cases he2 : es2.length = 0
   ·rw [decide_eq_true he2]
    refine gn ?_
    refine o_eqs rfl rfl rfl (r := false) (by decide +kernel) ?_
    refine gn ?_
    refine ct (f296 (Hs := Hq ++ Hs) (lv := lv) (rv := rv) (pv := pv) (ov := ov) (sp := sp) (rr := rr) (sc := sc) (nb := nb) w hl hr k1 ((MP.nil hp2 hav2).1 he2) hne) ?_
    rintro _ Z₁ _ hz₁ ⟨rfl,o,ov',rfl,h1,h2⟩
    refine gn ?_
    refine fin_free ?_
    exact fk1 (A := (w,cl (mw lv rv sc nb pv ov' true sp rr) 323) :: (Hq ++ ([] ++ Hs))) ⟨rfl,true,pv,sp,o,ov',Hq,[],Hs,rfl,hq,.refl,h1,h2,hs,fun _ => rfl⟩
   ·rw [decide_eq_false he2]
    refine gn ?_
    refine o_eqs rfl rfl rfl (r := false) (by decide +kernel) ?_
    refine gn ?_
    refine ct (f303 (lv := lv) (rv := rv) (pv := pv) (ov := ov) (sp := sp) (rr := rr) (sc := sc) (nb := nb) (Hs := Hs) ih w B hsc hsz hcp (.inl ⟨k1,rfl⟩) (.inr ⟨m2,rfl,hm2⟩) nl nr (let ⟨k,t,h⟩ := MP.ex hp2 hav2 he2; ⟨k,t,.inr h⟩) hN hB hπ hq hs) ?_
    rintro _ Z₁ _ hz₁ ⟨rfl,pv₁,sp₁,o,ov',Hq₁,G₁,Hs₁,rfl,hq₁,hG₁,ho,mg,hs₁,hk₁⟩
    refine o_apnil (k := 2) rfl rfl rfl ?_
    refine gn ?_
    refine fin_free ?_
    exact fk1 (A := (w,cl (mw lv rv sc nb pv₁ ov' false sp₁ rr) 323) :: (Hq₁ ++ (G₁ ++ Hs₁))) ⟨rfl,false,pv₁,sp₁,o,ov',Hq₁,G₁,Hs₁,rfl,hq₁,hG₁,ho,mg,hs₁,hk₁⟩
 ·refine gn ?_
  refine o_free rfl rfl ?_
  refine gn ?_
  refine ct (f302 (lv := lv) (rv := rv) (pv := pv) (ov := ov) (sp := sp) (rr := rr) (sc := sc) (nb := nb) w false (.string _) rv hr nr) ?_
  rintro _ _ _ _ ⟨rfl,rfl,y,rfl,hy⟩
  haveI := hy.one
  rcases hy with ⟨k2,rfl⟩ | ⟨m2,rfl,hm2⟩
  ·refine gn ?_
   obtain ⟨es1,c1,es1',hz1,hst1,hp1,hav1⟩ := id hm1
   haveI : Zf Z m1 _ := ⟨.of (hz1)⟩
   refine cip (args := []) (f369 m1 c1 es1 Z) ?_
   rintro _ rfl
   by_cases he1 : es1.length = 0
   ·rw [decide_eq_true he1]
    refine gn ?_
    refine o_eqs rfl rfl rfl (r := false) (by decide +kernel) ?_
    refine gn ?_
    refine ct (f296 (Hs := Hq ++ Hs) (lv := lv) (rv := rv) (pv := pv) (ov := ov) (sp := sp) (rr := rr) (sc := sc) (nb := nb) w hl hr ((MP.nil hp1 hav1).1 he1) k2 hne) ?_
    rintro _ Z₁ _ hz₁ ⟨rfl,o,ov',rfl,h1,h2⟩
    refine gn ?_
    refine fin_free ?_
    exact fk1 (A := (w,cl (mw lv rv sc nb pv ov' true sp rr) 323) :: (Hq ++ ([] ++ Hs))) ⟨rfl,true,pv,sp,o,ov',Hq,[],Hs,rfl,hq,.refl,h1,h2,hs,fun _ => rfl⟩
   ·rw [decide_eq_false he1]
    refine gn ?_
    refine o_eqs rfl rfl rfl (r := false) (by decide +kernel) ?_
    refine gn ?_
    refine ct (f303 (lv := lv) (rv := rv) (pv := pv) (ov := ov) (sp := sp) (rr := rr) (sc := sc) (nb := nb) (Hs := Hs) ih w B hsc hsz hcp (.inr ⟨m1,rfl,hm1⟩) (.inl ⟨k2,rfl⟩) nl nr (let ⟨k,t,h⟩ := MP.ex hp1 hav1 he1; ⟨k,t,.inl h⟩) hN hB hπ hq hs) ?_
    rintro _ Z₁ _ hz₁ ⟨rfl,pv₁,sp₁,o,ov',Hq₁,G₁,Hs₁,rfl,hq₁,hG₁,ho,mg,hs₁,hk₁⟩
    refine o_apnil (k := 2) rfl rfl rfl ?_
    refine gn ?_
    refine fin_free ?_
    exact fk1 (A := (w,cl (mw lv rv sc nb pv₁ ov' false sp₁ rr) 323) :: (Hq₁ ++ (G₁ ++ Hs₁))) ⟨rfl,false,pv₁,sp₁,o,ov',Hq₁,G₁,Hs₁,rfl,hq₁,hG₁,ho,mg,hs₁,hk₁⟩
  ·refine gn ?_
   refine o_free rfl rfl ?_
   refine gn ?_
   obtain ⟨es1,c1,es1',hz1,hst1,hp1,hav1⟩ := id hm1
   haveI : Zf Z m1 _ := ⟨.of (hz1)⟩
   refine cip (args := []) (f369 m1 c1 es1 Z) ?_
   rintro _ rfl
   by_cases he1 : es1.length = 0
   ·rw [decide_eq_true he1]
    refine gn ?_
    obtain ⟨es2,c2,es2',hz2,hst2,hp2,hav2⟩ := id hm2
    haveI : Zf Z m2 _ := ⟨.of (hz2)⟩
    refine cip (args := []) (f369 m2 c2 es2 Z) ?_
    rintro _ rfl
    by_cases he2 : es2.length = 0
    ·rw [decide_eq_true he2]
     refine gn ?_
     refine o_eqs rfl rfl rfl (r := false) (by decide +kernel) ?_
     refine gn ?_
     refine ct (f296 (Hs := Hq ++ Hs) (lv := lv) (rv := rv) (pv := pv) (ov := ov) (sp := sp) (rr := rr) (sc := sc) (nb := nb) w hl hr ((MP.nil hp1 hav1).1 he1) ((MP.nil hp2 hav2).1 he2) hne) ?_
     rintro _ Z₁ _ hz₁ ⟨rfl,o,ov',rfl,h1,h2⟩
     refine gn ?_
     refine fin_free ?_
     refine fin_free ?_
     exact fk1 (A := (w,cl (mw lv rv sc nb pv ov' true sp rr) 323) :: (Hq ++ ([] ++ Hs))) ⟨rfl,true,pv,sp,o,ov',Hq,[],Hs,rfl,hq,.refl,h1,h2,hs,fun _ => rfl⟩
    ·rw [decide_eq_false he2]
     refine gn ?_
     refine o_eqs rfl rfl rfl (r := false) (by decide +kernel) ?_
     refine gn ?_
     refine ct (f303 (lv := lv) (rv := rv) (pv := pv) (ov := ov) (sp := sp) (rr := rr) (sc := sc) (nb := nb) (Hs := Hs) ih w B hsc hsz hcp (.inr ⟨m1,rfl,hm1⟩) (.inr ⟨m2,rfl,hm2⟩) nl nr (let ⟨k,t,h⟩ := MP.ex hp2 hav2 he2; ⟨k,t,.inr h⟩) hN hB hπ hq hs) ?_
     rintro _ Z₁ _ hz₁ ⟨rfl,pv₁,sp₁,o,ov',Hq₁,G₁,Hs₁,rfl,hq₁,hG₁,ho,mg,hs₁,hk₁⟩
     refine o_apnil (k := 2) rfl rfl rfl ?_
     refine gn ?_
     refine fin_free ?_
     refine fin_free ?_
     exact fk1 (A := (w,cl (mw lv rv sc nb pv₁ ov' false sp₁ rr) 323) :: (Hq₁ ++ (G₁ ++ Hs₁))) ⟨rfl,false,pv₁,sp₁,o,ov',Hq₁,G₁,Hs₁,rfl,hq₁,hG₁,ho,mg,hs₁,hk₁⟩
   ·rw [decide_eq_false he1]
    refine gn ?_
    refine o_eqs rfl rfl rfl (r := false) (by decide +kernel) ?_
    refine gn ?_
    refine ct (f303 (lv := lv) (rv := rv) (pv := pv) (ov := ov) (sp := sp) (rr := rr) (sc := sc) (nb := nb) (Hs := Hs) ih w B hsc hsz hcp (.inr ⟨m1,rfl,hm1⟩) (.inr ⟨m2,rfl,hm2⟩) nl nr (let ⟨k,t,h⟩ := MP.ex hp1 hav1 he1; ⟨k,t,.inl h⟩) hN hB hπ hq hs) ?_
    rintro _ Z₁ _ hz₁ ⟨rfl,pv₁,sp₁,o,ov',Hq₁,G₁,Hs₁,rfl,hq₁,hG₁,ho,mg,hs₁,hk₁⟩
    refine o_apnil (k := 2) rfl rfl rfl ?_
    refine gn ?_
    refine fin_free ?_
    refine fin_free ?_
    exact fk1 (A := (w,cl (mw lv rv sc nb pv₁ ov' false sp₁ rr) 323) :: (Hq₁ ++ (G₁ ++ Hs₁))) ⟨rfl,false,pv₁,sp₁,o,ov',Hq₁,G₁,Hs₁,rfl,hq₁,hG₁,ho,mg,hs₁,hk₁⟩
theorem f159m {N : Nat} (ih : T128 N) (w B : Nat) (t : Tv) [One ov] (hsc : Sch Z sc sb lb mb eb) (hl : OV Z l lv) (hr : OV Z r rv) (cl' : ∀ s,l = some s → s.cls = t.cls) (cr' : ∀ s,r = some s → s.cls = t.cls) (hne : l ≠ none ∨ r ≠ none) (hsz : szO l + szO r < N + 1) (hcp : CpO l r)
  (hN : N ≤ B) (hB : B ≤ 17179869184) (hπ : pcs.length + 4 + 4 * N ≤ 68719476736) (hq : Sl 308 4 pv pcs Hq) (hs : SPm (B + 1) sp Hs) :
  Tr Tryz.prog 159 #[.agg (t.at1.cells sb lb mb).toArray,.agg (tref nb).toArray,.iface 319 (pt w)] Z ((w,cl (mw lv rv sc nb pv ov false sp rr) 323) :: (Hq ++ Hs)) (MQ l r pcs lv rv pv sp rr w sc nb (B + 1)) := by
 haveI := hs.one
 haveI := hq.one
 have sc1 : ∀ {o : Option Tv} {u : Value},(∀ s,o = some s → s.cls = (Tv.sc u).cls) → ScO o := fun h s hs => by
  have := h s hs
  cases s <;> simp [Tv.cls] at this
  exact ⟨_,rfl⟩
 have li1 : ∀ {o : Option Tv} {u : Value} {ts : List Tv},(∀ s,o = some s → s.cls = (Tv.li u ts).cls) → LiO o := fun h s hs => by
  have := h s hs
  cases s <;> simp [Tv.cls] at this
  exact ⟨_,_,rfl⟩
 have fin : ∀ {x : Value} {Z' : Fz} {H' : Hp},(x = .slice none 0 0 ∧ ∃ o ov',H' = (w,cl (mw lv rv sc nb pv ov' true sp rr) 323) :: (Hq ++ Hs) ∧ OutV Z' o ov' ∧ MG l r o) → MQ l r pcs lv rv pv sp rr w sc nb (B + 1) x Z' H' := by
  rintro x Z' H' ⟨rfl,o,ov',rfl,h1,h2⟩
  exact ⟨rfl,true,pv,sp,o,ov',Hq,[],Hs,rfl,hq,.refl,h1,h2,hs,fun _ => rfl⟩
 cases t with
 | null => exact f159_mp _ (.inr rfl) (f298 ih w B hsc hl hr cl' cr' hne hsz hcp hN hB hπ hq hs)
 | sc u => exact f159_sc (Tr.mono (f299 (sp := sp) (rr := rr) (Hs := Hq ++ Hs) w hsc.s hl hr (sc1 cl') (sc1 cr') hne) fun _ _ _ h => fin h)
 | li u ts => exact f159_li (Tr.mono (f297 (sp := sp) (rr := rr) (Hs := Hq ++ Hs) w hsc hl hr (li1 cl') (li1 cr') hne) fun _ _ _ h => fin h)
 | mp c => exact f159_mp _ (.inl rfl) (f298 ih w B hsc hl hr cl' cr' hne hsz hcp hN hB hπ hq hs)
end
theorem back2m {B : Nat} {pv pv₀ sp sp₀ : Value} {pcs : List Value} {Hq₀ G₀ Hs Hs₀ : Hp} (hq : Sl 308 4 pv₀ pcs Hq₀) (hG : Kept pv pcs pv₀ G₀) (hs : SPm B sp Hs) (hs₀ : SPm B sp₀ Hs₀) (hk : (∃ b,sp = pt b) → sp₀ = sp) :
  ∃ Hq₂ Hs₂ X,(Hq₀ ++ (G₀ ++ Hs₀)).Perm ((Hq₂ ++ Hs₂) ++ X) ∧ Sl 308 4 pv pcs Hq₂ ∧ SPm B sp Hs₂ := by
 have h1 : ∃ Hs₂ Y,Hs₀.Perm (Hs₂ ++ Y) ∧ SPm B sp Hs₂ := by
  rcases hs with ⟨rfl,rfl⟩ | ⟨b,_,_,_,_,rfl,_⟩
  ·exact ⟨[],Hs₀,.refl _,.nil⟩
  ·rw [hk ⟨b,rfl⟩] at hs₀; exact ⟨Hs₀,[],by rw [List.append_nil],hs₀⟩
 obtain ⟨Hs₂,Y,hY,hs₂⟩ := h1
 rcases hG with ⟨rfl,rfl⟩ | hG
 ·refine ⟨Hq₀,Hs₂,Y,?_,hq,hs₂⟩
  rw [List.nil_append,List.append_assoc]
  exact hY.append_left Hq₀
 ·refine ⟨G₀,Hs₂,Y ++ Hq₀,?_,hG,hs₂⟩
  refine (List.perm_append_comm (l₁ := Hq₀)).trans ?_
  rw [← List.append_assoc (G₀ ++ Hs₂)]
  refine List.Perm.append_right Hq₀ ?_
  rw [List.append_assoc]
  exact hY.append_left G₀
set_option maxHeartbeats 8000000 in
theorem f128 : ∀ N,T128 N
 | 0 => fun l r Z w sc sb lb mb eb nb B lv rv pv ov sp rr pcs Hq Hs hsz => by omega
 | N + 1 => by
  intro l r Z w sc sb lb mb eb nb B lv rv pv ov sp rr pcs Hq Hs hsz hne hl hr hcp hN hB hπ hsc hnb ho1 hq hs
  obtain ⟨B,rfl⟩ : ∃ B',B = B' + 1 := ⟨B - 1,by omega⟩
  haveI := hs.one
  haveI := hq.one
  have ih := f128 N
  refine Tr.introk Tryz.func128 rfl Tryz.ntmps128 Tryz.results128 rfl ?_
  cases l with
  | none =>
   cases r with
   | none => exact absurd rfl (hne.resolve_left fun h => h rfl)
   | some t =>
    obtain ⟨b,u,rfl,hb,hu⟩ := ov_tr hr
    cases ov_no hl
    refine gn ?_
    refine WP.drawT [(w,cl (mw .nilIface (vv b) sc nb pv ov false sp rr) 323)] (Hq ++ Hs) mo (by decide +kernel) (prm rfl) ?_
    refine gn ?_
    refine cp (args := [pt sc,.agg (tref nb).toArray]) (f131 hsc nb hnb) ?_
    rintro _ rfl
    refine gn ?_; intro b5
    refine gn ?_
    refine WP.drawT [(w,cl (mw .nilIface (vv b) sc nb pv ov false sp rr) 323),(b5,cl (atom sb lb mb) 97)] (Hq ++ Hs) mo (by decide +kernel) (prm rfl) ?_
    refine gn ?_
    refine cp (args := [.agg (atom sb lb mb).toArray,.nilIface]) (f162 _ _ hl) ?_
    rintro _ rfl
    refine gn ?_; intro b7
    haveI := at1_set (sb := sb) (lb := lb) (mb := mb) (dt none)
    refine o_storeA (vs := At1.cells sb lb mb (dt none)) rfl rfl rfl (at1_len _) (at1_one _) ?_
    refine gn ?_
    refine WP.drawT [(w,cl (mw .nilIface (vv b) sc nb pv ov false sp rr) 323),(b5,cl (atom sb lb mb) 97)] ((b7,cl (At1.cells sb lb mb (dt none)) 97) :: (Hq ++ Hs)) mo (by decide +kernel) (prm rfl) ?_
    refine gn ?_
    refine cp (args := [.agg (atom sb lb mb).toArray,(vv b)]) (f162 _ _ hr) ?_
    rintro _ rfl
    refine gn ?_; intro b8
    haveI := at1_set (sb := sb) (lb := lb) (mb := mb) (dt (some t))
    refine o_storeA (vs := At1.cells sb lb mb (dt (some t))) rfl rfl rfl (at1_len _) (at1_one _) ?_
    refine r_end ?_
    refine q_n ?_
    refine WP.only ((b7,cl (At1.cells sb lb mb (dt none)) 97) :: (b8,cl (At1.cells sb lb mb (dt (some t))) 97) :: (w,cl (mw .nilIface (vv b) sc nb pv ov false sp rr) 323) :: (Hq ++ Hs)) ?_
    refine WP.fz b7 ?_
    intro Z1 hz1 h7
    refine WP.fz b8 ?_
    intro Z2 hz2 h8
    have hz : Fz.le Z Z2 := hz1.trans hz2
    replace h7 := hz2 _ _ h7
    replace hsc := hsc.mono hz
    replace hnb := hz _ _ hnb
    replace hl := hl.lw hz
    replace hr := hr.lw hz
    clear hz1 hz2 hz
    haveI : Zf Z2 b7 _ := ⟨.of (h7)⟩
    haveI : Zf Z2 b8 _ := ⟨.of (h8)⟩
    refine gn ?_
    refine WP.draw3 [(w,cl (mw .nilIface (vv b) sc nb pv ov false sp rr) 323)] ((Hq ++ Hs)) [0,1,2,3,4,5,6,7] [8,9,10] mo (by decide +kernel) (prm rfl) ?_
    refine gn ?_
    refine o_loadN (vs := At1.cells sb lb mb (dt (some t))) rfl rfl (at1_take _) (at1_len _) ?_
    refine gn ?_
    refine ⟨[],_,spp,?_⟩
    refine ct (args := [.agg (At1.cells sb lb mb (dt (some t))).toArray,.agg (tref nb).toArray,.iface 319 (pt w)]) (f159m (ov := ov) (sp := sp) (rr := rr) (Hs := Hs) ih w B t hsc hl hr (fun _ h => by cases h) (fun _ h => by cases h; rfl) hne hsz hcp (by omega) (by omega) (by omega) hq hs) ?_
    rintro _ Z₃ _ hz₃ ⟨rfl,q₁,pv₁,sp₁,o,ov₁,Hq₁,G₁,Hs₁,rfl,hq₁,hG₁,ho,mg,hs₁,hk₁⟩
    haveI := hq₁.one
    haveI := hs₁.one
    haveI := ho.one
    refine o_apnil (k := 2) rfl rfl rfl ?_
    cases q₁ with
    | true =>
     refine gn ?_
     refine cp (f163 .nilFunc) ?_
     rintro _ rfl
     refine gn ?_
     refine fk1 (A := (w,cl (mw .nilIface (vv b) sc nb pv₁ ov₁ true sp₁ rr) 323) :: (Hq₁ ++ (G₁ ++ Hs₁))) ?_
     exact ⟨rfl,_,_,_,o,_,Hq₁,G₁,Hs₁,rfl,hq₁,hG₁,ho,mg,hs₁,hk₁⟩
    | false =>
     refine gn ?_
     refine o_nenf rfl rfl rfl ?_
     refine gn ?_
     refine cp (f163 .nilFunc) ?_
     rintro _ rfl
     refine gn ?_
     refine fk1 (A := (w,cl (mw .nilIface (vv b) sc nb pv₁ ov₁ false sp₁ rr) 323) :: (Hq₁ ++ (G₁ ++ Hs₁))) ?_
     exact ⟨rfl,_,_,_,o,_,Hq₁,G₁,Hs₁,rfl,hq₁,hG₁,ho,mg,hs₁,hk₁⟩
  | some s =>
   obtain ⟨a,v,rfl,ha,hv⟩ := ov_tr hl
   cases r with
   | none =>
    cases ov_no hr
    refine gn ?_
    refine WP.drawT [(w,cl (mw (vv a) .nilIface sc nb pv ov false sp rr) 323)] (Hq ++ Hs) mo (by decide +kernel) (prm rfl) ?_
    refine gn ?_
    refine cp (args := [pt sc,.agg (tref nb).toArray]) (f131 hsc nb hnb) ?_
    rintro _ rfl
    refine gn ?_; intro b5
    refine gn ?_
    refine WP.drawT [(w,cl (mw (vv a) .nilIface sc nb pv ov false sp rr) 323),(b5,cl (atom sb lb mb) 97)] (Hq ++ Hs) mo (by decide +kernel) (prm rfl) ?_
    refine gn ?_
    refine cp (args := [.agg (atom sb lb mb).toArray,(vv a)]) (f162 _ _ hl) ?_
    rintro _ rfl
    refine gn ?_; intro b7
    haveI := at1_set (sb := sb) (lb := lb) (mb := mb) (dt (some s))
    refine o_storeA (vs := At1.cells sb lb mb (dt (some s))) rfl rfl rfl (at1_len _) (at1_one _) ?_
    refine gn ?_
    refine WP.drawT [(w,cl (mw (vv a) .nilIface sc nb pv ov false sp rr) 323),(b5,cl (atom sb lb mb) 97)] ((b7,cl (At1.cells sb lb mb (dt (some s))) 97) :: (Hq ++ Hs)) mo (by decide +kernel) (prm rfl) ?_
    refine gn ?_
    refine cp (args := [.agg (atom sb lb mb).toArray,.nilIface]) (f162 _ _ hr) ?_
    rintro _ rfl
    refine gn ?_; intro b8
    haveI := at1_set (sb := sb) (lb := lb) (mb := mb) (dt none)
    refine o_storeA (vs := At1.cells sb lb mb (dt none)) rfl rfl rfl (at1_len _) (at1_one _) ?_
    refine r_end ?_
    refine q_n ?_
    refine WP.only ((b7,cl (At1.cells sb lb mb (dt (some s))) 97) :: (b8,cl (At1.cells sb lb mb (dt none)) 97) :: (w,cl (mw (vv a) .nilIface sc nb pv ov false sp rr) 323) :: (Hq ++ Hs)) ?_
    refine WP.fz b7 ?_
    intro Z1 hz1 h7
    refine WP.fz b8 ?_
    intro Z2 hz2 h8
    have hz : Fz.le Z Z2 := hz1.trans hz2
    replace h7 := hz2 _ _ h7
    replace hsc := hsc.mono hz
    replace hnb := hz _ _ hnb
    replace hl := hl.lw hz
    replace hr := hr.lw hz
    clear hz1 hz2 hz
    haveI : Zf Z2 b7 _ := ⟨.of (h7)⟩
    haveI : Zf Z2 b8 _ := ⟨.of (h8)⟩
    refine gn ?_
    refine WP.draw3 [(w,cl (mw (vv a) .nilIface sc nb pv ov false sp rr) 323)] ((Hq ++ Hs)) [0,1,2,3,4,5,6,7] [8,9,10] mo (by decide +kernel) (prm rfl) ?_
    refine gn ?_
    refine o_loadN (vs := At1.cells sb lb mb (dt (some s))) rfl rfl (at1_take _) (at1_len _) ?_
    refine gn ?_
    refine ⟨[],_,spp,?_⟩
    refine ct (args := [.agg (At1.cells sb lb mb (dt (some s))).toArray,.agg (tref nb).toArray,.iface 319 (pt w)]) (f159m (ov := ov) (sp := sp) (rr := rr) (Hs := Hs) ih w B s hsc hl hr (fun _ h => by cases h; rfl) (fun _ h => by cases h) hne hsz hcp (by omega) (by omega) (by omega) hq hs) ?_
    rintro _ Z₃ _ hz₃ ⟨rfl,q₁,pv₁,sp₁,o,ov₁,Hq₁,G₁,Hs₁,rfl,hq₁,hG₁,ho,mg,hs₁,hk₁⟩
    haveI := hq₁.one
    haveI := hs₁.one
    haveI := ho.one
    refine o_apnil (k := 2) rfl rfl rfl ?_
    cases q₁ with
    | true =>
     refine gn ?_
     refine cp (f163 .nilFunc) ?_
     rintro _ rfl
     refine gn ?_
     refine fk1 (A := (w,cl (mw (vv a) .nilIface sc nb pv₁ ov₁ true sp₁ rr) 323) :: (Hq₁ ++ (G₁ ++ Hs₁))) ?_
     exact ⟨rfl,_,_,_,o,_,Hq₁,G₁,Hs₁,rfl,hq₁,hG₁,ho,mg,hs₁,hk₁⟩
    | false =>
     refine gn ?_
     refine o_nenf rfl rfl rfl ?_
     refine gn ?_
     refine cp (f163 .nilFunc) ?_
     rintro _ rfl
     refine gn ?_
     refine fk1 (A := (w,cl (mw (vv a) .nilIface sc nb pv₁ ov₁ false sp₁ rr) 323) :: (Hq₁ ++ (G₁ ++ Hs₁))) ?_
     exact ⟨rfl,_,_,_,o,_,Hq₁,G₁,Hs₁,rfl,hq₁,hG₁,ho,mg,hs₁,hk₁⟩
   | some t =>
    obtain ⟨b,u,rfl,hb,hu⟩ := ov_tr hr
    refine gn ?_
    refine WP.drawT [(w,cl (mw (vv a) (vv b) sc nb pv ov false sp rr) 323)] (Hq ++ Hs) mo (by decide +kernel) (prm rfl) ?_
    refine gn ?_
    refine cp (args := [pt sc,.agg (tref nb).toArray]) (f131 hsc nb hnb) ?_
    rintro _ rfl
    refine gn ?_; intro b5
    refine gn ?_
    refine WP.drawT [(w,cl (mw (vv a) (vv b) sc nb pv ov false sp rr) 323),(b5,cl (atom sb lb mb) 97)] (Hq ++ Hs) mo (by decide +kernel) (prm rfl) ?_
    refine gn ?_
    refine cp (args := [.agg (atom sb lb mb).toArray,(vv a)]) (f162 _ _ hl) ?_
    rintro _ rfl
    refine gn ?_; intro b7
    haveI := at1_set (sb := sb) (lb := lb) (mb := mb) (dt (some s))
    refine o_storeA (vs := At1.cells sb lb mb (dt (some s))) rfl rfl rfl (at1_len _) (at1_one _) ?_
    refine gn ?_
    refine WP.drawT [(w,cl (mw (vv a) (vv b) sc nb pv ov false sp rr) 323),(b5,cl (atom sb lb mb) 97)] ((b7,cl (At1.cells sb lb mb (dt (some s))) 97) :: (Hq ++ Hs)) mo (by decide +kernel) (prm rfl) ?_
    refine gn ?_
    refine cp (args := [.agg (atom sb lb mb).toArray,(vv b)]) (f162 _ _ hr) ?_
    rintro _ rfl
    refine gn ?_; intro b8
    haveI := at1_set (sb := sb) (lb := lb) (mb := mb) (dt (some t))
    refine o_storeA (vs := At1.cells sb lb mb (dt (some t))) rfl rfl rfl (at1_len _) (at1_one _) ?_
    refine r_end ?_
    refine q_n ?_
    refine WP.only ((b7,cl (At1.cells sb lb mb (dt (some s))) 97) :: (b8,cl (At1.cells sb lb mb (dt (some t))) 97) :: (w,cl (mw (vv a) (vv b) sc nb pv ov false sp rr) 323) :: (Hq ++ Hs)) ?_
    refine WP.fz b7 ?_
    intro Z1 hz1 h7
    refine WP.fz b8 ?_
    intro Z2 hz2 h8
    have hz : Fz.le Z Z2 := hz1.trans hz2
    replace h7 := hz2 _ _ h7
    replace hsc := hsc.mono hz
    replace hnb := hz _ _ hnb
    replace hl := hl.lw hz
    replace hr := hr.lw hz
    clear hz1 hz2 hz
    haveI : Zf Z2 b7 _ := ⟨.of (h7)⟩
    haveI : Zf Z2 b8 _ := ⟨.of (h8)⟩
    refine gn ?_
    refine cp (f161 hsc (dt (some s)) (dt (some t)) b7 b8 h7 h8) ?_
    rintro _ rfl
    have hcls : s.cls = t.cls := hcp.top
    cases (dt (some s)).same (dt (some t)) with
    | true =>
     refine gn ?_
     refine WP.draw3 [(w,cl (mw (vv a) (vv b) sc nb pv ov false sp rr) 323)] ((Hq ++ Hs)) [0,1,2,3,4,5,6,7] [8,9,10] mo (by decide +kernel) (prm rfl) ?_
     refine gn ?_
     refine o_loadN (vs := At1.cells sb lb mb (dt (some t))) rfl rfl (at1_take _) (at1_len _) ?_
     refine gn ?_
     refine ⟨[],_,spp,?_⟩
     refine ct (args := [.agg (At1.cells sb lb mb (dt (some t))).toArray,.agg (tref nb).toArray,.iface 319 (pt w)]) (f159m (ov := ov) (sp := sp) (rr := rr) (Hs := Hs) ih w B t hsc hl hr (fun _ h => by cases h; exact hcls) (fun _ h => by cases h; rfl) hne hsz hcp (by omega) (by omega) (by omega) hq hs) ?_
     rintro _ Z₃ _ hz₃ ⟨rfl,q₁,pv₁,sp₁,o,ov₁,Hq₁,G₁,Hs₁,rfl,hq₁,hG₁,ho,mg,hs₁,hk₁⟩
     haveI := hq₁.one
     haveI := hs₁.one
     haveI := ho.one
     refine o_apnil (k := 2) rfl rfl rfl ?_
     cases q₁ with
     | true =>
      refine gn ?_
      refine cp (f163 .nilFunc) ?_
      rintro _ rfl
      refine gn ?_
      refine fk1 (A := (w,cl (mw (vv a) (vv b) sc nb pv₁ ov₁ true sp₁ rr) 323) :: (Hq₁ ++ (G₁ ++ Hs₁))) ?_
      exact ⟨rfl,_,_,_,o,_,Hq₁,G₁,Hs₁,rfl,hq₁,hG₁,ho,mg,hs₁,hk₁⟩
     | false =>
      refine gn ?_
      refine o_nenf rfl rfl rfl ?_
      refine gn ?_
      refine cp (f163 .nilFunc) ?_
      rintro _ rfl
      refine gn ?_
      refine fk1 (A := (w,cl (mw (vv a) (vv b) sc nb pv₁ ov₁ false sp₁ rr) 323) :: (Hq₁ ++ (G₁ ++ Hs₁))) ?_
      exact ⟨rfl,_,_,_,o,_,Hq₁,G₁,Hs₁,rfl,hq₁,hG₁,ho,mg,hs₁,hk₁⟩
    | false =>
     refine gn ?_; intro b9
     haveI := SetS.full (xs := [.nilIface,.nilIface,.pointer none,.pointer none,.pointer none,.pointer none,.pointer none,.pointer none,.bool false,.slice none 0 0,.nilFunc,.nilFunc,.pointer none,.bool false,.pointer none,.nilIface]) (vs := mw (vv a) (vv b) sc nb pv ov false sp rr) rfl
     refine o_storeA (vs := mw (vv a) (vv b) sc nb pv ov false sp rr) rfl rfl rfl rfl mw_all ?_
     refine gn ?_
     refine WP.only ((w,cl (mw (vv a) (vv b) sc nb pv ov false sp rr) 323) :: (b9,cl (mw (vv a) (vv b) sc nb pv ov false sp rr) 323) :: (Hq ++ Hs)) ?_
     refine WP.draw3 [(w,cl (mw (vv a) (vv b) sc nb pv ov false sp rr) 323)] ((b9,cl (mw (vv a) (vv b) sc nb pv ov false sp rr) 323) :: (Hq ++ Hs)) [0,1,2,3,4,5,6] [7,8,9] mo (by decide +kernel) (prm rfl) ?_
     refine gn ?_
     refine o_loadN (vs := At1.cells sb lb mb (dt (some s))) rfl rfl (at1_take _) (at1_len _) ?_
     refine gn ?_
     refine ⟨[],_,spp,?_⟩
     refine ct (args := [.agg (At1.cells sb lb mb (dt (some s))).toArray,.agg (tref nb).toArray,.iface 319 (pt b9)]) (f159m (ov := ov) (sp := sp) (rr := rr) (Hs := Hs) ih b9 B s hsc hl hr (fun _ h => by cases h; rfl) (fun _ h => by cases h; exact hcls.symm) hne hsz hcp (by omega) (by omega) (by omega) hq hs) ?_
     rintro _ Z₀ _ hz₃ ⟨rfl,q₀,pv₀,sp₀,o₀,ov₀,Hq₀,G₀,Hs₀,rfl,hq₀,hG₀,_,_,hs₀,hk₀⟩
     replace hsc := hsc.mono hz₃
     replace hnb := hz₃ _ _ hnb
     replace hl := hl.lw hz₃
     replace hr := hr.lw hz₃
     haveI : Zf Z₀ b8 _ := ⟨.of (hz₃ _ _ h8)⟩
     refine o_apnil (k := 2) rfl rfl rfl ?_
     refine gn ?_
     refine WP.only ((w,cl (mw (vv a) (vv b) sc nb pv ov false sp rr) 323) :: (Hq₀ ++ (G₀ ++ Hs₀))) ?_
     obtain ⟨Hq₂,Hs₂,X,hX,hq₂,hs₂⟩ := back2m hq₀ hG₀ hs hs₀ hk₀
     refine WP.keepP ((w,cl (mw (vv a) (vv b) sc nb pv ov false sp rr) 323) :: (Hq₂ ++ Hs₂)) (X := X) (hX.cons _) ?_
     refine WP.draw3 [(w,cl (mw (vv a) (vv b) sc nb pv ov false sp rr) 323)] ((Hq₂ ++ Hs₂)) [0,1,2,3,4,5,6,7] [8,9,10] mo (by decide +kernel) (prm rfl) ?_
     refine gn ?_
     refine o_loadN (vs := At1.cells sb lb mb (dt (some t))) rfl rfl (at1_take _) (at1_len _) ?_
     refine gn ?_
     refine ⟨[],_,spp,?_⟩
     refine ct (args := [.agg (At1.cells sb lb mb (dt (some t))).toArray,.agg (tref nb).toArray,.iface 319 (pt w)]) (f159m (ov := ov) (sp := sp) (rr := rr) (Hs := Hs₂) ih w B t hsc hl hr (fun _ h => by cases h; exact hcls) (fun _ h => by cases h; rfl) hne hsz hcp (by omega) (by omega) (by omega) hq₂ hs₂) ?_
     rintro _ Z₃ _ hz₃ ⟨rfl,q₁,pv₁,sp₁,o,ov₁,Hq₁,G₁,Hs₁,rfl,hq₁,hG₁,ho,mg,hs₁,hk₁⟩
     haveI := hq₁.one
     haveI := hs₁.one
     haveI := ho.one
     refine o_apnil (k := 2) rfl rfl rfl ?_
     cases q₁ with
     | true =>
      refine gn ?_
      refine cp (f163 .nilFunc) ?_
      rintro _ rfl
      refine gn ?_
      refine fk1 (A := (w,cl (mw (vv a) (vv b) sc nb pv₁ ov₁ true sp₁ rr) 323) :: (Hq₁ ++ (G₁ ++ Hs₁))) ?_
      exact ⟨rfl,_,_,_,o,_,Hq₁,G₁,Hs₁,rfl,hq₁,hG₁,ho,mg,hs₁,hk₁⟩
     | false =>
      refine gn ?_
      refine o_nenf rfl rfl rfl ?_
      refine gn ?_
      refine cp (f163 .nilFunc) ?_
      rintro _ rfl
      refine gn ?_
      refine fk1 (A := (w,cl (mw (vv a) (vv b) sc nb pv₁ ov₁ false sp₁ rr) 323) :: (Hq₁ ++ (G₁ ++ Hs₁))) ?_
      exact ⟨rfl,_,_,_,o,_,Hq₁,G₁,Hs₁,rfl,hq₁,hG₁,ho,mg,hs₁,hk₁⟩
end Go.Ux
namespace Go.Ux
open Go Go.Proofs
set_option maxRecDepth 20000
attribute [local irreducible] WP Tr
def TyV (Z : Fz) (sc nb : Nat) (t : Tv) (p : Nat) : Prop := ∃ a u,Z p = some (cl (tv (vv a) sc nb) 220) ∧ Z a = some (cl [u] 358) ∧ AV Z t u
theorem TyV.mono {Z Z' : Fz} (hz : Fz.le Z Z') {sc nb : Nat} {t : Tv} {p : Nat} (h : TyV Z sc nb t p) : TyV Z' sc nb t p := by
 obtain ⟨a,u,h1,h2,h3⟩ := h
 exact ⟨a,u,hz _ _ h1,hz _ _ h2,h3.mono hz⟩
section
variable {Z : Fz} {sc sb lb mb eb nb nb' p q : Nat} {l r : Tv}
theorem f85 (hsc : Sch Z sc sb lb mb eb) (hnb : Z nb = some (cl [.string nmD] 9)) (hnb' : Z nb' = some (cl [.string nmD] 9)) (h1 : TyV Z sc nb l p) (h2 : TyV Z sc nb' r q)
  (hcp : Cp l r) (hl : l.sz ≤ 4294967296) (hr : r.sz ≤ 4294967296) :
  Gr Tryz.prog 85 #[pt p,pt q,.func (.func 86) #[] #[],.nilFunc] Z fun x Z' => ∃ p' o,x = .tuple #[pt p',.nilIface] ∧ TyV Z' sc nb o p' ∧ MG (some l) (some r) o := by
 obtain ⟨a,u,hp,ha,hu⟩ := h1
 obtain ⟨b,v,hq,hb,hv⟩ := h2
 haveI : Zf Z p _ := ⟨.of (hp)⟩
 haveI : Zf Z q _ := ⟨.of (hq)⟩
 haveI : Zf Z nb _ := ⟨.of (hnb)⟩
 haveI : Zf Z nb' _ := ⟨.of (hnb')⟩
 refine Gr.intro Tryz.func85 rfl Tryz.ntmps85 Tryz.results85 rfl ?_
 refine gn ?_
 refine WP.drawA mo (by decide +kernel) ?_
 refine gn ?_
 refine o_neps rfl rfl rfl ?_
 refine gn ?_
 refine WP.drawA mo (by decide +kernel) ?_
 refine gn ?_
 refine cp (f127 p q 1 1 220 220 nb nb' (tv (vv a) sc nb) (tv (vv b) sc nb') nmD Z rfl rfl) ?_
 rintro _ rfl
 refine gn ?_; intro w
 refine gn ?_
 refine ct (f65 _) ?_
 rintro _ _ _ _ ⟨rr,rfl,rfl,rfl⟩
 refine gn ?_
 refine ct (args := [pt w,.nilFunc]) (f128 (l.sz + r.sz + 1) (some l) (some r) Z w sc sb lb mb eb nb (l.sz + r.sz + 1) (vv a) (vv b) (.slice none 0 0) (.pointer none) (.pointer none) (pt rr) [] [] [] (by simp [szO]) (.inl (by simp)) (.some ⟨a,u,rfl,ha,hu⟩) (.some ⟨b,v,rfl,hb,hv⟩) (.of hcp) (by omega) (by omega) (by simp; omega)
  hsc hnb inferInstance .nil .nil) ?_
 rintro _ Z₃ _ hz₃ ⟨rfl,q',pv',sp',o,ov',Hq',G,Hs',rfl,hq',hG,⟨c,u',rfl,hc,hu'⟩,mg,hs',hk⟩
 haveI : Zf Z₃ p _ := ⟨.of (hz₃ _ _ hp)⟩
 haveI : Zf Z₃ c _ := ⟨.of (hc)⟩
 haveI := hq'.one
 haveI := hs'.one
 haveI := hu'.oneI
 refine gn ?_
 refine WP.only [(w,cl (mw (vv a) (vv b) sc nb pv' (pt c) q' sp' (pt rr)) 323)] ?_
 refine WP.drawA mo (by decide +kernel) ?_
 refine gn ?_; intro p'
 refine gn ?_
 refine cg (args := [u']) (f81 u' Z₃ hu'.cells hu'.cell1) ?_
 rintro _ Z₄ hz₄ ⟨d,rfl,hd⟩
 refine gn ?_
 refine fin2 ?_
 intro Z' hz' hp'
 exact ⟨p',o,rfl,⟨d,u',fzat p' hp',hz' _ _ hd,(hu'.mono hz₄).mono hz'⟩,mg⟩
theorem f57 (hsc : Sch Z sc sb lb mb eb) (hnb : Z nb = some (cl [.string nmD] 9)) (hnb' : Z nb' = some (cl [.string nmD] 9)) (a : Nat) (u : Value) (ha : Z a = some (cl [u] 358)) (hu : AV Z l u) (h2 : TyV Z sc nb' r q)
  (hcp : Cp l r) (hl : l.sz ≤ 4294967296) (hr : r.sz ≤ 4294967296) :
  Gr Tryz.prog 57 #[.agg (tv (vv a) sc nb).toArray,pt q] Z fun x Z' => ∃ p' o,x = .tuple #[pt p',.nilIface] ∧ TyV Z' sc nb o p' ∧ MG (some l) (some r) o := by
 refine Gr.intro Tryz.func57 rfl Tryz.ntmps57 Tryz.results57 rfl ?_
 refine gn ?_; intro b2
 refine o_assign rfl ?_
 refine o_assign rfl ?_
 refine r_end ?_
 refine q_n ?_
 refine WP.fz b2 ?_
 intro Z1 hz1 h6
 refine gn ?_
 refine cg (args := [pt b2,pt q,.func (.func 86) #[] #[],.nilFunc]) (f85 (hsc.mono hz1) (hz1 _ _ hnb) (hz1 _ _ hnb') ⟨a,u,h6,hz1 _ _ ha,hu.mono hz1⟩ (h2.mono hz1) hcp hl hr) ?_
 rintro _ Z2 hz2 ⟨p',o,rfl,h1,h2⟩
 refine gn ?_
 refine fin2 ?_
 intro Z' hz' hp
 exact ⟨p',o,rfl,h1.mono hz',h2⟩
end
end Go.Ux
namespace Go.Ux
open Go Go.Proofs
set_option maxRecDepth 20000
instance : Ent Tryz.prog 357 := ⟨fun a w => by kernel_rfl⟩
attribute [local irreducible] WP Tr
theorem RM.congr {S S' : List Nm → Prop} {t o : Tv} (h : ∀ p,p ≠ [] → (S p ↔ S' p)) (r : RM S t o) : RM S' t o :=
 ⟨fun q => (r.dom q).trans ⟨fun ⟨h1,h2⟩ => ⟨h1,fun p s hp e hs => h2 p s hp e ((h p hp).2 hs)⟩,fun ⟨h1,h2⟩ => ⟨h1,fun p s hp e hs => h2 p s hp e ((h p hp).1 hs)⟩⟩,r.val⟩
theorem below {U : List Nm} {ms : List Nm} {ch : Ch} {k : Nm} {s : FS} (hw : (FS.mk ms ch).Wf U) (h : (k,s) ∈ ch ∨ (k ∉ ch.map (·.1) ∧ s = .mk [] [])) : ∀ q,q ≠ [] → (s.has q ↔ (FS.mk ms ch).has (k :: q)) := by
 intro q hq
 obtain ⟨k',q,rfl⟩ : ∃ k' q',q = k' :: q' := by
  cases q with
  | nil => exact absurd rfl hq
  | cons k' q => exact ⟨k',q,rfl⟩
 rw [FS.has_two]
 have hi : Inc (ch.map (·.1)) := by cases hw; assumption
 rcases h with h | ⟨h,rfl⟩
 ·exact ⟨fun hs => ⟨s,h,hs⟩,fun ⟨c,hc,hs⟩ => by rw [key_uniq hi h hc]; exact hs⟩
 ·exact ⟨fun hs => absurd hs (FS.no _),fun ⟨c,hc,_⟩ => absurd (List.mem_map_of_mem (f := (·.1)) hc) h⟩
def T130 (N : Nat) : Prop := ∀ (t : Tv) (Z : Fz) (a sset sc sb lb mb eb nb : Nat) (u : Value) (S : FS) (U : List Nm),t.sz < N → t.cls = 0 → Z a = some (cl [u] 358) → AV Z t u → SR Z S sset → S.Wf U → U.length ≤ 1073741824 → (∀ x,S.has x → Dm t x) →
 Sch Z sc sb lb mb eb → Z nb = some (cl [.string nmD] 9) →
 Gr Tryz.prog 130 #[vv a,pt sset,pt sc,.agg (tref nb).toArray,.bool false] Z fun x Z' => ∃ d u' o,x = vv d ∧ Z' d = some (cl [u'] 358) ∧ AV Z' o u' ∧ RM S.has t o
abbrev rw' (v ov : Value) (sc sset : Nat) (rr : Value) : List Value := [v,ov,pt sc,pt sset,.iface 261 rr,.bool false]
structure RmX (Z : Fz) (sc sb lb mb eb w mm m6 a b2 b3 b6 b9 sset : Nat) (t : Tv) (u : Value) (S : FS) : Prop where
 sch : Sch Z sc sb lb mb eb
 a : Z a = some (cl [u] 358)
 u : AV Z t u
 s : SR Z S sset
 b2 : Z b2 = some (cl [pt w] 378)
 b3 : Z b3 = some (cl [pt mb] 95)
 b6 : Z b6 = some (cl [.map (some m6)] 101)
 m6 : Z m6 = some (mp [] 0)
 b9 : Z b9 = some (cl [.map (some mm)] 198)
theorem RmX.mono {Z Z' : Fz} (hz : Fz.le Z Z') {sc sb lb mb eb w mm m6 a b2 b3 b6 b9 sset : Nat} {t : Tv} {u : Value} {S : FS} (h : RmX Z sc sb lb mb eb w mm m6 a b2 b3 b6 b9 sset t u S) : RmX Z' sc sb lb mb eb w mm m6 a b2 b3 b6 b9 sset t u S :=
 ⟨h.sch.mono hz,hz _ _ h.a,h.u.mono hz,h.s.mono hz,hz _ _ h.b2,hz _ _ h.b3,hz _ _ h.b6,hz _ _ h.m6,hz _ _ h.b9⟩
theorem lk_nil {k : Nm} : lk [] k = none := rfl
section
variable {Z : Fz} {sc sb lb mb eb : Nat} {v rr : Value}
set_option maxHeartbeats 4000000 in
theorem f357 {N : Nat} (ih : T130 N) (w mm c m6 a b2 b3 b6 b9 sset : Nat) (es : List En) (k : Nm) (t : Tv) (u : Value) (ms : List Nm) (ch : Ch) (U : List Nm) [One v] (X : RmX Z sc sb lb mb eb w mm m6 a b2 b3 b6 b9 sset t u (.mk ms ch)) (ht : t.sz < N)
  (hw : (FS.mk ms ch).Wf U) (hU : U.length ≤ 1073741824) (hsub : ∀ q,(FS.mk ms ch).has (k :: q) → Dm t q) (hk : ∀ e ∈ es,e.k ≠ k) :
  Tr Tryz.prog 357 #[.string k,vv a,pt b3,pt b6,pt b2,pt b9] Z [(mm,mp es c),(w,cl (rw' v .nilIface sc sset rr) 380)] fun x Z' H' => x = .bool true ∧ (((FS.mk ms ch).has [k] ∧ H' = [(mm,mp es c),(w,cl (rw' v .nilIface sc sset rr) 380)]) ∨
   (¬ (FS.mk ms ch).has [k] ∧ ∃ o u',H' = [(mm,mp (es ++ [⟨k,u',c⟩]) (c + 1)),(w,cl (rw' v .nilIface sc sset rr) 380)] ∧ AV Z' o u' ∧ RM (fun q => (FS.mk ms ch).has (k :: q)) t o)) := by
 refine Tr.introk Tryz.func357 rfl Tryz.ntmps357 Tryz.results357 rfl ?_
 refine gn ?_; intro nb
 refine o_assign rfl ?_
 refine r_end ?_
 refine q_n ?_
 refine WP.fz nb ?_
 intro Z1 hz1 hnb
 replace X := X.mono hz1
 refine gn ?_; intro b10
 refine gn ?_; intro b11
 refine ct (args := [.slice (some ⟨b11,0,none⟩) 1 1]) (Tr.lend (b := b11) (o := cl [.iface 308 (.agg (pe nb).toArray)] 20) fun h0 => haveI : Zf (Z1.add b11 (cl [.iface 308 (.agg (pe nb).toArray)] 20)) b11 _ := ⟨.of (Fz.add_at)⟩; f354 b11 20 1 nb _) ?_
 rintro _ Z2 _ hz2 ⟨hb11,Z2',_,⟨⟨pb,pc,xs,rfl,hpb,hxs⟩,rfl⟩,hb11',rfl,rfl⟩
 replace X := X.mono hz2
 replace hnb := hz2 _ _ hnb
 have hpb' : (Z2'.del b11) pb = some (cl xs 308) := by
  rw [Fz.del_ne (fun e => by subst e; rw [hb11'] at hpb; cases hpb),hpb]
 haveI : Zf (Z2'.del b11) pb _ := ⟨.of (hpb')⟩
 haveI : Zf (Z2'.del b11) b2 _ := ⟨.of (X.b2)⟩
 haveI : Zf (Z2'.del b11) b3 _ := ⟨.of (X.b3)⟩
 haveI : Zf (Z2'.del b11) b6 _ := ⟨.of (X.b6)⟩
 haveI : Zf (Z2'.del b11) m6 _ := ⟨.of (X.m6)⟩
 haveI : Zf (Z2'.del b11) nb _ := ⟨.of (hnb)⟩
 haveI : Zf (Z2'.del b11) mb _ := ⟨.of (X.sch.m)⟩
 generalize Z2'.del b11 = Zd at *
 refine gn ?_; intro b12
 refine gn ?_
 refine o_lookup rfl rfl rfl ?_
 simp only [if_true,lk_nil,Option.getD_none,Option.isSome_none]
 refine gn ?_; intro b13
 refine gn ?_
 refine cp (args := [pt sset,.slice (some ⟨pb,0,none⟩) 1 pc]) (f355 sset none pc pb 0 308 nb xs k ms ch U Zd X.s hw hU hxs hnb) ?_
 rintro _ ⟨e,rfl,he⟩
 cases e with
 | true =>
  refine gn ?_
  exact fk1 (A := [(mm,mp es c),(w,cl (rw' v .nilIface sc sset rr) 380)]) ⟨rfl,.inl ⟨he.1 rfl,rfl⟩⟩
 | false =>
  have hno : ¬ (FS.mk ms ch).has [k] := fun h => by have := he.2 h; cases this
  refine gn ?_
  refine WP.only [(b10,cl (pe nb) 308),(b12,cl (tref eb) 100),(mm,mp es c),(w,cl (rw' v .nilIface sc sset rr) 380)] ?_
  refine WP.drawA mo (by decide +kernel) ?_
  refine gn ?_
  refine cg (args := [pt sset,.agg (pe nb).toArray]) (f356 sset nb k ms ch U Zd X.s hw hU hnb) ?_
  rintro _ Z3 hz3 ⟨sb',s',rfl,hs',ws',hs2⟩
  have hbl := below hw hs2
  replace X := X.mono hz3
  replace hnb := hz3 _ _ hnb
  haveI : Zf Z3 b2 _ := ⟨.of (X.b2)⟩
  haveI : Zf Z3 b9 _ := ⟨.of (X.b9)⟩
  haveI : Zf Z3 nb _ := ⟨.of (hnb)⟩
  haveI : Zf Z3 a _ := ⟨.of (X.a)⟩
  refine gn ?_
  refine cp (args := [pt sb']) (f73 (s'.sz + 1) s' sb' U Z3 (by omega) hs' ws' hU) ?_
  rintro _ ⟨e',rfl,he'⟩
  cases e' with
  | true =>
   have hemp : s'.Emp := he'.1 rfl
   haveI := X.u.oneI
   refine gn ?_
   refine WP.only [(mm,mp es c),(w,cl (rw' v .nilIface sc sset rr) 380)] ?_
   refine WP.drawT [] [(mm,mp es c),(w,cl (rw' v .nilIface sc sset rr) 380)] mo (by decide +kernel) (prm rfl) ?_
   refine gn ?_
   refine m_as "Unstructured" (f278 u Z3) rfl rfl ?_
   refine o_mapUpdate (v := u) rfl rfl rfl rfl ?_
   rw [upd_new hk,nxt_new hk]
   refine gn ?_
   exact fk1 (A := [(mm,mp (es ++ [⟨k,u,c⟩]) (c + 1)),(w,cl (rw' v .nilIface sc sset rr) 380)]) ⟨rfl,.inr ⟨hno,t,u,rfl,X.u,.none X.u.uk fun p hp h => hemp p ((hbl p hp).2 h)⟩⟩
  | false =>
   have hex : t.cls = 0 := by
    refine Classical.byContradiction fun hc => ?_
    have : s'.Emp := fun q hq => by
     cases q with
     | nil => exact FS.has_nil _ hq
     | cons k' q =>
      obtain ⟨x,hx⟩ := hsub _ ((hbl _ (by simp)).1 hq)
      obtain ⟨l,_,rfl,_⟩ := At.cons_iff.1 hx
      exact hc rfl
    have := he'.2 this
    cases this
   refine gn ?_
   refine WP.only [(b12,cl (tref eb) 100),(mm,mp es c),(w,cl (rw' v .nilIface sc sset rr) 380)] ?_
   refine WP.drawA mo (by decide +kernel) ?_
   refine gn ?_
   refine cg (args := [vv a,pt sb',pt sc,.agg (tref eb).toArray,.bool false]) (ih t Z3 a sb' sc sb lb mb eb eb u s' U ht hex X.a X.u hs' ws' hU (fun x hx => by
    cases x with
    | nil => exact absurd hx (FS.has_nil _)
    | cons k' q => exact hsub _ ((hbl _ (by simp)).1 hx)) X.sch X.sch.e) ?_
   rintro _ Z4 hz4 ⟨d,u',o,rfl,hd,hu',hrm⟩
   replace X := X.mono hz4
   haveI : Zf Z4 b9 _ := ⟨.of (X.b9)⟩
   haveI : Zf Z4 nb _ := ⟨.of (hz4 _ _ hnb)⟩
   haveI : Zf Z4 d _ := ⟨.of (hd)⟩
   haveI := hu'.oneI
   refine gn ?_
   refine WP.only [(mm,mp es c),(w,cl (rw' v .nilIface sc sset rr) 380)] ?_
   refine WP.drawT [] [(mm,mp es c),(w,cl (rw' v .nilIface sc sset rr) 380)] mo (by decide +kernel) (prm rfl) ?_
   refine gn ?_
   refine m_as "Unstructured" (f278 u' Z4) rfl rfl ?_
   refine o_mapUpdate (v := u') rfl rfl rfl rfl ?_
   rw [upd_new hk,nxt_new hk]
   refine gn ?_
   exact fk1 (A := [(mm,mp (es ++ [⟨k,u',c⟩]) (c + 1)),(w,cl (rw' v .nilIface sc sset rr) 380)]) ⟨rfl,.inr ⟨hno,o,u',rfl,hu',hrm.congr hbl⟩⟩
end
end Go.Ux
namespace Go.Ux
open Go Go.Proofs
set_option maxRecDepth 20000
attribute [local irreducible] WP Tr
section
variable {Z : Fz} {sc sb lb mb eb : Nat} {rr : Value}
theorem f352n (w a sset : Nat) (S : FS) (ha : Z a = some (cl [.nilIface] 358)) (hsub : ∀ x,S.has x → Dm .null x) :
  Tr Tryz.prog 352 #[pt w,pt mb] Z [(w,cl (rw' (vv a) .nilIface sc sset rr) 380)] fun x Z' H' => x = .slice none 0 0 ∧ ∃ o u',H' = [(w,cl (rw' (vv a) u' sc sset rr) 380)] ∧ AV Z' o u' ∧ RM S.has .null o := by
 haveI : Zf Z a _ := ⟨.of (ha)⟩
 refine Tr.introk Tryz.func352 rfl Tryz.ntmps352 Tryz.results352 rfl ?_
 refine gn ?_; intro b2
 refine gn ?_; intro b3
 refine gv ?_
 refine fk1 (A := [(w,cl (rw' (vv a) .nilIface sc sset rr) 380)]) ⟨rfl,.null,.nilIface,rfl,rfl,.none (fun q l h => ?_) fun p hp h => ?_⟩
 ·cases q with
  | nil => rw [At.nil_iff] at h; cases h
  | cons k q => exact (no_kid rfl h).elim
 ·obtain ⟨x,hx⟩ := hsub p h
  cases p with
  | nil => exact hp rfl
  | cons k q => exact no_kid rfl hx
set_option maxHeartbeats 4000000 in
theorem f352 {N : Nat} (ih : T130 N) (w a sset m : Nat) (l : List (Nm × Tv)) (S : FS) (U : List Nm) (hsc : Sch Z sc sb lb mb eb) (ha : Z a = some (cl [.iface 198 (.map (some m))] 358)) (hm : MP Z l m) (ht : szM l < N)
  (hS : SR Z S sset) (hw : S.Wf U) (hU : U.length ≤ 1073741824) (hsub : ∀ x,S.has x → Dm (.mp l) x) :
  Tr Tryz.prog 352 #[pt w,pt mb] Z [(w,cl (rw' (vv a) .nilIface sc sset rr) 380)] fun x Z' H' => x = .slice none 0 0 ∧ ∃ o u',H' = [(w,cl (rw' (vv a) u' sc sset rr) 380)] ∧ AV Z' o u' ∧ RM S.has (.mp l) o := by
 have hnd := hm.nd
 refine Tr.introk Tryz.func352 rfl Tryz.ntmps352 Tryz.results352 rfl ?_
 refine gn ?_; intro b2
 refine gn ?_; intro b3
 refine o_assign rfl ?_
 refine r_end ?_
 refine q_n ?_
 refine WP.fz b2 ?_
 intro Z1 hz1 h2
 refine WP.fz b3 ?_
 intro Z2 hz2 h3
 have hz := hz1.trans hz2
 replace h2 := hz2 _ _ h2
 replace ha := hz _ _ ha
 replace hm := hm.mono hz
 replace hS := hS.mono hz
 replace hsc := hsc.mono hz
 clear hz1 hz2 hz
 haveI : Zf Z2 b2 _ := ⟨.of (h2)⟩
 haveI : Zf Z2 b3 _ := ⟨.of (h3)⟩
 haveI : Zf Z2 a _ := ⟨.of (ha)⟩
 haveI : Zf Z2 mb _ := ⟨.of (hsc.m)⟩
 refine gv ?_
 refine WP.drawA mo (by decide +kernel) ?_
 refine gn ?_
 refine m_AsMap rfl rfl rfl ?_
 refine gn ?_
 refine o_free rfl rfl ?_
 refine gn ?_
 obtain ⟨es,c,es',hz,hst,hp,hav⟩ := id hm
 haveI : Zf Z2 m _ := ⟨.of (hz)⟩
 refine cip (args := []) (f369 m c es Z2) ?_
 rintro _ rfl
 by_cases he : es.length = 0
 ·rw [decide_eq_true he]
  refine gn ?_
  refine fin_free ?_
  refine fk1 (A := [(w,cl (rw' (vv a) .nilIface sc sset rr) 380)]) ⟨rfl,.null,.nilIface,rfl,rfl,?_⟩
  rw [(MP.nil hp hav).1 he]
  exact RM.mp (c := []) rfl rfl (by simp) (by simp) (by simp)
 ·rw [decide_eq_false he]
  refine gn ?_
  refine o_eqs rfl rfl rfl (r := false) (by decide +kernel) ?_
  refine gn ?_; intro m6
  refine gn ?_; intro b6
  refine o_store1 (v := .map (some m6)) rfl rfl rfl ?_
  refine r_end ?_
  refine q_n ?_
  refine WP.fz b6 ?_
  intro Z3 hz3 h6
  refine WP.fz m6 ?_
  intro Z4 hz4 hm6
  haveI : Zf Z4 b3 _ := ⟨.of (hz4 _ _ (hz3 _ _ h3))⟩
  haveI : Zf Z4 mb _ := ⟨.of (hz4 _ _ (hz3 _ _ hsc.m))⟩
  refine gn ?_
  refine WP.loopM (8 :: List.range' 76 10) (fun k g Z' H' => g 76 = .int .i64 0 ∧ Z4 = Z' ∧ H' = [(w,cl (rw' (vv a) .nilIface sc sset rr) 380)]) 0 ⟨rfl,rfl,rfl⟩ ?_
  rintro k' g Z' H' hz' ⟨h76,rfl,rfl⟩
  refine WP.pin 76 h76 ?_
  refine gn ?_; intro mm
  refine gn ?_; intro b9
  refine o_store1 (v := .map (some mm)) rfl rfl rfl ?_
  refine r_end ?_
  refine q_n ?_
  refine WP.fz b9 ?_
  intro Z5 hz5 h9
  have hz25 : Fz.le Z2 Z5 := (hz3.trans hz4).trans hz5
  haveI : Zf Z5 m _ := ⟨.of (hz25 _ _ hz)⟩
  haveI : Zf Z5 b2 _ := ⟨.of (hz25 _ _ h2)⟩
  haveI : Zf Z5 b9 _ := ⟨.of (h9)⟩
  refine gn ?_
  refine ci (args := [.func (.func 357) #[] #[pt b3,pt b6,pt b2,pt b9]]) (f375T m c es 357 [] [pt b3,pt b6,pt b2,pt b9] Z5 [(mm,mp [] 0),(w,cl (rw' (vv a) .nilIface sc sset rr) 380)] hst
   (fun e he => by obtain ⟨t,_,h⟩ := hav.lk e (hp.mem_iff.1 he); exact ⟨h.cells,h.cell1⟩)
   (fun done Z' H' => ∃ es₁ c₁ outs,H' = [(mm,mp es₁ c₁),(w,cl (rw' (vv a) .nilIface sc sset rr) 380)] ∧ Stm es₁ c₁ ∧ AVm Z' outs es₁ ∧ (∀ k,k ∈ es₁.map En.k ↔ k ∈ done.map En.k ∧ ¬ S.has [k]) ∧ ∀ k o,(k,o) ∈ outs → ∃ x,(k,x) ∈ l ∧ ¬ S.has [k] ∧ RM (fun q => S.has (k :: q)) x o)
   ⟨[],0,[],rfl,⟨by simp,by simp,by simp⟩,by simp [AVm],by simp,by simp⟩ ?cb) ?_
  case cb =>
   rintro done e Z₁ H₁ b hz₁ he hsb hne ⟨es₁,c₁,outs,rfl,hst₁,hav₁,hks,hos⟩ hb
   obtain ⟨t,ht',hv⟩ := hav.lk e (hp.mem_iff.1 he)
   have hz' : Fz.le Z5 (Z₁.add b (cl [e.v] 358)) := hz₁.trans (Fz.le_add hb)
   have hfr := fresh_key hst he hsb hne
   have hzz : Fz.le Z2 (Z₁.add b (cl [e.v] 358)) := hz25.trans hz'
   obtain ⟨ms,ch⟩ := S
   refine Tr.mono (f357 (rr := rr) (v := vv a) ih w mm c₁ m6 b b2 b3 b6 b9 sset es₁ e.k t e.v ms ch U ⟨hsc.mono hzz,Fz.add_at,hv.mono hzz,hS.mono hzz,hzz _ _ h2,hzz _ _ h3,hz' _ _ (hz5 _ _ (hz4 _ _ h6)),hz' _ _ (hz5 _ _ hm6),hz' _ _ h9⟩ (Nat.lt_of_le_of_lt (sz_memM ht') ht) hw hU (fun q hq => by
    obtain ⟨y,hy⟩ := hsub _ hq
    obtain ⟨x,hx,hx'⟩ := at_cons.1 hy
    rw [nodup_one hnd hx ht'] at hx'
    exact ⟨y,hx'⟩) (fun e' he' hk => hfr ((hks _).1 (hk ▸ List.mem_map_of_mem (f := En.k) he')).1)).le ?_
   rintro _ Z₂ _ ⟨hz₂,rfl,⟨hh,rfl⟩ | ⟨hh,o,u',rfl,hu',hrm⟩⟩
   ·refine ⟨rfl,es₁,c₁,outs,rfl,hst₁,(hav₁.lw (Fz.le_add hb).lw).lw (hz₂.lw.trans (Fz.lw_back hz₂)),fun k => ?_,hos⟩
    rw [hks,List.map_append,List.mem_append]
    constructor
    ·rintro ⟨h1,h2⟩; exact ⟨.inl h1,h2⟩
    ·rintro ⟨h1 | h1,h2⟩
     ·exact ⟨h1,h2⟩
     ·simp only [List.map_cons,List.map_nil,List.mem_singleton] at h1; subst h1; exact absurd hh h2
   ·refine ⟨rfl,_,_,outs ++ [(e.k,o)],rfl,hst₁.snoc fun e' he' hk => hfr ((hks _).1 (hk ▸ List.mem_map_of_mem (f := En.k) he')).1,((hav₁.lw (Fz.le_add hb).lw).lw (hz₂.lw.trans (Fz.lw_back hz₂))).snoc (hu'.lw (Fz.lw_back hz₂)),fun k => ?_,fun k o' h => ?_⟩
    ·rw [List.map_append,List.mem_append,hks,List.map_append,List.mem_append]
     constructor
     ·rintro (⟨h1,h2⟩ | h1)
      ·exact ⟨.inl h1,h2⟩
      ·simp only [List.map_cons,List.map_nil,List.mem_singleton] at h1; subst h1; exact ⟨.inr (by simp),hh⟩
     ·rintro ⟨h1 | h1,h2⟩
      ·exact .inl ⟨h1,h2⟩
      ·exact .inr (by simpa using h1)
    ·rcases List.mem_append.1 h with h | h
     ·exact hos k o' h
     ·simp only [List.mem_singleton,Prod.mk.injEq] at h
      obtain ⟨rfl,rfl⟩ := h
      exact ⟨t,ht',hh,hrm⟩
  rintro _ Z₁ _ hz₁ ⟨rfl,done,hd,es₁,c₁,outs,rfl,hst₁,hav₁,hks,hos⟩
  have hks' : ∀ k,k ∈ es₁.map En.k ↔ (∃ t,(k,t) ∈ l) ∧ ¬ S.has [k] := fun k => by rw [hks,(hd.map En.k).mem_iff,mem_keys hp hav]
  refine r_end ?_
  refine q_n ?_
  refine WP.fz mm ?_
  intro Z6 hz6 hmm
  haveI : Zf Z6 mm _ := ⟨.of (hmm)⟩
  haveI : Zf Z6 b9 _ := ⟨.of (hz6 _ _ (hz₁ _ _ h9))⟩
  haveI : Zf Z6 b2 _ := ⟨.of (hz6 _ _ (hz₁ _ _ (hz25 _ _ h2)))⟩
  have rm : ∀ t',kids (some t') = outs → t'.cls = 0 → RM S.has (.mp l) t' := fun t' h1 h2 => RM.mp h1 h2 hnd hos fun k x hx hS => by
   have : k ∈ outs.map (·.1) := by rw [hav₁.keys]; exact (hks' k).2 ⟨⟨x,hx⟩,hS⟩
   obtain ⟨⟨k',z⟩,hz,rfl⟩ := List.mem_map.1 this
   exact ⟨z,hz⟩
  refine gn ?_
  by_cases he1 : es₁.length = 0
  ·refine o_gtr rfl rfl rfl (r := false) (decide_eq_false (by simp only [Int.ofNat_eq_natCast]; omega)) ?_
   refine gn ?_
   refine fin_free ?_
   have h0 : outs = [] := List.length_eq_zero_iff.1 (by rw [← hav₁.len]; exact he1)
   exact fk1 (A := [(w,cl (rw' (vv a) .nilIface sc sset rr) 380)]) ⟨rfl,.null,.nilIface,rfl,rfl,rm .null (by rw [h0]; rfl) rfl⟩
  ·refine o_gtr rfl rfl rfl (r := true) (decide_eq_true (by simp only [Int.ofNat_eq_natCast]; omega)) ?_
   refine gn ?_
   refine fin_free ?_
   refine fk1 (A := [(w,cl (rw' (vv a) (.iface 198 (.map (some mm))) sc sset rr) 380)]) ⟨rfl,.mp outs,_,rfl,?_,rm _ rfl rfl⟩
   simp only [AV]
   exact ⟨mm,es₁,c₁,es₁,rfl,hmm,hst₁,.refl _,hav₁.mono hz6⟩
end
theorem f130 : ∀ N,T130 N
 | 0 => fun t Z a sset sc sb lb mb eb nb u S U ht => by omega
 | N + 1 => by
  intro t Z a sset sc sb lb mb eb nb u S U ht hc ha hu hS hw hU hsub hsc hnb
  have ih := f130 N
  refine Gr.intro Tryz.func130 rfl Tryz.ntmps130 Tryz.results130 rfl ?_
  refine gn ?_; intro b8
  refine gn ?_
  refine ct (f65 _) ?_
  rintro _ _ _ _ ⟨rr,rfl,rfl,rfl⟩
  refine gn ?_; intro w
  refine gn ?_
  have key : Tr Tryz.prog 129 #[pt sc,.agg (tref nb).toArray,vv a,.iface 378 (pt w)] Z [(w,cl (rw' (vv a) .nilIface sc sset (pt rr)) 380)] fun x Z' H' => x = .slice none 0 0 ∧ ∃ o u',H' = [(w,cl (rw' (vv a) u' sc sset (pt rr)) 380)] ∧ AV Z' o u' ∧ RM S.has t o := by
   refine f129 _ (some t) (vv a) rfl hsc hnb (.some ⟨a,u,rfl,ha,hu⟩) ?_
   cases t with
   | sc _ => simp [Tv.cls] at hc
   | li _ _ => simp [Tv.cls] at hc
   | null =>
    simp only [AV] at hu; subst hu
    exact f159_mp _ (.inr rfl) (f352n w a sset S ha hsub)
   | mp l =>
    obtain ⟨m,rfl,hm⟩ := hu.mp
    exact f159_mp _ (.inl rfl) (f352 ih w a sset m l S U hsc ha hm (by simp only [Tv.sz] at ht; omega) hS hw hU hsub)
  refine ct (args := [pt sc,.agg (tref nb).toArray,vv a,.iface 378 (pt w)]) key ?_
  rintro _ Z₁ _ hz ⟨rfl,o,u',rfl,hu',hrm⟩
  haveI := hu'.oneI
  refine gn ?_
  refine cg (args := [u']) (f81 u' Z₁ hu'.cells hu'.cell1) ?_
  rintro _ Z₄ hz₄ ⟨d,rfl,hd⟩
  refine gn ?_
  refine fin1 ?_
  intro Z' hz' hp'
  exact ⟨d,u',o,rfl,hz' _ _ hd,(hu'.mono hz₄).mono hz',hrm⟩
theorem f92 {Z : Fz} {sc sb lb mb eb nb a sset : Nat} {t : Tv} {u : Value} {S : FS} {U : List Nm} (hc : t.cls = 0) (ha : Z a = some (cl [u] 358)) (hu : AV Z t u) (hS : SR Z S sset) (hw : S.Wf U) (hU : U.length ≤ 1073741824) (hsub : ∀ x,S.has x → Dm t x) (hsc : Sch Z sc sb lb mb eb) (hnb : Z nb = some (cl [.string nmD] 9)) :
  Gr Tryz.prog 92 #[.agg (tv (vv a) sc nb).toArray,pt sset] Z fun x Z' => ∃ p o,x = pt p ∧ TyV Z' sc nb o p ∧ RM S.has t o := by
 refine Gr.intro Tryz.func92 rfl Tryz.ntmps92 Tryz.results92 rfl ?_
 refine gn ?_; intro b2
 refine gn ?_
 refine cg (args := [vv a,pt sset,pt sc,.agg (tref nb).toArray,.bool false]) (f130 (t.sz + 1) t Z a sset sc sb lb mb eb nb u S U (by omega) hc ha hu hS hw hU hsub hsc hnb) ?_
 rintro _ Z1 hz1 ⟨d,u',o,rfl,hd,hu',hrm⟩
 refine gn ?_
 refine fin1 ?_
 intro Z' hz' hp'
 exact ⟨b2,o,rfl,⟨d,u',fzat b2 hp',hz' _ _ hd,hu'.mono hz'⟩,hrm⟩
end Go.Ux
namespace Go.Ux
open Go Go.Proofs
set_option maxRecDepth 20000
attribute [local irreducible] WP Tr
mutual
def FS.cnt : FS → Nat
 | .mk ms cs => ms.length + cntC cs
def cntC : Ch → Nat
 | [] => 0
 | (_,s) :: cs => s.cnt + cntC cs
end
theorem cntC_app : ∀ {a b : Ch},cntC (a ++ b) = cntC a + cntC b
 | [],b => by simp [cntC]
 | (k,s) :: a,b => by simp only [List.cons_append,cntC,cntC_app]; omega
theorem take_succ_of {α : Type} {l : List α} {x : α} {i : Nat} (h : l.drop i = x :: l.drop (i + 1)) : l.take (i + 1) = l.take i ++ [x] := by
 have hi : i < l.length := by
  rcases Nat.lt_or_ge i l.length with h' | h'
  ·exact h'
  ·rw [List.drop_of_length_le h'] at h; cases h
 have h1 := List.take_append_drop i l
 rw [h] at h1
 conv => lhs; rw [← h1]
 rw [List.take_append,List.take_of_length_le (by simp; omega)]
 congr 1
 rw [List.length_take,Nat.min_eq_left (by omega),show i + 1 - i = 1 by omega]
 rfl
theorem cntC_take (ch : Ch) (i : Nat) : cntC (ch.take i) ≤ cntC ch := by
 have := cntC_app (a := ch.take i) (b := ch.drop i)
 rw [List.take_append_drop] at this
 omega
theorem cnt_mem {ch : Ch} {k : Nm} {s : FS} (h : (k,s) ∈ ch) : s.cnt ≤ cntC ch := by
 induction ch with
 | nil => cases h
 | cons p ch ih =>
  obtain ⟨k',s'⟩ := p
  simp only [cntC]
  rcases List.mem_cons.1 h with h | h
  ·cases h; omega
  ·have := ih h; omega
def E184 (N : Nat) : Prop := ∀ (s : FS) (b : Nat) (U : List Nm) (Z : Fz),s.sz < N → SR Z s b → s.Wf U → U.length ≤ 1073741824 → s.cnt ≤ 68719476736 → Pu Tryz.prog 184 #[.pointer (some ⟨b,0,none⟩)] Z fun v => v = .int .i64 (Int.ofNat s.cnt)
set_option maxHeartbeats 1000000 in
theorem f166 {N : Nat} (ih : E184 N) (sb : Nat) (a : Option Addr) (n c : Nat) (w : Value) (ms : List Nm) (ch : Ch) (cs : List Value) (U : List Nm) (Z : Fz) [Zf Z sb (cl [w,.slice a n c] 281)] (hr : Rs (inT Z 331) 5 (.slice a n c) n cs) (hc : SC Z ch cs) (hw : (FS.mk ms ch).Wf U) (hU : U.length ≤ 1073741824) (hN : szC ch < N) (hC : cntC ch ≤ 68719476736) :
  Pu Tryz.prog 166 #[.pointer (some ⟨sb,1,none⟩)] Z fun v => v = .int .i64 (Int.ofNat (cntC ch)) := by
 have hl := hc.n hr
 have hb := hw.len hU
 refine Pu.intro Tryz.func166 rfl Tryz.ntmps166 Tryz.results166 rfl ?_
 refine gn ?_
 refine WP.loopK (3 :: 5 :: List.range' 11 10) (fun m g Z' H' => ∃ i : Nat,g 11 = .int .i64 i ∧ m = n - i ∧ i ≤ n ∧ g 3 = .int .i64 (Int.ofNat (cntC (ch.take i))) ∧ Z = Z' ∧ H' = []) n ⟨0,rfl,by omega,by omega,rfl,rfl,rfl⟩ ?_
 rintro m g Z' H' _ ⟨i,h10,rfl,hi,h3,rfl,rfl⟩
 refine WP.pin 11 h10 ?_
 refine WP.pin 3 h3 ?_
 by_cases hin : i < n
 ·obtain ⟨b,off,xs,kb,sb',k,s,rfl,z₁,t₁,d₁,q₁,s₁,e₅,e₄,e₁,_⟩ := eltC hr hc hin
  haveI : Zf Z b (cl xs 331) := ⟨z₁⟩
  have hmem := drop_mem d₁
  have ht := take_succ_of d₁
  have hle := cntC_take ch (i + 1)
  rw [ht,cntC_app] at hle
  simp only [cntC] at hle
  refine gn ?_
  refine o_indexAddr rfl rfl rfl hin ?_
  refine o_loadN rfl rfl e₅ rfl ?_
  refine gn ?_
  intro lb
  refine gn ?_
  refine cp (ih s sb' U Z (Nat.lt_of_le_of_lt (szC_mem hmem) hN) s₁ (hw.child hmem) hU (by have := cnt_mem hmem; omega)) ?_
  rintro _ rfl
  refine o_add rfl rfl rfl (by simp only [Int.ofNat_eq_natCast]; omega) (by simp only [Int.ofNat_eq_natCast]; omega) ?_
  refine gn ?_
  refine ⟨bk,n - (i + 1),[],_,by omega,spp,i + 1,rfl,rfl,by omega,?_,rfl,rfl⟩
  rw [ht,cntC_app]
  simp only [cntC,Int.ofNat_eq_natCast]
  exact congrArg (Value.int .i64) (by omega)
 ·refine gn ?_
  refine fin1 ⟨?_,rfl⟩
  rw [List.take_of_length_le (by omega)]
  rfl
theorem f184 : ∀ N,E184 N
 | 0 => fun s b U Z h => by omega
 | N + 1 => by
  intro s b U Z hN hs hw hU hC
  obtain ⟨ms,ch⟩ := s
  simp only [SR] at hs
  obtain ⟨mv,cv,n,n',cs,cs',z,r₁,p₁,r₂,p₂⟩ := hs
  obtain ⟨a₁,c₁,rfl⟩ := r₁.sl
  obtain ⟨a₂,c₂,rfl⟩ := r₂.sl
  haveI : Zf Z b _ := ⟨.of (z)⟩
  simp only [FS.sz] at hN
  simp only [FS.cnt] at hC
  have hl := p₁.n r₁
  refine Pu.intro Tryz.func184 rfl Tryz.ntmps184 Tryz.results184 rfl ?_
  refine gn ?_
  refine WP.draw [] [] [0,1,2,4,5,6,3,7,8,9] mo (by decide +kernel) (prm rfl) ?_
  refine gn ?_
  refine cp (f109 b a₁ n c₁ _ Z) ?_
  rintro _ rfl
  refine cp (f166 (f184 N) b a₂ n' c₂ _ ms ch cs' U Z r₂ p₂ hw hU (by omega) (by omega)) ?_
  rintro _ rfl
  refine o_add rfl rfl rfl (by simp only [Int.ofNat_eq_natCast]; omega) (by simp only [Int.ofNat_eq_natCast]; omega) ?_
  refine gn ?_
  refine fin1 ⟨?_,rfl⟩
  simp only [FS.cnt,Int.ofNat_eq_natCast]
  exact congrArg (Value.int .i64) (by omega)
end Go.Ux
namespace Go.Ux
open Go
def pick1 (k : Nm) : Ch → Nat
 | [] => 0
 | (k',s) :: ch => (if k' = k then s.cnt else 0) + pick1 k ch
def drop1 (k : Nm) (ch : Ch) : Ch := ch.filter fun p => !(p.1 == k)
theorem cntC_split (k : Nm) : ∀ ch : Ch,cntC ch = pick1 k ch + cntC (drop1 k ch)
 | [] => rfl
 | (k',s) :: ch => by
  simp only [cntC,pick1,drop1,List.filter_cons]
  have ih := cntC_split k ch
  simp only [drop1] at ih
  by_cases h : k' = k
  ·subst h; simp; omega
  ·have hb : (k' == k) = false := by simpa using h
   simp only [hb,Bool.not_false,if_true,if_neg h,cntC]; omega
theorem pick1_le {k : Nm} {n : Nat} : ∀ {ch : Ch},(ch.map (·.1)).Nodup → (∀ s,(k,s) ∈ ch → s.cnt ≤ n) → pick1 k ch ≤ n
 | [],_,_ => Nat.zero_le _
 | (k',s) :: ch,hn,h => by
  simp only [List.map_cons,List.nodup_cons] at hn
  simp only [pick1]
  by_cases e : k' = k
  ·subst e
   have h0 : pick1 k' ch = 0 := by
    have := pick1_le (n := 0) (ch := ch) (k := k') hn.2 fun s hs => absurd (List.mem_map_of_mem (f := (·.1)) hs) hn.1
    omega
   have := h s (List.mem_cons_self ..)
   simp; omega
  ·have := pick1_le (n := n) (ch := ch) (k := k) hn.2 fun s hs => h s (List.mem_cons_of_mem _ hs)
   simp [e]; omega
theorem cnt_sum : ∀ (l : List (Nm × Tv)) (ms : List Nm) (ch : Ch),ms.Nodup → (ch.map (·.1)).Nodup → (∀ k ∈ ms,∃ x,(k,x) ∈ l) → (∀ k c,(k,c) ∈ ch → c.cnt = 0 ∨ ∃ x,(k,x) ∈ l) → (l.map (·.1)).Nodup → (∀ k c x,(k,c) ∈ ch → (k,x) ∈ l → c.cnt + 1 ≤ x.sz) → (∀ k x,(k,x) ∈ l → 1 ≤ x.sz) → ms.length + cntC ch ≤ szM l
 | [],ms,ch,_,_,h1,h2,_,_,_ => by
  have e1 : ms = [] := by
   cases ms with
   | nil => rfl
   | cons k ms => obtain ⟨_,h⟩ := h1 k (List.mem_cons_self ..); cases h
  subst e1
  have e2 : ∀ ch : Ch,(∀ k c,(k,c) ∈ ch → c.cnt = 0) → cntC ch = 0 := by
   intro ch
   induction ch with
   | nil => intro _; rfl
   | cons p ch ih => intro h; simp only [cntC,h p.1 p.2 (List.mem_cons_self ..),ih fun k c hc => h k c (List.mem_cons_of_mem _ hc)]
  rw [e2 ch fun k c hc => (h2 k c hc).resolve_right fun ⟨_,h⟩ => by cases h]
  simp [szM]
 | (k,x) :: l,ms,ch,hm,hc,h1,h2,hl,h3,h4 => by
  simp only [List.map_cons,List.nodup_cons] at hl
  have hx4 := h4 k x (List.mem_cons_self ..)
  have ih := cnt_sum l (ms.erase k) (drop1 k ch) (hm.erase k) (hc.sublist ((List.filter_sublist).map _)) (fun k' hk' => by
    have hne : k' ≠ k := fun e => by subst e; exact (hm.not_mem_erase hk')
    obtain ⟨y,hy⟩ := h1 k' (List.mem_of_mem_erase hk')
    rcases List.mem_cons.1 hy with hy | hy
    ·cases hy; exact absurd rfl hne
    ·exact ⟨y,hy⟩) (fun k' c hk' => by
    obtain ⟨hk1,hk2⟩ := List.mem_filter.1 hk'
    have hne : k' ≠ k := by simpa using hk2
    refine (h2 k' c hk1).imp id fun ⟨y,hy⟩ => ?_
    rcases List.mem_cons.1 hy with hy | hy
    ·cases hy; exact absurd rfl hne
    ·exact ⟨y,hy⟩) hl.2 (fun k' c y hk' hy => h3 k' c y (List.mem_filter.1 hk').1 (List.mem_cons_of_mem _ hy)) (fun k' y hy => h4 k' y (List.mem_cons_of_mem _ hy))
  have e1 := cntC_split k ch
  have e2 : pick1 k ch ≤ x.sz - 1 := pick1_le hc fun s hs => by have := h3 k s x hs (List.mem_cons_self ..); omega
  have e3 : ms.length ≤ (ms.erase k).length + 1 := by rw [List.length_erase]; split <;> omega
  simp only [szM]
  omega
theorem cnt_le {U : List Nm} : ∀ (s : FS) {t : Tv},s.Wf U → t.uk → (∀ x,s.has x → Dm t x) → s.cnt + 1 ≤ t.sz := by
 intro s
 generalize hN : s.sz = N
 induction N using Nat.strongRecOn generalizing s with
 | _ N IH =>
  intro t hw hu h
  obtain ⟨ms,ch⟩ := s
  have hi : Inc (ch.map (·.1)) := by cases hw; assumption
  have him : Inc ms := by cases hw; assumption
  have hnd : ((kids (some t)).map (·.1)).Nodup := by
   cases t with
   | mp l => exact hu [] l (.here _)
   | _ => simp [kids]
  have hch : ∀ k c x,(k,c) ∈ ch → (k,x) ∈ kids (some t) → c.cnt + 1 ≤ x.sz := fun k c x hc hx => by
   have hcw : c.Wf U := hw.child hc
   refine IH c.sz (by subst hN; simp only [FS.sz]; have := szC_mem hc; omega) c rfl hcw ?_ fun q hq => ?_
   ·cases t with
    | mp l => exact hu.child hx
    | _ => cases hx
   ·cases q with
    | nil => exact dm_nil x
    | cons k' q =>
     obtain ⟨y,hy⟩ := h (k :: k' :: q) ((FS.has_two ..).2 ⟨c,hc,hq⟩)
     obtain ⟨x',hx',hq'⟩ := at_cons.1 hy
     rw [nodup_one hnd hx' hx] at hq'
     exact ⟨y,hq'⟩
  have hpos : ∀ x : Tv,1 ≤ x.sz := Tv.sz_pos
  have key := cnt_sum (kids (some t)) ms ch him.nodup hi.nodup (fun k hk => by
   obtain ⟨y,hy⟩ := h [k] ((FS.has_one _ _).2 hk)
   obtain ⟨x,hx,_⟩ := at_cons.1 hy
   exact ⟨x,hx⟩) (fun k c hc => by
   refine Classical.byContradiction fun hno => ?_
   rw [not_or] at hno
   have hemp : ∀ q,¬ c.has q := fun q hq => by
    cases q with
    | nil => exact FS.has_nil _ hq
    | cons k' q =>
     obtain ⟨y,hy⟩ := h (k :: k' :: q) ((FS.has_two ..).2 ⟨c,hc,hq⟩)
     obtain ⟨x,hx,_⟩ := at_cons.1 hy
     exact hno.2 ⟨x,hx⟩
   have := IH c.sz (by subst hN; simp only [FS.sz]; have := szC_mem hc; omega) c rfl (t := .null) (hw.child hc) (fun q l hl => by
    cases q with
    | nil => rw [At.nil_iff] at hl; cases hl
    | cons k q => obtain ⟨_,_,e,_⟩ := At.cons_iff.1 hl; cases e) fun q hq => absurd hq (hemp q)
   simp only [Tv.sz] at this
   omega) hnd hch fun _ x _ => hpos x
  simp only [FS.cnt]
  cases t with
  | mp l => simp only [kids] at key; simp only [Tv.sz]; omega
  | null => simp only [kids,szM] at key; simp only [Tv.sz]; omega
  | sc _ => simp only [kids,szM] at key; simp only [Tv.sz]; omega
  | li _ _ => simp only [kids,szM] at key; simp only [Tv.sz]; omega
end Go.Ux
namespace Go.Ux
open Go
def szAt (k : Nm) : List (Nm × Tv) → Nat
 | [] => 0
 | (k',t) :: l => if k' = k then t.sz else szAt k l
theorem szAt_lk {k : Nm} : ∀ {l : List (Nm × Tv)} {x : Option Tv},(l.map (·.1)).Nodup → Lk l k x → szO x ≤ szAt k l
 | l,none,_,_ => Nat.zero_le _
 | [],some t,_,h => by cases h
 | (k',t') :: l,some t,hn,h => by
  simp only [List.map_cons,List.nodup_cons] at hn
  simp only [szAt]
  rcases List.mem_cons.1 h with h | h
  ·cases h; simp [szO]
  ·have : k' ≠ k := fun e => by subst e; exact hn.1 (List.mem_map_of_mem (f := (·.1)) h)
   rw [if_neg this]
   exact szAt_lk (x := some t) hn.2 h
theorem szAt_cons {k' : Nm} {t : Tv} {l : List (Nm × Tv)} : ∀ {ks : List Nm},ks.Nodup → (ks.map fun k => szAt k ((k',t) :: l)).sum ≤ (if k' ∈ ks then t.sz else 0) + (ks.map fun k => szAt k l).sum
 | [],_ => by simp
 | k :: ks,hn => by
  simp only [List.nodup_cons] at hn
  have ih := szAt_cons (k' := k') (t := t) (l := l) hn.2
  simp only [List.map_cons,List.sum_cons,szAt,List.mem_cons] at ih ⊢
  by_cases e : k' = k
  ·subst e
   rw [if_neg hn.1] at ih
   simp; omega
  ·simp only [e,false_or,if_false]; omega
theorem szAt_sum : ∀ {l : List (Nm × Tv)} {ks : List Nm},ks.Nodup → (ks.map fun k => szAt k l).sum ≤ szM l
 | [],ks,_ => by
  have : ∀ ks : List Nm,(ks.map fun k => szAt k []).sum = 0 := by
   intro ks
   induction ks with
   | nil => rfl
   | cons k ks ih => rw [List.map_cons,List.sum_cons,ih]; rfl
  rw [this]; exact Nat.zero_le _
 | (k',t) :: l,ks,hn => by
  have h1 := szAt_cons (k' := k') (t := t) (l := l) hn
  have h2 := szAt_sum (l := l) hn
  simp only [szM]
  split at h1 <;> omega
theorem szM_two {lo la lb : List (Nm × Tv)} (hn : (lo.map (·.1)).Nodup) (h : ∀ k x,(k,x) ∈ lo → x.sz ≤ szAt k la + szAt k lb) : szM lo ≤ szM la + szM lb := by
 have h1 := szAt_sum (l := la) hn
 have h2 := szAt_sum (l := lb) hn
 have key : ∀ lo : List (Nm × Tv),(∀ k x,(k,x) ∈ lo → x.sz ≤ szAt k la + szAt k lb) → szM lo ≤ ((lo.map (·.1)).map fun k => szAt k la).sum + ((lo.map (·.1)).map fun k => szAt k lb).sum := by
  intro lo
  induction lo with
  | nil => intro _; simp [szM]
  | cons p lo ih =>
   intro h
   have a := h p.1 p.2 (List.mem_cons_self ..)
   have b := ih fun k x hx => h k x (List.mem_cons_of_mem _ hx)
   simp only [szM,List.map_cons,List.sum_cons]
   omega
 have := key lo h
 omega
theorem sz_kids1 (t : Tv) : szM (kids (some t)) + 1 ≤ t.sz := by
 cases t <;> simp [kids,szM,Tv.sz] <;> omega
theorem sz_two : ∀ (N : Nat) (o : Tv) (l r : Option Tv),o.sz < N → o.uk → (∀ t,l = some t → t.uk) → (∀ t,r = some t → t.uk) → (∀ q,Dm o q → DmO l q ∨ DmO r q) → (∀ q u v,At o q u → AtO r q v → Le v u) → (∀ q u v,At o q u → AtO l q v → ¬ DmO r q → Le v u) → o.sz ≤ szO l + szO r
 | 0,o,_,_,h,_,_,_,_,_,_ => by omega
 | N + 1,o,l,r,hN,ho,hl,hr,hd,h1,h2 => by
  have hpos : 1 ≤ szO l + szO r := by
   rcases hd [] (dm_nil o) with h | h
   ·obtain ⟨u,s,rfl,_⟩ := h; have := Tv.sz_pos s; simp only [szO]; omega
   ·obtain ⟨u,s,rfl,_⟩ := h; have := Tv.sz_pos s; simp only [szO]; omega
  cases o with
  | null => simpa [Tv.sz] using hpos
  | sc u => simpa [Tv.sz] using hpos
  | li u ts =>
   match r,h1,hr,h2,hd,hpos with
   | some b,h1,_,_,_,_ =>
    obtain ⟨a1,a2⟩ := h1 [] _ b (.here _) (ato_nil.2 rfl)
    have := a1 (leaf_iff.2 (by rw [← a2]; simp [Tv.cls]))
    subst this
    simp only [szO]; omega
   | none,_,_,h2,hd,_ =>
    match l,h2,hd with
    | some a,h2,_ =>
     obtain ⟨a1,a2⟩ := h2 [] _ a (.here _) (ato_nil.2 rfl) (fun ⟨_,_,e,_⟩ => by cases e)
     have := a1 (leaf_iff.2 (by rw [← a2]; simp [Tv.cls]))
     subst this
     simp only [szO]; omega
    | none,_,hd =>
     rcases hd [] (dm_nil _) with ⟨_,_,e,_⟩ | ⟨_,_,e,_⟩ <;> cases e
  | mp lo =>
   have hnl : nodK l := by
    match l,hl with
    | none,_ => exact nodK_flat rfl
    | some t,hl =>
     cases t with
     | mp x => exact hl _ rfl [] _ (.here _)
     | _ => exact nodK_flat rfl
   have hnr : nodK r := by
    match r,hr with
    | none,_ => exact nodK_flat rfl
    | some t,hr =>
     cases t with
     | mp x => exact hr _ rfl [] _ (.here _)
     | _ => exact nodK_flat rfl
   have hkl : szM (kids l) ≤ szO l - 1 := by
    match l with
    | none => simp [kids,szM]
    | some t => have := sz_kids1 t; simp only [szO]; omega
   have hkr : szM (kids r) ≤ szO r - 1 := by
    match r with
    | none => simp [kids,szM]
    | some t => have := sz_kids1 t; simp only [szO]; omega
   have key := szM_two (lo := lo) (la := kids l) (lb := kids r) (ho [] lo (.here _)) fun k x hx => by
    obtain ⟨y,hy⟩ := lk_ex (kids l) k
    obtain ⟨z,hz⟩ := lk_ex (kids r) k
    have a := szAt_lk hnl hy
    have b := szAt_lk hnr hz
    have c : x.sz ≤ szO y + szO z := by
     have hsz := sz_memM hx
     simp only [Tv.sz] at hN
     have ey : ∀ q u,AtO l (k :: q) u ↔ AtO y q u := fun q u => by rw [ato_cons,ato_lk hnl hy]
     have ez : ∀ q u,AtO r (k :: q) u ↔ AtO z q u := fun q u => by rw [ato_cons,ato_lk hnr hz]
     have dz : ∀ q,DmO r (k :: q) ↔ DmO z q := fun q => by rw [dmo_cons,dmo_lk hnr hz]
     have dy : ∀ q,DmO l (k :: q) ↔ DmO y q := fun q => by rw [dmo_cons,dmo_lk hnl hy]
     have ukk : ∀ (s : Option Tv) (w : Option Tv),(∀ t,s = some t → t.uk) → Lk (kids s) k w → ∀ t,w = some t → t.uk := by
      intro s w hs hw t e
      subst e
      match s,hs,hw with
      | none,_,hw => cases hw
      | some (.mp m),hs,hw => exact (hs _ rfl).child hw
      | some .null,_,hw => cases hw
      | some (.sc _),_,hw => cases hw
      | some (.li _ _),_,hw => cases hw
     refine sz_two N x y z (by omega) (ho.child hx) (ukk l y hl hy) (ukk r z hr hz) (fun q ⟨u,hu⟩ => ?_) (fun q u v hu hv => h1 (k :: q) u v (.down hx hu) ((ez q v).2 hv)) (fun q u v hu hv hno => h2 (k :: q) u v (.down hx hu) ((ey q v).2 hv) (fun h => hno ((dz q).1 h)))
     rw [← dy,← dz]
     exact hd (k :: q) ⟨u,.down hx hu⟩
    omega
   simp only [Tv.sz]
   have hpos' : 1 ≤ szO l + szO r := hpos
   match l,r with
   | none,none => simp [szO] at hpos
   | some a,none => simp only [szO] at *; have := Tv.sz_pos a; omega
   | none,some b => simp only [szO] at *; have := Tv.sz_pos b; omega
   | some a,some b => simp only [szO] at *; have := Tv.sz_pos a; have := Tv.sz_pos b; omega
theorem RM.sz {S : List Nm → Prop} {t t' : Tv} (h : RM S t t') (hu : t.uk) (hu' : t'.uk) : t'.sz ≤ t.sz := by
 have := sz_two (t'.sz + 1) t' Option.none (some t) (by omega) hu' (fun _ e => by cases e) (fun _ e => by cases e; exact hu) (fun q hq => .inr (dmo_some.2 ((h.dom q).1 hq).1)) (fun q u v hu hv => h.val q u v hu (ato_some.1 hv)) (fun q u v _ hv => by obtain ⟨_,e,_⟩ := hv; cases e)
 simpa [szO] using this
theorem MG.sz {l r o : Tv} (h : MG (some l) (some r) o) (hl : l.uk) (hr : r.uk) (ho : o.uk) : o.sz ≤ l.sz + r.sz :=
 sz_two (o.sz + 1) o (some l) (some r) (by omega) ho (fun _ e => by cases e; exact hl) (fun _ e => by cases e; exact hr) (fun q hq => (h.dom q).1 hq) h.rt h.lf
theorem RM.inU {S : List Nm → Prop} {t t' : Tv} {U : List Nm} (h : RM S t t') (hu : t.inU U) : t'.inU U := fun q u hq k hk => by
 obtain ⟨v,hv⟩ := ((h.dom q).1 ⟨u,hq⟩).1
 exact hu q v hv k hk
theorem MG.inU {l r o : Tv} {U : List Nm} (h : MG (some l) (some r) o) (hl : l.inU U) (hr : r.inU U) : o.inU U := fun q u hq k hk => by
 rcases (h.dom q).1 ⟨u,hq⟩ with ⟨v,hv⟩ | ⟨v,hv⟩
 ·exact hl q v (ato_some.1 hv) k hk
 ·exact hr q v (ato_some.1 hv) k hk
theorem RM.cls {S : List Nm → Prop} {t t' : Tv} (h : RM S t t') : t'.cls = t.cls := (h.val [] t' t (.here _) (.here _)).2
theorem MG.cls {l : Option Tv} {r o : Tv} (h : MG l (some r) o) : o.cls = r.cls := (h.rt [] o r (.here _) (ato_some.2 (.here _))).2
end Go.Ux
namespace Go.Ux
open Go Go.Proofs
inductive RV where
 | mk (k n : Int) (f : Nat) (s : ByteArray) (ks : List Nm) (l : List RV)
def RV.k : RV → Int | .mk k _ _ _ _ _ => k
def RV.n : RV → Int | .mk _ n _ _ _ _ => n
def RV.f : RV → Nat | .mk _ _ f _ _ _ => f
def RV.s : RV → ByteArray | .mk _ _ _ s _ _ => s
def RV.ks : RV → List Nm | .mk _ _ _ _ ks _ => ks
def RV.l : RV → List RV | .mk _ _ _ _ _ l => l
mutual
def RV.sz : RV → Nat
 | .mk _ _ _ _ ks l => 1 + ks.length + szV l
def szV : List RV → Nat
 | [] => 0
 | r :: l => r.sz + szV l
end
abbrev inQ (Z : Fz) (T : Nat) : Nat → Obj → Prop := fun b o => Rdz Z b o ∧ ∃ xs,o = cl xs T
theorem inQ.le {Z Z' : Fz} (hz : Fz.le Z Z') {T b : Nat} {o : Obj} (h : inQ Z T b o) : inQ Z' T b o := ⟨h.1.le hz,h.2⟩
theorem Rs.inQ {Z : Fz} {T k n : Nat} {v : Value} {ds : List Value} (h : Rs (inT Z T) k v n ds) : Rs (Ux.inQ Z T) k v n ds := h.mono fun _ _ h => ⟨.of h.1,h.2⟩
mutual
def RVc (Z : Fz) : RV → List Value → Prop
 | .mk k n f s ks l,cs => ∃ kv lv lc,cs = [.int .i64 k,.int .i64 n,.float .f64 f,.string s,kv,lv] ∧ Rs (inQ Z 9) 1 kv ks.length (ks.map .string) ∧ Rs (inQ Z 37) 6 lv l.length lc ∧ RVl Z l lc
def RVl (Z : Fz) : List RV → List Value → Prop
 | [],cs => cs = []
 | r :: l,cs => ∃ c rest,cs = c ++ rest ∧ RVc Z r c ∧ RVl Z l rest
end
mutual
theorem RVc.mono {Z Z' : Fz} (hz : Fz.le Z Z') : ∀ {r : RV} {cs : List Value},RVc Z r cs → RVc Z' r cs
 | .mk k n f s ks l,cs,h => by
  simp only [RVc] at h ⊢
  obtain ⟨kv,lv,lc,h1,h2,h3,h4⟩ := h
  exact ⟨kv,lv,lc,h1,h2.mono fun b o h => inQ.le hz h,h3.mono fun b o h => inQ.le hz h,RVl.mono hz h4⟩
theorem RVl.mono {Z Z' : Fz} (hz : Fz.le Z Z') : ∀ {l : List RV} {cs : List Value},RVl Z l cs → RVl Z' l cs
 | [],cs,h => h
 | r :: l,cs,h => by
  simp only [RVl] at h ⊢
  obtain ⟨c,rest,h1,h2,h3⟩ := h
  exact ⟨c,rest,h1,RVc.mono hz h2,RVl.mono hz h3⟩
end
theorem RVc.len {Z : Fz} {r : RV} {cs : List Value} (h : RVc Z r cs) : cs.length = 6 := by
 cases r; simp only [RVc] at h; obtain ⟨_,_,_,rfl,_⟩ := h; rfl
theorem RVl.len {Z : Fz} : ∀ {l : List RV} {cs : List Value},RVl Z l cs → cs.length = l.length * 6
 | [],_,h => by simp only [RVl] at h; subst h; rfl
 | r :: l,_,h => by
  simp only [RVl] at h
  obtain ⟨c,rest,rfl,h1,h2⟩ := h
  rw [List.length_append,h1.len,h2.len,List.length_cons]; omega
theorem RVc.one {Z : Fz} {r : RV} {cs : List Value} (h : RVc Z r cs) : ∀ u ∈ cs,u.oneCell' = true := by
 cases r; simp only [RVc] at h; obtain ⟨kv,lv,_,rfl,h2,h3,_⟩ := h
 obtain ⟨_,_,rfl⟩ := h2.sl
 obtain ⟨_,_,rfl⟩ := h3.sl
 intro u hu
 simp only [List.mem_cons,List.mem_nil_iff,or_false] at hu
 rcases hu with rfl | rfl | rfl | rfl | rfl | rfl <;> rfl
theorem RVl.one {Z : Fz} : ∀ {l : List RV} {cs : List Value},RVl Z l cs → ∀ u ∈ cs,u.oneCell' = true
 | [],_,h => by simp only [RVl] at h; subst h; simp
 | r :: l,_,h => by
  simp only [RVl] at h
  obtain ⟨c,rest,rfl,h1,h2⟩ := h
  intro u hu
  rcases List.mem_append.1 hu with hu | hu
  ·exact h1.one u hu
  ·exact h2.one u hu
theorem RVl.app {Z : Fz} {cs' : List Value} {l' : List RV} (h' : RVl Z l' cs') : ∀ {l : List RV} {cs : List Value},RVl Z l cs → RVl Z (l ++ l') (cs ++ cs')
 | [],_,h => by simp only [RVl] at h; subst h; exact h'
 | r :: l,_,h => by
  simp only [RVl] at h
  obtain ⟨c,rest,rfl,h1,h2⟩ := h
  simp only [List.cons_append,RVl]
  exact ⟨c,rest ++ cs',by rw [List.append_assoc],h1,RVl.app h' h2⟩
theorem RVl.at {Z : Fz} : ∀ {l : List RV} {cs : List Value} {i : Nat} {r : RV},RVl Z l cs → l[i]? = some r → RVc Z r ((cs.drop (i * 6)).take 6)
 | [],_,_,_,_,h => by simp at h
 | r' :: l,_,i,r,h,hi => by
  simp only [RVl] at h
  obtain ⟨c,rest,rfl,h1,h2⟩ := h
  cases i with
  | zero =>
   simp only [List.getElem?_cons_zero,Option.some.injEq] at hi
   subst hi
   have := h1.len
   simpa [List.take_append,this] using h1
  | succ i =>
   simp only [List.getElem?_cons_succ] at hi
   have := h2.at hi
   have hl := h1.len
   rw [List.drop_append,List.drop_of_length_le (by omega),List.nil_append,hl,show (i + 1) * 6 - 6 = i * 6 by omega]
   exact this
theorem RVl.drop {Z : Fz} : ∀ {l : List RV} {cs : List Value} (i : Nat),RVl Z l cs → RVl Z (l.drop i) (cs.drop (i * 6))
 | l,cs,0,h => by simpa using h
 | [],_,i + 1,h => by simp only [RVl] at h; subst h; simp [RVl]
 | r :: l,_,i + 1,h => by
  simp only [RVl] at h
  obtain ⟨c,rest,rfl,h1,h2⟩ := h
  have hl := h1.len
  rw [List.drop_succ_cons,List.drop_append,List.drop_of_length_le (l := c) (by omega),List.nil_append,hl,show (i + 1) * 6 - 6 = i * 6 by omega]
  exact RVl.drop i h2
theorem RVl.take {Z : Fz} : ∀ {l : List RV} {cs : List Value} (i : Nat),RVl Z l cs → RVl Z (l.take i) (cs.take (i * 6))
 | l,cs,0,h => by simp [RVl]
 | [],_,i + 1,h => by simp only [RVl] at h; subst h; simp [RVl]
 | r :: l,_,i + 1,h => by
  simp only [RVl] at h
  obtain ⟨c,rest,rfl,h1,h2⟩ := h
  have hl := h1.len
  simp only [List.take_succ_cons,RVl]
  refine ⟨c,rest.take (i * 6),?_,h1,RVl.take i h2⟩
  rw [List.take_append,List.take_of_length_le (by omega),hl,show (i + 1) * 6 - 6 = i * 6 by omega]
def insK (k : Nm) (v : RV) : List (Nm × RV) → List (Nm × RV)
 | [] => [(k,v)]
 | p :: l => if ltN k p.1 then (k,v) :: p :: l else if k = p.1 then (k,v) :: l else p :: insK k v l
abbrev mkM (e : List (Nm × RV)) : RV := .mk 6 0 0 ⟨#[]⟩ (e.map (·.1)) (e.map (·.2))
mutual
def RV.clean : RV → RV
 | .mk k n f s ks l =>
  if k = 1 then .mk 1 (if n = 0 then 0 else 1) 0 ⟨#[]⟩ [] [] else if k = 2 then .mk 2 n 0 ⟨#[]⟩ [] [] else if k = 3 then .mk 3 0 f ⟨#[]⟩ [] [] else if k = 4 then .mk 4 0 0 s [] []
  else if k = 5 then .mk 5 0 0 ⟨#[]⟩ [] (cleanL l) else if k = 6 then mkM (cleanM ks l []) else .mk 0 0 0 ⟨#[]⟩ [] []
def cleanL : List RV → List RV
 | [] => []
 | r :: l => r.clean :: cleanL l
def cleanM : List Nm → List RV → List (Nm × RV) → List (Nm × RV)
 | _,[],e => e
 | [],_ :: _,e => e
 | k :: ks,r :: l,e => cleanM ks l (insK k r.clean e)
end
end Go.Ux
namespace Go.Ux
open Go Go.Proofs
set_option maxRecDepth 20000
attribute [local irreducible] WP Tr
def lbN (k : Nm) : List Nm → Nat
 | [] => 0
 | x :: l => if ltN x k then lbN k l + 1 else 0
theorem lbN_le (k : Nm) : ∀ ks : List Nm,lbN k ks ≤ ks.length
 | [] => Nat.le_refl _
 | x :: l => by have := lbN_le k l; simp only [lbN,List.length_cons]; split <;> omega
theorem lbN_lt {k : Nm} : ∀ {ks : List Nm} {i : Nat} {x : Nm},Inc ks → ks[i]? = some x → (ltN x k ↔ i < lbN k ks)
 | [],_,_,_,h => by simp at h
 | y :: l,i,x,hi,h => by
  have hi' := List.pairwise_cons.1 hi
  cases i with
  | zero =>
   simp only [List.getElem?_cons_zero,Option.some.injEq] at h
   subst h
   simp only [lbN]
   split
   ·rename_i h; simp [h]
   ·rename_i h; simp [h]
  | succ i =>
   simp only [List.getElem?_cons_succ] at h
   have ih := lbN_lt (k := k) hi'.2 h
   have hyx := hi'.1 x (List.mem_of_getElem? h)
   simp only [lbN]
   split
   ·rw [ih]; omega
   ·rename_i hy
    constructor
    ·intro hx; exact absurd (hyx.trans hx) hy
    ·intro hx; omega
theorem lbN_mem {k : Nm} : ∀ {ks : List Nm},Inc ks → (k ∈ ks ↔ ks[lbN k ks]? = some k)
 | [],_ => by simp
 | y :: l,hi => by
  have hi' := List.pairwise_cons.1 hi
  simp only [lbN]
  split
  ·rename_i h
   rw [List.getElem?_cons_succ,← lbN_mem hi'.2,List.mem_cons]
   exact ⟨fun h' => h'.resolve_left fun e => ltN.irrefl y (e ▸ h),.inr⟩
  ·rename_i h
   rw [List.getElem?_cons_zero,Option.some.injEq,List.mem_cons]
   constructor
   ·rintro (rfl | hk)
    ·rfl
    ·exact absurd (hi'.1 k hk) h
   ·intro e; exact .inl e.symm
theorem eltS {Z : Fz} {a : Option Addr} {n c i : Nat} {ks : List Nm} {k : Nm} (hr : Rs (inQ Z 9) 1 (.slice a n c) n (ks.map .string)) (hk : ks[i]? = some k) :
  ∃ b off xs,a = some ⟨b,off,none⟩ ∧ Rdz Z b (cl xs 9) ∧ xs[off + i * 1]? = some (.string k) := by
 have h1 : (ks.map Value.string)[i]? = some (.string k) := by rw [List.getElem?_map,hk]; rfl
 generalize ks.map Value.string = ds at hr h1
 cases hr with
 | nil => simp at h1
 | emp => simp at h1
 | row b off n c U xs ds h hd hl hn =>
  obtain ⟨h,ys,e⟩ := h
  cases e
  refine ⟨b,off,_,rfl,h,?_⟩
  rw [← hd,List.getElem?_take] at h1
  split at h1
  ·rw [List.getElem?_drop] at h1; simpa using h1
  ·cases h1
section
variable {Z : Fz}
set_option maxHeartbeats 1000000 in
theorem f44 {r : RV} {cs : List Value} (k : Nm) (hr : RVc Z r cs) (hi : Inc r.ks) (hn : r.ks.length ≤ 137438953472) :
  Pu Tryz.prog 44 #[.agg cs.toArray,.string k] Z fun x => ∃ b,x = .tuple #[.int .i64 ((lbN k r.ks : Nat) : Int),.bool b] ∧ (b = true ↔ k ∈ r.ks) := by
 obtain ⟨rk,rn,rf,rs,ks,l⟩ := r
 simp only [RVc] at hr
 obtain ⟨kv,lv,lc,rfl,h1,h2,h3⟩ := hr
 obtain ⟨a₁,c₁,rfl⟩ := h1.sl
 obtain ⟨a₂,c₂,rfl⟩ := h2.sl
 simp only [RV.ks] at hi hn ⊢
 have hle := lbN_le k ks
 refine Pu.intro Tryz.func44 rfl Tryz.ntmps44 Tryz.results44 rfl ?_
 refine gn ?_; intro b2
 refine gn ?_
 refine WP.drawA mo (by decide +kernel) ?_
 refine gn ?_
 refine WP.loopK (6 :: 7 :: 8 :: List.range' 12 19) (fun m g Z' H' => ∃ lo hi : Nat,g 6 = .int .i64 (lo : Int) ∧ g 7 = .int .i64 (hi : Int) ∧ lo ≤ lbN k ks ∧ lbN k ks ≤ hi ∧ hi ≤ ks.length ∧ m = hi - lo ∧ Z = Z' ∧ H' = [(b2,cl [.int .i64 rk,.int .i64 rn,.float .f64 rf,.string rs,.slice a₁ ks.length c₁,.slice a₂ l.length c₂] 37)]) ks.length ⟨0,ks.length,rfl,rfl,by omega,hle,Nat.le_refl _,by omega,rfl,rfl⟩ ?_
 rintro m g Z' H' _ ⟨lo,hj,h6,h7,hlo,hhi,hn',rfl,rfl,rfl⟩
 refine WP.pin 6 h6 ?_
 refine WP.pin 7 h7 ?_
 by_cases hlt : lo < hj
 ·refine gn ?_
  refine o_quo2 (a := hj - lo) rfl ?_ rfl (by omega) ?_
  ·show Value.int .i64 ((hj : Int) - (lo : Int)) = _
   congr 1; omega
  have hmid : lo + (hj - lo) / 2 < ks.length := by omega
  obtain ⟨x,hx⟩ : ∃ x,ks[lo + (hj - lo) / 2]? = some x := ⟨ks[lo + (hj - lo) / 2],by simp [hmid]⟩
  obtain ⟨b,off,xs,rfl,hb,he⟩ := eltS h1 hx
  haveI : Zf Z b (cl xs 9) := ⟨hb⟩
  have hlb := lbN_lt (k := k) hi hx
  refine gn ?_
  refine o_indexAddr (j := lo + (hj - lo) / 2) rfl rfl rfl hmid ?_
  refine gn ?_
  refine o_lssS rfl rfl rfl rfl ?_
  by_cases hxk : ltN x k
  ·rw [decide_eq_true hxk]
   have hq := hlb.1 hxk
   refine gn ?_
   exact ⟨bk,hj - (lo + (hj - lo) / 2 + 1),[(b2,cl [.int .i64 rk,.int .i64 rn,.float .f64 rf,.string rs,.slice (some ⟨b,off,none⟩) ks.length c₁,.slice a₂ l.length c₂] 37)],_,by omega,spp,lo + (hj - lo) / 2 + 1,hj,rfl,rfl,by omega,hhi,hn',rfl,rfl,rfl⟩
  ·rw [decide_eq_false hxk]
   have hq : ¬ lo + (hj - lo) / 2 < lbN k ks := fun h => hxk (hlb.2 h)
   refine gn ?_
   exact ⟨bk,lo + (hj - lo) / 2 - lo,[(b2,cl [.int .i64 rk,.int .i64 rn,.float .f64 rf,.string rs,.slice (some ⟨b,off,none⟩) ks.length c₁,.slice a₂ l.length c₂] 37)],_,by omega,spp,lo,lo + (hj - lo) / 2,rfl,rfl,hlo,by omega,by omega,rfl,rfl,rfl⟩
 ·have e1 : lo = lbN k ks := by omega
  subst e1
  refine gn ?_
  refine WP.drawA mo (by decide +kernel) ?_
  by_cases hlt2 : lbN k ks < ks.length
  ·obtain ⟨x,hx⟩ : ∃ x,ks[lbN k ks]? = some x := ⟨ks[lbN k ks],by simp [hlt2]⟩
   obtain ⟨b,off,xs,rfl,hb,he⟩ := eltS h1 hx
   haveI : Zf Z b (cl xs 9) := ⟨hb⟩
   have hmem := lbN_mem (k := k) hi
   rw [hx,Option.some.injEq] at hmem
   refine gn ?_
   refine o_indexAddr (j := lbN k ks) rfl rfl rfl hlt2 ?_
   by_cases hxk : x = k
   ·refine gn ?_
    exact fin2 ⟨⟨_,rfl,by simp [hmem.2 hxk]⟩,rfl⟩
   ·refine gn ?_
    exact fin2 ⟨⟨_,rfl,⟨fun h => (by cases h),fun h => absurd (hmem.1 h) hxk⟩⟩,rfl⟩
  ·have hnm : k ∉ ks := fun h => by
    have := (lbN_mem hi).1 h
    rw [List.getElem?_eq_none (by omega)] at this; cases this
   refine gn ?_
   exact fin2 ⟨⟨_,rfl,⟨fun h => (by cases h),fun h => absurd h hnm⟩⟩,rfl⟩
end
end Go.Ux
namespace Go.Ux
open Go Go.Proofs
set_option maxRecDepth 20000
attribute [local irreducible] WP Tr
theorem Rs.pre {R : Nat → Obj → Prop} {k n c i : Nat} {a : Option Addr} {ds : List Value} (h : Rs R k (.slice a n c) n ds) (hi : i ≤ n) : Rs R k (.slice a i c) i (ds.take (i * k)) := by
  cases h with
  | nil => have : i = 0 := by omega
           subst this; simpa using Rs.nil _
  | emp => have : i = 0 := by omega
           subst this; simpa using Rs.emp _
  | row b off n c U xs ds h hd hl hn =>
    have hik : i * k ≤ n * k := Nat.mul_le_mul_right k hi
    refine .row b off i c U xs _ h ?_ (by rw [List.length_take]; omega) (by omega)
    rw [← hd,List.take_take,Nat.min_eq_left hik]
theorem Rs.suf {R : Nat → Obj → Prop} {k n c i : Nat} {a : Option Addr} {ds : List Value} (h : Rs R k (.slice a n c) n ds) (hi : i ≤ n) : Rs R k (.slice (if c = i then a else a.map (·.add (i * k))) (n - i) (c - i)) (n - i) (ds.drop (i * k)) := by
  cases h with
  | nil => have : i = 0 := by omega
           subst this; simp; exact .nil _
  | emp => have : i = 0 := by omega
           subst this; simp; exact .emp _
  | row b off n c U xs ds h hd hl hn =>
    have hik : i * k ≤ n * k := Nat.mul_le_mul_right k hi
    by_cases hc : c = i
    · have : n = i := by omega
      subst hc this
      simp only [if_true,Nat.sub_self]
      exact .row b off 0 0 U xs _ h (by rw [← hl,List.drop_length]; simp) (by rw [← hl,List.drop_length]; simp) (Nat.le_refl 0)
    · rw [if_neg hc]
      show Rs R k (.slice (some ((⟨b,off,none⟩ : Addr).add (i * k))) (n - i) (c - i)) (n - i) _
      rw [addr_add]
      refine .row b (off + i * k) (n - i) (c - i) U xs _ h ?_ (by rw [List.length_drop,hl,Nat.sub_mul]) (by omega)
      rw [← hd,Nat.sub_mul,List.drop_take,List.drop_drop]
theorem RVl.app' {Z : Fz} {l l' : List RV} {cs cs' : List Value} (h' : RVl Z l' cs') (h : RVl Z l cs) : RVl Z (l ++ l') (cs ++ cs') := RVl.app h' h
theorem Rs.cap {R : Nat → Obj → Prop} {k n c : Nat} {a : Option Addr} {ds : List Value} (h : Rs R k (.slice a n c) n ds) : n ≤ c := by cases h <;> omega
theorem lbN_ins {k : Nm} {v : RV} : ∀ {e : List (Nm × RV)},Inc (e.map (·.1)) → insK k v e = e.take (lbN k (e.map (·.1))) ++ (k,v) :: e.drop (lbN k (e.map (·.1)) + if k ∈ e.map (·.1) then 1 else 0)
  | [],_ => by simp [insK,lbN]
  | p :: e,hi => by
    have hi' := List.pairwise_cons.1 hi
    have ih := lbN_ins (k := k) (v := v) (e := e) hi'.2
    simp only [insK,List.map_cons,lbN,List.mem_cons]
    by_cases h1 : ltN k p.1
    · have n1 : ¬ ltN p.1 k := h1.asymm
      have n2 : ¬ k = p.1 := h1.ne
      have n3 : k ∉ e.map (·.1) := fun h => absurd (h1.trans (hi'.1 k h)) (ltN.irrefl k)
      simp [h1,n1,n2,n3]
    · by_cases h2 : k = p.1
      · subst h2
        simp [ltN.irrefl]
      · have h3 : ltN p.1 k := ((ltN_tri k p.1).resolve_left h1).resolve_left h2
        simp only [if_neg h1,if_neg h2,if_pos h3]
        rw [List.take_succ_cons,List.cons_append,ih]
        congr 2
        by_cases hk : k ∈ e.map (·.1)
        · simp only [hk,or_true,if_true]; rfl
        · simp only [hk,h2,or_self,if_false]; rfl
theorem insK_mem {k k' : Nm} {v : RV} : ∀ {e : List (Nm × RV)},k' ∈ (insK k v e).map (·.1) ↔ k' = k ∨ k' ∈ e.map (·.1)
  | [] => by simp [insK]
  | p :: e => by
    have ih := insK_mem (k := k) (k' := k') (v := v) (e := e)
    simp only [insK]
    split
    · simp
    · split
      · rename_i h; subst h; simp
      · simp only [List.map_cons,List.mem_cons,ih]
        constructor
        · rintro (h | h | h)
          · exact .inr (.inl h)
          · exact .inl h
          · exact .inr (.inr h)
        · rintro (h | h | h)
          · exact .inr (.inl h)
          · exact .inl h
          · exact .inr (.inr h)
theorem insK_inc {k : Nm} {v : RV} : ∀ {e : List (Nm × RV)},Inc (e.map (·.1)) → Inc ((insK k v e).map (·.1))
  | [],_ => by simp [insK,Inc]
  | p :: e,hi => by
    have hi' := List.pairwise_cons.1 hi
    simp only [insK]
    by_cases h1 : ltN k p.1
    · rw [if_pos h1]
      refine List.pairwise_cons.2 ⟨fun x hx => ?_,hi⟩
      rcases List.mem_cons.1 hx with rfl | hx
      · exact h1
      · exact h1.trans (hi'.1 x hx)
    · by_cases h2 : k = p.1
      · subst h2; rw [if_neg h1,if_pos rfl]; exact hi
      · have h3 : ltN p.1 k := ((ltN_tri k p.1).resolve_left h1).resolve_left h2
        rw [if_neg h1,if_neg h2]
        refine List.pairwise_cons.2 ⟨fun x hx => ?_,insK_inc hi'.2⟩
        rcases insK_mem.1 hx with rfl | hx
        · exact h3
        · exact hi'.1 x hx
section
variable {Z : Fz}
set_option maxHeartbeats 4000000 in
theorem f76 {e : List (Nm × RV)} {v : RV} {ca cv : List Value} (k : Nm) (ha : RVc Z (mkM e) ca) (hv : RVc Z v cv) (hi : Inc (e.map (·.1))) (hn : e.length ≤ 1048576) :
    Tr Tryz.prog 76 #[.agg ca.toArray,.string k,.agg cv.toArray] Z [] fun x Z' H' => Z = Z' ∧ ∃ kv lv lc Hk Hl,x = .agg #[.int .i64 6,.int .i64 0,.float .f64 0,.string ⟨#[]⟩,kv,lv] ∧ H' = Hk ++ Hl ∧ Sl 9 1 kv (((insK k v e).map (·.1)).map .string) Hk ∧ Sl 37 6 lv lc Hl ∧ RVl Z ((insK k v e).map (·.2)) lc := by
  obtain ⟨vk,vn,vf,vs,vks,vl⟩ := v
  have hv' := hv
  have ha' := ha
  simp only [RVc] at ha hv
  obtain ⟨kv₁,lv₁,lc₁,rfl,r₁,r₂,r₃⟩ := ha
  obtain ⟨kv₂,lv₂,lc₂,rfl,q₁,q₂,q₃⟩ := hv
  obtain ⟨a₁,c₁,rfl⟩ := r₁.sl
  obtain ⟨a₂,c₂,rfl⟩ := r₂.sl
  obtain ⟨a₃,c₃,rfl⟩ := q₁.sl
  obtain ⟨a₄,c₄,rfl⟩ := q₂.sl
  have hle := lbN_le k (e.map (·.1))
  refine Tr.introk Tryz.func76 rfl Tryz.ntmps76 Tryz.results76 rfl ?_
  refine gn ?_; intro b3
  refine gn ?_; intro b5
  refine gn ?_; intro b6
  refine gn ?_
  have h44 : Pu Tryz.prog 44 #[.agg #[.int .i64 6,.int .i64 0,.float .f64 0,.string ⟨#[]⟩,.slice a₁ (e.map (·.1)).length c₁,.slice a₂ (e.map (·.2)).length c₂],.string k] Z fun x => ∃ b,x = .tuple #[.int .i64 ((lbN k (e.map (·.1)) : Nat) : Int),.bool b] ∧ (b = true ↔ k ∈ e.map (·.1)) :=
    f44 k ha' hi (show (e.map (·.1)).length ≤ _ by rw [List.length_map]; omega)
  refine cp h44 ?_
  rintro _ ⟨bf,rfl,hbf⟩
  have hle' : lbN k (e.map (·.1)) ≤ e.length := by simpa using hle
  have hc1 := r₁.cap
  have hc2 := r₂.cap
  have l1 : (e.map (·.1)).length = e.length := by simp
  have l2 : (e.map (·.2)).length = e.length := by simp
  have lr := r₃.len
  have one₁ : ∀ u ∈ (e.map (·.1)).map Value.string,u.oneCell' = true := fun u hu => by obtain ⟨x,_,rfl⟩ := List.mem_map.1 hu; rfl
  have one₂ := r₃.one
  have hkeys : ∀ i',i' = lbN k (e.map (·.1)) + (if k ∈ e.map (·.1) then 1 else 0) → ((insK k (.mk vk vn vf vs vks vl) e).map (·.1)).map Value.string = [] ++ ((e.map (·.1)).map Value.string).take (lbN k (e.map (·.1)) * 1) ++ [Value.string k] ++ ((e.map (·.1)).map Value.string).drop (i' * 1) := fun i' h => by
    rw [lbN_ins hi,← h]
    simp [List.map_take,List.map_drop]
  have hvals : ∀ i',i' = lbN k (e.map (·.1)) + (if k ∈ e.map (·.1) then 1 else 0) → RVl Z ((insK k (.mk vk vn vf vs vks vl) e).map (·.2)) ([] ++ lc₁.take (lbN k (e.map (·.1)) * 6) ++ [.int .i64 vk,.int .i64 vn,.float .f64 vf,.string vs,.slice a₃ vks.length c₃,.slice a₄ vl.length c₄] ++ lc₁.drop (i' * 6)) := fun i' h => by
    rw [lbN_ins hi,← h]
    have h1 := r₃.take (lbN k (e.map (·.1)))
    have h2 := r₃.drop i'
    have h3 : RVl Z [RV.mk vk vn vf vs vks vl] [.int .i64 vk,.int .i64 vn,.float .f64 vf,.string vs,.slice a₃ vks.length c₃,.slice a₄ vl.length c₄] := by
      simp only [RVl]; exact ⟨_,[],by simp,hv',rfl⟩
    have := (h2.app' (h3.app' h1))
    simpa [List.map_take,List.map_drop] using this
  refine gn ?_; intro b9
  refine gn ?_
  refine WP.drawS [(b9,cl [.int .i64 6,.int .i64 0,.float .f64 0,.string ⟨#[]⟩,.slice none 0 0,.slice none 0 0] 37),(b6,cl [.int .i64 0,.int .i64 0,.float .f64 0,.string ⟨#[]⟩,.slice none 0 0,.slice none 0 0] 37),(b5,cl [.int .i64 vk,.int .i64 vn,.float .f64 vf,.string vs,.slice a₃ vks.length c₃,.slice a₄ vl.length c₄] 37),(b3,cl [.int .i64 6,.int .i64 0,.float .f64 0,.string ⟨#[]⟩,.slice a₁ (e.map (·.1)).length c₁,.slice a₂ (e.map (·.2)).length c₂] 37)] [] 7 mo (by decide +kernel) (prm rfl) ?_
  refine gn ?_
  refine o_sliceH (j := lbN k (e.map (·.1))) rfl rfl rfl (by omega) ?_
  refine oap (Sl.nil : Sl 9 1 (.slice none 0 0) [] []) rfl rfl rfl ((r₁.pre hle).mono fun _ _ h => ⟨.inl h.1⟩) (fun u hu => one₁ u (List.mem_of_mem_take hu)) (by omega) (by simp; omega) ?_
  intro kv1 Hk1 hk1
  haveI := hk1.one
  refine r_two [] ?_
  refine gn ?_
  refine WP.drawS [(b9,cl [.int .i64 6,.int .i64 0,.float .f64 0,.string ⟨#[]⟩,kv1,.slice none 0 0] 37),(b6,cl [.int .i64 0,.int .i64 0,.float .f64 0,.string ⟨#[]⟩,.slice none 0 0,.slice none 0 0] 37),(b5,cl [.int .i64 vk,.int .i64 vn,.float .f64 vf,.string vs,.slice a₃ vks.length c₃,.slice a₄ vl.length c₄] 37),(b3,cl [.int .i64 6,.int .i64 0,.float .f64 0,.string ⟨#[]⟩,.slice a₁ (e.map (·.1)).length c₁,.slice a₂ (e.map (·.2)).length c₂] 37)] Hk1 7 mo (by decide +kernel) (prm rfl) ?_
  refine gn ?_
  refine o_sliceH (j := lbN k (e.map (·.1))) rfl rfl rfl (by omega) ?_
  refine oap (Sl.nil : Sl 37 6 (.slice none 0 0) [] []) rfl rfl rfl ((r₂.pre (by omega)).mono fun _ _ h => ⟨.inl h.1⟩) (fun u hu => one₂ u (List.mem_of_mem_take hu)) (by omega) (by simp; omega) ?_
  intro lv1 Hl1 hl1
  haveI := hl1.one
  refine r_two [] ?_
  refine gn ?_; intro vb
  refine oap hk1 rfl rfl rfl (Rs.cells (inferInstance : Mem false _ _ _ vb (cl _ 9)) rfl (Nat.le_refl 1)) (by simp [Value.oneCell']) (by omega) (by simp; omega) ?_
  intro kv2 Hk2 hk2
  haveI := hk2.one
  refine gn ?_; intro vc
  refine oap hl1 rfl rfl rfl (Rs.cells (inferInstance : Mem false _ _ _ vc (cl _ 37)) rfl (Nat.le_refl 1)) (by simp [Value.oneCell']) (by omega) (by simp; omega) ?_
  intro lv2 Hl2 hl2
  haveI := hl2.one
  refine gn ?_
  cases bf with
  | true =>
    have hlt : lbN k (e.map (·.1)) < e.length := by
      have := (lbN_mem hi).1 (hbf.1 rfl)
      have := (List.getElem?_eq_some_iff.1 this).1
      omega
    refine gn ?_
    refine WP.only ((b9,cl [.int .i64 6,.int .i64 0,.float .f64 0,.string ⟨#[]⟩,kv2,lv2] 37) :: (b6,cl [.int .i64 0,.int .i64 0,.float .f64 0,.string ⟨#[]⟩,.slice none 0 0,.slice none 0 0] 37) :: (b5,cl [.int .i64 vk,.int .i64 vn,.float .f64 vf,.string vs,.slice a₃ vks.length c₃,.slice a₄ vl.length c₄] 37) :: (b3,cl [.int .i64 6,.int .i64 0,.float .f64 0,.string ⟨#[]⟩,.slice a₁ (e.map (·.1)).length c₁,.slice a₂ (e.map (·.2)).length c₂] 37) :: (Hk2 ++ Hl2)) ?_
    refine WP.drawS [(b9,cl [.int .i64 6,.int .i64 0,.float .f64 0,.string ⟨#[]⟩,kv2,lv2] 37),(b6,cl [.int .i64 0,.int .i64 0,.float .f64 0,.string ⟨#[]⟩,.slice none 0 0,.slice none 0 0] 37),(b5,cl [.int .i64 vk,.int .i64 vn,.float .f64 vf,.string vs,.slice a₃ vks.length c₃,.slice a₄ vl.length c₄] 37),(b3,cl [.int .i64 6,.int .i64 0,.float .f64 0,.string ⟨#[]⟩,.slice a₁ (e.map (·.1)).length c₁,.slice a₂ (e.map (·.2)).length c₂] 37)] (Hk2 ++ Hl2) 7 mo (by decide +kernel) (prm rfl) ?_
    refine gn ?_
    refine o_sliceL (j := lbN k (e.map (·.1)) + 1) rfl rfl rfl (by omega) ?_
    refine oap hk2 rfl rfl rfl ((r₁.suf (by omega : lbN k (e.map (·.1)) + 1 ≤ (e.map (·.1)).length)).mono fun _ _ h => ⟨.inl h.1⟩) (fun u hu => one₁ u (List.mem_of_mem_drop hu)) (by omega) (by simp; omega) ?_
    intro kv3 Hk3 hk3
    haveI := hk3.one
    refine r_two [] ?_
    refine gn ?_
    refine WP.only ((b9,cl [.int .i64 6,.int .i64 0,.float .f64 0,.string ⟨#[]⟩,kv3,lv2] 37) :: (b6,cl [.int .i64 0,.int .i64 0,.float .f64 0,.string ⟨#[]⟩,.slice none 0 0,.slice none 0 0] 37) :: (b5,cl [.int .i64 vk,.int .i64 vn,.float .f64 vf,.string vs,.slice a₃ vks.length c₃,.slice a₄ vl.length c₄] 37) :: (b3,cl [.int .i64 6,.int .i64 0,.float .f64 0,.string ⟨#[]⟩,.slice a₁ (e.map (·.1)).length c₁,.slice a₂ (e.map (·.2)).length c₂] 37) :: (Hk3 ++ Hl2)) ?_
    refine WP.drawS [(b9,cl [.int .i64 6,.int .i64 0,.float .f64 0,.string ⟨#[]⟩,kv3,lv2] 37),(b6,cl [.int .i64 0,.int .i64 0,.float .f64 0,.string ⟨#[]⟩,.slice none 0 0,.slice none 0 0] 37),(b5,cl [.int .i64 vk,.int .i64 vn,.float .f64 vf,.string vs,.slice a₃ vks.length c₃,.slice a₄ vl.length c₄] 37),(b3,cl [.int .i64 6,.int .i64 0,.float .f64 0,.string ⟨#[]⟩,.slice a₁ (e.map (·.1)).length c₁,.slice a₂ (e.map (·.2)).length c₂] 37)] (Hk3 ++ Hl2) 7 mo (by decide +kernel) (prm rfl) ?_
    refine gn ?_
    refine o_sliceL (j := lbN k (e.map (·.1)) + 1) rfl rfl rfl (by omega) ?_
    refine oap hl2 rfl rfl rfl ((r₂.suf (by omega : lbN k (e.map (·.1)) + 1 ≤ (e.map (·.2)).length)).mono fun _ _ h => ⟨.inl h.1⟩) (fun u hu => one₂ u (List.mem_of_mem_drop hu)) (by omega) (by simp; omega) ?_
    intro lv3 Hl3 hl3
    haveI := hl3.one
    refine r_two [] ?_
    refine gn ?_
    refine o_storeA (vs := [.int .i64 6,.int .i64 0,.float .f64 0,.string ⟨#[]⟩,kv3,lv3]) rfl rfl rfl rfl (al1 (al1 (al1 (al1 (al1 (al1 rfl)))))) ?_
    refine gn ?_
    refine fkC (vs := [.int .i64 6,.int .i64 0,.float .f64 0,.string ⟨#[]⟩,kv3,lv3]) (A := Hk3 ++ Hl3) rfl ⟨rfl,kv3,lv3,_,Hk3,Hl3,rfl,rfl,?_,hl3,?_⟩
    · rw [hkeys (lbN k (e.map (·.1)) + 1) (by rw [if_pos (hbf.1 rfl)])]; exact hk3
    · exact hvals (lbN k (e.map (·.1)) + 1) (by rw [if_pos (hbf.1 rfl)])
  | false =>
    refine gn ?_
    refine WP.only ((b9,cl [.int .i64 6,.int .i64 0,.float .f64 0,.string ⟨#[]⟩,kv2,lv2] 37) :: (b6,cl [.int .i64 0,.int .i64 0,.float .f64 0,.string ⟨#[]⟩,.slice none 0 0,.slice none 0 0] 37) :: (b5,cl [.int .i64 vk,.int .i64 vn,.float .f64 vf,.string vs,.slice a₃ vks.length c₃,.slice a₄ vl.length c₄] 37) :: (b3,cl [.int .i64 6,.int .i64 0,.float .f64 0,.string ⟨#[]⟩,.slice a₁ (e.map (·.1)).length c₁,.slice a₂ (e.map (·.2)).length c₂] 37) :: (Hk2 ++ Hl2)) ?_
    refine WP.drawS [(b9,cl [.int .i64 6,.int .i64 0,.float .f64 0,.string ⟨#[]⟩,kv2,lv2] 37),(b6,cl [.int .i64 0,.int .i64 0,.float .f64 0,.string ⟨#[]⟩,.slice none 0 0,.slice none 0 0] 37),(b5,cl [.int .i64 vk,.int .i64 vn,.float .f64 vf,.string vs,.slice a₃ vks.length c₃,.slice a₄ vl.length c₄] 37),(b3,cl [.int .i64 6,.int .i64 0,.float .f64 0,.string ⟨#[]⟩,.slice a₁ (e.map (·.1)).length c₁,.slice a₂ (e.map (·.2)).length c₂] 37)] (Hk2 ++ Hl2) 7 mo (by decide +kernel) (prm rfl) ?_
    refine gn ?_
    refine o_sliceL (j := lbN k (e.map (·.1))) rfl rfl rfl (by omega) ?_
    refine oap hk2 rfl rfl rfl ((r₁.suf (by omega : lbN k (e.map (·.1)) ≤ (e.map (·.1)).length)).mono fun _ _ h => ⟨.inl h.1⟩) (fun u hu => one₁ u (List.mem_of_mem_drop hu)) (by omega) (by simp; omega) ?_
    intro kv3 Hk3 hk3
    haveI := hk3.one
    refine r_two [] ?_
    refine gn ?_
    refine WP.only ((b9,cl [.int .i64 6,.int .i64 0,.float .f64 0,.string ⟨#[]⟩,kv3,lv2] 37) :: (b6,cl [.int .i64 0,.int .i64 0,.float .f64 0,.string ⟨#[]⟩,.slice none 0 0,.slice none 0 0] 37) :: (b5,cl [.int .i64 vk,.int .i64 vn,.float .f64 vf,.string vs,.slice a₃ vks.length c₃,.slice a₄ vl.length c₄] 37) :: (b3,cl [.int .i64 6,.int .i64 0,.float .f64 0,.string ⟨#[]⟩,.slice a₁ (e.map (·.1)).length c₁,.slice a₂ (e.map (·.2)).length c₂] 37) :: (Hk3 ++ Hl2)) ?_
    refine WP.drawS [(b9,cl [.int .i64 6,.int .i64 0,.float .f64 0,.string ⟨#[]⟩,kv3,lv2] 37),(b6,cl [.int .i64 0,.int .i64 0,.float .f64 0,.string ⟨#[]⟩,.slice none 0 0,.slice none 0 0] 37),(b5,cl [.int .i64 vk,.int .i64 vn,.float .f64 vf,.string vs,.slice a₃ vks.length c₃,.slice a₄ vl.length c₄] 37),(b3,cl [.int .i64 6,.int .i64 0,.float .f64 0,.string ⟨#[]⟩,.slice a₁ (e.map (·.1)).length c₁,.slice a₂ (e.map (·.2)).length c₂] 37)] (Hk3 ++ Hl2) 7 mo (by decide +kernel) (prm rfl) ?_
    refine gn ?_
    refine o_sliceL (j := lbN k (e.map (·.1))) rfl rfl rfl (by omega) ?_
    refine oap hl2 rfl rfl rfl ((r₂.suf (by omega : lbN k (e.map (·.1)) ≤ (e.map (·.2)).length)).mono fun _ _ h => ⟨.inl h.1⟩) (fun u hu => one₂ u (List.mem_of_mem_drop hu)) (by omega) (by simp; omega) ?_
    intro lv3 Hl3 hl3
    haveI := hl3.one
    refine r_two [] ?_
    refine gn ?_
    refine o_storeA (vs := [.int .i64 6,.int .i64 0,.float .f64 0,.string ⟨#[]⟩,kv3,lv3]) rfl rfl rfl rfl (al1 (al1 (al1 (al1 (al1 (al1 rfl)))))) ?_
    refine gn ?_
    refine fkC (vs := [.int .i64 6,.int .i64 0,.float .f64 0,.string ⟨#[]⟩,kv3,lv3]) (A := Hk3 ++ Hl3) rfl ⟨rfl,kv3,lv3,_,Hk3,Hl3,rfl,rfl,?_,hl3,?_⟩
    · rw [hkeys (lbN k (e.map (·.1))) (by rw [if_neg fun h => by cases hbf.2 h]; rfl)]; exact hk3
    · exact hvals (lbN k (e.map (·.1))) (by rw [if_neg fun h => by cases hbf.2 h]; rfl)
end
end Go.Ux
namespace Go.Ux
open Go Go.Proofs
set_option maxRecDepth 20000
attribute [local irreducible] WP Tr
theorem Rs.lenk {R : Nat → Obj → Prop} {k n : Nat} {v : Value} {cs : List Value} (h : Rs R k v n cs) : cs.length = n * k := by
 cases h with
 | nil => simp
 | emp => simp
 | row => assumption
theorem RVc.six {Z : Fz} {r : RV} {cs : List Value} (h : RVc Z r cs) : ∃ (k n : Int) (f : Nat) (s : ByteArray) (a a' : Option Addr) (m c m' c' : Nat),cs = [.int .i64 k,.int .i64 n,.float .f64 f,.string s,.slice a m c,.slice a' m' c'] := by
 obtain ⟨rk,rn,rf,rs,rks,rl⟩ := r
 simp only [RVc] at h
 obtain ⟨_,_,_,rfl,q₁,q₂,_⟩ := h
 obtain ⟨_,_,rfl⟩ := q₁.sl
 obtain ⟨_,_,rfl⟩ := q₂.sl
 exact ⟨_,_,_,_,_,_,_,_,_,_,rfl⟩
theorem eltV {Z : Fz} {a : Option Addr} {n c i : Nat} {lc : List Value} {l : List RV} (hr : Rs (inQ Z 37) 6 (.slice a n c) n lc) (hl : RVl Z l lc) (hi : i < n) :
  ∃ b off xs r cells,a = some ⟨b,off,none⟩ ∧ Rdz Z b (cl xs 37) ∧ l[i]? = some r ∧ (xs.drop (off + i * 6)).take 6 = cells ∧ RVc Z r cells := by
 have hlen := hl.len
 cases hr with
 | nil => omega
 | emp => omega
 | row b off n c U xs ds h hd hll hn =>
  obtain ⟨h,ys,e⟩ := h
  cases e
  have hil : i < l.length := by omega
  refine ⟨b,off,_,l[i],_,rfl,h,by simp [hil],rfl,?_⟩
  have := hl.at (i := i) (r := l[i]) (by simp [hil])
  rw [← hd,List.drop_take,List.take_take,List.drop_drop] at this
  rwa [Nat.min_eq_left (by omega)] at this
theorem clean_take {l : List RV} {r : RV} {i : Nat} (h : l[i]? = some r) : cleanL (l.take (i + 1)) = cleanL (l.take i) ++ [r.clean] := by
 induction l generalizing i with
 | nil => simp at h
 | cons x l ih =>
  cases i with
  | zero => simp at h; subst h; simp [cleanL]
  | succ i => simp only [List.getElem?_cons_succ] at h; simp only [List.take_succ_cons,cleanL,ih h]; rfl
theorem sz_at : ∀ {l : List RV} {i : Nat} {r : RV},l[i]? = some r → r.sz ≤ szV l
 | [],_,_,h => by simp at h
 | x :: l,i,r,h => by
  simp only [szV]
  cases i with
  | zero => simp at h; subst h; omega
  | succ i => simp only [List.getElem?_cons_succ] at h; have := sz_at h; omega
theorem RV.sz_pos (r : RV) : 1 ≤ r.sz := by cases r; simp only [RV.sz]; omega
theorem len_szV : ∀ l : List RV,l.length ≤ szV l
 | [] => Nat.le_refl _
 | r :: l => by have := len_szV l; have := r.sz_pos; simp only [List.length_cons,szV]; omega
theorem cleanL_len : ∀ l : List RV,(cleanL l).length = l.length
 | [] => rfl
 | r :: l => by simp [cleanL,cleanL_len l]
def E23 (N : Nat) : Prop := ∀ (r : RV) (cs : List Value) (Z : Fz),r.sz < N → r.sz ≤ 1048576 → RVc Z r cs → Gr Tryz.prog 23 #[.agg cs.toArray] Z fun x Z' => ∃ cs',x = .agg cs'.toArray ∧ RVc Z' r.clean cs'
section
variable {Z : Fz}
set_option maxHeartbeats 4000000 in
theorem f42 {N : Nat} (ih : E23 N) {a : Option Addr} {c : Nat} {l : List RV} {lc : List Value} (hr : Rs (inQ Z 37) 6 (.slice a l.length c) l.length lc) (hl : RVl Z l lc) (hN : szV l < N) (hs : szV l ≤ 1048576) :
  Gr Tryz.prog 42 #[.slice a l.length c] Z fun x Z' => ∃ lc',Rs (inQ Z' 37) 6 x l.length lc' ∧ RVl Z' (cleanL l) lc' := by
 have hll := len_szV l
 refine Gr.intro Tryz.func42 rfl Tryz.ntmps42 Tryz.results42 rfl ?_
 refine gn ?_
 refine o_makeSlice0 (e := 37) (k := 6) (c := l.length) rfl rfl (by omega) ?_
 intro lv Hl hl0
 haveI := hl0.one
 refine gn ?_
 rw [List.append_nil]
 refine WP.loopK (3 :: 5 :: List.range' 11 10) (fun m g Z' H' => ∃ (i : Nat) (lv' : Value) (lc' : List Value),g 11 = .int .i64 (i : Int) ∧ g 3 = lv' ∧ i ≤ l.length ∧ m = l.length - i ∧ Sl 37 6 lv' lc' H' ∧ RVl Z' (cleanL (l.take i)) lc') l.length ⟨0,lv,[],rfl,rfl,by omega,by omega,hl0,by simp [cleanL,RVl]⟩ ?_
 rintro m g Z' H' hz ⟨i,lv',lc',h11,h3,hi,rfl,hl',hc'⟩
 haveI := hl'.one
 refine WP.pin 11 h11 ?_
 refine WP.pin 3 h3 ?_
 by_cases hin : i < l.length
 ·obtain ⟨b,off,xs,r,cells,rfl,hb,hat,hcl,hrc⟩ := eltV (hr.mono fun _ _ h => inQ.le hz h) (hl.mono hz) hin
  haveI : Zf Z' b (cl xs 37) := ⟨hb⟩
  obtain ⟨_,_,_,_,_,_,_,_,_,_,rfl⟩ := hrc.six
  have hsz := sz_at hat
  refine gn ?_
  refine o_indexAddr rfl rfl rfl hin ?_
  refine o_loadN rfl rfl hcl rfl ?_
  refine gn ?_; intro b5
  refine gn ?_
  refine cg (args := [.agg #[_,_,_,_,_,_]]) (ih r _ Z' (by omega) (by omega) hrc) ?_
  rintro _ Z2 hz2 ⟨cs',rfl,hcs'⟩
  have hcs := hcs'
  obtain ⟨_,_,_,_,_,_,_,_,_,_,rfl⟩ := hcs.six
  refine gn ?_; intro vb
  refine oap hl' rfl rfl rfl (Rs.cells (inferInstance : Mem false _ _ _ vb (cl _ 37)) rfl (Nat.le_refl 1)) (by simp [Value.oneCell']) (by omega) (by simp [hc'.len,cleanL_len]; omega) ?_
  intro lv2 Hl2 hl2
  haveI := hl2.one
  refine gn ?_
  refine ⟨bk,l.length - (i + 1),Hl2,_,by omega,spp,i + 1,lv2,_,rfl,rfl,by omega,rfl,hl2,?_⟩
  rw [clean_take hat]
  refine RVl.app' ?_ (hc'.mono hz2)
  simp only [RVl]
  exact ⟨_,[],by simp,hcs',rfl⟩
 ·have e1 : i = l.length := by omega
  subst e1
  rw [List.take_length] at hc'
  refine gn ?_
  refine fin1 fun Z'' hz'' hp => ?_
  obtain ⟨n,hn⟩ := hl'.frz hp
  have h1 := hn.lenk
  have h2 := hc'.len
  rw [cleanL_len] at h2
  have e : n = l.length := by omega
  subst e
  exact ⟨lc',hn.inQ,hc'.mono hz''⟩
theorem f76g {e : List (Nm × RV)} {v : RV} {ca cv : List Value} (k : Nm) (ha : RVc Z (mkM e) ca) (hv : RVc Z v cv) (hi : Inc (e.map (·.1))) (hn : e.length ≤ 1048576) :
  Gr Tryz.prog 76 #[.agg ca.toArray,.string k,.agg cv.toArray] Z fun x Z' => ∃ cs',x = .agg cs'.toArray ∧ RVc Z' (mkM (insK k v e)) cs' := by
 refine Tr.gr (f76 k ha hv hi hn) ?_
 rintro x Z' H' Z'' ⟨rfl,kv,lv,lc,Hk,Hl,rfl,rfl,hk,hl,hc⟩ _ hz hp
 obtain ⟨n1,q1⟩ := hk.frz fun p h => hp p (List.mem_append_left _ h)
 obtain ⟨n2,q2⟩ := hl.frz fun p h => hp p (List.mem_append_right _ h)
 have l1 := q1.lenk
 have l2 := q2.lenk
 have l3 := hc.len
 refine ⟨[.int .i64 6,.int .i64 0,.float .f64 0,.string ⟨#[]⟩,kv,lv],rfl,?_⟩
 simp only [RVc]
 have e1 : n1 = ((insK k v e).map (·.1)).length := by rw [List.length_map] at l1; omega
 have e2 : n2 = ((insK k v e).map (·.2)).length := by omega
 subst e1 e2
 exact ⟨kv,lv,lc,rfl,q1.inQ,q2.inQ,hc.mono hz⟩
def putM (z : List (Nm × RV)) : List (Nm × RV) := z.foldl (fun e p => insK p.1 p.2.clean e) []
theorem putM_snoc {z : List (Nm × RV)} {p : Nm × RV} : putM (z ++ [p]) = insK p.1 p.2.clean (putM z) := by simp [putM]
theorem cleanM_fold : ∀ (ks : List Nm) (l : List RV) (e : List (Nm × RV)),cleanM ks l e = (ks.zip l).foldl (fun e p => insK p.1 p.2.clean e) e
 | ks,[],e => by cases ks <;> simp [cleanM]
 | [],_ :: _,e => by simp [cleanM]
 | k :: ks,r :: l,e => by simp only [cleanM,List.zip_cons_cons,List.foldl_cons,cleanM_fold ks l]
theorem insK_len {k : Nm} {v : RV} : ∀ {e : List (Nm × RV)},(insK k v e).length ≤ e.length + 1
 | [] => by simp [insK]
 | p :: e => by
  have := insK_len (k := k) (v := v) (e := e)
  simp only [insK]
  split
  ·simp
  ·split
   ·simp
   ·simp only [List.length_cons]; omega
theorem putM_inc : ∀ (z : List (Nm × RV)),Inc ((putM z).map (·.1)) ∧ (putM z).length ≤ z.length := by
 have key : ∀ (z e : List (Nm × RV)),Inc (e.map (·.1)) → Inc ((z.foldl (fun e p => insK p.1 p.2.clean e) e).map (·.1)) ∧ (z.foldl (fun e p => insK p.1 p.2.clean e) e).length ≤ e.length + z.length := by
  intro z
  induction z with
  | nil => intro e h; exact ⟨h,by simp⟩
  | cons p z ih =>
   intro e h
   have := ih _ (insK_inc (k := p.1) (v := p.2.clean) h)
   refine ⟨this.1,Nat.le_trans this.2 ?_⟩
   have := insK_len (k := p.1) (v := p.2.clean) (e := e)
   simp only [List.length_cons]; omega
 intro z
 have := key z [] (by simp [Inc])
 simpa [putM] using this
theorem zip_at {ks : List Nm} {l : List RV} {i : Nat} {k : Nm} {r : RV} (hk : ks[i]? = some k) (hr : l[i]? = some r) : (ks.zip l)[i]? = some (k,r) := by
 rw [List.getElem?_zip_eq_some]; exact ⟨hk,hr⟩
set_option maxHeartbeats 4000000 in
theorem f43 {N : Nat} (ih : E23 N) {r : RV} {cs : List Value} (hr : RVc Z r cs) (hk6 : r.k = 6) (hN : r.sz ≤ N) (hs : r.sz ≤ 1048576) :
  Gr Tryz.prog 43 #[.agg cs.toArray] Z fun x Z' => ∃ cs',x = .agg cs'.toArray ∧ RVc Z' r.clean cs' := by
 obtain ⟨rk,rn,rf,rs,ks,l⟩ := r
 simp only [RV.k] at hk6
 subst hk6
 simp only [RVc] at hr
 obtain ⟨kv,lv,lc,rfl,h1,h2,h3⟩ := hr
 obtain ⟨a₁,c₁,rfl⟩ := h1.sl
 obtain ⟨a₂,c₂,rfl⟩ := h2.sl
 simp only [RV.sz] at hN hs
 have hll := len_szV l
 have hcl : (RV.mk 6 rn rf rs ks l).clean = mkM (putM (ks.zip l)) := by
  simp only [RV.clean]
  rw [cleanM_fold]; rfl
 rw [hcl]
 refine Gr.intro Tryz.func43 rfl Tryz.ntmps43 Tryz.results43 rfl ?_
 refine gn ?_; intro b1
 refine gn ?_; intro b2
 refine gn ?_; intro b3
 refine gn ?_
 have hz0 : (ks.zip l).length = min ks.length l.length := List.length_zip
 refine WP.loopK (4 :: List.range' 6 27) (fun m g Z' H' => ∃ (i : Nat) (ca : List Value),g 4 = .int .i64 (i : Int) ∧ i ≤ (ks.zip l).length ∧ m = (ks.zip l).length - i ∧ RVc Z' (mkM (putM ((ks.zip l).take i))) ca ∧ H' = [(b3,cl ca 37),(b2,cl [.int .i64 0,.int .i64 0,.float .f64 0,.string ⟨#[]⟩,.slice none 0 0,.slice none 0 0] 37),(b1,cl [.int .i64 6,.int .i64 rn,.float .f64 rf,.string rs,.slice a₁ ks.length c₁,.slice a₂ l.length c₂] 37)]) (ks.zip l).length ⟨0,_,rfl,by omega,by omega,?_,rfl⟩ ?_
 ·simp only [RVc]
  exact ⟨_,_,[],rfl,.nil 0,.nil 0,rfl⟩
 rintro m g Z' H' hz ⟨i,ca,h4,hi,rfl,hca,rfl⟩
 have hca' := hca
 obtain ⟨ck,cn,cf,cs₀,ca₁,ca₂,cm₁,cc₁,cm₂,cc₂,rfl⟩ := hca'.six
 refine WP.pin 4 h4 ?_
 by_cases hin : i < (ks.zip l).length
 ·have hik : i < ks.length := by omega
  have hil : i < l.length := by omega
  obtain ⟨k,hk⟩ : ∃ k,ks[i]? = some k := ⟨ks[i],by simp [hik]⟩
  obtain ⟨b,off,xs,rfl,hb,hbk⟩ := eltS (h1.mono fun _ _ h => inQ.le hz h) hk
  obtain ⟨b',off',xs',r,cells,rfl,hb',hat,hcl,hrc⟩ := eltV (h2.mono fun _ _ h => inQ.le hz h) (h3.mono hz) hil
  haveI : Zf Z' b (cl xs 9) := ⟨hb⟩
  haveI : Zf Z' b' (cl xs' 37) := ⟨hb'⟩
  have hsz := sz_at hat
  have hrc' := hrc
  obtain ⟨_,_,_,_,_,_,_,_,_,_,rfl⟩ := hrc'.six
  have hput : putM ((ks.zip l).take (i + 1)) = insK k r.clean (putM ((ks.zip l).take i)) := by
   rw [List.take_add_one,zip_at hk hat]
   exact putM_snoc
  have hpi := putM_inc ((ks.zip l).take i)
  refine gn ?_
  refine WP.drawS [(b3,cl [.int .i64 ck,.int .i64 cn,.float .f64 cf,.string cs₀,.slice ca₁ cm₁ cc₁,.slice ca₂ cm₂ cc₂] 37),(b2,cl [.int .i64 0,.int .i64 0,.float .f64 0,.string ⟨#[]⟩,.slice none 0 0,.slice none 0 0] 37),(b1,cl [.int .i64 6,.int .i64 rn,.float .f64 rf,.string rs,.slice (some ⟨b,off,none⟩) ks.length c₁,.slice (some ⟨b',off',none⟩) l.length c₂] 37)] [] 13 mo (by decide +kernel) (prm rfl) ?_
  refine gn ?_
  refine o_indexAddr (j := i) rfl rfl rfl hik ?_
  refine gn ?_
  refine o_indexAddr (j := i) rfl rfl rfl hil ?_
  refine o_loadN rfl rfl hcl rfl ?_
  refine cg (args := [.agg #[_,_,_,_,_,_]]) (ih r _ Z' (by omega) (by omega) hrc) ?_
  rintro _ Z2 hz2 ⟨cv,rfl,hcv⟩
  have hcv' := hcv
  obtain ⟨_,_,_,_,_,_,_,_,_,_,rfl⟩ := hcv'.six
  refine cg (args := [.agg #[_,_,_,_,_,_],.string k,.agg #[_,_,_,_,_,_]]) (f76g k (hca.mono hz2) hcv hpi.1 (by have := hpi.2; have := List.length_take_le i (ks.zip l); omega)) ?_
  rintro _ Z3 hz3 ⟨cm,rfl,hcm⟩
  have hcm' := hcm
  obtain ⟨mk,mn,mf,ms₀,ma₁,ma₂,mm₁,mc₁,mm₂,mc₂,rfl⟩ := hcm'.six
  refine r_two [] ?_
  refine gn ?_
  exact ⟨bk,(ks.zip l).length - (i + 1),[(b3,cl [.int .i64 mk,.int .i64 mn,.float .f64 mf,.string ms₀,.slice ma₁ mm₁ mc₁,.slice ma₂ mm₂ mc₂] 37),(b2,cl [.int .i64 0,.int .i64 0,.float .f64 0,.string ⟨#[]⟩,.slice none 0 0,.slice none 0 0] 37),(b1,cl [.int .i64 6,.int .i64 rn,.float .f64 rf,.string rs,.slice (some ⟨b,off,none⟩) ks.length c₁,.slice (some ⟨b',off',none⟩) l.length c₂] 37)],_,by omega,spp,i + 1,_,rfl,by omega,rfl,by rw [hput]; exact hcm,rfl⟩
 ·have e1 : i = (ks.zip l).length := by omega
  subst e1
  rw [List.take_length] at hca
  by_cases hik : (ks.zip l).length < ks.length
  ·have hil : ¬ (ks.zip l).length < l.length := by omega
   refine gn ?_
   exact finC1 (vs := [.int .i64 ck,.int .i64 cn,.float .f64 cf,.string cs₀,.slice ca₁ cm₁ cc₁,.slice ca₂ cm₂ cc₂]) rfl fun Z'' hz'' _ => ⟨_,rfl,hca.mono hz''⟩
  ·refine gn ?_
   exact finC1 (vs := [.int .i64 ck,.int .i64 cn,.float .f64 cf,.string cs₀,.slice ca₁ cm₁ cc₁,.slice ca₂ cm₂ cc₂]) rfl fun Z'' hz'' _ => ⟨_,rfl,hca.mono hz''⟩
theorem RVc.flat {k n : Int} {f : Nat} {s : ByteArray} : RVc Z (.mk k n f s [] []) [.int .i64 k,.int .i64 n,.float .f64 f,.string s,.slice none 0 0,.slice none 0 0] := by
 simp only [RVc]
 exact ⟨_,_,[],rfl,.nil 0,.nil 0,rfl⟩
set_option maxHeartbeats 4000000 in
theorem f23 : ∀ N,E23 N
 | 0 => fun r cs Z h => by omega
 | N + 1 => by
  rintro ⟨rk,rn,rf,rs,ks,l⟩ cs Z hN hs hr
  have hr' := hr
  simp only [RVc] at hr
  obtain ⟨kv,lv,lc,rfl,h1,h2,h3⟩ := hr
  obtain ⟨a₁,c₁,rfl⟩ := h1.sl
  obtain ⟨a₂,c₂,rfl⟩ := h2.sl
  simp only [RV.sz] at hN hs
  refine Gr.intro Tryz.func23 rfl Tryz.ntmps23 Tryz.results23 rfl ?_
  refine gn ?_; intro b1
  refine gn ?_; intro b2
  simp only [RV.clean]
  by_cases e1 : rk = 1
  ·by_cases e0 : rn = 0
   ·refine gn ?_
    rw [if_pos e1,if_pos e0]
    exact finC1 (vs := [.int .i64 1,.int .i64 0,.float .f64 0,.string ⟨#[]⟩,.slice none 0 0,.slice none 0 0]) rfl fun Z'' hz'' _ => ⟨_,rfl,.flat⟩
   ·refine gn ?_
    rw [if_pos e1,if_neg e0]
    exact finC1 (vs := [.int .i64 1,.int .i64 1,.float .f64 0,.string ⟨#[]⟩,.slice none 0 0,.slice none 0 0]) rfl fun Z'' hz'' _ => ⟨_,rfl,.flat⟩
  rw [if_neg e1]
  by_cases e2 : rk = 2
  ·refine gn ?_
   rw [if_pos e2]
   exact finC1 (vs := [.int .i64 2,.int .i64 rn,.float .f64 0,.string ⟨#[]⟩,.slice none 0 0,.slice none 0 0]) rfl fun Z'' hz'' _ => ⟨_,rfl,.flat⟩
  rw [if_neg e2]
  by_cases e3 : rk = 3
  ·refine gn ?_
   rw [if_pos e3]
   exact finC1 (vs := [.int .i64 3,.int .i64 0,.float .f64 rf,.string ⟨#[]⟩,.slice none 0 0,.slice none 0 0]) rfl fun Z'' hz'' _ => ⟨_,rfl,.flat⟩
  rw [if_neg e3]
  by_cases e4 : rk = 4
  ·refine gn ?_
   rw [if_pos e4]
   exact finC1 (vs := [.int .i64 4,.int .i64 0,.float .f64 0,.string rs,.slice none 0 0,.slice none 0 0]) rfl fun Z'' hz'' _ => ⟨_,rfl,.flat⟩
  rw [if_neg e4]
  by_cases e5 : rk = 5
  ·refine gn ?_
   refine cg (args := [.slice a₂ l.length c₂]) (f42 (f23 N) h2 h3 (by omega) (by omega)) ?_
   rintro v Z2 hz2 ⟨lc',q1,q2⟩
   haveI := q1.one
   rw [if_pos e5]
   refine gn ?_
   refine o_storeA (vs := [.int .i64 5,.int .i64 0,.float .f64 0,.string ⟨#[]⟩,.slice none 0 0,v]) rfl rfl rfl rfl (al1 (al1 (al1 (al1 (al1 (al1 rfl)))))) ?_
   refine gn ?_
   exact finC1 (vs := [.int .i64 5,.int .i64 0,.float .f64 0,.string ⟨#[]⟩,.slice none 0 0,v]) rfl fun Z'' hz'' _ => ⟨_,rfl,by
    simp only [RVc,cleanL_len]
    exact ⟨_,_,lc',rfl,.nil 0,q1.mono fun b o h => inQ.le hz'' h,q2.mono hz''⟩⟩
  rw [if_neg e5]
  by_cases e6 : rk = 6
  ·refine gn ?_
   subst e6
   refine cg (args := [.agg #[_,_,_,_,_,_]]) (f43 (f23 N) hr' rfl (by simp only [RV.sz]; omega) (by simp only [RV.sz]; omega)) ?_
   rintro _ Z2 hz2 ⟨cm,rfl,hcm⟩
   have hcm' := hcm
   obtain ⟨mk,mn,mf,ms₀,ma₁,ma₂,mm₁,mc₁,mm₂,mc₂,rfl⟩ := hcm'.six
   refine gn ?_
   simp only [RV.clean] at hcm
   exact finC1 (vs := [.int .i64 mk,.int .i64 mn,.float .f64 mf,.string ms₀,.slice ma₁ mm₁ mc₁,.slice ma₂ mm₂ mc₂]) rfl fun Z'' hz'' _ => ⟨_,rfl,hcm.mono hz''⟩
  rw [if_neg e6]
  refine gn ?_
  exact finC1 (vs := [.int .i64 0,.int .i64 0,.float .f64 0,.string ⟨#[]⟩,.slice none 0 0,.slice none 0 0]) rfl fun Z'' hz'' _ => ⟨_,rfl,.flat⟩
end
end Go.Ux
namespace Go.Ux
open Go Go.Proofs
set_option maxRecDepth 20000
attribute [local irreducible] WP Tr
def T93 (N : Nat) : Prop := ∀ (s : FS) (b : Nat) (U : List Nm) (Z : Fz) (sc sb lb mb eb nb : Nat),s.sz < N → SR Z s b → s.Wf U → U.length ≤ 1073741824 → s.cnt ≤ 68719476736 → Sch Z sc sb lb mb eb → Z nb = some (cl [.string nmD] 9) →
 Gr Tryz.prog 93 #[pt b,pt sc,.agg (tref nb).toArray] Z fun v Z' => ∃ b',v = pt b' ∧ SR Z' s b'
section
variable {Z : Fz} {sc sb lb mb eb nb : Nat}
set_option maxHeartbeats 4000000 in
theorem f133 {N : Nat} (ih : T93 N) (b : Nat) (a : Option Addr) (n c : Nat) (w : Value) (ms : List Nm) (ch : Ch) (cs : List Value) (U : List Nm) [Zf Z b (cl [w,.slice a n c] 281)] (hr : Rs (inT Z 331) 5 (.slice a n c) n cs) (hc : SC Z ch cs) (hw : (FS.mk ms ch).Wf U) (hU : U.length ≤ 1073741824) (hN : szC ch < N) (hC : cntC ch ≤ 68719476736)
  (hsc : Sch Z sc sb lb mb eb) (hnb : Z nb = some (cl [.string nmD] 9)) :
  Gr Tryz.prog 133 #[.pointer (some ⟨b,1,none⟩),pt sc,.agg (tref nb).toArray] Z fun v Z' => ∃ b' ov n' cs',v = pt b' ∧ Z' b' = some (cl [ov] 279) ∧ Rs (inT Z' 331) 5 ov n' cs' ∧ SC Z' ch cs' := by
 have hl := hc.n hr
 have hb := hw.len hU
 refine Gr.intro Tryz.func133 rfl Tryz.ntmps133 Tryz.results133 rfl ?_
 refine gn ?_; intro b5
 refine o_assign rfl ?_
 refine r_end ?_
 refine q_n ?_
 refine gn ?_
 refine cp (f166 (f184 N) b a n c w ms ch cs U Z hr hc hw hU hN hC) ?_
 rintro _ rfl
 refine o_makeSlice0 (e := 331) (k := 5) rfl rfl (by omega) ?_
 intro ov Ho ho
 haveI := ho.one
 refine gn ?_
 refine cp (f131 hsc nb hnb) ?_
 rintro _ rfl
 refine gn ?_; intro b8
 refine gn ?_
 refine WP.fz b8 ?_
 intro Z1 hz1 h8
 refine WP.only Ho ?_
 refine WP.loopK (7 :: List.range' 11 4 ++ List.range' 29 59) (fun m g Z' H' => ∃ (i : Nat) (ov : Value) (cs' : List Value),g 29 = .int .i64 i ∧ m = n - i ∧ i ≤ n ∧ g 7 = ov ∧ Sl 331 5 ov cs' H' ∧ SC Z' (ch.take i) cs') n ⟨0,ov,[],rfl,by omega,by omega,rfl,ho,by simp [SC]⟩ ?_
 rintro m g Z' H' hz' ⟨i,ov,cs',h29,rfl,hi,h7,hsl,hcs⟩
 haveI := hsl.one
 have hzz := hz1.trans hz'
 refine WP.pin 29 h29 ?_
 refine WP.pin 7 h7 ?_
 haveI : Zf Z' b8 _ := ⟨.of (hz' _ _ h8)⟩
 haveI : Zf Z' mb _ := ⟨.of (hzz _ _ hsc.m)⟩
 by_cases hin : i < n
 ·obtain ⟨b',off,xs,kb,sb',k,s,rfl,z₁,t₁,d₁,q₁,s₁,e₅,e₄,e₁,_⟩ := eltC (hr.mono fun _ _ h => inT.lw hzz.lw rfl h) (hc.mono hzz) hin
  haveI : Zf Z' b' (cl xs 331) := ⟨z₁⟩
  have hmem := drop_mem d₁
  have ht := take_succ_of d₁
  haveI : Zf Z' kb _ := ⟨.of (q₁)⟩
  refine gn ?_
  refine o_indexAddr rfl rfl rfl hin ?_
  refine o_loadN rfl rfl e₅ rfl ?_
  refine gn ?_
  intro b11
  refine gn ?_
  intro b12
  refine gn ?_
  refine WP.drawT [(b11,cl (nd kb sb') 331)] ((b12,cl (tref eb) 100) :: H') mo (by decide +kernel) (prm rfl) ?_
  refine gn ?_
  refine cp (f132 (hsc.mono hzz) k) ?_
  rintro _ rfl
  refine gn ?_
  intro b13
  refine gn ?_
  refine WP.only ((b11,cl (nd kb sb') 331) :: (b12,cl (tref eb) 100) :: H') ?_
  refine WP.drawT [(b11,cl (nd kb sb') 331),(b12,cl (tref eb) 100)] H' mo (by decide +kernel) (prm rfl) ?_
  refine gn ?_
  refine cg (args := [pt sb',pt sc,.agg (tref eb).toArray]) (ih s sb' U Z' sc sb lb mb eb eb (Nat.lt_of_le_of_lt (szC_mem hmem) hN) s₁ (hw.child hmem) hU (by have := cnt_mem hmem; omega) (hsc.mono hzz) (hzz _ _ hsc.e)) ?_
  rintro _ Z₂ hz₂ ⟨nb',rfl,hs'⟩
  refine gn ?_
  intro vb
  have hlen := hcs.len
  refine oap hsl rfl rfl rfl (Rs.cells (inferInstance : Mem false _ _ _ vb (cl (nd kb nb') 331)) rfl (Nat.le_refl 1)) (by simp [Value.oneCell']) (by omega) (by simp [hlen]; omega) ?_
  intro ov' Ho' ho'
  haveI := ho'.one
  refine gn ?_
  refine ⟨bk,n - (i + 1),Ho',_,by omega,spp,i + 1,ov',_,rfl,rfl,by omega,rfl,ho',?_⟩
  rw [ht]
  exact (hcs.mono hz₂).app (by simp only [SC]; exact ⟨kb,nb',[],rfl,hz₂ _ _ q₁,hs',rfl⟩)
 ·refine gn ?_
  intro b9
  refine gn ?_
  refine fin1 ?_
  intro Z'' hz'' hp
  obtain ⟨n',hr'⟩ := hsl.frz (Z := Z'') fun p h => hp p (by simp [h])
  rw [List.take_of_length_le (by omega)] at hcs
  exact ⟨b9,ov,n',cs',rfl,fzat b9 hp,hr',hcs.mono hz''⟩
end
end Go.Ux
namespace Go.Ux
open Go Go.Proofs
set_option maxRecDepth 20000
attribute [local irreducible] WP Tr
set_option maxHeartbeats 4000000 in
theorem f93 : ∀ N,T93 N
 | 0 => fun s b U Z sc sb lb mb eb nb h => by omega
 | N + 1 => by
  intro s b U Z sc sb lb mb eb nb hN hs hw hU hC hsc hnb
  obtain ⟨ms,ch⟩ := s
  have hs' := hs
  simp only [SR] at hs
  obtain ⟨mv,cv,n,n',cs,cs',z,r₁,p₁,r₂,p₂⟩ := hs
  obtain ⟨a₁,c₁,rfl⟩ := r₁.sl
  obtain ⟨a₂,c₂,rfl⟩ := r₂.sl
  haveI : Zf Z b _ := ⟨.of (z)⟩
  simp only [FS.sz] at hN
  simp only [FS.cnt] at hC
  have hl := p₁.n r₁
  have hl' := p₂.n r₂
  have hbd := hw.len hU
  have hb' : n' ≤ 1073741824 := by have := hw.len hU; omega
  refine Gr.intro Tryz.func93 rfl Tryz.ntmps93 Tryz.results93 rfl ?_
  refine gn ?_; intro b5
  refine o_assign rfl ?_
  refine r_end ?_
  refine q_n ?_
  refine gn ?_
  refine WP.draw [] [(b5,cl (tref nb) 100)] [0,1,2,4,5,6,7,8,9,3,10,11,12,13,14] mo (by decide +kernel) (prm rfl) ?_
  refine gn ?_
  refine cp (f109 b a₁ n c₁ _ Z) ?_
  rintro _ rfl
  refine o_add rfl rfl rfl (by omega) (by omega) ?_
  refine o_makeSlice0 (e := 308) (k := 4) (ik := .i64) (c := n + n') rfl rfl (by omega) ?_
  intro ov Ho ho
  haveI := ho.one
  refine gn ?_; intro b7
  refine o_storeA (vs := [ov]) rfl rfl rfl rfl (al1 rfl) ?_
  refine gn ?_
  refine cp (f131 hsc nb hnb) ?_
  rintro _ rfl
  refine gn ?_; intro b8
  refine gn ?_
  refine WP.only ((b7,cl [ov] 275) :: (b8,cl (atom sb lb mb) 97) :: (b5,cl (tref nb) 100) :: Ho) ?_
  refine WP.drawS [(b7,cl [ov] 275)] ((b8,cl (atom sb lb mb) 97) :: (b5,cl (tref nb) 100) :: Ho) 8 mo (by decide +kernel) (prm rfl) ?_
  refine gn ?_
  refine oap ho rfl rfl rfl (r₁.mono fun _ _ h => ⟨.inl h.1⟩) p₁.one (by omega) (by rw [p₁.len]; simp; omega) ?_
  intro ov' Ho' ho'
  haveI := ho'.one
  refine r_two [] ?_
  refine gn ?_
  refine WP.only ((b7,cl [ov'] 275) :: (b8,cl (atom sb lb mb) 97) :: (b5,cl (tref nb) 100) :: Ho') ?_
  refine WP.fz b8 ?_
  intro Z1 hz1 h8
  refine WP.fz b5 ?_
  intro Z2 hz2 h5
  have hz := hz1.trans hz2
  refine WP.loopK (11 :: 12 :: 13 :: List.range' 48 29) (fun m g Z' H' => ∃ (i : Nat),g 48 = .int .i64 i ∧ m = n' - i ∧ i ≤ n' ∧ Z2 = Z' ∧ H' = (b7,cl [ov'] 275) :: Ho') n' ⟨0,rfl,by omega,by omega,rfl,rfl⟩ ?_
  rintro m g Z' H' hz' ⟨i,h48,rfl,hi,rfl,rfl⟩
  refine WP.pin 48 h48 ?_
  haveI : Zf Z2 b8 _ := ⟨.of (hz2 _ _ h8)⟩
  haveI : Zf Z2 b5 _ := ⟨.of (h5)⟩
  haveI : Zf Z2 mb _ := ⟨.of (hz _ _ hsc.m)⟩
  haveI : Zf Z2 b _ := ⟨.of (hz _ _ z)⟩
  by_cases hin : i < n'
  ·obtain ⟨b',off,xs,kb,sb',k,s,rfl,z₁,t₁,d₁,q₁,s₁,e₅,e₄,e₁,_⟩ := eltC (r₂.mono fun _ _ h => inT.lw hz.lw rfl h) (p₂.mono hz) hin
   haveI : Zf Z2 b' (cl xs 331) := ⟨z₁⟩
   haveI : Zf Z2 kb _ := ⟨.of (q₁)⟩
   refine gn ?_
   refine o_indexAddr rfl rfl rfl hin ?_
   refine o_loadN rfl rfl e₅ rfl ?_
   refine gn ?_
   intro b11
   refine gn ?_
   refine WP.drawT [(b11,cl (nd kb sb') 331)] ((b7,cl [ov'] 275) :: Ho') mo (by decide +kernel) (prm rfl) ?_
   refine gn ?_
   refine cp (f132 (hsc.mono hz) k) ?_
   rintro _ rfl
   refine gn ?_
   intro b12
   refine gn ?_
   exact ⟨bk,n' - (i + 1),(b7,cl [ov'] 275) :: Ho',_,by omega,spp,i + 1,rfl,rfl,by omega,rfl,rfl⟩
  ·refine gn ?_
   refine WP.drawT [(b7,cl [ov'] 275)] Ho' mo (by decide +kernel) (prm rfl) ?_
   refine gn ?_
   refine cg (args := [.pointer (some ⟨b,1,none⟩),pt sc,.agg (tref nb).toArray]) (f133 (f93 N) b a₂ n' c₂ _ ms ch cs' U (r₂.mono fun _ _ h => inT.lw hz.lw rfl h) (p₂.mono hz) hw hU (by omega) (by omega) (hsc.mono hz) (hz _ _ hnb)) ?_
   rintro _ Z₃ hz₃ ⟨b',cv',n₂,cs₂,rfl,hb',hr₂,hc₂⟩
   haveI : Zf Z₃ b' _ := ⟨.of (hb')⟩
   obtain ⟨a₃,c₃,rfl⟩ := hr₂.sl
   refine gn ?_
   intro b10
   refine gn ?_
   refine fin1 ?_
   intro Z'' hz'' hp
   refine ⟨b10,rfl,?_⟩
   obtain ⟨m₂,hr₁⟩ := ho'.frz (Z := Z'') fun p h => hp p (by simp [h])
   simp only [SR]
   exact ⟨ov',_,m₂,n₂,[] ++ cs,cs₂,fzat b10 hp,hr₁,p₁.mono ((hz.trans hz₃).trans hz''),hr₂.mono fun _ _ h => inT.lw hz''.lw rfl h,hc₂.mono hz''⟩
end Go.Ux
namespace Go.Ux
open Go Go.Proofs
set_option maxRecDepth 20000
instance : Ent Tryz.prog 186 := ⟨fun a w => by kernel_rfl⟩
attribute [local irreducible] WP Tr
def PC (g : FuncId) (fs cs : List Value) (Z : Fz) (I : List (List Nm) → Fz → Hp → Prop) (M : Nat) : Prop :=
 ∀ done q qv qcs Hq Z₁ H₁,done.length < M → Fz.le Z Z₁ → I done Z₁ H₁ → q ≠ [] → Sl 308 4 qv qcs Hq → PM Z₁ q qcs → qcs.length ≤ 34359738368 →
  Tr Tryz.prog g (fs ++ [qv] ++ cs).toArray Z₁ (Hq ++ H₁) fun v Z₂ H₂ => v = .tuple #[] ∧ ∃ Hq' H',H₂ = Hq' ++ H' ∧ Sl 308 4 qv qcs Hq' ∧ I (done ++ [q]) Z₂ H'
theorem PC.up {g : FuncId} {fs cs : List Value} {Z Z' : Fz} {I : List (List Nm) → Fz → Hp → Prop} {M : Nat} (h : PC g fs cs Z I M) (hz : Fz.le Z Z') : PC g fs cs Z' I M :=
 fun done q qv qcs Hq Z₁ H₁ h0 h1 => h done q qv qcs Hq Z₁ H₁ h0 (hz.trans h1)
def Stc (I : List (List Nm) → Fz → Hp → Prop) : Prop := ∀ done Z Z' H,Fz.le Z Z' → I done Z H → I done Z' H
theorem Gk.back {xv v : Value} {cs ds : List Value} {Hx G Hq : Hp} (hx : Sl 308 4 xv cs Hx) (hg : Gk xv v 1 Hx G) (hq : Sl 308 4 v (cs ++ ds) Hq) (hd : ds.length = 4) : Sl 308 4 xv cs G ∨ (G = [] ∧ Sl 308 4 xv cs Hq) := by
 rcases hg with ⟨rfl,a,n,c,rfl,rfl⟩ | rfl
 ·exact .inr ⟨rfl,hq.pop hd (by omega)⟩
 ·exact .inl hx
section
variable {g : FuncId} {fs cs : List Value} {Z : Fz} {I : List (List Nm) → Fz → Hp → Prop} {M : Nat} {H : Hp} {pv : Value} {π : List Nm} {pcs : List Value} {Hq : Hp}
theorem f186 [Ent Tryz.prog g] (hc : PC g fs cs Z I M) (done : List (List Nm)) (k : Nm) (kb b5 b4 : Nat) (hM : done.length < M) (h0 : I done Z H) (hq : Sl 308 4 pv pcs Hq) (hp : PM Z π pcs) (hn : pcs.length + 4 ≤ 34359738368) (hk : Z kb = some (cl [.string k] 9))
  (h5 : Z b5 = some (cl [.func (.func g) fs.toArray cs.toArray] 208)) (h4 : Z b4 = some (cl [pv] 210)) :
  Tr Tryz.prog 186 #[.agg (pe kb).toArray,pt b5,pt b4] Z (Hq ++ H) fun v Z' H' => v = .tuple #[] ∧ ∃ Hq' H'',H' = Hq' ++ H'' ∧ Sl 308 4 pv pcs Hq' ∧ I (done ++ [π ++ [k]]) Z' H'' := by
 haveI : Zf Z b5 _ := ⟨.of (h5)⟩
 haveI : Zf Z b4 _ := ⟨.of (h4)⟩
 haveI := hq.one
 refine Tr.introk Tryz.func186 rfl Tryz.ntmps186 Tryz.results186 rfl ?_
 refine gn ?_; intro b3
 refine gn ?_
 refine WP.drawT [(b3,cl (pe kb) 308)] (Hq ++ H) mo (by decide +kernel) (prm rfl) ?_
 refine gn ?_; intro vb
 refine oapk (ds := pe kb) hq rfl rfl rfl (Rs.cells (inferInstance : Mem _ Z _ _ vb (cl _ 308)) rfl (Nat.le_refl 1)) (by simp [Value.oneCell']) (by omega) (by simp; omega) ?_
 intro qv Hq' G hq' hG
 haveI := hq'.one
 refine cv (fs := fs) (cs := cs) (ys := [qv]) (hc done (π ++ [k]) qv (pcs ++ pe kb) Hq' Z H hM (.refl _) h0 (by simp) hq' (hp.app (show PM Z [k] (pe kb) from ⟨kb,[],rfl,hk,rfl⟩)) (by simp; omega)) ?_
 rintro _ Z₁ _ hz₁ ⟨rfl,Hq₂,H₂,rfl,hq₂,h1⟩
 refine gn ?_
 rcases Gk.back hq hG hq₂ rfl with hb | ⟨rfl,hb⟩
 ·exact fk0 (A := G ++ H₂) ⟨rfl,G,H₂,rfl,hb,h1⟩
 ·exact fk0 (A := Hq₂ ++ H₂) ⟨rfl,Hq₂,H₂,rfl,hb,h1⟩
set_option maxHeartbeats 1000000 in
theorem f185 [Ent Tryz.prog g] (hc : PC g fs cs Z I M) (d₀ : List (List Nm)) (b n c b5 b4 : Nat) (a : Option Addr) (w : Value) (ms : List Nm) (es : List Value) [Zf Z b (cl [.slice a n c,w] 281)] (hr : Rs (inT Z 308) 4 (.slice a n c) n es) (hm : PM Z ms es) (h0 : I d₀ Z H) (hq : Sl 308 4 pv pcs Hq) (hp : PM Z π pcs) (hM : d₀.length + ms.length ≤ M) (hn : ms ≠ [] → pcs.length + 4 ≤ 34359738368) (hb : n ≤ 1073741824)
  (h5 : Z b5 = some (cl [.func (.func g) fs.toArray cs.toArray] 208)) (h4 : Z b4 = some (cl [pv] 210)) :
  Tr Tryz.prog 185 #[.pointer (some ⟨b,0,none⟩),.func (.func 186) #[] #[pt b5,pt b4]] Z (Hq ++ H) fun v Z' H' => v = .tuple #[] ∧ ∃ Hq' H'',H' = Hq' ++ H'' ∧ Sl 308 4 pv pcs Hq' ∧ I (d₀ ++ ms.map fun k => π ++ [k]) Z' H'' := by
 haveI := hq.one
 have hl := hm.n hr
 refine Tr.introk Tryz.func185 rfl Tryz.ntmps185 Tryz.results185 rfl ?_
 refine gn ?_
 refine WP.loopK (5 :: List.range' 11 8) (fun m g' Z' H' => ∃ (i : Nat) (Hq' H'' : Hp),g' 11 = .int .i64 i ∧ m = n - i ∧ i ≤ n ∧ H' = Hq' ++ H'' ∧ Sl 308 4 pv pcs Hq' ∧ I (d₀ ++ (ms.take i).map fun k => π ++ [k]) Z' H'') n ⟨0,Hq,H,rfl,by omega,by omega,rfl,hq,by simpa using h0⟩ ?_
 rintro m g' Z' H' hz' ⟨i,Hq',H'',h11,rfl,hi,rfl,hq',hI⟩
 refine WP.pin 11 h11 ?_
 by_cases hin : i < n
 ·obtain ⟨b',off,xs,kb,k,rfl,z₁,t₁,d₁,q₁,e₄,_,_⟩ := elt (hr.mono fun _ _ h => inT.lw hz'.lw rfl h) (hm.mono hz') hin
  haveI : Zf Z' b' (cl xs 308) := ⟨z₁⟩
  refine gn ?_
  refine o_indexAddr rfl rfl rfl hin ?_
  refine o_loadN rfl rfl e₄ rfl ?_
  refine gn ?_
  intro b3
  refine gn ?_
  refine cv (fs := []) (cs := [pt b5,pt b4]) (ys := [.agg (pe kb).toArray]) (f186 (hc.up hz') _ k kb b5 b4 (by simp only [List.length_append,List.length_map,List.length_take]; omega) hI hq' (hp.mono hz') (hn (by rintro rfl; simp at d₁)) q₁ (hz' _ _ h5) (hz' _ _ h4)) ?_
  rintro _ Z₁ _ hz₁ ⟨rfl,Hq₂,H₂,rfl,hq₂,h1⟩
  refine gn ?_
  refine ⟨bk,n - (i + 1),Hq₂ ++ H₂,_,by omega,spp,i + 1,Hq₂,H₂,rfl,rfl,by omega,rfl,hq₂,?_⟩
  rw [take_succ_of d₁,List.map_append,← List.append_assoc]
  exact h1
 ·refine gn ?_
  rw [List.take_of_length_le (by omega)] at hI
  exact fk0 (A := Hq' ++ H'') ⟨rfl,Hq',H'',rfl,hq',hI⟩
def T167 (g : FuncId) (fs cs : List Value) (I : List (List Nm) → Fz → Hp → Prop) (M N : Nat) : Prop := ∀ (s : FS) (b : Nat) (U : List Nm) (Z : Fz) (d₀ : List (List Nm)) (π : List Nm) (pv : Value) (pcs : List Value) (Hq H : Hp),
 s.sz < N → SR Z s b → s.Wf U → U.length ≤ 1073741824 → PC g fs cs Z I M → d₀.length + s.cnt ≤ M → Sl 308 4 pv pcs Hq → PM Z π pcs → I d₀ Z H → (∀ x,s.has x → pcs.length + 4 * x.length ≤ 34359738368) →
 Tr Tryz.prog 167 #[pt b,pv,.func (.func g) fs.toArray cs.toArray] Z (Hq ++ H) fun v Z' H' => v = .tuple #[] ∧ ∃ Hq' H'' done,H' = Hq' ++ H'' ∧ Sl 308 4 pv pcs Hq' ∧ I (d₀ ++ done) Z' H'' ∧ done.length ≤ s.cnt ∧ ∀ x,x ∈ done ↔ ∃ q,x = π ++ q ∧ s.has q
set_option maxHeartbeats 1000000 in
theorem f187 {N : Nat} (ih : T167 g fs cs I M N) (hc : PC g fs cs Z I M) (d₀ : List (List Nm)) (b n c : Nat) (a : Option Addr) (w : Value) (ms : List Nm) (ch : Ch) (es : List Value) (U : List Nm) [Zf Z b (cl [w,.slice a n c] 281)] (hr : Rs (inT Z 331) 5 (.slice a n c) n es) (hm : SC Z ch es) (hw : (FS.mk ms ch).Wf U) (hU : U.length ≤ 1073741824) (hN : szC ch < N) (hM : d₀.length + cntC ch ≤ M) (h0 : I d₀ Z H) (hq : Sl 308 4 pv pcs Hq) (hp : PM Z π pcs) (hn : ∀ k c q,(k,c) ∈ ch → c.has q → pcs.length + 4 * (q.length + 1) ≤ 34359738368) :
  Tr Tryz.prog 187 #[.pointer (some ⟨b,1,none⟩),pv,.func (.func g) fs.toArray cs.toArray] Z (Hq ++ H) fun v Z' H' => v = .tuple #[] ∧ ∃ Hq' H'' done,H' = Hq' ++ H'' ∧ Sl 308 4 pv pcs Hq' ∧ I (d₀ ++ done) Z' H'' ∧ done.length ≤ cntC ch ∧ ∀ x,x ∈ done ↔ ∃ k c q,(k,c) ∈ ch ∧ x = π ++ k :: q ∧ c.has q := by
 haveI := hq.one
 have hl := hm.n hr
 have hbd := hw.len hU
 refine Tr.introk Tryz.func187 rfl Tryz.ntmps187 Tryz.results187 rfl ?_
 refine gn ?_
 refine WP.loopK (7 :: 8 :: List.range' 14 15) (fun m g' Z' H' => ∃ (i : Nat) (Hq' H'' : Hp) (done : List (List Nm)),g' 14 = .int .i64 i ∧ m = n - i ∧ i ≤ n ∧ H' = Hq' ++ H'' ∧ Sl 308 4 pv pcs Hq' ∧ I (d₀ ++ done) Z' H'' ∧ done.length ≤ cntC (ch.take i) ∧ ∀ x,x ∈ done ↔ ∃ k c q,(k,c) ∈ ch.take i ∧ x = π ++ k :: q ∧ c.has q) n ⟨0,Hq,H,[],rfl,by omega,by omega,rfl,hq,by simpa using h0,by simp,by simp⟩ ?_
 rintro m g' Z' H' hz' ⟨i,Hq',H'',done,h14,rfl,hi,rfl,hq',hI,hdl,hd⟩
 refine WP.pin 14 h14 ?_
 by_cases hin : i < n
 ·obtain ⟨b',off,xs,kb,sb',k,s,rfl,z₁,t₁,d₁,q₁,s₁,e₅,e₄,e₁,_⟩ := eltC (hr.mono fun _ _ h => inT.lw hz'.lw rfl h) (hm.mono hz') hin
  haveI : Zf Z' b' (cl xs 331) := ⟨z₁⟩
  have hmem := drop_mem d₁
  have hsz := szC_mem hmem
  have hn' := fun q => hn k s q hmem
  have hct : cntC (ch.take (i + 1)) = cntC (ch.take i) + s.cnt := by rw [take_succ_of d₁,cntC_app]; simp [cntC]
  have hct' := cntC_take ch (i + 1)
  obtain ⟨q₀,hq₀⟩ := hw.ne hmem
  have hn₀ := hn' q₀ hq₀
  refine gn ?_
  refine o_indexAddr rfl rfl rfl hin ?_
  refine o_loadN rfl rfl e₅ rfl ?_
  refine gn ?_
  intro b7
  refine gn ?_
  intro b8
  refine gn ?_
  refine WP.draw [(b7,cl (nd kb sb') 331),(b8,cl (pe kb) 308)] (Hq' ++ H'') [0,1,2,3,6,4,5,7] mo (by decide +kernel) (prm rfl) ?_
  refine gn ?_
  intro vb
  refine oapk (ds := pe kb) hq' rfl rfl rfl (Rs.cells (inferInstance : Mem _ Z' _ _ vb (cl _ 308)) rfl (Nat.le_refl 1)) (by simp [Value.oneCell']) (by omega) (by simp; omega) ?_
  intro qv Hq₁ G hq₁ hG
  haveI := hq₁.one
  refine ct (args := [pt sb',qv,.func (.func g) fs.toArray cs.toArray]) (ih s sb' U Z' (d₀ ++ done) (π ++ [k]) qv (pcs ++ pe kb) Hq₁ H'' (Nat.lt_of_le_of_lt hsz hN) s₁ (hw.child hmem) hU (hc.up hz') (by simp only [List.length_append]; omega) hq₁ ((hp.mono hz').app (show PM Z' [k] (pe kb) from ⟨kb,[],rfl,q₁,rfl⟩)) hI (fun q hq => by have := hn' q hq; simp; omega)) ?_
  rintro _ Z₁ _ hz₁ ⟨rfl,Hq₂,H₂,done₂,rfl,hq₂,h1,hdl₂,hd₂⟩
  refine gn ?_
  have hd₃ : ∀ x,x ∈ done ++ done₂ ↔ ∃ k c q,(k,c) ∈ ch.take (i + 1) ∧ x = π ++ k :: q ∧ c.has q := fun x => by
   rw [List.mem_append,hd,hd₂,take_succ_of d₁]
   constructor
   ·rintro (⟨k',c',q,h1,h2⟩ | ⟨q,rfl,h⟩)
    ·exact ⟨k',c',q,List.mem_append_left _ h1,h2⟩
    ·exact ⟨k,s,q,by simp,by simp,h⟩
   ·rintro ⟨k',c',q,h1,rfl,h⟩
    rcases List.mem_append.1 h1 with h1 | h1
    ·exact .inl ⟨k',c',q,h1,rfl,h⟩
    ·simp only [List.mem_singleton,Prod.mk.injEq] at h1
     obtain ⟨rfl,rfl⟩ := h1
     exact .inr ⟨q,by simp,h⟩
  rw [List.append_assoc] at h1
  rcases Gk.back hq' hG hq₂ rfl with hb | ⟨rfl,hb⟩
  ·exact ⟨bk,n - (i + 1),G ++ H₂,_,by omega,spp,i + 1,G,H₂,done ++ done₂,rfl,rfl,by omega,rfl,hb,h1,by simp only [List.length_append]; omega,hd₃⟩
  ·exact ⟨bk,n - (i + 1),Hq₂ ++ H₂,_,by omega,spp,i + 1,Hq₂,H₂,done ++ done₂,rfl,rfl,by omega,rfl,hb,h1,by simp only [List.length_append]; omega,hd₃⟩
 ·refine gn ?_
  rw [List.take_of_length_le (by omega)] at hd hdl
  exact fk0 (A := Hq' ++ H'') ⟨rfl,Hq',H'',done,rfl,hq',hI,hdl,hd⟩
theorem f167 [Ent Tryz.prog g] (hI : Stc I) : ∀ N,T167 g fs cs I M N
 | 0 => fun s b U Z d₀ π pv pcs Hq H h => by omega
 | N + 1 => by
  intro s b U Z d₀ π pv pcs Hq H hN hs hw hU hc hM hq hp h0 hn
  obtain ⟨ms,ch⟩ := s
  simp only [SR] at hs
  obtain ⟨mv,cv',n,n',es,es',z,r₁,p₁,r₂,p₂⟩ := hs
  obtain ⟨a₁,c₁,rfl⟩ := r₁.sl
  obtain ⟨a₂,c₂,rfl⟩ := r₂.sl
  simp only [FS.sz] at hN
  simp only [FS.cnt] at hM
  have hl := p₁.n r₁
  have hbd := hw.len hU
  haveI := hq.one
  refine Tr.introk Tryz.func167 rfl Tryz.ntmps167 Tryz.results167 rfl ?_
  refine gn ?_; intro b4
  refine gn ?_; intro b5
  refine r_end ?_
  refine q_n ?_
  refine WP.fz b4 ?_
  intro Z1 hz1 h4
  refine WP.fz b5 ?_
  intro Z2 hz2 h5
  have hz := hz1.trans hz2
  replace h4 := hz2 _ _ h4
  haveI : Zf Z2 b _ := ⟨.of (hz _ _ z)⟩
  refine gn ?_
  refine ct (args := [.pointer (some ⟨b,0,none⟩),.func (.func 186) #[] #[pt b5,pt b4]]) (f185 (hc.up hz) d₀ b n c₁ b5 b4 a₁ _ ms es (r₁.mono fun _ _ h => inT.lw hz.lw rfl h) (p₁.mono hz) (hI _ _ _ _ hz h0) hq (hp.mono hz) (by omega) (fun hne => by
   obtain ⟨k,hk⟩ := List.exists_mem_of_ne_nil _ hne
   have := hn [k] ((FS.has_one _ _).2 hk)
   simpa using this) (by omega) h5 h4) ?_
  rintro _ Z₃ _ hz₃ ⟨rfl,Hq₁,H₁,rfl,hq₁,h1⟩
  have hzz := hz.trans hz₃
  haveI : Zf Z₃ b _ := ⟨.of (hzz _ _ z)⟩
  haveI : Zf Z₃ b4 _ := ⟨.of (hz₃ _ _ h4)⟩
  haveI : Zf Z₃ b5 _ := ⟨.of (hz₃ _ _ h5)⟩
  refine gn ?_
  refine WP.drawT [] (Hq₁ ++ H₁) mo (by decide +kernel) (prm rfl) ?_
  refine gn ?_
  refine ct (args := [.pointer (some ⟨b,1,none⟩),pv,.func (.func g) fs.toArray cs.toArray]) (f187 (f167 hI N) (hc.up hzz) _ b n' c₂ a₂ _ ms ch es' U (r₂.mono fun _ _ h => inT.lw hzz.lw rfl h) (p₂.mono hzz) hw hU (by omega) (by simp only [List.length_append,List.length_map]; omega) h1 hq₁ (hp.mono hzz) (fun k c q hc' hq' => by have := hn (k :: q) ((FS.has_cons ..).2 (.inr ⟨c,hc',hq'⟩)); simpa using this)) ?_
  rintro _ Z₄ _ hz₄ ⟨rfl,Hq₂,H₂,done,rfl,hq₂,h2,hdl,hd⟩
  refine gn ?_
  rw [List.append_assoc] at h2
  refine fk0 (A := Hq₂ ++ H₂) ⟨rfl,Hq₂,H₂,_,rfl,hq₂,h2,by simp only [List.length_append,List.length_map,FS.cnt]; omega,fun x => ?_⟩
  rw [List.mem_append,List.mem_map,hd]
  constructor
  ·rintro (⟨k,hk,rfl⟩ | ⟨k,c,q,h1,rfl,h⟩)
   ·exact ⟨[k],rfl,(FS.has_one _ _).2 hk⟩
   ·exact ⟨k :: q,rfl,(FS.has_cons ..).2 (.inr ⟨c,h1,h⟩)⟩
  ·rintro ⟨q,rfl,h⟩
   cases q with
   | nil => exact absurd h (FS.has_nil _)
   | cons k q =>
    rcases (FS.has_cons ..).1 h with ⟨rfl,hk⟩ | ⟨c,hc',hk⟩
    ·exact .inl ⟨k,hk,rfl⟩
    ·exact .inr ⟨k,c,q,hc',rfl,hk⟩
theorem f138 [Ent Tryz.prog g] (hI : Stc I) (s : FS) (b : Nat) (U : List Nm) (hs : SR Z s b) (hw : s.Wf U) (hU : U.length ≤ 1073741824) (hc : PC g fs cs Z I M) (h0 : I [] Z H) (hM : s.cnt ≤ M) (hsz : ∀ x,s.has x → x.length ≤ 8589934592) :
  Tr Tryz.prog 138 #[pt b,.func (.func g) fs.toArray cs.toArray] Z H fun v Z' H' => v = .tuple #[] ∧ ∃ done,I done Z' H' ∧ done.length ≤ s.cnt ∧ ∀ x,x ∈ done ↔ s.has x := by
 refine Tr.introk Tryz.func138 rfl Tryz.ntmps138 Tryz.results138 rfl ?_
 refine gn ?_; intro b5
 refine gn ?_
 refine ct (args := [pt b,.slice (some ⟨b5,0,none⟩) 0 0,.func (.func g) fs.toArray cs.toArray]) (f167 hI (s.sz + 1) s b U Z [] [] (.slice (some ⟨b5,0,none⟩) 0 0) [] [(b5,cl [] 308)] H (by omega) hs hw hU hc (by simpa using hM) (.row b5 0 0 [] [] rfl rfl (by omega)) rfl h0 (fun x hx => by have := hsz x hx; simp; omega)) ?_
 rintro _ Z₁ _ hz₁ ⟨rfl,Hq',H'',done,rfl,_,h1,hdl,hd⟩
 refine gn ?_
 exact fk0 (A := H'') ⟨rfl,done,by simpa using h1,hdl,fun x => by rw [hd]; simp⟩
end
end Go.Ux
namespace Go.Ux
open Go Go.Proofs
set_option maxRecDepth 20000
attribute [local irreducible] WP Tr
abbrev kw (p sc sset nb : Nat) : List Value := [pt p,pt sc,pt sset,pt nb,.pointer none,.pointer none,.pointer none,.pointer none,.bool false,.slice none 0 0,.bool false,.pointer none,.pointer none,.pointer none]
section
variable {Z : Fz} {sc sb lb mb eb nb : Nat}
theorem f291 (he : Z eb = some (cl [.string nmD] 9)) : Pu Tryz.prog 291 #[.agg (tref eb).toArray] Z fun v => v = .bool true := by
 haveI : Zf Z eb _ := ⟨.of (he)⟩
 refine Pu.intro Tryz.func291 rfl Tryz.ntmps291 Tryz.results291 rfl ?_
 refine gn ?_; intro b1
 refine gn ?_
 exact fin1 ⟨rfl,rfl⟩
theorem f284 (h : Sch Z sc sb lb mb eb) : Pu Tryz.prog 284 #[pt mb] Z fun v => v = .bool true := by
 haveI : Zf Z mb _ := ⟨.of (h.m)⟩
 refine Pu.intro Tryz.func284 rfl Tryz.ntmps284 Tryz.results284 rfl ?_
 refine gn ?_
 refine cp (f291 h.e) ?_
 rintro _ rfl
 refine gn ?_
 exact fin1 ⟨rfl,rfl⟩
theorem f281 (h : Sch Z sc sb lb mb eb) (w p sset nb : Nat) : Tr Tryz.prog 281 #[pt w,pt mb] Z [(w,cl (kw p sc sset nb) 314)] fun v Z' H' => v = .slice none 0 0 ∧ Z = Z' ∧ H' = [(w,cl (kw p sc sset nb) 314)] := by
 refine Tr.introk Tryz.func281 rfl Tryz.ntmps281 Tryz.results281 rfl ?_
 refine gn ?_
 refine cp (f284 h) ?_
 rintro _ rfl
 refine gn ?_
 exact fk1 (A := [(w,cl (kw p sc sset nb) 314)]) ⟨rfl,rfl,rfl⟩
theorem f124 (h : Sch Z sc sb lb mb eb) (hnb : Z nb = some (cl [.string nmD] 9)) (w p sset : Nat) : Tr Tryz.prog 124 #[pt w] Z [(w,cl (kw p sc sset nb) 314)] fun v Z' H' => v = .slice none 0 0 ∧ Z = Z' ∧ H' = [(w,cl (kw p sc sset nb) 314)] := by
 refine Tr.introk Tryz.func124 rfl Tryz.ntmps124 Tryz.results124 rfl ?_
 refine gn ?_
 refine WP.drawA mo (by decide +kernel) ?_
 refine gn ?_
 refine cp (f131 h nb hnb) ?_
 rintro _ rfl
 refine gn ?_; intro b3
 refine gn ?_
 refine WP.drawS [(w,cl (kw p sc sset nb) 314),(b3,cl (atom sb lb mb) 97)] [] 7 mo (by decide +kernel) (prm rfl) ?_
 refine gn ?_
 refine ⟨[],_,spp,?_⟩
 refine ct (args := [.agg (atom sb lb mb).toArray,.agg (tref nb).toArray,.iface 311 (pt w)]) (f159_mp (W := 311) (sb := sb) (lb := lb) (mb := mb) (nb := nb) .all (.inr rfl) (f281 h w p sset nb)) ?_
 rintro _ _ _ _ ⟨rfl,rfl,rfl⟩
 refine gn ?_
 exact fk1 (A := [(w,cl (kw p sc sset nb) 314)]) ⟨rfl,rfl,rfl⟩
theorem d123 (w p sset : Nat) : TrD Tryz.prog 123 #[pt w] Z [(w,cl (kw p sc sset nb) 314)] fun Z' _ => Z = Z' := by
 refine TrD.intro0 Tryz.func123 rfl Tryz.ntmps123 Tryz.results123 rfl ?_
 refine gd ?_
 refine dq1 rfl
theorem f84 (h : Sch Z sc sb lb mb eb) (hnb : Z nb = some (cl [.string nmD] 9)) (p sset a : Nat) (hp : Z p = some (cl (tv (vv a) sc nb) 220)) : Tr Tryz.prog 84 #[pt sset,pt p] Z [] fun v Z' H' => v = .tuple #[.pointer none,.nilIface] ∧ Z = Z' ∧ H' = [] := by
 haveI : Zf Z p _ := ⟨.of (hp)⟩
 refine Tr.introk Tryz.func84 rfl Tryz.ntmps84 Tryz.results84 rfl ?_
 refine gn ?_; intro w
 refine gn ?_
 refine o_dfr (args := [pt w]) ?_
 refine gn ?_
 refine ct (args := [pt w]) (f124 h hnb w p sset) ?_
 rintro _ _ _ _ ⟨rfl,rfl,rfl⟩
 refine gn ?_
 refine fin_dfr (d123 (sc := sc) (nb := nb) w p sset) ?_
 rintro _ _ rfl
 exact fk2 (A := []) ⟨rfl,rfl,rfl⟩
end
end Go.Ux
namespace Go.Ux
open Go Go.Proofs
set_option maxRecDepth 20000
attribute [local irreducible] WP Tr
abbrev vsn (sc nb ms mm : Nat) : List Value := [.slice none 0 0,pt sc,pt nb,.pointer none,.pointer none,.pointer none,.pointer none,.bool false,.map (some ms),.map (some mm)]
abbrev vst (b : Nat) (ver : ByteArray) (ap : Bool) : Value := .iface 235 (.agg #[pt b,.string ver,.bool ap])
structure UX (Z : Fz) (sc sb lb mb eb nb ms mm uu : Nat) : Prop where
 sch : Sch Z sc sb lb mb eb
 nm : Z nb = some (cl [.string nmD] 9)
 hs : Z ms = some (mp [] 0)
 hm : Z mm = some (mp [] 0)
 uu : Z uu = some (cl [.iface 104 (.agg (vsn sc nb ms mm).toArray),.map none,.map none,.bool false] 158)
theorem UX.mono {Z Z' : Fz} (hz : Fz.le Z Z') {sc sb lb mb eb nb ms mm uu : Nat} (h : UX Z sc sb lb mb eb nb ms mm uu) : UX Z' sc sb lb mb eb nb ms mm uu :=
 ⟨h.sch.mono hz,hz _ _ h.nm,hz _ _ h.hs,hz _ _ h.hm,hz _ _ h.uu⟩
section
variable {Z : Fz}
theorem f61 (b : Nat) (ver : ByteArray) (ap : Bool) : Pu Tryz.prog 61 #[pt b,.string ver,.bool ap] Z fun v => v = vst b ver ap := by
 refine Pu.intro Tryz.func61 rfl Tryz.ntmps61 Tryz.results61 rfl ?_
 refine gn ?_
 exact fin1 ⟨rfl,rfl⟩
theorem f251 (b : Nat) (ver : ByteArray) (ap : Bool) : Pu Tryz.prog 251 #[.agg #[pt b,.string ver,.bool ap]] Z fun v => v = .string ver := by
 refine Pu.intro Tryz.func251 rfl Tryz.ntmps251 Tryz.results251 rfl ?_
 repeat (first | refine gn ?_ | intro _)
 exact fin1 ⟨rfl,rfl⟩
theorem f252 (b : Nat) (ver : ByteArray) (ap : Bool) : Pu Tryz.prog 252 #[.agg #[pt b,.string ver,.bool ap]] Z fun v => v = .bool ap := by
 refine Pu.intro Tryz.func252 rfl Tryz.ntmps252 Tryz.results252 rfl ?_
 repeat (first | refine gn ?_ | intro _)
 exact fin1 ⟨rfl,rfl⟩
theorem f253 (b : Nat) (ver : ByteArray) (ap : Bool) : Pu Tryz.prog 253 #[.agg #[pt b,.string ver,.bool ap]] Z fun v => v = pt b := by
 refine Pu.intro Tryz.func253 rfl Tryz.ntmps253 Tryz.results253 rfl ?_
 repeat (first | refine gn ?_ | intro _)
 exact fin1 ⟨rfl,rfl⟩
theorem f66 (v : Value) [One v] (sc nb : Nat) : Pu Tryz.prog 66 #[.agg (tv v sc nb).toArray] Z fun x => x = v := by
 refine Pu.intro Tryz.func66 rfl Tryz.ntmps66 Tryz.results66 rfl ?_
 repeat (first | refine gn ?_ | intro _)
 exact fin1 ⟨rfl,rfl⟩
theorem f90 (v : Value) [One v] (sc nb : Nat) : Pu Tryz.prog 90 #[.agg (tv v sc nb).toArray] Z fun x => x = pt sc := by
 refine Pu.intro Tryz.func90 rfl Tryz.ntmps90 Tryz.results90 rfl ?_
 repeat (first | refine gn ?_ | intro _)
 exact fin1 ⟨rfl,rfl⟩
theorem f91 (v : Value) [One v] (sc nb : Nat) : Pu Tryz.prog 91 #[.agg (tv v sc nb).toArray] Z fun x => x = .agg (tref nb).toArray := by
 refine Pu.intro Tryz.func91 rfl Tryz.ntmps91 Tryz.results91 rfl ?_
 repeat (first | refine gn ?_ | intro _)
 exact finC1 rfl ⟨rfl,rfl⟩
theorem f98 (b : Nat) : Pu Tryz.prog 98 #[pt b,.nilIface] Z fun x => x = pt b := by
 refine Pu.intro Tryz.func98 rfl Tryz.ntmps98 Tryz.results98 rfl ?_
 repeat (first | refine gn ?_ | intro _)
 exact fin1 ⟨rfl,rfl⟩
theorem f34 (sc nb ms mm : Nat) (ver : ByteArray) (h : Z ms = some (mp [] 0)) : Pu Tryz.prog 34 #[.agg (vsn sc nb ms mm).toArray,.string ver] Z fun x => x = .agg (tref nb).toArray := by
 haveI : Zf Z ms _ := ⟨.of (h)⟩
 refine Pu.intro Tryz.func34 rfl Tryz.ntmps34 Tryz.results34 rfl ?_
 repeat (first | refine gn ?_ | intro _)
 refine o_lookup rfl rfl rfl ?_
 simp only [if_true,lk_nil,Option.getD_none,Option.isSome_none]
 repeat (first | refine gn ?_ | intro _)
 exact finC1 rfl ⟨rfl,rfl⟩
theorem f227 (v : Value) [One v] (sc nb : Nat) : Gr Tryz.prog 227 #[v,pt sc,.agg (tref nb).toArray] Z fun x Z' => ∃ p,x = pt p ∧ Z' p = some (cl (tv v sc nb) 220) := by
 refine Gr.intro Tryz.func227 rfl Tryz.ntmps227 Tryz.results227 rfl ?_
 refine gn ?_; intro b5
 refine gn ?_; intro b12
 refine gn ?_
 refine fin1 ?_
 intro Z' hz hp
 exact ⟨b12,rfl,fzat b12 hp⟩
theorem f225 (sc nb ms mm : Nat) : Pu Tryz.prog 225 #[.agg (vsn sc nb ms mm).toArray,.nilIface] Z fun x => x = .bool false := by
 refine Pu.intro Tryz.func225 rfl Tryz.ntmps225 Tryz.results225 rfl ?_
 repeat (first | refine gn ?_ | intro _)
 exact fin1 ⟨rfl,rfl⟩
variable {sc sb lb mb eb nb ms mm uu : Nat}
theorem f224 (h : UX Z sc sb lb mb eb nb ms mm uu) {t : Tv} {p nb' : Nat} (ver : ByteArray) (hp : TyV Z sc nb' t p) : Gr Tryz.prog 224 #[.agg (vsn sc nb ms mm).toArray,pt p,.string ver] Z fun x Z' => ∃ p',x = .tuple #[pt p',.nilIface] ∧ TyV Z' sc nb t p' := by
 obtain ⟨a,u,h1,h2,h3⟩ := hp
 haveI : Zf Z p _ := ⟨.of (h1)⟩
 haveI : Zf Z mm _ := ⟨.of (h.hm)⟩
 refine Gr.intro Tryz.func224 rfl Tryz.ntmps224 Tryz.results224 rfl ?_
 refine gn ?_; intro b3
 refine gn ?_
 refine o_lookup rfl rfl rfl ?_
 simp only [Bool.false_eq_true,if_false,lk_nil,Option.getD_none]
 refine gn ?_
 refine cp (f66 (vv a) sc nb') ?_
 rintro _ rfl
 refine gn ?_
 refine WP.drawA mo (by decide +kernel) ?_
 refine gn ?_
 refine cp (f34 sc nb ms mm ver h.hs) ?_
 rintro _ rfl
 refine cg (args := [vv a,pt sc,.agg (tref nb).toArray]) (f227 (vv a) sc nb) ?_
 rintro _ Z1 hz1 ⟨p',rfl,hp'⟩
 refine gn ?_
 refine fin2 ?_
 intro Z' hz' hq
 exact ⟨p',rfl,a,u,hz' _ _ hp',hz' _ _ (hz1 _ _ h2),(h3.mono hz1).mono hz'⟩
end
end Go.Ux
namespace Go.Ux
open Go Go.Proofs
set_option maxRecDepth 20000
attribute [local irreducible] WP Tr
theorem fin3 {P : Program} {f : List Lay} {D : List Deferred} {Z : Fz} {H : Hp} {R : Value → Fz → Hp → Prop} {t u w : Tmp} (h : R (.tuple #[look f t,look f u,look f w]) Z H) : Fin P [.tmp t,.tmp u,.tmp w] R [] ⟨f,D⟩ Z H :=
 ⟨_,.tmp (.tmp (.tmp .nil)),h⟩
theorem TF_root {t : Tv} {x : List Nm} : TF t [] x ↔ x ≠ [] ∧ Dm t x := by
 constructor
 ·rintro ⟨q,u,h,rfl,h' | ⟨_,h'⟩⟩
  ·exact ⟨by simpa using h',u,by simpa using h⟩
  ·exact absurd rfl h'
 ·rintro ⟨h,u,hu⟩
  exact ⟨x,u,hu,rfl,.inl h⟩
def ST (Z : Fz) (U : List Nm) (s : FS) (b : Nat) : Prop := SR Z s b ∧ s.Wf U
theorem ST.mono {Z Z' : Fz} (hz : Fz.le Z Z') {U : List Nm} {s : FS} {b : Nat} (h : ST Z U s b) : ST Z' U s b := ⟨h.1.mono hz,h.2⟩
section
variable {Z : Fz} {U : List Nm} {sc sb lb mb eb nb nb' ms mm uu : Nat}
theorem f59' (h : UX Z sc sb lb mb eb nb ms mm uu) (hU : U.length ≤ 1073741824) {t : Tv} {a : Nat} {u : Value} (ha : Z a = some (cl [u] 358)) (hu : AV Z t u) (ht : t.sz ≤ 4294967296) (tU : t.inU U) :
  Gr Tryz.prog 59 #[.agg (tv (vv a) sc nb).toArray] Z fun x Z' => ∃ b s,x = .tuple #[pt b,.nilIface] ∧ ST Z' U s b ∧ s.cnt ≤ 68719476736 ∧ ∀ x,s.has x ↔ x ≠ [] ∧ Dm t x := by
 refine Tr.mono (f59 t sc sb lb mb eb nb a u U ht h.sch h.nm ha hu hU tU) ?_
 rintro _ _ _ ⟨⟨b,s,rfl,h1,h2,h3⟩,rfl⟩
 have h4 : ∀ x,s.has x ↔ x ≠ [] ∧ Dm t x := fun x => (h3 x).trans TF_root
 have := cnt_le s h2 hu.uk fun x hx => ((h4 x).1 hx).2
 exact ⟨⟨b,s,rfl,⟨h1,h2⟩,by omega,h4⟩,rfl⟩
theorem f93' (h : UX Z sc sb lb mb eb nb ms mm uu) (hU : U.length ≤ 1073741824) {s : FS} {b : Nat} (hs : ST Z U s b) (hc : s.cnt ≤ 68719476736) :
  Gr Tryz.prog 93 #[pt b,pt sc,.agg (tref nb).toArray] Z fun x Z' => ∃ b',x = pt b' ∧ ST Z' U s b' := by
 refine Tr.mono (f93 (s.sz + 1) s b U Z sc sb lb mb eb nb (by omega) hs.1 hs.2 hU hc h.sch h.nm) ?_
 rintro _ _ _ ⟨⟨b',rfl,h1⟩,rfl⟩
 exact ⟨⟨b',rfl,h1,hs.2⟩,rfl⟩
theorem f71' (hU : U.length ≤ 1073741824) {s t : FS} {b c : Nat} (hs : ST Z U s b) (ht : ST Z U t c) : Gr Tryz.prog 71 #[pt b,pt c] Z fun x Z' => ∃ b' r,x = pt b' ∧ ST Z' U r b' ∧ ∀ x,r.has x ↔ s.has x ∧ ¬ t.has x := by
 refine Tr.mono (f71 (s.sz + 1) s t b c U Z (by omega) hs.1 ht.1 hs.2 ht.2 hU) ?_
 rintro _ _ _ ⟨⟨b',r,rfl,h1,h2⟩,rfl⟩
 exact ⟨⟨b',r,rfl,⟨h1,h2.1⟩,h2.2⟩,rfl⟩
theorem f72' (hU : U.length ≤ 1073741824) {s t : FS} {b c : Nat} (hs : ST Z U s b) (ht : ST Z U t c) : Gr Tryz.prog 72 #[pt b,pt c] Z fun x Z' => ∃ b' r,x = pt b' ∧ ST Z' U r b' ∧ ∀ x,r.has x ↔ s.has x ∨ t.has x := by
 refine Tr.mono (f72 (s.sz + 1) s t b c U Z (by omega) hs.1 ht.1 hs.2 ht.2 hU) ?_
 rintro _ _ _ ⟨⟨b',r,rfl,h1,h2⟩,rfl⟩
 exact ⟨⟨b',r,rfl,⟨h1,h2.1⟩,h2.2⟩,rfl⟩
theorem f99' (hU : U.length ≤ 1073741824) {s t : FS} {b c : Nat} (hs : ST Z U s b) (ht : ST Z U t c) : Gr Tryz.prog 99 #[pt b,pt c] Z fun x Z' => ∃ b' r,x = pt b' ∧ ST Z' U r b' ∧ ∀ x,r.has x ↔ s.has x ∧ t.has x := by
 refine Tr.mono (f99 (s.sz + 1) s t b c U Z (by omega) hs.1 ht.1 hs.2 ht.2 hU) ?_
 rintro _ _ _ ⟨⟨b',r,rfl,h1,h2⟩,rfl⟩
 exact ⟨⟨b',r,rfl,⟨h1,h2.1⟩,h2.2⟩,rfl⟩
theorem f73' (hU : U.length ≤ 1073741824) {s : FS} {b : Nat} (hs : ST Z U s b) : Pu Tryz.prog 73 #[pt b] Z fun x => ∃ e,x = .bool e ∧ (e = true ↔ s.Emp) := f73 (s.sz + 1) s b U Z (by omega) hs.1 hs.2 hU
set_option maxHeartbeats 4000000 in
theorem f134 (h : UX Z sc sb lb mb eb nb ms mm uu) (hU : U.length ≤ 1073741824) {G p₁ : Tv} {pm pp bs : Nat} {M : FS} (ver : ByteArray) (hG : TyV Z sc nb G pm) (hP : TyV Z sc nb' p₁ pp) (hM : ST Z U M bs) (hGc : G.cls = 0) (hGs : G.sz ≤ 4294967296) (hPs : p₁.sz ≤ 4294967296) (gU : G.inU U) (pU : p₁.inU U) (hsub : ∀ x,M.has x → Dm G x) :
  Gr Tryz.prog 134 #[pt uu,pt pm,pt pp,.string ver,pt bs] Z fun x Z' => ∃ pm' pp' p₂,x = .tuple #[pt pm',pt pp',.nilIface] ∧ TyV Z' sc nb G pm' ∧ TyV Z' sc nb p₂ pp' ∧ RM (fun x => (x ≠ [] ∧ Dm G x) ∧ ¬ ((x ≠ [] ∧ Dm p₁ x) ∨ M.has x)) G p₂ := by
 haveI : Zf Z uu _ := ⟨.of (h.uu)⟩
 have hGuk : G.uk := by obtain ⟨_,_,_,_,h⟩ := hG; exact h.uk
 refine Gr.intro Tryz.func134 rfl Tryz.ntmps134 Tryz.results134 rfl ?_
 refine gn ?_
 refine cig (args := [pt pm,.string ver]) (f224 h ver hG) ?_
 rintro _ Z1 hz1 ⟨pm',rfl,a,u,hpm,ha,hu⟩
 haveI : Zf Z1 uu _ := ⟨.of (hz1 _ _ h.uu)⟩
 refine gn ?_
 refine cig (args := [pt pp,.string ver]) (f224 (h.mono hz1) ver (hP.mono hz1)) ?_
 rintro _ Z2 hz2 ⟨pp',rfl,c,v,hpp,hc,hv⟩
 haveI : Zf Z2 pm' _ := ⟨.of (hz2 _ _ hpm)⟩
 haveI : Zf Z2 pp' _ := ⟨.of (hpp)⟩
 have hz02 := hz1.trans hz2
 refine gn ?_
 refine cg (args := [.agg (tv (vv a) sc nb).toArray]) (f59' (h.mono hz02) hU (hz2 _ _ ha) (hu.mono hz2) hGs gU) ?_
 rintro _ Z3 hz3 ⟨bm,sm,rfl,hsm,cm,em⟩
 haveI : Zf Z3 pm' _ := ⟨.of (hz3 _ _ (hz2 _ _ hpm))⟩
 haveI : Zf Z3 pp' _ := ⟨.of (hz3 _ _ hpp)⟩
 have hz03 := hz02.trans hz3
 refine gn ?_
 refine cg (args := [.agg (tv (vv c) sc nb).toArray]) (f59' (h.mono hz03) hU (hz3 _ _ hc) (hv.mono hz3) hPs pU) ?_
 rintro _ Z4 hz4 ⟨bp,sp,rfl,hsp,cp',ep⟩
 have hz04 := hz03.trans hz4
 have hpm4 : Z4 pm' = some (cl (tv (vv a) sc nb) 220) := hz4 _ _ (hz3 _ _ (hz2 _ _ hpm))
 have ha4 : Z4 a = some (cl [u] 358) := hz4 _ _ (hz3 _ _ (hz2 _ _ ha))
 have hu4 : AV Z4 G u := ((hu.mono hz2).mono hz3).mono hz4
 haveI : Zf Z4 pm' _ := ⟨.of (hpm4)⟩
 refine gn ?_
 refine WP.draw [] [] [0,1,2,4,5,6,3,7,8,9,10] mo (by decide +kernel) (prm rfl) ?_
 refine gn ?_
 refine cp (f90 (vv a) sc nb) ?_
 rintro _ rfl
 refine cp (f91 (vv a) sc nb) ?_
 rintro _ rfl
 refine gn ?_; intro b17
 refine gn ?_
 refine WP.draw [(b17,cl (tref nb) 100)] [] [0,1,2,3,4,5,7,8,9,11,12,13,6,10,14,15,16,17,18] mo (by decide +kernel) (prm rfl) ?_
 refine gn ?_
 refine cg (args := [pt bm,pt sc,.agg (tref nb).toArray]) (f93' (h.mono hz04) hU (hsm.mono hz4) cm) ?_
 rintro _ Z5 hz5 ⟨bm',rfl,hsm'⟩
 refine cg (args := [pt bp,pt sc,.agg (tref nb).toArray]) (f93' (h.mono (hz04.trans hz5)) hU (hsp.mono hz5) cp') ?_
 rintro _ Z6 hz6 ⟨bp',rfl,hsp'⟩
 have hz06 := (hz04.trans hz5).trans hz6
 refine cg (args := [pt bs,pt sc,.agg (tref nb).toArray]) (f93' (h.mono hz06) hU (hM.mono hz06) (by have := cnt_le M hM.2 hGuk hsub; omega)) ?_
 rintro _ Z7 hz7 ⟨bs',rfl,hM'⟩
 refine cg (args := [pt bp',pt bs']) (f72' hU (hsp'.mono hz7) hM') ?_
 rintro _ Z8 hz8 ⟨bu,su,rfl,hsu,eu⟩
 have hz58 := (hz6.trans hz7).trans hz8
 refine cg (args := [pt bm',pt bu]) (f71' hU (hsm'.mono hz58) hsu) ?_
 rintro _ Z9 hz9 ⟨bd,sd,rfl,hsd,ed⟩
 have hz49 := (hz5.trans hz58).trans hz9
 have hz09 := hz04.trans hz49
 refine cg (args := [.agg (tv (vv a) sc nb).toArray,pt bd]) (f92 hGc (hz49 _ _ ha4) (hu4.mono hz49) hsd.1 hsd.2 hU (fun x hx => ((em x).1 ((ed x).1 hx).1).2) (h.mono hz09).sch (h.mono hz09).nm) ?_
 rintro _ Z10 hz10 ⟨pq,p₂,rfl,hp2,hrm⟩
 refine gn ?_
 refine fin3 ?_
 intro Z' hz' hp'
 have hzz := (hz49.trans hz10).trans hz'
 exact ⟨pm',pq,p₂,rfl,⟨a,u,hzz _ _ hpm4,hzz _ _ ha4,hu4.mono hzz⟩,hp2.mono hz',hrm.congr fun x _ => by rw [ed,em,eu,ep]⟩
end
end Go.Ux
namespace Go.Ux
open Go Go.Proofs
set_option maxRecDepth 20000
attribute [local irreducible] WP Tr
section
variable {Z : Fz} {U : List Nm} {sc sb lb mb eb nb nb' ms mm uu : Nat}
set_option maxHeartbeats 4000000 in
theorem f95 (h : UX Z sc sb lb mb eb nb ms mm uu) (hU : U.length ≤ 1073741824) {G p₂ : Tv} {pm pp bl : Nat} {L : FS} (ver : ByteArray) (ap : Bool) (hG : TyV Z sc nb G pm) (hP : TyV Z sc nb' p₂ pp) (hL : ST Z U L bl) (hGc : G.cls = 0) (hGs : G.sz ≤ 4294967296) (hPs : p₂.sz ≤ 4294967296) (gU : G.inU U) (pU : p₂.inU U) (hsub : ∀ x,L.has x → Dm G x) :
  Gr Tryz.prog 95 #[pt uu,pt pm,pt pp,vst bl ver ap] Z fun x Z' => ∃ pq N,x = .tuple #[pt pq,.nilIface] ∧ TyV Z' sc nb N pq ∧ RM (fun x => ((x ≠ [] ∧ Dm G x) ∧ ¬ (x ≠ [] ∧ Dm p₂ x)) ∧ L.has x) G N := by
 haveI : Zf Z uu _ := ⟨.of (h.uu)⟩
 have hGuk : G.uk := by obtain ⟨_,_,_,_,h⟩ := hG; exact h.uk
 obtain ⟨a,u,hpm,ha,hu⟩ := id hG
 refine Gr.intro Tryz.func95 rfl Tryz.ntmps95 Tryz.results95 rfl ?_
 refine gn ?_
 refine WP.draw [] [] [0,1,2,3,4,5,7,8,6,9,10,11,12,13,14] mo (by decide +kernel) (prm rfl) ?_
 refine gn ?_
 refine cip (args := []) (f251 bl ver ap) ?_
 rintro _ rfl
 refine cig (args := [pt pp,.string ver]) (f224 h ver hP) ?_
 rintro _ Z2 hz2 ⟨pp',rfl,c,v,hpp,hc,hv⟩
 haveI : Zf Z2 pm _ := ⟨.of (hz2 _ _ hpm)⟩
 haveI : Zf Z2 pp' _ := ⟨.of (hpp)⟩
 refine gn ?_
 refine cg (args := [.agg (tv (vv c) sc nb).toArray]) (f59' (h.mono hz2) hU hc hv hPs pU) ?_
 rintro _ Z3 hz3 ⟨bp,sp,rfl,hsp,cp',ep⟩
 have hz03 := hz2.trans hz3
 haveI : Zf Z3 pm _ := ⟨.of (hz03 _ _ hpm)⟩
 refine gn ?_
 refine cg (args := [.agg (tv (vv a) sc nb).toArray]) (f59' (h.mono hz03) hU (hz03 _ _ ha) (hu.mono hz03) hGs gU) ?_
 rintro _ Z4 hz4 ⟨bm,sm,rfl,hsm,cm,em⟩
 have hz04 := hz03.trans hz4
 haveI : Zf Z4 pm _ := ⟨.of (hz04 _ _ hpm)⟩
 refine gn ?_
 refine WP.draw [] [] [0,1,2,4,5,6,3,7,8,9,10] mo (by decide +kernel) (prm rfl) ?_
 refine gn ?_
 refine cp (f90 (vv a) sc nb) ?_
 rintro _ rfl
 refine cp (f91 (vv a) sc nb) ?_
 rintro _ rfl
 refine gn ?_; intro b15
 refine gn ?_
 refine cg (args := [pt bp,pt sc,.agg (tref nb).toArray]) (f93' (h.mono hz04) hU (hsp.mono hz4) cp') ?_
 rintro _ Z5 hz5 ⟨bp',rfl,hsp'⟩
 refine gn ?_
 refine cg (args := [pt bm,pt sc,.agg (tref nb).toArray]) (f93' (h.mono (hz04.trans hz5)) hU (hsm.mono hz5) cm) ?_
 rintro _ Z6 hz6 ⟨bm',rfl,hsm'⟩
 have hz06 := (hz04.trans hz5).trans hz6
 refine gn ?_
 refine WP.only [(b15,cl (tref nb) 100)] ?_
 refine WP.draw [(b15,cl (tref nb) 100)] [] [0,2,3,1,4,5] mo (by decide +kernel) (prm rfl) ?_
 refine gn ?_
 refine cip (args := []) (f253 bl ver ap) ?_
 rintro _ rfl
 refine cg (args := [pt bl,pt sc,.agg (tref nb).toArray]) (f93' (h.mono hz06) hU (hL.mono hz06) (by have := cnt_le L hL.2 hGuk hsub; omega)) ?_
 rintro _ Z7 hz7 ⟨bl',rfl,hL'⟩
 have hz07 := hz06.trans hz7
 haveI : Zf Z7 pm _ := ⟨.of (hz07 _ _ hpm)⟩
 refine gn ?_
 refine WP.only [] ?_
 refine WP.draw [] [] [0,1,2,3,4,6,5,7,8,9,10] mo (by decide +kernel) (prm rfl) ?_
 refine gn ?_
 refine cg (args := [pt bm',pt bp']) (f71' hU (hsm'.mono hz7) (hsp'.mono (hz6.trans hz7))) ?_
 rintro _ Z8 hz8 ⟨bd,sd,rfl,hsd,ed⟩
 refine cg (args := [pt bd,pt bl']) (f99' hU hsd (hL'.mono hz8)) ?_
 rintro _ Z9 hz9 ⟨be,se,rfl,hse,ee⟩
 have hz09 := (hz07.trans hz8).trans hz9
 refine cg (args := [.agg (tv (vv a) sc nb).toArray,pt be]) (f92 hGc (hz09 _ _ ha) (hu.mono hz09) hse.1 hse.2 hU (fun x hx => ((em x).1 ((ed x).1 ((ee x).1 hx).1).1).2) (h.mono hz09).sch (h.mono hz09).nm) ?_
 rintro _ Z10 hz10 ⟨pq,N,rfl,hp2,hrm⟩
 refine gn ?_
 refine fin2 ?_
 intro Z' hz' hp'
 exact ⟨pq,N,rfl,hp2.mono hz',hrm.congr fun x _ => by rw [ee,ed,em,ep]⟩
end
end Go.Ux
namespace Go.Ux
open Go Go.Proofs
set_option maxRecDepth 20000
theorem mem_upd {k : Nm} {v : Value} {c : Nat} {e : En} : ∀ {es : List En},(es.map En.k).Nodup → e ∈ upd k v c es → (e.k = k ∧ e.v = v) ∨ (e ∈ es ∧ e.k ≠ k)
 | [],_,h => by simp only [upd,List.mem_singleton] at h; subst h; exact .inl ⟨rfl,rfl⟩
 | x :: es,hn,h => by
  simp only [List.map_cons,List.nodup_cons] at hn
  simp only [upd] at h
  split at h
  ·next hk =>
   rcases List.mem_cons.1 h with rfl | h
   ·exact .inl ⟨rfl,rfl⟩
   ·exact .inr ⟨List.mem_cons_of_mem _ h,fun he => hn.1 (by rw [← hk,← he]; exact List.mem_map_of_mem h)⟩
  ·next hk =>
   rcases List.mem_cons.1 h with rfl | h
   ·exact .inr ⟨List.mem_cons_self ..,fun he => hk he.symm⟩
   ·rcases mem_upd hn.2 h with h | ⟨h,h'⟩
    ·exact .inl h
    ·exact .inr ⟨List.mem_cons_of_mem _ h,h'⟩
theorem upd_has (k : Nm) (v : Value) (c : Nat) : ∀ es : List En,∃ e ∈ upd k v c es,e.k = k ∧ e.v = v
 | [] => ⟨_,List.mem_cons_self ..,rfl,rfl⟩
 | x :: es => by
  simp only [upd]
  split
  ·exact ⟨_,List.mem_cons_self ..,rfl,rfl⟩
  ·obtain ⟨e,he,h⟩ := upd_has k v c es
   exact ⟨e,List.mem_cons_of_mem _ he,h⟩
theorem upd_keep {k : Nm} {v : Value} {c : Nat} {e : En} : ∀ {es : List En},e ∈ es → e.k ≠ k → e ∈ upd k v c es
 | x :: es,h,hk => by
  simp only [upd]
  split
  ·next hx =>
   rcases List.mem_cons.1 h with rfl | h
   ·exact absurd hx.symm hk
   ·exact List.mem_cons_of_mem _ h
  ·rcases List.mem_cons.1 h with rfl | h
   ·exact List.mem_cons_self ..
   ·exact List.mem_cons_of_mem _ (upd_keep h hk)
theorem upd_old {k : Nm} {v : Value} {c : Nat} : ∀ {es : List En},k ∈ es.map En.k → (upd k v c es).map En.k = es.map En.k ∧ (upd k v c es).map En.t = es.map En.t
 | [],h => by cases h
 | x :: es,h => by
  simp only [upd]
  split
  ·next hx => subst hx; exact ⟨rfl,rfl⟩
  ·next hx =>
   simp only [List.map_cons,List.mem_cons] at h
   obtain ⟨h1,h2⟩ := upd_old (v := v) (c := c) (h.resolve_left hx)
   exact ⟨by rw [List.map_cons,h1,List.map_cons],by rw [List.map_cons,h2,List.map_cons]⟩
theorem Stm.upd {es : List En} {c : Nat} (h : Stm es c) (k : Nm) (v : Value) : Stm (Ux.upd k v c es) (nxt k es c) := by
 by_cases hk : k ∈ es.map En.k
 ·have hn : nxt k es c = c := by
   unfold nxt
   rw [if_pos]
   cases hl : lk es k with
   | some _ => rfl
   | none => exact absurd hk (lk_none hl)
  rw [hn]
  obtain ⟨h1,h2⟩ := upd_old (v := v) (c := c) hk
  refine ⟨fun e he => ?_,by rw [h2]; exact h.nd,by rw [h1]; exact h.kd⟩
  have : e.t ∈ (Ux.upd k v c es).map En.t := List.mem_map_of_mem he
  rw [h2] at this
  obtain ⟨e',he',ht⟩ := List.mem_map.1 this
  rw [← ht]; exact h.lt e' he'
 ·have hne : ∀ e ∈ es,e.k ≠ k := fun e he hk' => hk (hk' ▸ List.mem_map_of_mem he)
  rw [upd_new hne,nxt_new hne]
  exact h.snoc hne
theorem del_sub {k : Nm} {es : List En} : List.Sublist (del k es) es := List.eraseP_sublist
theorem mem_del {k : Nm} {e : En} : ∀ {es : List En},(es.map En.k).Nodup → (e ∈ del k es ↔ e ∈ es ∧ e.k ≠ k)
 | [],_ => by simp [del]
 | x :: es,hn => by
  simp only [List.map_cons,List.nodup_cons] at hn
  have ih := mem_del (k := k) (e := e) hn.2
  simp only [del] at ih ⊢
  by_cases hx : k = x.k
  ·rw [List.eraseP_cons_of_pos (by simp [hx])]
   constructor
   ·intro h; exact ⟨List.mem_cons_of_mem _ h,fun he => hn.1 (by rw [← hx,← he]; exact List.mem_map_of_mem h)⟩
   ·rintro ⟨h,h'⟩
    rcases List.mem_cons.1 h with rfl | h
    ·exact absurd hx.symm h'
    ·exact h
  ·rw [List.eraseP_cons_of_neg (by simp [hx]),List.mem_cons,List.mem_cons,ih]
   constructor
   ·rintro (rfl | ⟨h1,h2⟩)
    ·exact ⟨.inl rfl,fun h => hx h.symm⟩
    ·exact ⟨.inr h1,h2⟩
   ·rintro ⟨rfl | h1,h2⟩
    ·exact .inl rfl
    ·exact .inr ⟨h1,h2⟩
theorem Stm.del {es : List En} {c : Nat} (h : Stm es c) (k : Nm) : Stm (Ux.del k es) c :=
 ⟨fun e he => h.lt e (del_sub.subset he),h.nd.sublist (del_sub.map _),h.kd.sublist (del_sub.map _)⟩
theorem lk_of {es : List En} (hn : (es.map En.k).Nodup) {e : En} (he : e ∈ es) : lk es e.k = some e.v := by
 cases hl : lk es e.k with
 | none => exact absurd (List.mem_map_of_mem he) (lk_none hl)
 | some u =>
  obtain ⟨e',he',hk,rfl⟩ := lk_mem hl
  have key : ∀ {l : List En},(l.map En.k).Nodup → ∀ {a b : En},a ∈ l → b ∈ l → a.k = b.k → a = b := by
   intro l
   induction l with
   | nil => intro _ a b ha; cases ha
   | cons x l ih =>
    intro hn a b ha hb hab
    simp only [List.map_cons,List.nodup_cons] at hn
    rcases List.mem_cons.1 ha with rfl | ha'
    ·rcases List.mem_cons.1 hb with rfl | hb'
     ·rfl
     ·exact absurd (hab ▸ List.mem_map_of_mem (f := En.k) hb') hn.1
    ·rcases List.mem_cons.1 hb with rfl | hb'
     ·exact absurd (hab ▸ List.mem_map_of_mem (f := En.k) ha') hn.1
     ·exact ih hn.2 ha' hb' hab
  rw [key hn he' he hk]
abbrev Own := Nm → Option (Bool × FS)
def Own.has (f : Own) (k : Nm) (x : List Nm) : Prop := ∃ ap s,f k = some (ap,s) ∧ s.has x
def Own.set (f : Own) (k : Nm) (v : Option (Bool × FS)) : Own := fun k' => if k' = k then v else f k'
structure MF (Z : Fz) (U : List Nm) (ver : ByteArray) (es : List En) (c : Nat) (f : Own) : Prop where
 st : Stm es c
 en : ∀ e ∈ es,∃ b ap s,e.v = vst b ver ap ∧ ST Z U s b ∧ f e.k = some (ap,s)
 no : ∀ k,f k ≠ none → ∃ e ∈ es,e.k = k
section
variable {Z Z' : Fz} {U : List Nm} {ver : ByteArray} {es : List En} {c : Nat} {f : Own}
theorem MF.mono (hz : Fz.le Z Z') (h : MF Z U ver es c f) : MF Z' U ver es c f :=
 ⟨h.st,fun e he => by obtain ⟨b,ap,s,h1,h2,h3⟩ := h.en e he; exact ⟨b,ap,s,h1,h2.mono hz,h3⟩,h.no⟩
theorem MF.nil : MF Z U ver [] 0 (fun _ => none) := ⟨⟨by simp,by simp,by simp⟩,by simp,fun k h => absurd rfl h⟩
theorem MF.upd (h : MF Z U ver es c f) (k : Nm) {b : Nat} {ap : Bool} {s : FS} (hs : ST Z U s b) : MF Z U ver (Ux.upd k (vst b ver ap) c es) (nxt k es c) (f.set k (some (ap,s))) := by
 refine ⟨h.st.upd k _,fun e he => ?_,fun k' hk' => ?_⟩
 ·rcases mem_upd h.st.kd he with ⟨rfl,hv⟩ | ⟨he,hk⟩
  ·exact ⟨b,ap,s,hv,hs,by simp [Own.set]⟩
  ·obtain ⟨b',ap',s',h1,h2,h3⟩ := h.en e he
   exact ⟨b',ap',s',h1,h2,by simp [Own.set,hk,h3]⟩
 ·by_cases e : k' = k
  ·subst e
   obtain ⟨e,he,hk,_⟩ := upd_has k' (vst b ver ap) c es
   exact ⟨e,he,hk⟩
  ·simp only [Own.set,if_neg e] at hk'
   obtain ⟨x,hx,rfl⟩ := h.no k' hk'
   exact ⟨x,upd_keep hx e,rfl⟩
theorem MF.del (h : MF Z U ver es c f) (k : Nm) : MF Z U ver (Ux.del k es) c (f.set k none) := by
 refine ⟨h.st.del k,fun e he => ?_,fun k' hk' => ?_⟩
 ·obtain ⟨he,hk⟩ := (mem_del h.st.kd).1 he
  obtain ⟨b',ap',s',h1,h2,h3⟩ := h.en e he
  exact ⟨b',ap',s',h1,h2,by simp [Own.set,hk,h3]⟩
 ·by_cases e : k' = k
  ·subst e; simp [Own.set] at hk'
  ·simp only [Own.set,if_neg e] at hk'
   obtain ⟨x,hx,rfl⟩ := h.no k' hk'
   exact ⟨x,(mem_del h.st.kd).2 ⟨hx,e⟩,rfl⟩
theorem MF.get (h : MF Z U ver es c f) {k : Nm} {ap : Bool} {s : FS} (hf : f k = some (ap,s)) : ∃ b,lk es k = some (vst b ver ap) ∧ ST Z U s b := by
 obtain ⟨e,he,rfl⟩ := h.no k (by rw [hf]; simp)
 obtain ⟨b,ap',s',h1,h2,h3⟩ := h.en e he
 rw [hf] at h3; cases h3
 exact ⟨b,by rw [lk_of h.st.kd he,h1],h2⟩
theorem MF.none (h : MF Z U ver es c f) {k : Nm} (hf : f k = Option.none) : lk es k = Option.none := by
 cases hl : lk es k with
 | none => rfl
 | some u =>
  obtain ⟨e,he,rfl,_⟩ := lk_mem hl
  obtain ⟨_,_,_,_,_,h3⟩ := h.en e he
  rw [hf] at h3; cases h3
end
def left (es done : List En) : Nat := (es.filter fun e => decide (e.t ∉ done.map En.t)).length
theorem left_lt {es done : List En} {e : En} (he : e ∈ es) (hn : e.t ∉ (done.map En.t).toArray.toList) : left es (done ++ [e]) < left es done :=
 filter_lt _ _ (fun y hy => by simp at hy ⊢; exact hy.1) e (by simpa using hn) (by simp) es he
theorem nd_snoc {done : List En} {e : En} (h : (done.map En.t).Nodup) (hn : e.t ∉ (done.map En.t).toArray.toList) : ((done ++ [e]).map En.t).Nodup := by
 simp only [List.map_append,List.map_cons,List.map_nil]
 rw [List.nodup_append]
 exact ⟨h,by simp,fun a ha b hb => by simp only [List.mem_singleton] at hb; subst hb; exact fun h => hn (by simpa [h] using ha)⟩
theorem push_snoc (done : List En) (e : En) : (done.map En.t).toArray.push e.t = ((done ++ [e]).map En.t).toArray := by simp
end Go.Ux
namespace Go.Ux
open Go Go.Proofs
mutual
def NoN : RV → Prop
 | .mk k _ f _ _ l => (k = 3 → FloatKind.f64.format.order f f = some .eq) ∧ NoNL l
def NoNL : List RV → Prop
 | [] => True
 | r :: l => NoN r ∧ NoNL l
end
mutual
def Shp : RV → Tv → Prop
 | .mk k n f s ks l,t =>
  if k = 1 then t = .sc (.iface 4 (.bool (decide (n ≠ 0)))) else if k = 2 then t = .sc (.iface 2 (.int .i64 n)) else if k = 3 then t = .sc (.iface 33 (.float .f64 f)) else if k = 4 then t = .sc (.iface 9 (.string s))
  else if k = 5 then ∃ u ts,t = .li u ts ∧ ShpL l ts else if k = 6 then ∃ lt : List (Nm × Tv),t = .mp lt ∧ lt.map (·.1) = ks ∧ ShpL l (lt.map (·.2)) else t = .null
def ShpL : List RV → List Tv → Prop
 | [],ts => ts = []
 | r :: l,ts => ∃ t ts',ts = t :: ts' ∧ Shp r t ∧ ShpL l ts'
end
def PV (Z : Fz) (c : RV) (v : Value) : Prop := (v = .nilIface ∨ ∃ T u,v = .iface T u) ∧ (NoN c → ∃ t,AV Z t v ∧ Shp c t)
theorem PV.one {Z : Fz} {c : RV} {v : Value} (h : PV Z c v) : One v := by
 rcases h.1 with rfl | ⟨_,_,rfl⟩ <;> infer_instance
theorem PV.mono {Z Z' : Fz} (hz : Fz.le Z Z') {c : RV} {v : Value} (h : PV Z c v) : PV Z' c v :=
 ⟨h.1,fun hn => by obtain ⟨t,h1,h2⟩ := h.2 hn; exact ⟨t,h1.mono hz,h2⟩⟩
def PVs (Z : Fz) : List RV → List Value → Prop
 | [],vs => vs = []
 | r :: l,vs => ∃ v vs',vs = v :: vs' ∧ PV Z r v ∧ PVs Z l vs'
theorem PVs.mono {Z Z' : Fz} (hz : Fz.le Z Z') : ∀ {l : List RV} {vs : List Value},PVs Z l vs → PVs Z' l vs
 | [],_,h => h
 | _ :: _,_,⟨v,vs',h1,h2,h3⟩ => ⟨v,vs',h1,h2.mono hz,h3.mono hz⟩
theorem PVs.snoc {Z : Fz} {r : RV} {v : Value} (h' : PV Z r v) : ∀ {l : List RV} {vs : List Value},PVs Z l vs → PVs Z (l ++ [r]) (vs ++ [v])
 | [],_,h => by simp only [PVs] at h; subst h; exact ⟨v,[],rfl,h',rfl⟩
 | _ :: _,_,⟨v₀,vs',h1,h2,h3⟩ => ⟨v₀,vs' ++ [v],by rw [h1]; rfl,h2,h3.snoc h'⟩
theorem PVs.len {Z : Fz} : ∀ {l : List RV} {vs : List Value},PVs Z l vs → vs.length = l.length
 | [],_,h => by simp only [PVs] at h; subst h; rfl
 | _ :: _,_,⟨v,vs',h1,h2,h3⟩ => by rw [h1,List.length_cons,h3.len,List.length_cons]
theorem PVs.av {Z : Fz} : ∀ {l : List RV} {vs : List Value},PVs Z l vs → NoNL l → ∃ ts,AVs Z ts vs ∧ ShpL l ts
 | [],_,h,_ => by simp only [PVs] at h; subst h; exact ⟨[],by simp [AVs],by simp [ShpL]⟩
 | _ :: _,_,⟨v,vs',h1,h2,h3⟩,hn => by
  simp only [NoNL] at hn
  obtain ⟨t,q1,q2⟩ := h2.2 hn.1
  obtain ⟨ts,q3,q4⟩ := h3.av hn.2
  exact ⟨t :: ts,by simp only [AVs]; exact ⟨v,vs',h1,q1,q3⟩,by simp only [ShpL]; exact ⟨t,ts,rfl,q2,q4⟩⟩
structure PE (Z : Fz) (E : List (Nm × RV)) (es : List En) (c : Nat) : Prop where
 st : Stm es c
 inc : Inc (E.map (·.1))
 of : ∀ e ∈ es,∃ r,(e.k,r) ∈ E ∧ PV Z r e.v
 all : ∀ p ∈ E,∃ e ∈ es,e.k = p.1
theorem insK_memP {k : Nm} {v : RV} : ∀ {E : List (Nm × RV)},Inc (E.map (·.1)) → ∀ {p : Nm × RV},p ∈ insK k v E ↔ p = (k,v) ∨ (p ∈ E ∧ p.1 ≠ k)
 | [],_,p => by simp [insK]
 | q :: E,hi,p => by
  have hi' := List.pairwise_cons.1 hi
  have ih := insK_memP (k := k) (v := v) hi'.2 (p := p)
  have hgt : ∀ x ∈ E,ltN q.1 x.1 := fun x hx => hi'.1 x.1 (List.mem_map_of_mem (f := (·.1)) hx)
  simp only [insK]
  by_cases h1 : ltN k q.1
  ·rw [if_pos h1,List.mem_cons]
   constructor
   ·rintro (h | h)
    ·exact .inl h
    ·refine .inr ⟨h,?_⟩
     rcases List.mem_cons.1 h with rfl | h
     ·exact h1.ne.symm
     ·exact (h1.trans (hgt p h)).ne.symm
   ·rintro (h | h)
    ·exact .inl h
    ·exact .inr h.1
  ·by_cases h2 : k = q.1
   ·subst h2
    rw [if_neg h1,if_pos rfl,List.mem_cons,List.mem_cons]
    constructor
    ·rintro (h | h)
     ·exact .inl h
     ·exact .inr ⟨.inr h,(hgt p h).ne.symm⟩
    ·rintro (h | ⟨rfl | h,h'⟩)
     ·exact .inl h
     ·exact absurd rfl h'
     ·exact .inr h
   ·rw [if_neg h1,if_neg h2,List.mem_cons,ih,List.mem_cons]
    constructor
    ·rintro (rfl | h | ⟨h,h'⟩)
     ·exact .inr ⟨.inl rfl,fun e => h2 e.symm⟩
     ·exact .inl h
     ·exact .inr ⟨.inr h,h'⟩
    ·rintro (h | ⟨rfl | h,h'⟩)
     ·exact .inr (.inl h)
     ·exact .inl rfl
     ·exact .inr (.inr ⟨h,h'⟩)
theorem PE.nil {Z : Fz} : PE Z [] [] 0 := ⟨⟨by simp,by simp,by simp⟩,by simp [Inc],by simp,by simp⟩
theorem PE.mono {Z Z' : Fz} (hz : Fz.le Z Z') {E : List (Nm × RV)} {es : List En} {c : Nat} (h : PE Z E es c) : PE Z' E es c :=
 ⟨h.st,h.inc,fun e he => by obtain ⟨r,h1,h2⟩ := h.of e he; exact ⟨r,h1,h2.mono hz⟩,h.all⟩
theorem PE.put {Z : Fz} {E : List (Nm × RV)} {es : List En} {c : Nat} {k : Nm} {r : RV} {v : Value} (h : PE Z E es c) (hv : PV Z r v) : PE Z (insK k r E) (upd k v c es) (nxt k es c) := by
 refine ⟨h.st.upd k v,insK_inc h.inc,fun e he => ?_,fun p hp => ?_⟩
 ·rcases mem_upd h.st.kd he with ⟨h1,h2⟩ | ⟨h1,h2⟩
  ·exact ⟨r,by rw [h1]; exact (insK_memP h.inc).2 (.inl rfl),by rw [h2]; exact hv⟩
  ·obtain ⟨r',q1,q2⟩ := h.of e h1
   exact ⟨r',(insK_memP h.inc).2 (.inr ⟨q1,h2⟩),q2⟩
 ·rcases (insK_memP h.inc).1 hp with rfl | ⟨h1,h2⟩
  ·obtain ⟨e,q1,q2,_⟩ := upd_has k v c es
   exact ⟨e,q1,q2⟩
  ·obtain ⟨e,q1,q2⟩ := h.all p h1
   exact ⟨e,upd_keep q1 (by rw [q2]; exact h2),q2⟩
theorem PE.av {Z : Fz} {E : List (Nm × RV)} {es : List En} {c : Nat} (h : PE Z E es c) (hn : NoNL (E.map (·.2))) : ∃ (lt : List (Nm × Tv)) (es' : List En),es.Perm es' ∧ AVm Z lt es' ∧ lt.map (·.1) = E.map (·.1) ∧ ShpL (E.map (·.2)) (lt.map (·.2)) := by
 have key : ∀ F : List (Nm × RV),(∀ p ∈ F,p ∈ E) → NoNL (F.map (·.2)) → ∃ (lt : List (Nm × Tv)) (es' : List En),(∀ e ∈ es',e ∈ es) ∧ es'.map En.k = F.map (·.1) ∧ AVm Z lt es' ∧ lt.map (·.1) = F.map (·.1) ∧ ShpL (F.map (·.2)) (lt.map (·.2)) := by
  intro F
  induction F with
  | nil => intro _ _; exact ⟨[],[],by simp,rfl,by simp [AVm],rfl,by simp [ShpL]⟩
  | cons p F ih =>
   intro hF hn
   simp only [List.map_cons,NoNL] at hn
   obtain ⟨lt,es',q1,q2,q3,q4,q5⟩ := ih (fun x hx => hF x (List.mem_cons_of_mem _ hx)) hn.2
   obtain ⟨e,he,hk⟩ := h.all p (hF p (List.mem_cons_self ..))
   obtain ⟨r,hr,hv⟩ := h.of e he
   have e1 : r = p.2 := by
    have := nodup_one (h.inc.nodup) (k := e.k) (a := r) (b := p.2) hr (by rw [hk]; exact hF p (List.mem_cons_self ..))
    exact this
   subst e1
   obtain ⟨t,s1,s2⟩ := hv.2 hn.1
   refine ⟨(p.1,t) :: lt,e :: es',?_,by simp [q2,hk],?_,by simp [q4],?_⟩
   ·intro x hx
    rcases List.mem_cons.1 hx with rfl | hx
    ·exact he
    ·exact q1 x hx
   ·simp only [AVm]; exact ⟨e,es',rfl,hk,s1,q3⟩
   ·simp only [List.map_cons,ShpL]; exact ⟨t,_,rfl,s2,q5⟩
 obtain ⟨lt,es',q1,q2,q3,q4,q5⟩ := key E (fun _ h => h) hn
 refine ⟨lt,es',?_,q3,q4,q5⟩
 have n1 : es.Nodup := (List.pairwise_map.1 h.st.kd).imp fun hne e => hne (by rw [e])
 have n2 : es'.Nodup := by
  have : (es'.map En.k).Nodup := by rw [q2]; exact h.inc.nodup
  exact (List.pairwise_map.1 this).imp fun hne e => hne (by rw [e])
 refine (List.perm_ext_iff_of_nodup n1 n2).2 fun e => ⟨fun he => ?_,q1 e⟩
 obtain ⟨r,hr,_⟩ := h.of e he
 have : e.k ∈ es'.map En.k := by rw [q2]; exact List.mem_map_of_mem (f := (·.1)) hr
 obtain ⟨e',he',hk⟩ := List.mem_map.1 this
 have : e' = e := by
  have hn := h.st.kd
  have inj : ∀ {l : List En},(l.map En.k).Nodup → ∀ {a b : En},a ∈ l → b ∈ l → a.k = b.k → a = b := by
   intro l
   induction l with
   | nil => intro _ a b ha; cases ha
   | cons x l ih =>
    intro hn a b ha hb hab
    simp only [List.map_cons,List.nodup_cons] at hn
    rcases List.mem_cons.1 ha with rfl | ha'
    ·rcases List.mem_cons.1 hb with rfl | hb'
     ·rfl
     ·exact absurd (hab ▸ List.mem_map_of_mem (f := En.k) hb') hn.1
    ·rcases List.mem_cons.1 hb with rfl | hb'
     ·exact absurd (hab ▸ List.mem_map_of_mem (f := En.k) ha') hn.1
     ·exact ih hn.2 ha' hb' hab
  exact inj hn (q1 e' he') he hk
 exact this ▸ he'
end Go.Ux
namespace Go.Ux
open Go Go.Proofs
theorem insK_last {k : Nm} {v : RV} : ∀ {e : List (Nm × RV)},(∀ p ∈ e,ltN p.1 k) → insK k v e = e ++ [(k,v)]
 | [],_ => rfl
 | p :: e,h => by
  have h1 := h p (List.mem_cons_self ..)
  simp only [insK]
  have h2 : ¬ k = p.1 := fun e => by rw [← e] at h1; exact ltN.irrefl k h1
  rw [if_neg h1.asymm,if_neg h2,insK_last fun q hq => h q (List.mem_cons_of_mem _ hq)]
  rfl
theorem putM_self : ∀ {e : List (Nm × RV)},Inc (e.map (·.1)) → (∀ p ∈ e,p.2.clean = p.2) → putM e = e := by
 have key : ∀ (e₂ e₁ : List (Nm × RV)),Inc ((e₁ ++ e₂).map (·.1)) → (∀ p ∈ e₂,p.2.clean = p.2) → e₂.foldl (fun e p => insK p.1 p.2.clean e) e₁ = e₁ ++ e₂ := by
  intro e₂
  induction e₂ with
  | nil => intro e₁ _ _; simp
  | cons p e₂ ih =>
   intro e₁ hi hc
   have hlt : ∀ q ∈ e₁,ltN q.1 p.1 := fun q hq => by
    rw [List.map_append] at hi
    exact (List.pairwise_append.1 hi).2.2 q.1 (List.mem_map_of_mem (f := (·.1)) hq) p.1 (by simp)
   rw [List.foldl_cons,hc p (List.mem_cons_self ..),insK_last hlt,ih _ (by simpa using hi) fun q hq => hc q (List.mem_cons_of_mem _ hq)]
   simp
 intro e hi hc
 have := key e [] (by simpa using hi) hc
 simpa [putM] using this
theorem mem_insK {k : Nm} {v : RV} {p : Nm × RV} : ∀ {e : List (Nm × RV)},p ∈ insK k v e → p = (k,v) ∨ p ∈ e
 | [],h => by simp only [insK,List.mem_singleton] at h; exact .inl h
 | q :: e,h => by
  simp only [insK] at h
  split at h
  ·rcases List.mem_cons.1 h with h | h
   ·exact .inl h
   ·exact .inr h
  ·split at h
   ·rcases List.mem_cons.1 h with h | h
    ·exact .inl h
    ·exact .inr (List.mem_cons_of_mem _ h)
   ·rcases List.mem_cons.1 h with h | h
    ·exact .inr (h ▸ List.mem_cons_self ..)
    ·exact (mem_insK h).imp id (List.mem_cons_of_mem _)
theorem mem_putM {z : List (Nm × RV)} {p : Nm × RV} (h : p ∈ putM z) : ∃ q ∈ z,p.1 = q.1 ∧ p.2 = q.2.clean := by
 have key : ∀ (z e : List (Nm × RV)),p ∈ z.foldl (fun e p => insK p.1 p.2.clean e) e → p ∈ e ∨ ∃ q ∈ z,p.1 = q.1 ∧ p.2 = q.2.clean := by
  intro z
  induction z with
  | nil => intro e h; exact .inl h
  | cons q z ih =>
   intro e h
   rcases ih _ h with h | ⟨q',h1,h2⟩
   ·rcases mem_insK h with rfl | h
    ·exact .inr ⟨q,List.mem_cons_self ..,rfl,rfl⟩
    ·exact .inl h
   ·exact .inr ⟨q',List.mem_cons_of_mem _ h1,h2⟩
 rcases key z [] h with h | h
 ·cases h
 ·exact h
theorem clean_map {n : Int} {f : Nat} {s : ByteArray} {ks : List Nm} {l : List RV} : (RV.mk 6 n f s ks l).clean = mkM (putM (ks.zip l)) := by
 simp only [RV.clean]
 rw [cleanM_fold]; rfl
theorem clean_clean : ∀ (N : Nat) (r : RV),r.sz < N → r.clean.clean = r.clean
 | 0,_,h => by omega
 | N + 1,.mk k n f s ks l,h => by
  simp only [RV.sz] at h
  have hl : ∀ x ∈ l,x.clean.clean = x.clean := fun x hx => by
   obtain ⟨i,hi,e⟩ := List.mem_iff_getElem.1 hx
   have := sz_at (l := l) (i := i) (r := x) (by rw [← e]; simp)
   exact clean_clean N x (by omega)
  by_cases h1 : k = 1
  ·subst h1; simp only [RV.clean]; simp; split <;> simp [RV.clean]
  by_cases h2 : k = 2
  ·subst h2; simp [RV.clean]
  by_cases h3 : k = 3
  ·subst h3; simp [RV.clean]
  by_cases h4 : k = 4
  ·subst h4; simp [RV.clean]
  by_cases h5 : k = 5
  ·subst h5
   have e : ∀ l : List RV,(∀ x ∈ l,x.clean.clean = x.clean) → cleanL (cleanL l) = cleanL l := by
    intro l
    induction l with
    | nil => intro _; rfl
    | cons x l ih => intro h; simp only [cleanL,h x (List.mem_cons_self ..),ih fun y hy => h y (List.mem_cons_of_mem _ hy)]
   simp [RV.clean,e l hl]
  by_cases h6 : k = 6
  ·subst h6
   rw [clean_map,clean_map]
   have hz : ((putM (ks.zip l)).map (·.1)).zip ((putM (ks.zip l)).map (·.2)) = putM (ks.zip l) := by
    induction putM (ks.zip l) with
    | nil => rfl
    | cons p e ih => simp [ih]
   rw [hz,putM_self (putM_inc _).1 fun p hp => by
    obtain ⟨q,hq,_,e⟩ := mem_putM hp
    rw [e]
    exact hl q.2 (List.of_mem_zip hq).2]
  ·simp [RV.clean,h1,h2,h3,h4,h5,h6]
def Cl (r : RV) : Prop := r.clean = r
theorem Cl.of (r : RV) : Cl r.clean := clean_clean _ r (Nat.lt_succ_self _)
theorem Cl.items {k n : Int} {f : Nat} {s : ByteArray} {ks : List Nm} {l : List RV} (h : Cl (.mk k n f s ks l)) (h5 : k = 5) : ∀ x ∈ l,Cl x := by
 subst h5
 have e : cleanL l = l := by
  have := h
  unfold Cl at this
  simp only [RV.clean] at this
  simp at this
  exact this.2.2.2.2
 have key : ∀ l : List RV,cleanL l = l → ∀ x ∈ l,Cl x := by
  intro l
  induction l with
  | nil => intro _ x hx; cases hx
  | cons y l ih =>
   intro h x hx
   simp only [cleanL,List.cons.injEq] at h
   rcases List.mem_cons.1 hx with rfl | hx
   ·exact h.1
   ·exact ih h.2 x hx
 exact key l e
structure ClM (ks : List Nm) (l : List RV) : Prop where
 inc : Inc ks
 len : ks.length = l.length
 all : ∀ x ∈ l,Cl x
theorem Cl.fields {k n : Int} {f : Nat} {s : ByteArray} {ks : List Nm} {l : List RV} (h : Cl (.mk k n f s ks l)) (h6 : k = 6) : ClM ks l := by
 subst h6
 unfold Cl at h
 rw [clean_map] at h
 simp only [mkM,RV.mk.injEq] at h
 obtain ⟨_,_,_,_,h1,h2⟩ := h
 have hi := (putM_inc (ks.zip l)).1
 rw [h1] at hi
 have e1 := congrArg List.length h1
 have e2 := congrArg List.length h2
 rw [List.length_map] at e1 e2
 refine ⟨hi,e1.symm.trans e2,fun x hx => ?_⟩
 rw [← h2] at hx
 obtain ⟨p,hp,rfl⟩ := List.mem_map.1 hx
 obtain ⟨q,_,_,e⟩ := mem_putM hp
 rw [e]; exact .of _
theorem Cl.mkM {ks : List Nm} {l : List RV} (h : ClM ks l) : Cl (.mk 6 0 0 ⟨#[]⟩ ks l) := by
 unfold Cl
 rw [clean_map]
 have e1 : (ks.zip l).map (·.1) = ks := List.map_fst_zip (by have := h.len; omega)
 have e2 : (ks.zip l).map (·.2) = l := List.map_snd_zip (by have := h.len; omega)
 rw [putM_self (by rw [e1]; exact h.inc) fun p hp => h.all p.2 (List.of_mem_zip hp).2]
 simp only [Ux.mkM,e1,e2]
theorem Cl.mkL {l : List RV} (h : ∀ x ∈ l,Cl x) : Cl (.mk 5 0 0 ⟨#[]⟩ [] l) := by
 have : ∀ l : List RV,(∀ x ∈ l,Cl x) → cleanL l = l := by
  intro l
  induction l with
  | nil => intro _; rfl
  | cons x l ih => intro h; simp only [cleanL]; rw [h x (List.mem_cons_self ..),ih fun y hy => h y (List.mem_cons_of_mem _ hy)]
 unfold Cl
 simp [RV.clean,this l h]
inductive RAt : RV → List Nm → RV → Prop
 | here (r : RV) : RAt r [] r
 | down {n : Int} {f : Nat} {s : ByteArray} {ks : List Nm} {l : List RV} {k : Nm} {x u : RV} {q : List Nm} (h : (k,x) ∈ ks.zip l) (h' : RAt x q u) : RAt (.mk 6 n f s ks l) (k :: q) u
theorem RAt.nil_iff {r u : RV} : RAt r [] u ↔ r = u := ⟨fun h => by cases h; rfl,fun h => h ▸ .here r⟩
theorem RAt.cons_iff {r u : RV} {k : Nm} {q : List Nm} : RAt r (k :: q) u ↔ r.k = 6 ∧ ∃ x,(k,x) ∈ r.ks.zip r.l ∧ RAt x q u := by
 constructor
 ·intro h; cases h with | down h h' => exact ⟨rfl,_,h,h'⟩
 ·rintro ⟨h,x,h1,h2⟩
  obtain ⟨k',n,f,s,ks,l⟩ := r
  simp only [RV.k] at h
  subst h
  exact .down h1 h2
theorem Cl.at : ∀ {q : List Nm} {r u : RV},Cl r → RAt r q u → Cl u
 | [],r,u,h,hu => RAt.nil_iff.1 hu ▸ h
 | k :: q,.mk k' n f s ks l,u,h,hu => by
  obtain ⟨h6,x,hx,hu'⟩ := RAt.cons_iff.1 hu
  exact Cl.at ((h.fields h6).all x (List.of_mem_zip hx).2) hu'
theorem ShpL_zip : ∀ {l : List RV} {lt : List (Nm × Tv)} {k : Nm},ShpL l (lt.map (·.2)) → (∀ x,(k,x) ∈ (lt.map (·.1)).zip l → ∃ t,(k,t) ∈ lt ∧ Shp x t) ∧ ∀ t,(k,t) ∈ lt → ∃ x,(k,x) ∈ (lt.map (·.1)).zip l ∧ Shp x t
 | [],[],k,_ => by simp
 | [],_ :: _,k,h => by simp [ShpL] at h
 | _ :: _,[],k,h => by simp [ShpL] at h
 | r :: l,p :: lt,k,h => by
  simp only [List.map_cons,ShpL,List.cons.injEq] at h
  obtain ⟨t,ts,⟨rfl,rfl⟩,h1,h2⟩ := h
  obtain ⟨i1,i2⟩ := ShpL_zip (k := k) h2
  constructor
  ·intro x hx
   simp only [List.map_cons,List.zip_cons_cons,List.mem_cons,Prod.mk.injEq] at hx
   rcases hx with ⟨rfl,rfl⟩ | hx
   ·exact ⟨p.2,List.mem_cons_self ..,h1⟩
   ·obtain ⟨t,ht,hs⟩ := i1 x hx
    exact ⟨t,List.mem_cons_of_mem _ ht,hs⟩
  ·intro t ht
   simp only [List.map_cons,List.zip_cons_cons]
   rcases List.mem_cons.1 ht with ht | ht
   ·subst ht; exact ⟨r,List.mem_cons_self ..,h1⟩
   ·obtain ⟨x,hx,hs⟩ := i2 t ht
    exact ⟨x,List.mem_cons_of_mem _ hx,hs⟩
theorem Shp.six {n : Int} {f : Nat} {s : ByteArray} {ks : List Nm} {l : List RV} {t : Tv} : Shp (.mk 6 n f s ks l) t ↔ ∃ lt : List (Nm × Tv),t = .mp lt ∧ lt.map (·.1) = ks ∧ ShpL l (lt.map (·.2)) := by simp [Shp]
theorem Shp.kind {r : RV} {t : Tv} (h : Shp r t) : (r.k = 6 ↔ ∃ l,t = .mp l) ∧ (r.k = 5 → t.cls = 2) ∧ (r.k = 1 ∨ r.k = 2 ∨ r.k = 3 ∨ r.k = 4 → t.cls = 1) ∧ (r.k = 6 → t.cls = 0) ∧ (¬ (r.k = 1 ∨ r.k = 2 ∨ r.k = 3 ∨ r.k = 4 ∨ r.k = 5 ∨ r.k = 6) → t.cls = 0) := by
 obtain ⟨k,n,f,s,ks,l⟩ := r
 simp only [Shp] at h
 simp only [RV.k]
 split at h
 ·subst h; simp_all [Tv.cls]
 split at h
 ·subst h; simp_all [Tv.cls]
 split at h
 ·subst h; simp_all [Tv.cls]
 split at h
 ·subst h; simp_all [Tv.cls]
 split at h
 ·obtain ⟨u,ts,rfl,_⟩ := h; simp_all [Tv.cls]
 split at h
 ·obtain ⟨lt,rfl,_⟩ := h; simp_all [Tv.cls]
 ·subst h; simp_all [Tv.cls]
theorem Shp.down : ∀ {q : List Nm} {r u : RV} {t : Tv},Shp r t → RAt r q u → ∃ t',At t q t' ∧ Shp u t'
 | [],r,u,t,h,hu => ⟨t,.here t,RAt.nil_iff.1 hu ▸ h⟩
 | k :: q,.mk k' n f s ks l,u,t,h,hu => by
  obtain ⟨h6,x,hx,hu'⟩ := RAt.cons_iff.1 hu
  simp only [RV.k] at h6
  subst h6
  obtain ⟨lt,rfl,rfl,h3⟩ := Shp.six.1 h
  obtain ⟨t',ht,hs⟩ := (ShpL_zip h3).1 x hx
  obtain ⟨t'',h1,h2⟩ := Shp.down hs hu'
  exact ⟨t'',.down ht h1,h2⟩
theorem Shp.up : ∀ {q : List Nm} {r : RV} {t t' : Tv},Shp r t → At t q t' → ∃ u,RAt r q u ∧ Shp u t'
 | [],r,t,t',h,ht => ⟨r,.here r,At.nil_iff.1 ht ▸ h⟩
 | k :: q,.mk k' n f s ks l,t,t',h,ht => by
  obtain ⟨lt,t₁,rfl,h1,h2⟩ := At.cons_iff.1 ht
  have h6 := h.kind.1.2 ⟨lt,rfl⟩
  simp only [RV.k] at h6
  subst h6
  obtain ⟨lt',e,rfl,h3⟩ := Shp.six.1 h
  cases e
  obtain ⟨x,hx,hs⟩ := (ShpL_zip h3).2 t₁ h1
  obtain ⟨u,h4,h5⟩ := Shp.up hs h2
  exact ⟨u,.down hx h4,h5⟩
theorem Shp.dm {r : RV} {t : Tv} (h : Shp r t) {q : List Nm} : Dm t q ↔ ∃ u,RAt r q u :=
 ⟨fun ⟨_,ht⟩ => let ⟨u,h1,_⟩ := h.up ht; ⟨u,h1⟩,fun ⟨_,hu⟩ => let ⟨t',h1,_⟩ := h.down hu; ⟨t',h1⟩⟩
mutual
def RV.nodes : RV → Nat
 | .mk k _ _ _ _ l => 1 + if k = 5 ∨ k = 6 then nodesL l else 0
def nodesL : List RV → Nat
 | [] => 0
 | r :: l => r.nodes + nodesL l
end
mutual
theorem Shp.nodes : ∀ {r : RV} {t : Tv},Shp r t → t.sz = r.nodes
 | .mk k n f s ks l,t,h => by
  have hh := h
  simp only [Shp] at h
  simp only [RV.nodes]
  split at h
  ·subst h; rename_i h; simp [h,Tv.sz]
  split at h
  ·subst h; rename_i h; simp [h,Tv.sz]
  split at h
  ·subst h; rename_i h; simp [h,Tv.sz]
  split at h
  ·subst h; rename_i h; simp [h,Tv.sz]
  split at h
  ·obtain ⟨u,ts,rfl,h2⟩ := h; rename_i h; simp [h,Tv.sz,ShpL.nodes h2]
  split at h
  ·rename_i h6
   obtain ⟨lt,rfl,_,h2⟩ := h
   have := ShpL.nodes h2
   have e : ∀ lt : List (Nm × Tv),szM lt = szL (lt.map (·.2)) := by
    intro lt
    induction lt with
    | nil => rfl
    | cons p lt ih => simp only [szM,List.map_cons,szL,ih]
   simp [h6,Tv.sz,e,this]
  ·subst h; simp_all [Tv.sz]
theorem ShpL.nodes : ∀ {l : List RV} {ts : List Tv},ShpL l ts → szL ts = nodesL l
 | [],ts,h => by simp only [ShpL] at h; subst h; rfl
 | r :: l,ts,h => by
  simp only [ShpL] at h
  obtain ⟨t,ts',rfl,h1,h2⟩ := h
  simp only [szL,nodesL,h1.nodes,ShpL.nodes h2]
end
end Go.Ux
namespace Go.Ux
open Go Go.Proofs
set_option maxRecDepth 20000
mutual
def RV.nms : RV → List Nm
 | .mk _ _ _ _ ks l => ks ++ nmsL l
def nmsL : List RV → List Nm
 | [] => []
 | r :: l => r.nms ++ nmsL l
end
mutual
theorem nms_sz : ∀ r : RV,r.nms.length ≤ r.sz
 | .mk k n f s ks l => by
  have := nmsL_sz l
  simp only [RV.nms,RV.sz,List.length_append]; omega
theorem nmsL_sz : ∀ l : List RV,(nmsL l).length ≤ szV l
 | [] => by simp [nmsL]
 | r :: l => by
  have h1 := nms_sz r
  have h2 := nmsL_sz l
  simp only [nmsL,szV,List.length_append]; omega
end
theorem mem_nmsL {k : Nm} : ∀ {l : List RV},k ∈ nmsL l ↔ ∃ r ∈ l,k ∈ r.nms
 | [] => by simp [nmsL]
 | r :: l => by simp [nmsL,mem_nmsL (l := l)]
theorem szV_app : ∀ {l l' : List RV},szV (l ++ l') = szV l + szV l'
 | [],l' => by simp [szV]
 | r :: l,l' => by simp only [List.cons_append,szV,szV_app (l := l)]; omega
theorem zip_self {α β : Type} : ∀ {e : List (α × β)},(e.map (·.1)).zip (e.map (·.2)) = e
 | [] => rfl
 | p :: e => by simp [zip_self (e := e)]
theorem clean_inU : ∀ (N : Nat) (r : RV),r.sz < N → ∀ (q : List Nm) (u : RV),RAt r.clean q u → ∀ k ∈ q,k ∈ r.nms
 | 0,_,h => by omega
 | N + 1,.mk k n f s ks l,h => by
  intro q u hu x hx
  cases q with
  | nil => simp at hx
  | cons y q =>
   obtain ⟨h6,v,hv,hu'⟩ := RAt.cons_iff.1 hu
   have e6 : k = 6 := by
    simp only [RV.clean] at h6
    repeat' split at h6
    all_goals first
     | assumption
     | (exfalso; revert h6; decide)
     | (exfalso; simp [RV.k] at h6)
   subst e6
   rw [clean_map] at hv
   simp only [RV.ks,RV.l] at hv
   rw [zip_self] at hv
   obtain ⟨p,hp,e1,e2⟩ := mem_putM hv
   simp only at e1 e2
   obtain ⟨hp1,hp2⟩ := List.of_mem_zip hp
   subst e1 e2
   simp only [RV.nms,List.mem_append]
   rcases List.mem_cons.1 hx with rfl | hx
   ·exact .inl hp1
   ·right
    obtain ⟨i,hi,e⟩ := List.mem_iff_getElem.1 hp2
    have hs := sz_at (l := l) (i := i) (r := p.2) (by simp [← e])
    simp only [RV.sz] at h
    exact mem_nmsL.2 ⟨p.2,hp2,clean_inU N p.2 (by omega) q u hu' x hx⟩
section
variable {H : Type} {enc : TypeId × Value → H} {P : Program} {w : World} {hd : Bool}
theorem row_snoc {xs : List Value} {off n k : Nat} : (xs.drop off).take ((n + 1) * k) = (xs.drop off).take (n * k) ++ (xs.drop (off + n * k)).take k := by
 rw [Nat.add_mul,Nat.one_mul,List.take_add,List.drop_drop]
structure Bk (B : DataW H → Nat) (BA : List (DataW H) → Nat) : Prop where
 str : ∀ bytes,B (.lit (.string bytes)) = bytes.length + 1
 sl : ∀ es rs,B (.slice es rs) = BA es + BA rs + 1
 agg : ∀ ps,B (.agg ps) = BA ps + 1
 nil : BA [] = 0
 cons : ∀ d r,BA (d :: r) = B d + BA r
variable {B : DataW H → Nat} {BA : List (DataW H) → Nat}
theorem Bk.app (hB : Bk B BA) (l r : List (DataW H)) : BA (l ++ r) = BA l + BA r := by
 induction l with
 | nil => simp [hB.nil]
 | cons d l ih => rw [List.cons_append,hB.cons,hB.cons,ih]; omega
theorem Bk.snoc (hB : Bk B BA) {es : List (DataW H)} {n : Nat} {y : DataW H} (h : es[n]? = some y) : BA (es.take (n + 1)) = BA (es.take n) + B y := by
 rw [List.take_add_one,h,hB.app]
 show _ + BA [y] = _
 rw [hB.cons,hB.nil]; omega
theorem bsz (s : ByteArray) : s.data.toList.length = s.size := by rw [Array.length_toList]; rfl
theorem td_names (hB : Bk B BA) {t : TypeId} {xs : List Value} {off fuel : Nat} {es : List (DataW H)} (ht : P.underlying t = some .string) (hk : P.cellsOf t = 1) : ∀ n,
  (∀ i,i < n → ∃ y q,es[i]? = some y ∧ ((xs.drop (off + i * P.cellsOf t)).take (P.cellsOf t)).length = P.cellsOf t ∧ DataW.trod enc P w 0 (fun _ => true) hd fuel t ((xs.drop (off + i * P.cellsOf t)).take (P.cellsOf t)) = some (y,q)) →
  ∃ ks : List Nm,ks.length = n ∧ (xs.drop off).take (n * 1) = ks.map .string ∧ ks.length ≤ BA (es.take n) ∧ ∀ k ∈ ks,k.size ≤ BA (es.take n)
 | 0,_ => ⟨[],rfl,by simp,by simp,by simp⟩
 | n + 1,h => by
  obtain ⟨ks,h1,h2,h3,h4⟩ := td_names hB ht hk n fun i hi => h i (by omega)
  obtain ⟨y,q,e1,e2,e3⟩ := h n (by omega)
  obtain ⟨s,e4,rfl⟩ := td_string ht e3
  have hb := hB.snoc e1
  rw [hB.str,bsz] at hb
  refine ⟨ks ++ [s],by simp [h1],?_,by simp; omega,fun k hk' => ?_⟩
  ·rw [row_snoc,h2]
   rw [hk] at e4
   rw [e4]; simp
  ·rcases List.mem_append.1 hk' with h' | h'
   ·have := h4 k h'; omega
   ·rw [List.mem_singleton.1 h']; omega
def shp : TypeDesc → List (Nat × Nat)
 | .struct fs => fs.toList.map fun (f : Field) => (f.type,f.offset)
 | _ => []
theorem td_fields {L : List (Nat × Nat)} {t : TypeId} {fuel : Nat} {cs : List Value} {d : DataW H} {p : List MemPlace} {fs : Array Field} (ht : P.underlying t = some (.struct fs)) (hL : shp (.struct fs) = L) (h : DataW.trod enc P w 0 (fun _ => true) hd fuel t cs = some (d,p)) :
  cs.length = P.cellsOf t ∧ ∃ fuel' ys,d = .agg ys ∧ ys.length = L.length ∧ fuel = fuel' + 1 ∧ ∀ (i T o : Nat),L[i]? = some (T,o) → ∃ y q,ys[i]? = some y ∧ DataW.trod enc P w 0 (fun _ => true) hd fuel' T ((cs.drop o).take (P.cellsOf T)) = some (y,q) := by
 obtain ⟨hl,fuel',xs,h1,h2,h3⟩ := td_struct ht h
 obtain ⟨q1,q2⟩ := mapM_at h1
 subst hL
 refine ⟨hl,fuel',xs.map (·.1),h2,by simp [q1,shp],h3,fun i T o hi => ?_⟩
 simp only [shp,List.getElem?_map,Option.map_eq_some_iff,Prod.mk.injEq] at hi
 obtain ⟨f,hf,rfl,rfl⟩ := hi
 obtain ⟨y,e1,e2⟩ := q2 i f hf
 exact ⟨y.1,y.2,by simp [e1],e2⟩
end
section
variable {H : Type} {enc : TypeId × Value → H} {w : World} {hd : Bool} {B : DataW H → Nat} {BA : List (DataW H) → Nat}
theorem cof9 : Tryz.prog.cellsOf 9 = 1 := by kernel_rfl
theorem cof3 : Tryz.prog.cellsOf 3 = 1 := by kernel_rfl
theorem cof2 : Tryz.prog.cellsOf 2 = 1 := by kernel_rfl
theorem cof4 : Tryz.prog.cellsOf 4 = 1 := by kernel_rfl
theorem cof33 : Tryz.prog.cellsOf 33 = 1 := by kernel_rfl
theorem cof34 : Tryz.prog.cellsOf 34 = 1 := by kernel_rfl
theorem cof35 : Tryz.prog.cellsOf 35 = 1 := by kernel_rfl
theorem cof37 : Tryz.prog.cellsOf 37 = 6 := by kernel_rfl
theorem cof61 : Tryz.prog.cellsOf 61 = 10 := by kernel_rfl
abbrev zW (w : World) : Fz := fun b => w.heap[b]?
theorem rdz_row {b : Nat} {c : Array Value} {T : TypeId} {fr : Nat × Nat} {U : Nat} (h : w.heap[b]? = some (.cells c T fr)) : inQ (zW w) U b (cl c.toList U) := ⟨⟨_,h,T,fr,by simp⟩,_,rfl⟩
theorem rd_names (hB : Bk B BA) {fuel : Nat} {v : Value} {d : DataW H} {p : List MemPlace} (h : DataW.trod enc Tryz.prog w 0 (fun _ => true) hd fuel 34 [v] = some (d,p)) :
  ∃ ks : List Nm,Rs (inQ (zW w) 9) 1 v ks.length (ks.map .string) ∧ ks.length ≤ B d ∧ ∀ k ∈ ks,k.size ≤ B d := by
 rcases td_slice Tryz.underlying34 (by rw [cof9]; decide) h with ⟨e,rfl⟩ | ⟨a,e,rfl⟩ | ⟨b,off,len,cap,fuel',c,T,fr,es,rs,e,hlc,hc,rfl,hel,rfl,hrow⟩
 all_goals simp only [List.cons.injEq,and_true] at e
 all_goals subst e
 ·exact ⟨[],.nil 0,by simp,by simp⟩
 ·exact ⟨[],.emp a,by simp,by simp⟩
 ·obtain ⟨ks,h1,h2,h3,h4⟩ := td_names hB Tryz.underlying9 cof9 len hrow
  rw [List.take_of_length_le (by omega)] at h3 h4
  have := hB.sl es rs
  refine ⟨ks,?_,by omega,fun k hk => by have := h4 k hk; omega⟩
  rw [h1]
  exact .row b off len cap 9 c.toList _ (rdz_row hc) h2 (by simp [h1]) hlc
theorem rd_val (hB : Bk B BA) : ∀ (fuel : Nat) (cs : List Value) (d : DataW H) (p : List MemPlace),DataW.trod enc Tryz.prog w 0 (fun _ => true) hd fuel 37 cs = some (d,p) →
  ∃ r : RV,RVc (zW w) r cs ∧ r.sz ≤ B d ∧ ∀ k ∈ r.nms,k.size ≤ B d := by
 intro fuel
 induction fuel using Nat.strongRecOn with
 | _ fuel ih =>
 intro cs d p h
 obtain ⟨hl,fuel',ys,rfl,hyl,rfl,hf⟩ := td_fields (L := [(3,0),(2,1),(33,2),(9,3),(34,4),(35,5)]) Tryz.underlying37 rfl h
 rw [cof37] at hl
 obtain ⟨v0,v1,v2,v3,v4,v5,rfl⟩ : ∃ v0 v1 v2 v3 v4 v5,cs = [v0,v1,v2,v3,v4,v5] := by
  match cs,hl with
  | [v0,v1,v2,v3,v4,v5],_ => exact ⟨v0,v1,v2,v3,v4,v5,rfl⟩
 obtain ⟨y0,q0,g0,h0⟩ := hf 0 3 0 rfl
 obtain ⟨y1,q1,g1,h1⟩ := hf 1 2 1 rfl
 obtain ⟨y2,q2,g2,h2⟩ := hf 2 33 2 rfl
 obtain ⟨y3,q3,g3,h3⟩ := hf 3 9 3 rfl
 obtain ⟨y4,q4,g4,h4⟩ := hf 4 34 4 rfl
 obtain ⟨y5,q5,g5,h5⟩ := hf 5 35 5 rfl
 obtain rfl : ys = [y0,y1,y2,y3,y4,y5] := by
  match ys,hyl,g0,g1,g2,g3,g4,g5 with
  | [a,b,c,d,e,f],_,g0,g1,g2,g3,g4,g5 => simp at g0 g1 g2 g3 g4 g5; simp [*]
 rw [cof3] at h0
 rw [cof2] at h1
 rw [cof33] at h2
 rw [cof9] at h3
 rw [cof34] at h4
 rw [cof35] at h5
 obtain ⟨n0,e0,rfl⟩ := td_int Tryz.underlying3 h0
 obtain ⟨n1,e1,rfl⟩ := td_int Tryz.underlying2 h1
 obtain ⟨n2,e2,rfl⟩ := td_float Tryz.underlying33 h2
 obtain ⟨s3,e3,rfl⟩ := td_string Tryz.underlying9 h3
 simp at e0 e1 e2 e3
 subst e0 e1 e2 e3
 obtain ⟨ks,k1,k2,k3⟩ := rd_names hB (v := v4) h4
 have hbd : B (.agg [.lit (.int .i64 n0),.lit (.int .i64 n1),.lit (.float .f64 n2),.lit (.string s3.data.toList),y4,y5]) ≥ 1 + B y4 + B y5 := by
  rw [hB.agg]; simp only [hB.cons,hB.nil]; omega
 have hl5 : ∃ (l : List RV) (lc : List Value),Rs (inQ (zW w) 37) 6 v5 l.length lc ∧ RVl (zW w) l lc ∧ szV l ≤ B y5 ∧ ∀ k ∈ nmsL l,k.size ≤ B y5 := by
  rcases td_slice (t := 35) Tryz.underlying35 (by rw [cof37]; decide) (cs := [v5]) h5 with ⟨e,rfl⟩ | ⟨a,e,rfl⟩ | ⟨b,off,len,cap,fuel'',c,T,fr,es,rs,e,hlc,hc,rfl,hel,rfl,hrow⟩
  all_goals simp only [List.cons.injEq,and_true] at e
  all_goals subst e
  ·exact ⟨[],[],.nil 0,by simp [RVl],by simp [szV],by simp [nmsL]⟩
  ·exact ⟨[],[],.emp a,by simp [RVl],by simp [szV],by simp [nmsL]⟩
  ·have key : ∀ n,n ≤ len → ∃ l : List RV,l.length = n ∧ RVl (zW w) l ((c.toList.drop off).take (n * 6)) ∧ szV l ≤ BA (es.take n) ∧ ∀ k ∈ nmsL l,k.size ≤ BA (es.take n) := by
    intro n
    induction n with
    | zero => intro _; exact ⟨[],rfl,by simp [RVl],by simp [szV],by simp [nmsL]⟩
    | succ n ihn =>
     intro hn
     obtain ⟨l,a1,a2,a3,a4⟩ := ihn (by omega)
     obtain ⟨y,q,b1,b2,b3⟩ := hrow n (by omega)
     rw [cof37] at b2 b3
     obtain ⟨r,r1,r2,r3⟩ := ih fuel'' (by omega) _ _ _ b3
     have hb := hB.snoc b1
     refine ⟨l ++ [r],by simp [a1],?_,?_,fun k hk => ?_⟩
     ·rw [row_snoc]
      exact RVl.app (l' := [r]) (by simp only [RVl]; exact ⟨_,[],by simp,r1,rfl⟩) a2
     ·rw [szV_app]; simp only [szV]; omega
     ·rw [mem_nmsL] at hk
      obtain ⟨x,hx,hk⟩ := hk
      rcases List.mem_append.1 hx with hx | hx
      ·have := a4 k (mem_nmsL.2 ⟨x,hx,hk⟩); omega
      ·rw [List.mem_singleton] at hx; subst hx
       have := r3 k hk; omega
   obtain ⟨l,a1,a2,a3,a4⟩ := key len (Nat.le_refl _)
   rw [List.take_of_length_le (by omega)] at a3 a4
   have := hB.sl es rs
   refine ⟨l,_,?_,a2,by omega,fun k hk => by have := a4 k hk; omega⟩
   rw [a1]
   exact .row b off len cap 37 c.toList _ (rdz_row hc) rfl (a2.len.trans (by rw [a1])) hlc
 obtain ⟨l,lc,l1,l2,l3,l4⟩ := hl5
 refine ⟨.mk n0 n1 n2 s3 ks l,?_,?_,fun k hk => ?_⟩
 ·simp only [RVc]
  exact ⟨v4,v5,lc,rfl,k1,l1,l2⟩
 ·simp only [RV.sz]; omega
 ·simp only [RV.nms,List.mem_append] at hk
  rcases hk with hk | hk
  ·have := k3 k hk; omega
  ·have := l4 k hk; omega
end
end Go.Ux
