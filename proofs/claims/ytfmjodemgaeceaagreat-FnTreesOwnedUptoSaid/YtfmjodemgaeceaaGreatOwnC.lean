/- The proof that FnTreesOwned is true for each history, part 3: F2 F3 F4 F5 F6 F7 F8 F9 F10 F11 G16 G17 R4 E14 E15 E16 E17 E18 E19 R5 G18 G19 G20 G21 G22 G23 L2 G24 L3 L4 R6 G25 G26 G27 G28 G29 L5 G30. No condition beyond the given one on bulk. -/
import Derived.Test.YtfmjodemgaeceaaGreatOwnB
namespace Go.Ux
open Go Go.Proofs
set_option maxRecDepth 20000
attribute [local irreducible] WP Tr
theorem f118 (r : Value) (Z : Fz) : Tr Tryz.prog 118 #[r] Z [] fun v Z' H' => ∃ b,v = .pointer (some ⟨b,0,none⟩) ∧ Z = Z' ∧ H' = [(b,cl [.nilIface] 358)] := by
 refine Tr.intro Tryz.func118 rfl Tryz.ntmps118 Tryz.results118 rfl ?_
 repeat (first | refine go ?_ | intro _)
 exact fin1 ⟨_,rfl,rfl,rfl⟩
theorem f119 (b : Nat) (x y : Value) (Z : Fz) (hy : y.cells = #[y]) (h1 : y.oneCell' = true) : Tr Tryz.prog 119 #[.pointer (some ⟨b,0,none⟩),y] Z [(b,cl [x] 358)] fun v Z' H' => v = .iface 301 (.pointer (some ⟨b,0,none⟩)) ∧ Z = Z' ∧ H' = [(b,cl [y] 358)] := by
 refine Tr.intro Tryz.func119 rfl Tryz.ntmps119 Tryz.results119 rfl ?_
 haveI : One y := ⟨hy,h1⟩
 refine go ?_
 exact fin1 ⟨rfl,rfl,rfl⟩
theorem f81 (y : Value) (Z : Fz) (hy : y.cells = #[y]) (h1 : y.oneCell' = true) : Gr Tryz.prog 81 #[y] Z fun v Z' => ∃ b,v = .iface 301 (.pointer (some ⟨b,0,none⟩)) ∧ Z' b = some (cl [y] 358) := by
 refine Tr.gr (Q := fun v Z' H' => ∃ b,v = .iface 301 (.pointer (some ⟨b,0,none⟩)) ∧ ∃ R,H' = (b,cl [y] 358) :: R) ?_ ?_
 ·refine Tr.intro Tryz.func81 rfl Tryz.ntmps81 Tryz.results81 rfl ?_
  repeat (first | refine go ?_ | intro _)
  refine o_call [] _ rfl (f118 _ _) rfl (.refl _) ?_
  rintro _ _ _ _ ⟨b,rfl,rfl,rfl⟩
  refine go ?_
  refine o_call [_] _ rfl (f119 b _ y _ hy h1) rfl (.refl _) ?_
  rintro _ _ _ _ ⟨rfl,rfl,rfl⟩
  refine go ?_
  exact fin1 ⟨b,rfl,_,rfl⟩
 ·rintro v Z' H' Z'' ⟨b,rfl,R,rfl⟩ _ _ hp
  exact ⟨b,rfl,hp (b,cl [y] 358) (List.mem_cons_self ..)⟩
theorem f65 (Z : Fz) : Tr Tryz.prog 65 #[] Z [] fun v Z' H' => ∃ b,v = .iface 261 (.pointer (some ⟨b,0,none⟩)) ∧ Z = Z' ∧ H' = [(b,cl [] 263)] := by
 refine Tr.intro Tryz.func65 rfl Tryz.ntmps65 Tryz.results65 rfl ?_
 repeat (first | refine go ?_ | intro _)
 exact fin1 ⟨_,rfl,rfl,rfl⟩
theorem f369 (m c : Nat) (es : List En) (Z : Fz) [Zf Z m (mp es c)] : Pu Tryz.prog 369 #[.map (some m)] Z fun v => v = .bool (decide (es.length = 0)) := by
 refine Pu.intro Tryz.func369 rfl Tryz.ntmps369 Tryz.results369 rfl ?_
 refine go ?_
 refine o_eqi rfl rfl rfl (r := decide (es.length = 0)) ?_ ?_
 ·simp [Int.ofNat_eq_natCast]
 refine go ?_
 exact fin1 ⟨rfl,rfl⟩
theorem f377 (m c : Nat) (es : List En) (Z : Fz) [Zf Z m (mp es c)] : Pu Tryz.prog 377 #[.map (some m)] Z fun v => v = .int .i64 (Int.ofNat es.length) := by
 refine Pu.intro Tryz.func377 rfl Tryz.ntmps377 Tryz.results377 rfl ?_
 refine go ?_
 exact fin1 ⟨rfl,rfl⟩
theorem f364 (a : Option Addr) (k c : Nat) (Z : Fz) : Pu Tryz.prog 364 #[.slice a k c] Z fun v => v = .int .i64 (Int.ofNat k) := by
 refine Pu.intro Tryz.func364 rfl Tryz.ntmps364 Tryz.results364 rfl ?_
 refine go ?_
 exact fin1 ⟨rfl,rfl⟩
theorem f374 (m c : Nat) (es : List En) (k : ByteArray) (Z : Fz) [Zf Z m (mp es c)] : Pu Tryz.prog 374 #[.map (some m),.string k] Z fun v => v = .bool (lk es k).isSome := by
 refine Pu.intro Tryz.func374 rfl Tryz.ntmps374 Tryz.results374 rfl ?_
 refine go ?_
 refine o_lookup rfl rfl rfl ?_
 refine go ?_
 exact fin1 ⟨rfl,rfl⟩
theorem f373 (m c : Nat) (es : List En) (k : ByteArray) (r : Value) (Z : Fz) [Zf Z m (mp es c)] (hv : ∀ u,lk es k = some u → u.cells = #[u] ∧ u.oneCell' = true) :
  Gr Tryz.prog 373 #[.map (some m),.iface 261 r,.string k] Z fun v Z' => match lk es k with
   | none => v = .tuple #[.nilIface,.bool false]
   | some u => ∃ b,v = .tuple #[.iface 301 (.pointer (some ⟨b,0,none⟩)),.bool true] ∧ Z' b = some (cl [u] 358) := by
 refine Tr.gr (Q := fun v Z' H' => match lk es k with
   | none => v = .tuple #[.nilIface,.bool false]
   | some u => ∃ b,v = .tuple #[.iface 301 (.pointer (some ⟨b,0,none⟩)),.bool true] ∧ (b,cl [u] 358) ∈ H') ?_ ?_
 ·refine Tr.intro Tryz.func373 rfl Tryz.ntmps373 Tryz.results373 rfl ?_
  refine go ?_
  refine o_lookup rfl rfl rfl ?_
  cases hl : lk es k with
  | none =>
   refine go ?_
   exact fin2 rfl
  | some u =>
   refine go ?_
   refine o_inv [] _ rfl rfl (f118 r _) rfl (.refl _) ?_
   rintro _ _ _ _ ⟨b,rfl,rfl,rfl⟩
   refine go ?_
   refine o_call [_] _ rfl (f119 b _ u _ (hv u hl).1 (hv u hl).2) rfl (.refl _) ?_
   rintro _ _ _ _ ⟨rfl,rfl,rfl⟩
   refine go ?_
   exact fin2 ⟨b,rfl,by simp⟩
 ·intro v Z' H' Z'' hq _ _ hp
  cases hl : lk es k with
  | none => rw [hl] at hq; exact hq
  | some u =>
   rw [hl] at hq
   obtain ⟨b,rfl,hm⟩ := hq
   exact ⟨b,rfl,hp _ hm⟩
end Go.Ux
namespace Go.Ux
open Go Go.Proofs
set_option maxRecDepth 20000
theorem d254 (args : Array Value) (ha : args.size ≤ 4) (Z : Fz) (H : Hp) (K : Fz → Hp → Prop) (h : K Z H) : TrD Tryz.prog 254 args Z H K := by
 refine TrD.intro Tryz.func254 rfl Tryz.ntmps254 Tryz.results254 (by simpa [Nat.ble_eq] using ha) ?_
 refine WP.skip ⟨.inl rfl,rfl,⟨[],.nil⟩,h⟩
theorem fin_free {rs : List ResultVar} {R : Value → Fz → Hp → Prop} {r x : Value} {ds : List Deferred} {f : Fr} {Z : Fz} {H : Hp} (h : Fin Tryz.prog rs R ds f Z H) :
  Fin Tryz.prog rs R (⟨.fn (.method "Free") #[],#[.iface 261 r,x]⟩ :: ds) f Z H := by
 refine ⟨.method "Free",#[],254,#[r,x],rfl,fun w F _ => ?_,d254 #[r,x] (by simp) Z H _ h⟩
 have e1 : (#[Value.iface 261 r,x]).extract 1 (#[Value.iface 261 r,x]).size = #[x] := by simp
 have e2 : (#[Value.iface 261 r,x])[0]? = some (.iface 261 r) := by simp
 simp only [invoke,e2,e1,callMethod,Sem.run_bind,run_program,Result.andThen_ok,Mth.run (P := Tryz.prog) (T := 261) (name := "Free"),Ent.run]
 rfl
section
variable {P : Program} {n : Nat} {all : Array Oper} {dr : Bool} {Pin : Hp} {K : Fr → Fz → Hp → Prop} {rest : List Oper} {l : List Lay} {D : List Deferred} {Z : Fz} {H : Hp}
variable {ty : TypeId} {pos : String} {af : Array Edge} {gd : Option (Nat × Bool)} {x y : Operand} {r : Value} {ts : Array TypeId}
theorem o_free (hg : okO n all ⟨l,D⟩ ⟨none,.defer ⟨.invoke x "Free",#[y],ts⟩,ty,pos,af,gd⟩ = true) (hx : ev ⟨l,D⟩ x = .iface 261 r)
  (h : Rg P n all dr Pin K rest ⟨l,⟨.fn (.method "Free") #[],#[.iface 261 r,ev ⟨l,D⟩ y]⟩ :: D⟩ Z H) : Rg P n all dr Pin K (⟨none,.defer ⟨.invoke x "Free",#[y],ts⟩,ty,pos,af,gd⟩ :: rest) ⟨l,D⟩ Z H := by
 refine o_defer hg (fun w => ?_) h
 have e : (#[Value.iface 261 r] ++ (#[y] : Array Operand).map (ev ⟨l,D⟩)) = #[Value.iface 261 r,ev ⟨l,D⟩ y] := by simp
 simp only [resolve,hx,Sem.run_pure,e]
end
attribute [local irreducible] WP Tr
theorem perm_all {done es : List En} (h1 : ∀ e ∈ done,e ∈ es) (h2 : (done.map En.t).Nodup) (h3 : ∀ e ∈ es,e.t ∈ done.map En.t) (h4 : (es.map En.t).Nodup) : done.Perm es := by
 have inj : ∀ (l : List En),(l.map En.t).Nodup → ∀ a ∈ l,∀ b ∈ l,a.t = b.t → a = b := by
  intro l
  induction l with
  | nil => intro _ a ha; cases ha
  | cons x l ih =>
   intro hn a ha b hb e
   simp only [List.map_cons,List.nodup_cons] at hn
   rcases List.mem_cons.1 ha with rfl | ha <;> rcases List.mem_cons.1 hb with rfl | hb
   ·rfl
   ·exact absurd (e ▸ List.mem_map_of_mem (f := En.t) hb) hn.1
   ·exact absurd (e.symm ▸ (List.mem_map_of_mem (f := En.t) ‹a ∈ l›)) hn.1
   ·exact ih hn.2 a ha b hb e
 have nd : ∀ (l : List En),(l.map En.t).Nodup → l.Nodup := fun l h => by
  induction l with
  | nil => exact .nil
  | cons x l ih =>
   simp only [List.map_cons,List.nodup_cons] at h ⊢
   exact ⟨fun hx => h.1 (List.mem_map_of_mem hx),ih h.2⟩
 rw [List.perm_ext_iff_of_nodup (nd _ h2) (nd _ h4)]
 refine fun a => ⟨h1 a,fun ha => ?_⟩
 obtain ⟨b,hb,e⟩ := List.mem_map.1 (h3 a ha)
 have := inj es h4 b (h1 b hb) a ha e
 exact this ▸ hb
theorem f376 (m c : Nat) (es : List En) (r : Value) (g : FuncId) (fs cs : List Value) (Z : Fz) (H₀ : Hp) [Ent Tryz.prog g] [Zf Z m (mp es c)] (hst : Stm es c) (hone : ∀ e ∈ es,e.v.cells = #[e.v] ∧ e.v.oneCell' = true)
  (I : List En → Fz → Hp → Prop) (J : Fz → Hp → Prop) (h0 : I [] Z H₀)
  (hcb : ∀ done e Z₁ H₁ b,Fz.le Z Z₁ → e ∈ es → (∀ x ∈ done,x ∈ es) → e ∉ done → I done Z₁ H₁ → Z₁ b = none →
   Tr Tryz.prog g (fs ++ [Value.string e.k,Value.iface 301 (.pointer (some ⟨b,0,none⟩))] ++ cs).toArray (Z₁.add b (cl [e.v] 358)) H₁ fun v Z₂ H₂ => ∃ q,v = .bool q ∧ (q = true → I (done ++ [e]) (Z₂.del b) H₂) ∧ (q = false → J (Z₂.del b) H₂)) :
  Tr Tryz.prog 376 #[.map (some m),.iface 261 r,.func (.func g) fs.toArray cs.toArray] Z H₀ fun v Z' H' => ∃ q,v = .bool q ∧ (q = true → ∃ done H₁ A,done.Perm es ∧ I done Z' H₁ ∧ H'.Perm (A ++ H₁)) ∧ (q = false → ∃ H₁ A,J Z' H₁ ∧ H'.Perm (A ++ H₁)) := by
 refine Tr.intro Tryz.func376 rfl Tryz.ntmps376 Tryz.results376 rfl ?_
 refine go ?_
 refine o_eqi rfl rfl rfl (r := decide (es.length = 0)) (by simp [Int.ofNat_eq_natCast]) ?_
 cases es with
 | nil =>
  refine go ?_
  refine fin1 ⟨true,rfl,fun _ => ⟨[],H₀,[],.refl _,h0,.refl _⟩,fun h => by cases h⟩
 | cons e₀ es₀ =>
  generalize hes : e₀ :: es₀ = es at *
  have hne : decide (es.length = 0) = false := by subst hes; simp
  rw [hne]
  refine go ?_
  refine o_inv [] H₀ rfl rfl (f118 r _) rfl (.refl _) ?_
  rintro _ Z1 _ _ ⟨vb,rfl,rfl,rfl⟩
  refine go ?_
  refine o_free rfl rfl ?_
  refine go ?_
  refine o_range rfl rfl ?_
  intro bi
  refine go ?_
  refine WP.loopM [6,8,9,21,22,23,24,25,26,27,28,29,30,31,32]
   (fun k g Z' H' => ∃ done H₁ x,k = (es.filter fun e => decide (e.t ∉ done.map En.t)).length ∧ (∀ e ∈ done,e ∈ es) ∧ (done.map En.t).Nodup ∧ I done Z' H₁ ∧
    H'.Perm ((bi,.mapIter (some m) c (done.map En.t).toArray c) :: (vb,cl [x] 358) :: H₁)) (es.filter fun e => decide (e.t ∉ ([] : List En).map En.t)).length ?_ ?_
  ·exact ⟨[],H₀,.nilIface,rfl,by simp,by simp,h0,.refl _⟩
  ·rintro k g Z' H' hz ⟨done,H₁,x,hk,hsub,hnd,hId,hp⟩
   refine WP.perm hp ?_
   haveI : ZLe Z Z' := ⟨hz⟩
   refine go ?_
   refine o_next rfl rfl hst.lt ?_ ?_
   ·intro hall
    refine go ?_
    refine fin_free ?_
    exact fin1 ⟨true,rfl,fun _ => ⟨done,H₁,[_,_],perm_all hsub hnd (by simpa using hall) hst.nd,hId,.refl _⟩,fun h => by cases h⟩
   ·intro e he hns
    have hns' : e ∉ done := fun h => hns (by simpa using List.mem_map_of_mem (f := En.t) h)
    refine go ?_
    refine o_entry rfl rfl he hst.nd ?_
    refine go ?_
    refine o_call [_] _ rfl (f119 vb x e.v _ (hone e he).1 (hone e he).2) rfl (.swap ..) ?_
    rintro _ Z2 _ hz2 ⟨rfl,rfl,rfl⟩
    refine o_callV ((vb,cl [e.v] 358) :: H₁) [(bi,_)] rfl rfl (Tr.lend fun hb => hcb done e _ H₁ vb hz he hsub hns' hId hb) rfl (List.perm_append_comm (l₁ := [(bi,_)]) (l₂ := (vb,cl [e.v] 358) :: H₁) |>.symm |> fun h => (List.Perm.trans (.swap ..) h.symm)) ?_
    rintro v Z3 _ hz3 ⟨_,Z₁,H₂,⟨q,rfl,hq1,hq2⟩,hb,rfl,rfl⟩
    cases q with
    | true =>
     refine go ?_
     refine ⟨back_go 14 rfl rfl,_,?_,done ++ [e],H₂,e.v,rfl,?_,?_,hq1 rfl,?_⟩
     ·rw [hk]
      exact filter_lt _ _ (fun y hy => by simp at hy ⊢; exact hy.1) e (by simpa using hns) (by simp) es he
     ·intro y hy
      rcases List.mem_append.1 hy with h | h
      ·exact hsub y h
      ·simp only [List.mem_singleton] at h; subst h; exact he
     ·simp only [List.map_append,List.map_cons,List.map_nil]
      rw [List.nodup_append]
      exact ⟨hnd,by simp,fun a ha b hb => by simp only [List.mem_singleton] at hb; subst hb; exact fun h => hns (by simpa [h] using ha)⟩
     ·have e1 : (done.map En.t).toArray.push e.t = ((done ++ [e]).map En.t).toArray := by simp
      rw [← e1]
      exact List.perm_append_comm (l₂ := [(bi,_)])
    | false =>
     refine go ?_
     refine fin_free ?_
     exact fin1 ⟨false,rfl,(fun h => by cases h),fun _ => ⟨H₂,[(bi,_),(vb,cl [e.v] 358)],hq2 rfl,List.perm_append_comm (l₂ := [(bi,_)])⟩⟩
end Go.Ux
namespace Go.Ux
open Go Go.Proofs
set_option maxRecDepth 20000
attribute [local irreducible] WP Tr
def rgH (rb vb : Nat) (sv u : Value) (i : Int) : Hp := [(rb,cl [sv,.pointer (some ⟨vb,0,none⟩),.int .i64 i] 574),(vb,cl [u] 358)]
theorem f255 (r : Value) (Z : Fz) : Tr Tryz.prog 255 #[r] Z [] fun v Z' H' => ∃ rb vb,v = .pointer (some ⟨rb,0,none⟩) ∧ Z = Z' ∧ H' = rgH rb vb (.slice none 0 0) .nilIface 0 := by
 refine Tr.intro Tryz.func255 rfl Tryz.ntmps255 Tryz.results255 rfl ?_
 repeat (first | refine go ?_ | intro _)
 exact fin1 ⟨_,_,rfl,rfl,rfl⟩
theorem f366_0 (a : Option Addr) (c : Nat) (r : Value) (Z : Fz) : Tr Tryz.prog 366 #[.slice a 0 c,r] Z [] fun v Z' H' => ∃ b,v = .iface 571 (.pointer (some ⟨b,0,none⟩)) ∧ Z = Z' ∧ H' = [(b,cl [] 572)] := by
 refine Tr.intro Tryz.func366 rfl Tryz.ntmps366 Tryz.results366 rfl ?_
 repeat (first | refine go ?_ | intro _)
 exact fin1 ⟨_,rfl,rfl,rfl⟩
theorem f366 (a : Option Addr) (n c : Nat) (r : Value) (Z : Fz) (hn : 0 < n) : Tr Tryz.prog 366 #[.slice a n c,.iface 261 r] Z [] fun v Z' H' => ∃ rb vb,v = .iface 568 (.pointer (some ⟨rb,0,none⟩)) ∧ Z = Z' ∧ H' = rgH rb vb (.slice a n c) .nilIface (-1) := by
 refine Tr.intro Tryz.func366 rfl Tryz.ntmps366 Tryz.results366 rfl ?_
 refine go ?_
 refine o_inv [] [] rfl rfl (f255 r _) rfl (.refl _) ?_
 rintro _ _ _ _ ⟨rb,vb,rfl,rfl,rfl⟩
 unfold rgH
 refine go ?_
 exact fin1 ⟨rb,vb,rfl,rfl,rfl⟩
theorem f391 (rb vb : Nat) (a : Option Addr) (n c : Nat) (u : Value) (i : Int) (Z : Fz) (h1 : -1 ≤ i) (h2 : i < 4611686018427387904) : Tr Tryz.prog 391 #[.pointer (some ⟨rb,0,none⟩)] Z (rgH rb vb (.slice a n c) u i) fun v Z' H' => v = .bool (decide (i + 1 < n)) ∧ Z = Z' ∧ H' = rgH rb vb (.slice a n c) u (i + 1) := by
 refine Tr.intro Tryz.func391 rfl Tryz.ntmps391 Tryz.results391 rfl ?_
 unfold rgH
 refine go ?_
 refine o_lss rfl rfl rfl (r := decide (i + 1 < n)) rfl ?_
 refine go ?_
 exact fin1 ⟨rfl,rfl,rfl⟩
theorem f390 (rb vb b off n c j U : Nat) (xs : List Value) (u x : Value) (Z : Fz) [Zf Z b (cl xs U)] (hj : j < n) (hx : xs[off + j * 1]? = some x) (hc : x.cells = #[x]) (h1 : x.oneCell' = true) :
  Tr Tryz.prog 390 #[.pointer (some ⟨rb,0,none⟩)] Z (rgH rb vb (.slice (some ⟨b,off,none⟩) n c) u j) fun v Z' H' => v = .tuple #[.int .i64 j,.iface 301 (.pointer (some ⟨vb,0,none⟩))] ∧ Z = Z' ∧ H'.Perm (rgH rb vb (.slice (some ⟨b,off,none⟩) n c) x j) := by
 refine Tr.intro Tryz.func390 rfl Tryz.ntmps390 Tryz.results390 rfl ?_
 unfold rgH
 refine gn ?_
 refine WP.drawA mo (by decide +kernel) ?_
 refine gn ?_
 refine WP.drawT [(rb,_)] [(vb,_)] mo (by decide +kernel) (.refl _) ?_
 refine go ?_
 refine o_indexAddr rfl rfl rfl hj ?_
 refine go ?_
 refine o_call [_] [] rfl (f119 vb u x _ hc h1) rfl (.refl _) ?_
 rintro _ _ _ _ ⟨rfl,rfl,rfl⟩
 refine go ?_
 exact fin2 ⟨rfl,rfl,.swap ..⟩
end Go.Ux
namespace Go.Ux
open Go Go.Proofs
set_option maxRecDepth 20000
attribute [local irreducible] WP Tr
inductive Sim : Tv → Tv → Prop
 | null : Sim .null .null
 | sc (u v : Value) : Sim (.sc u) (.sc v)
 | li (u v : Value) (a b : List Tv) : Sim (.li u a) (.li v b)
 | mp (l₁ l₂ : List (ByteArray × Tv)) (hl : l₁.length = l₂.length) (f : ByteArray → Tv → Tv) (h1 : ∀ k t,(k,t) ∈ l₂ → (k,f k t) ∈ l₁) (h2 : ∀ k t,(k,t) ∈ l₂ → Sim (f k t) t) : Sim (.mp l₁) (.mp l₂)
mutual
def Tv.sz : Tv → Nat
 | .null => 1
 | .sc _ => 1
 | .li _ l => 1 + szL l
 | .mp l => 1 + szM l
def szL : List Tv → Nat
 | [] => 0
 | t :: l => t.sz + szL l
def szM : List (ByteArray × Tv) → Nat
 | [] => 0
 | (_,t) :: l => t.sz + szM l
end
theorem sz_memM : ∀ {l : List (ByteArray × Tv)} {k : ByteArray} {t : Tv},(k,t) ∈ l → t.sz ≤ szM l
 | (k',t') :: l,k,t,h => by
  simp only [szM]
  rcases List.mem_cons.1 h with h | h
  ·cases h; omega
  ·have := sz_memM h; omega
theorem sz_memL : ∀ {l : List Tv} {t : Tv},t ∈ l → t.sz ≤ szL l
 | t' :: l,t,h => by
  simp only [szL]
  rcases List.mem_cons.1 h with rfl | h
  ·omega
  ·have := sz_memL h; omega
def E64 (N : Nat) : Prop := ∀ (t₁ t₂ : Tv) (v₁ v₂ r : Value) (Z : Fz),t₁.sz < N → VV Z t₁ v₁ → VV Z t₂ v₂ → Pu Tryz.prog 64 #[.iface 261 r,v₁,v₂] Z fun v => ∃ b,v = .bool b ∧ (b = true → Sim t₁ t₂) ∧ (t₁ = t₂ → b = true)
theorem AVm.lk {Z : Fz} : ∀ {l : List (ByteArray × Tv)} {es : List En},AVm Z l es → ∀ e ∈ es,∃ t,(e.k,t) ∈ l ∧ AV Z t e.v
 | [],es,h,e,he => by simp only [AVm] at h; subst h; cases he
 | (k,t) :: l,es,h,e,he => by
  simp only [AVm] at h
  obtain ⟨e',es',rfl,rfl,h3,h4⟩ := h
  rcases List.mem_cons.1 he with rfl | he
  ·exact ⟨t,List.mem_cons_self ..,h3⟩
  ·obtain ⟨t',h1,h2⟩ := AVm.lk h4 e he
   exact ⟨t',List.mem_cons_of_mem _ h1,h2⟩
theorem AVm.len {Z : Fz} : ∀ {l : List (ByteArray × Tv)} {es : List En},AVm Z l es → es.length = l.length
 | [],es,h => by simp only [AVm] at h; subst h; rfl
 | (k,t) :: l,es,h => by
  simp only [AVm] at h
  obtain ⟨e',es',rfl,_,_,h4⟩ := h
  simp [AVm.len h4]
theorem lk_mem {es : List En} {k : ByteArray} {u : Value} (h : lk es k = some u) : ∃ e ∈ es,e.k = k ∧ e.v = u := by
 unfold lk at h
 obtain ⟨e,he,rfl⟩ := Option.map_eq_some_iff.1 h
 have h1 := List.find?_some he
 have h2 := List.mem_of_find?_eq_some he
 exact ⟨e,h2,by simpa using (of_decide_eq_true h1).symm,rfl⟩
theorem AVm.keys {Z : Fz} : ∀ {l : List (ByteArray × Tv)} {es : List En},AVm Z l es → l.map (·.1) = es.map En.k
 | [],es,h => by simp only [AVm] at h; subst h; rfl
 | (k,t) :: l,es,h => by
  simp only [AVm] at h
  obtain ⟨e',es',rfl,h2,_,h4⟩ := h
  simp [AVm.keys h4,h2]
theorem key_one : ∀ {l : List (ByteArray × Tv)} {k : ByteArray} {t t' : Tv},(l.map (·.1)).Nodup → (k,t) ∈ l → (k,t') ∈ l → t = t'
 | (k₀,t₀) :: l,k,t,t',hn,h,h' => by
  simp only [List.map_cons,List.nodup_cons] at hn
  rcases List.mem_cons.1 h with h | h <;> rcases List.mem_cons.1 h' with h' | h'
  ·cases h; cases h'; rfl
  ·cases h; exact absurd (List.mem_map_of_mem (f := (·.1)) h') hn.1
  ·cases h'; exact absurd (List.mem_map_of_mem (f := (·.1)) h) hn.1
  ·exact key_one hn.2 h h'
theorem lk_none {es : List En} {k : ByteArray} (h : lk es k = none) : k ∉ es.map En.k := by
 intro hm
 obtain ⟨e,he,rfl⟩ := List.mem_map.1 hm
 unfold lk at h
 rw [Option.map_eq_none_iff,List.find?_eq_none] at h
 simpa using h e he
theorem f381 {N : Nat} (ih : E64 N) (b3 b4 b9 vb m c b : Nat) (es : List En) (r x u : Value) (k : ByteArray) (l : List (ByteArray × Tv)) (t₂ : Tv) (Z : Fz) [Zf Z m (mp es c)] (es' : List En) (hp : es.Perm es') (hl : AVm Z l es')
  (hN : szM l < N) (hb : Z b = some (cl [u] 358)) (hu : AV Z t₂ u) :
  Tr Tryz.prog 381 #[.string k,.iface 301 (.pointer (some ⟨b,0,none⟩)),.pointer (some ⟨b3,0,none⟩),.pointer (some ⟨b4,0,none⟩),.pointer (some ⟨b9,0,none⟩)] Z
   [(b3,cl [.map (some m)] 505),(b4,cl [.iface 261 r] 170),(b9,cl [.pointer (some ⟨vb,0,none⟩)] 301),(vb,cl [x] 358)] fun v Z' H' =>
   ∃ q y,v = .bool q ∧ Z = Z' ∧ H'.Perm [(b3,cl [.map (some m)] 505),(b4,cl [.iface 261 r] 170),(b9,cl [.pointer (some ⟨vb,0,none⟩)] 301),(vb,cl [y] 358)] ∧ (q = true → ∃ t₁,(k,t₁) ∈ l ∧ Sim t₁ t₂) ∧ ((k,t₂) ∈ l → (l.map (·.1)).Nodup → q = true) := by
 refine Tr.intro Tryz.func381 rfl Tryz.ntmps381 Tryz.results381 rfl ?_
 refine gn ?_
 refine o_lookup rfl rfl rfl ?_
 cases hk : lk es k with
 | none =>
  refine gn ?_
  refine fin1 ⟨false,x,rfl,rfl,.refl _,fun h => (by cases h),fun h _ => ?_⟩
  refine absurd ?_ (lk_none hk)
  rw [(hp.map En.k).mem_iff,← hl.keys]
  exact List.mem_map_of_mem (f := (·.1)) h
 | some u₁ =>
  obtain ⟨e,he,rfl,rfl⟩ := lk_mem hk
  obtain ⟨t₁,h1,h2⟩ := AVm.lk hl e (hp.mem_iff.1 he)
  refine gn ?_
  refine WP.draw [(b3,_),(b4,_),(b9,_)] [(vb,_)] [0,1,2,4,3,5,6] mo (by decide +kernel) (.refl _) ?_
  refine gn ?_
  refine o_call [_] [] rfl (f119 vb x e.v _ h2.cells h2.cell1) rfl (.refl _) ?_
  rintro _ _ _ _ ⟨rfl,rfl,rfl⟩
  have hlt : t₁.sz < N := Nat.lt_of_le_of_lt (sz_memM h1) hN
  refine o_call [(vb,cl [e.v] 358)] [] rfl (Tr.lend fun hz => ih t₁ t₂ _ _ r _ hlt ⟨vb,e.v,rfl,Fz.add_at,h2.mono (Fz.le_add hz)⟩ ⟨b,u,rfl,Fz.le_add hz _ _ hb,hu.mono (Fz.le_add hz)⟩) rfl (.refl _) ?_
  rintro v Z2 _ hz2 ⟨hn,Z₁,H₂,⟨⟨q,rfl,hq,hq'⟩,rfl,rfl⟩,_,rfl,rfl⟩
  rw [Fz.add_del hn] at hz2 ⊢
  refine gn ?_
  exact fin1 ⟨q,e.v,rfl,rfl,List.perm_append_comm (l₁ := [(vb,_)]),fun h => ⟨t₁,h1,hq h⟩,fun h hn' => hq' (key_one hn' h1 h)⟩
end Go.Ux
namespace Go.Ux
open Go Go.Proofs
set_option maxRecDepth 20000
attribute [local irreducible] WP Tr
def MP (Z : Fz) (l : List (ByteArray × Tv)) (m : Nat) : Prop := ∃ es c es',Z m = some (mp es c) ∧ Stm es c ∧ es.Perm es' ∧ AVm Z l es'
theorem Tr.pre {P : Program} {g : FuncId} {args : Array Value} {Z : Fz} {H H' : Hp} {Q : Value → Fz → Hp → Prop} (hp : H.Perm H') (h : Tr P g args Z H' Q) : Tr P g args Z H Q := by
 unfold Tr at *
 exact fun w F hs => h w F (hs.perm (hp.append_right F))
theorem sim_mp {Z : Fz} {l₁ l₂ : List (ByteArray × Tv)} {es : List En} (hl : l₁.length = l₂.length) (h : AVm Z l₂ es) (hn : (es.map En.k).Nodup) (q : ∀ e ∈ es,∃ t t₁,(e.k,t) ∈ l₂ ∧ (e.k,t₁) ∈ l₁ ∧ Sim t₁ t) : Sim (.mp l₁) (.mp l₂) := by
 have hk := h.keys
 have q' : ∀ k t,(k,t) ∈ l₂ → ∃ t₁,(k,t₁) ∈ l₁ ∧ Sim t₁ t := by
  intro k t hm
  have : k ∈ es.map En.k := by rw [← hk]; exact List.mem_map_of_mem (f := (·.1)) hm
  obtain ⟨e,he,rfl⟩ := List.mem_map.1 this
  obtain ⟨t',t₁,h1,h2,h3⟩ := q e he
  have := key_one (by rw [hk]; exact hn) hm h1
  subst this
  exact ⟨t₁,h2,h3⟩
 classical
 refine .mp l₁ l₂ hl (fun k t => if hm : (k,t) ∈ l₂ then (q' k t hm).choose else t) (fun k t hm => ?_) (fun k t hm => ?_)
 ·simp only [dif_pos hm]; exact (q' k t hm).choose_spec.1
 ·simp only [dif_pos hm]; exact (q' k t hm).choose_spec.2
theorem f371 {N : Nat} (ih : E64 N) (m₁ m₂ : Nat) (r : Value) (l₁ l₂ : List (ByteArray × Tv)) (Z : Fz) (h₁ : MP Z l₁ m₁) (h₂ : MP Z l₂ m₂) (hN : szM l₁ < N) :
  Pu Tryz.prog 371 #[.map (some m₁),.iface 261 r,.iface 505 (.map (some m₂))] Z fun v => ∃ q,v = .bool q ∧ (q = true → Sim (.mp l₁) (.mp l₂)) ∧ (l₁ = l₂ → q = true) := by
 obtain ⟨es₁,c₁,es₁',z1,s1,p1,a1⟩ := h₁
 obtain ⟨es₂,c₂,es₂',z2,s2,p2,a2⟩ := h₂
 haveI : Zf Z m₁ (mp es₁ c₁) := ⟨z1⟩
 haveI : Zf Z m₂ (mp es₂ c₂) := ⟨z2⟩
 refine Pu.intro Tryz.func371 rfl Tryz.ntmps371 Tryz.results371 rfl ?_
 refine gn ?_; intro b3
 refine gn ?_; intro b4
 refine gn ?_
 refine c_pu rfl (f377 m₁ c₁ es₁ Z) rfl ?_
 rintro _ rfl
 refine gn ?_
 refine i_pu (xs := []) rfl rfl (f377 m₂ c₂ es₂ Z) rfl ?_
 rintro _ rfl
 refine gn ?_
 by_cases hlen : es₁.length = es₂.length
 case neg =>
  refine o_nei rfl rfl rfl (r := true) (by simp only [Int.ofNat_eq_natCast]; exact decide_eq_true (by omega)) ?_
  refine gn ?_
  refine fin1 ⟨⟨false,rfl,fun h => (by cases h),fun h => ?_⟩,rfl⟩
  subst h
  exact absurd (by rw [p1.length_eq,p2.length_eq,a1.len,a2.len]) hlen
 refine o_nei rfl rfl rfl (r := false) (by simp only [Int.ofNat_eq_natCast]; exact decide_eq_false (by omega)) ?_
 refine gn ?_
 by_cases h0 : es₁.length = 0
 ·refine o_eqi rfl rfl rfl (r := true) (by simp only [Int.ofNat_eq_natCast]; exact decide_eq_true (by omega)) ?_
  refine gn ?_
  have e1 : l₁ = [] := List.length_eq_zero_iff.1 (by rw [← a1.len,← p1.length_eq,h0])
  have e2 : l₂ = [] := List.length_eq_zero_iff.1 (by rw [← a2.len,← p2.length_eq,← hlen,h0])
  subst e1 e2
  exact fin1 ⟨⟨true,rfl,fun _ => .mp [] [] rfl (fun _ t => t) (fun _ _ h => by cases h) (fun _ _ h => by cases h),fun _ => rfl⟩,rfl⟩
 refine o_eqi rfl rfl rfl (r := false) (by simp only [Int.ofNat_eq_natCast]; exact decide_eq_false (by omega)) ?_
 refine gn ?_
 refine o_inv [] [(b4,cl [.iface 261 r] 170),(b3,cl [.map (some m₁)] 505)] rfl rfl (f118 r _) rfl (.refl _) ?_
 rintro _ Z1 _ _ ⟨vb,rfl,rfl,rfl⟩
 refine gn ?_
 intro b9
 refine gn ?_
 refine WP.drawA mo (by decide +kernel) ?_
 refine gn ?_
 refine o_free rfl rfl ?_
 refine gn ?_
 refine o_inv _ [] rfl rfl (f376 m₂ c₂ es₂ r 381 [] [.pointer (some ⟨b3,0,none⟩),.pointer (some ⟨b4,0,none⟩),.pointer (some ⟨b9,0,none⟩)] Z
  [(b3,cl [.map (some m₁)] 505),(b4,cl [.iface 261 r] 170),(b9,cl [.pointer (some ⟨vb,0,none⟩)] 301),(vb,cl [.nilIface] 358)] s2 (fun e he => by
   obtain ⟨t,_,h⟩ := a2.lk e (p2.mem_iff.1 he)
   exact ⟨h.cells,h.cell1⟩)
  (fun done Z₁ H₁ => Z₁ = Z ∧ (∃ x,H₁.Perm [(b3,cl [.map (some m₁)] 505),(b4,cl [.iface 261 r] 170),(b9,cl [.pointer (some ⟨vb,0,none⟩)] 301),(vb,cl [x] 358)]) ∧ ∀ e ∈ done,∃ t t₁,(e.k,t) ∈ l₂ ∧ (e.k,t₁) ∈ l₁ ∧ Sim t₁ t)
  (fun Z₁ _ => Z₁ = Z ∧ l₁ ≠ l₂) ⟨rfl,⟨_,.refl _⟩,fun _ h => by cases h⟩ ?cb) rfl ?perm ?_
 case cb =>
  rintro done e Z₁ H₁ b hz he hsub hnd ⟨rfl,⟨x,hp⟩,hS⟩ hb
  obtain ⟨t,ht,hv⟩ := a2.lk e (p2.mem_iff.1 he)
  haveI : ZLe Z₁ (Z₁.add b (cl [e.v] 358)) := ⟨Fz.le_add hb⟩
  refine Tr.pre hp (Tr.mono (f381 ih b3 b4 b9 vb m₁ c₁ b es₁ r x e.v e.k l₁ t _ es₁' p1 (a1.mono (Fz.le_add hb)) hN Fz.add_at (hv.mono (Fz.le_add hb))) ?_)
  rintro v Z' H' ⟨q,y,rfl,rfl,hp',hq,hq'⟩
  rw [Fz.add_del hb]
  refine ⟨q,rfl,fun h => ⟨rfl,⟨y,hp'⟩,fun e' he' => ?_⟩,fun hf => ⟨rfl,fun hl => ?_⟩⟩
  rotate_left
  ·subst hl
   have := hq' ht (by rw [a1.keys]; exact (p1.map En.k).nodup_iff.1 s1.kd)
   rw [this] at hf; cases hf
  rcases List.mem_append.1 he' with h' | h'
  ·exact hS e' h'
  ·simp only [List.mem_singleton] at h'
   subst h'
   obtain ⟨t₁,h1,h2⟩ := hq h
   exact ⟨t,t₁,ht,h1,h2⟩
 case perm => exact (List.perm_append_comm (l₁ := [(b9,cl [.pointer (some ⟨vb,0,none⟩)] 301),(vb,cl [.nilIface] 358)]) (l₂ := [(b4,cl [.iface 261 r] 170),(b3,cl [.map (some m₁)] 505)])).trans (.swap (b3,cl [.map (some m₁)] 505) (b4,cl [.iface 261 r] 170) _)
 rintro v Z2 H2 hz2 ⟨q,rfl,hq1,hq2⟩
 refine gn ?_
 refine fin_free ?_
 refine fin1 ⟨⟨q,rfl,fun h => ?_,fun h => ?_⟩,?_⟩
 ·obtain ⟨done,H₁,A,hd,⟨_,_,hS⟩,_⟩ := hq1 h
  refine sim_mp (by rw [← a1.len,← a2.len,← p1.length_eq,← p2.length_eq,hlen]) a2 ((p2.map En.k).nodup_iff.1 s2.kd) fun e he => hS e (hd.mem_iff.2 (p2.mem_iff.2 he))
 ·cases q with
  | true => rfl
  | false => obtain ⟨_,_,⟨_,h'⟩,_⟩ := hq2 rfl; exact absurd h h'
 ·cases q with
  | true => obtain ⟨_,_,_,_,⟨h,_⟩,_⟩ := hq1 rfl; exact h
  | false => obtain ⟨_,_,⟨h,_⟩,_⟩ := hq2 rfl; exact h
end Go.Ux
namespace Go.Ux
open Go Go.Proofs
set_option maxRecDepth 20000
attribute [local irreducible] WP Tr
section
variable {P : Program} {n : Nat} {all : Array Oper} {dr : Bool} {Pin : Hp} {K : Fr → Fz → Hp → Prop} {rest : List Oper} {l : List Lay} {D : List Deferred} {Z : Fz} {H : Hp}
variable {dst : Option Tmp} {ty : TypeId} {pos : String} {af : Array Edge} {gd : Option (Nat × Bool)} {x : Operand} {b off : Nat} {u : Value}
theorem iL1_pu {g : FuncId} {name : String} {t e : Nat} {ob : List Value} {U : Nat} {xs : List Operand} {ats : Array TypeId} {args : List Value} {Q : Value → Prop} [Ent P g] [MthL P t name g e] [Ty P e 1 false] [hm : Mem false Z Pin H b (cl ob U)]
  (hg : okO n all ⟨l,D⟩ ⟨dst,.call ⟨.invoke x name,xs.toArray,ats⟩,ty,pos,af,gd⟩ = true) (hx : ev ⟨l,D⟩ x = .iface t (.pointer (some ⟨b,off,none⟩))) (hv : ob[off]? = some u)
  (ht : Pu P g args.toArray Z Q) (ha : u :: xs.map (ev ⟨l,D⟩) = args)
  (h : ∀ v,Q v → Rg P n all dr Pin K rest (put ⟨l,D⟩ dst v) Z H) : Rg P n all dr Pin K (⟨dst,.call ⟨.invoke x name,xs.toArray,ats⟩,ty,pos,af,gd⟩ :: rest) ⟨l,D⟩ Z H :=
 o_invL1 [] H hg hx hv ht ha (.refl _) fun v Z' H' _ hq => by
  obtain ⟨q1,rfl,rfl⟩ := hq
  exact h v q1
end
theorem AVs.len {Z : Fz} : ∀ {ts : List Tv} {vs : List Value},AVs Z ts vs → vs.length = ts.length
 | [],vs,h => by simp only [AVs] at h; subst h; rfl
 | t :: ts,vs,h => by
  simp only [AVs] at h
  obtain ⟨v,vs',rfl,_,h3⟩ := h
  simp [AVs.len h3]
theorem AVs.at {Z : Fz} : ∀ {ts : List Tv} {vs : List Value} {j : Nat},AVs Z ts vs → j < vs.length → ∃ t v,vs[j]? = some v ∧ ts[j]? = some t ∧ AV Z t v
 | [],vs,j,h,hj => by simp only [AVs] at h; subst h; simp at hj
 | t :: ts,vs,j,h,hj => by
  simp only [AVs] at h
  obtain ⟨v,vs',rfl,h2,h3⟩ := h
  cases j with
  | zero => exact ⟨t,v,rfl,rfl,h2⟩
  | succ j =>
   obtain ⟨t',v',h4,h5,h6⟩ := AVs.at h3 (j := j) (by simpa using hj)
   exact ⟨t',v',by simpa using h4,by simpa using h5,h6⟩
theorem Rs.rowAt {R : Nat → Obj → Prop} {v : Value} {n : Nat} {vs : List Value} (h : Rs R 1 v n vs) (hn : 0 < n) : vs.length = n ∧ ∃ b off c U xs,v = .slice (some ⟨b,off,none⟩) n c ∧ R b (cl xs U) ∧ ∀ j u,vs[j]? = some u → xs[off + j * 1]? = some u := by
 cases h with
 | nil c => omega
 | emp => omega
 | row b off n c U xs ds hr hd hl =>
  refine ⟨by omega,b,off,c,U,xs,rfl,hr,fun j u hj => ?_⟩
  rw [← hd,List.getElem?_take] at hj
  split at hj
  ·rw [List.getElem?_drop] at hj; rw [Nat.mul_one]; exact hj
  ·cases hj
theorem Rs.len1 {R : Nat → Obj → Prop} {v : Value} {n : Nat} {vs : List Value} (h : Rs R 1 v n vs) : vs.length = n := by
 cases h with
 | nil c => rfl
 | emp => rfl
 | row b off n c U xs ds hr hd hl => omega
theorem perm3 {A B C : Hp} : (A ++ (B ++ C)).Perm (B ++ (A ++ C)) := by
 rw [← List.append_assoc,← List.append_assoc]
 exact List.perm_append_comm.append_right C
theorem perm5 {a b c d e : Nat × Obj} : [a,b,c,d,e].Perm [c,a,d,b,e] :=
 ((List.Perm.swap c b [d,e]).cons a).trans ((List.Perm.swap c a (b :: [d,e])).trans ((((List.Perm.swap d b [e]).cons a).cons c)))
theorem perm5' {a b c d e : Nat × Obj} : [a,b,c,d,e].Perm [d,b,c,a,e] := by
 have h1 : [a,b,c,d,e].Perm (d :: [a,b,c,e]) := List.perm_middle (l₁ := [a,b,c])
 have h2 : [a,b,c,e].Perm [b,c,a,e] := (List.perm_append_comm (l₁ := [a]) (l₂ := [b,c])).append_right [e]
 exact h1.trans (h2.cons d)
theorem perm6 {a b c d e : Nat × Obj} : [c,d,a,b,e].Perm [a,b,c,d,e] := (List.perm_append_comm (l₁ := [c,d]) (l₂ := [a,b])).append_right [e]
theorem f393 (b : Nat) (Z : Fz) : Pu Tryz.prog 393 #[.pointer (some ⟨b,0,none⟩)] Z fun v => v = .bool false := by
 refine Pu.intro Tryz.func393 rfl Tryz.ntmps393 Tryz.results393 rfl ?_
 refine gn ?_
 exact fin1 ⟨rfl,rfl⟩
theorem f367 {N : Nat} (ih : E64 N) (b : Nat) (s₁ s₂ r : Value) (n₁ n₂ : Nat) (vs₁ vs₂ : List Value) (ts₁ ts₂ : List Tv) (Z : Fz) (h₁ : Rs (inZ Z) 1 s₁ n₁ vs₁) (h₂ : Rs (inZ Z) 1 s₂ n₂ vs₂) (a₁ : AVs Z ts₁ vs₁) (a₂ : AVs Z ts₂ vs₂) (hN : szL ts₁ < N) (hn : n₁ ≤ 1099511627776) (H₀ : Hp) (hH : H₀ = [(b,cl [s₁] 504)]) :
  Tr Tryz.prog 367 #[.iface 261 r,.iface 570 (.pointer (some ⟨b,0,none⟩)),.iface 504 s₂] Z H₀ fun v Z' _H' => ∃ q,v = .bool q ∧ Z = Z' ∧ (ts₁ = ts₂ → q = true) := by
 refine Tr.intro Tryz.func367 rfl Tryz.ntmps367 Tryz.results367 rfl ?_
 subst hH
 have e₁ : ∃ o₁ c₁,s₁ = .slice o₁ n₁ c₁ := by cases h₁ <;> exact ⟨_,_,rfl⟩
 have e₂ : ∃ o₂ c₂,s₂ = .slice o₂ n₂ c₂ := by cases h₂ <;> exact ⟨_,_,rfl⟩
 obtain ⟨o₁,c₁,rfl⟩ := e₁
 obtain ⟨o₂,c₂,rfl⟩ := e₂
 refine gn ?_
 refine iL1_pu (xs := []) rfl rfl rfl (f364 o₁ n₁ c₁ Z) rfl ?_
 rintro _ rfl
 refine gn ?_
 refine i_pu (xs := []) rfl rfl (f364 o₂ n₂ c₂ Z) rfl ?_
 rintro _ rfl
 by_cases hne : n₁ = n₂
 case neg =>
  refine o_nei rfl rfl rfl (r := true) (by simp only [Int.ofNat_eq_natCast]; exact decide_eq_true (by omega)) ?_
  refine gn ?_
  refine fin1 ⟨false,rfl,rfl,fun h => ?_⟩
  subst h
  refine absurd ?_ hne
  rw [← (Rs.len1 h₁),← (Rs.len1 h₂),a₁.len,a₂.len]
 refine o_nei rfl rfl rfl (r := false) (by simp only [Int.ofNat_eq_natCast]; exact decide_eq_false (by omega)) ?_
 refine gn ?_
 subst hne
 rcases Nat.eq_zero_or_pos n₁ with rfl | hpos
 ·refine o_invL1 (xs := [.tmp 19]) [] [(b,cl [.slice o₁ 0 c₁] 504)] rfl rfl rfl (f366_0 o₁ c₁ (.iface 261 r) Z) rfl (.refl _) ?_
  rintro _ _ _ _ ⟨q₁,rfl,rfl,rfl⟩
  refine gn ?_
  refine o_free rfl rfl ?_
  refine gn ?_
  refine o_inv (xs := [.tmp 25]) [] _ rfl rfl (f366_0 o₂ c₂ (.iface 261 r) Z) rfl (.refl _) ?_
  rintro _ _ _ _ ⟨q₂,rfl,rfl,rfl⟩
  refine gn ?_
  refine o_free rfl rfl ?_
  refine gn ?_
  refine WP.loopM [6,9,10,11,12,30,31,32,33,34,35,36,37,38,39,40,41,42,43,44,45,46,47,48,49,50] (fun _ _ Z' _ => Z = Z') 0 rfl ?_
  rintro k g Z' H' hz rfl
  refine gn ?_
  refine i_pu (xs := []) rfl rfl (f393 q₁ Z) rfl ?_
  rintro _ rfl
  refine gn ?_
  refine fin_free ?_
  refine fin_free ?_
  exact fin1 ⟨true,rfl,rfl,fun _ => rfl⟩
 ·refine o_invL1 (xs := [.tmp 19]) [] [(b,cl [.slice o₁ n₁ c₁] 504)] rfl rfl rfl (f366 o₁ n₁ c₁ r Z hpos) rfl (.refl _) ?_
  rintro _ _ _ _ ⟨r₁,w₁,rfl,rfl,rfl⟩
  refine gn ?_
  refine o_free rfl rfl ?_
  refine gn ?_
  refine o_inv (xs := [.tmp 25]) [] _ rfl rfl (f366 o₂ n₁ c₂ r Z hpos) rfl (.refl _) ?_
  rintro _ _ _ _ ⟨r₂,w₂,rfl,rfl,rfl⟩
  refine gn ?_
  refine o_free rfl rfl ?_
  refine gn ?_
  refine WP.loopM [6,9,10,11,12,30,31,32,33,34,35,36,37,38,39,40,41,42,43,44,45,46,47,48,49,50]
   (fun k _ Z' H' => ∃ (j : Nat) (x y : Value),k = n₁ - j ∧ j ≤ n₁ ∧ Z = Z' ∧ H'.Perm (rgH r₁ w₁ (.slice o₁ n₁ c₁) x ((j : Int) - 1) ++ (rgH r₂ w₂ (.slice o₂ n₁ c₂) y ((j : Int) - 1) ++ [(b,cl [.slice o₁ n₁ c₁] 504)]))) n₁
   ⟨0,.nilIface,.nilIface,by omega,by omega,rfl,?_⟩ ?_
  ·exact perm6
  rintro k g Z' H' hz ⟨j,x,y,rfl,hj,rfl,hp⟩
  refine WP.perm hp ?_
  refine gn ?_
  refine o_inv (xs := []) (rgH r₁ w₁ _ x _) _ rfl rfl (f391 r₁ w₁ o₁ n₁ c₁ x ((j : Int) - 1) Z (by omega) (by omega)) rfl (.refl _) ?_
  rintro _ _ _ _ ⟨rfl,rfl,rfl⟩
  by_cases hlt : j < n₁
  case neg =>
   rw [show decide ((j : Int) - 1 + 1 < (n₁ : Int)) = false from decide_eq_false (by omega)]
   refine gn ?_
   refine fin_free ?_
   refine fin_free ?_
   exact fin1 ⟨true,rfl,rfl,fun _ => rfl⟩
  rw [show decide ((j : Int) - 1 + 1 < (n₁ : Int)) = true from decide_eq_true (by omega),show (j : Int) - 1 + 1 = (j : Int) by omega]
  refine gn ?_
  refine o_inv (xs := []) (rgH r₂ w₂ _ y _) (rgH r₁ w₁ (.slice o₁ n₁ c₁) x j ++ [(b,cl [.slice o₁ n₁ c₁] 504)]) rfl rfl (f391 r₂ w₂ o₂ n₁ c₂ y ((j : Int) - 1) Z (by omega) (by omega)) rfl ?p1 ?_
  case p1 => exact perm3
  rintro _ _ _ _ ⟨rfl,rfl,rfl⟩
  rw [show decide ((j : Int) - 1 + 1 < (n₁ : Int)) = true from decide_eq_true (by omega),show (j : Int) - 1 + 1 = (j : Int) by omega]
  refine gn ?_
  obtain ⟨hv₁,b₁,f₁,k₁,U₁,xs₁,e₁,z₁,q₁⟩ := h₁.rowAt hpos
  obtain ⟨hv₂,b₂,f₂,k₂,U₂,xs₂,e₂,z₂,q₂⟩ := h₂.rowAt hpos
  cases e₁
  cases e₂
  haveI : Zf Z b₁ (cl xs₁ U₁) := ⟨z₁⟩
  haveI : Zf Z b₂ (cl xs₂ U₂) := ⟨z₂⟩
  obtain ⟨t₁,u₁,g₁,m₁,v₁⟩ := a₁.at (j := j) (by omega)
  obtain ⟨t₂,u₂,g₂,m₂,v₂⟩ := a₂.at (j := j) (by omega)
  refine o_inv (xs := []) (rgH r₁ w₁ (.slice (some ⟨b₁,f₁,none⟩) n₁ c₁) x j) (rgH r₂ w₂ (.slice (some ⟨b₂,f₂,none⟩) n₁ c₂) y j ++ [(b,cl [.slice (some ⟨b₁,f₁,none⟩) n₁ c₁] 504)]) rfl rfl (f390 r₁ w₁ b₁ f₁ n₁ c₁ j U₁ xs₁ x u₁ Z hlt (q₁ j u₁ g₁) v₁.cells v₁.cell1) rfl ?p2 ?_
  case p2 => exact perm3
  rintro _ _ H1 _ ⟨rfl,rfl,hp1⟩
  refine gn ?_
  refine o_inv (xs := []) (rgH r₂ w₂ (.slice (some ⟨b₂,f₂,none⟩) n₁ c₂) y j) (rgH r₁ w₁ (.slice (some ⟨b₁,f₁,none⟩) n₁ c₁) u₁ j ++ [(b,cl [.slice (some ⟨b₁,f₁,none⟩) n₁ c₁] 504)]) rfl rfl (f390 r₂ w₂ b₂ f₂ n₁ c₂ j U₂ xs₂ y u₂ Z hlt (q₂ j u₂ g₂) v₂.cells v₂.cell1) rfl ?p3 ?_
  case p3 => exact (hp1.append_right _).trans perm3
  rintro _ _ H2 _ ⟨rfl,rfl,hp2⟩
  refine gn ?_
  have hlt' : t₁.sz < N := Nat.lt_of_le_of_lt (sz_memL (List.mem_of_getElem? m₁)) hN
  refine o_call ((w₁,cl [u₁] 358) :: [(w₂,cl [u₂] 358)]) [(r₁,cl [.slice (some ⟨b₁,f₁,none⟩) n₁ c₁,.pointer (some ⟨w₁,0,none⟩),.int .i64 j] 574),(r₂,cl [.slice (some ⟨b₂,f₂,none⟩) n₁ c₂,.pointer (some ⟨w₂,0,none⟩),.int .i64 j] 574),(b,cl [.slice (some ⟨b₁,f₁,none⟩) n₁ c₁] 504)] rfl
   (Tr.lend fun y₁ => Tr.lend fun y₂ => ih t₁ t₂ _ _ r _ hlt' ⟨w₁,u₁,rfl,Fz.le_add y₂ _ _ Fz.add_at,(v₁.mono (Fz.le_add y₁)).mono (Fz.le_add y₂)⟩ ⟨w₂,u₂,rfl,Fz.add_at,(v₂.mono (Fz.le_add y₁)).mono (Fz.le_add y₂)⟩) rfl ?p4 ?_
  case p4 => exact (hp2.append_right _).trans perm5'
  rintro v Z2 _ hz2 ⟨n1,Z3,H3,⟨n2,Z4,H4,⟨⟨q,rfl,hq,hq'⟩,rfl,rfl⟩,_,rfl,rfl⟩,_,rfl,rfl⟩
  rw [Fz.add_del n2,Fz.add_del n1] at hz2 ⊢
  cases q with
  | true =>
   refine gn ?_
   refine ⟨back_go 25 rfl rfl,n₁ - (j + 1),by omega,j + 1,u₁,u₂,rfl,by omega,rfl,?_⟩
   rw [show ((j + 1 : Nat) : Int) - 1 = (j : Int) by omega]
   exact perm5
  | false =>
   refine gn ?_
   refine fin_free ?_
   refine fin_free ?_
   refine fin1 ⟨false,rfl,rfl,fun h => ?_⟩
   subst h
   rw [m₁] at m₂
   cases m₂
   exact hq' rfl
end Go.Ux
namespace Go.Ux
open Go Go.Proofs
set_option maxRecDepth 20000
attribute [local irreducible] WP Tr
theorem f363 {N : Nat} (ih : E64 N) (s₁ s₂ r : Value) (n₁ n₂ : Nat) (vs₁ vs₂ : List Value) (ts₁ ts₂ : List Tv) (Z : Fz) (h₁ : Rs (inZ Z) 1 s₁ n₁ vs₁) (h₂ : Rs (inZ Z) 1 s₂ n₂ vs₂) (a₁ : AVs Z ts₁ vs₁) (a₂ : AVs Z ts₂ vs₂) (hN : szL ts₁ < N) (hn : n₁ ≤ 1099511627776) :
  Pu Tryz.prog 363 #[s₁,.iface 261 r,.iface 504 s₂] Z fun v => ∃ q,v = .bool q ∧ (ts₁ = ts₂ → q = true) := by
 refine Pu.intro Tryz.func363 rfl Tryz.ntmps363 Tryz.results363 rfl ?_
 have e₁ : ∃ o₁ c₁,s₁ = .slice o₁ n₁ c₁ := by cases h₁ <;> exact ⟨_,_,rfl⟩
 obtain ⟨o₁,c₁,rfl⟩ := e₁
 refine gn ?_; intro b
 refine gn ?_
 refine o_call [(b,cl [.slice o₁ n₁ c₁] 504)] [] rfl (f367 ih b _ s₂ r n₁ n₂ vs₁ vs₂ ts₁ ts₂ Z h₁ h₂ a₁ a₂ hN hn _ rfl) rfl (.refl _) ?_
 rintro _ _ _ _ ⟨q,rfl,rfl,hq⟩
 refine gn ?_
 exact fin1 ⟨⟨q,rfl,hq⟩,rfl⟩
end Go.Ux
namespace Go.Ux
open Go Go.Proofs
theorem g_cinv {P : Program} {n : Nat} {all : Array Oper} {dr : Bool} {Pin : Hp} {K : Fr → Fz → Hp → Prop} {rest : List Oper} {f : Fr} {Z : Fz} {H : Hp} {dst : Option Tmp} {ty : TypeId} {pos : String} {af : Array Edge} {gd : Option (Nat × Bool)} {x : Operand} {nm : String} {xs : Array Operand} {ts : Array TypeId}
  (h : Rg P n all dr Pin K (⟨dst,.call ⟨.invoke x nm,xs,ts⟩,ty,pos,af,gd⟩ :: rest) f Z H) : Rg P n all dr Pin K (⟨dst,.call ⟨.invoke x nm,xs,ts⟩,ty,pos,af,gd⟩ :: rest) f Z H := h
theorem gv {g g' : Prop} (h : g')
  (s : Hide g' → g := by
   intro hh
   (first
    | (refine g_rg ?_; first
     | (refine g_move ?_; first | refine o_move rfl ?_)
     | (refine g_assign ?_; first | refine o_assign rfl ?_)
     | (refine g_load ?_; first | refine o_load1 rfl rfl get_go ?_ | refine o_loadS rfl rfl ?_ | refine o_loadN rfl rfl rfl rfl ?_)
     | (refine g_fieldAddr ?_; first | refine o_fieldAddr0 rfl rfl ?_ | refine o_fieldAddrZ rfl rfl ?_ | refine o_fieldAddr rfl rfl ?_)
     | (refine g_nilCheck ?_; first | refine o_nilCheck rfl rfl ?_ | refine o_nilCheckI rfl rfl ?_)
     | (refine g_extract ?_; first | refine o_extract rfl rfl rfl ?_)
     | (refine g_store ?_; first | refine o_storeA rfl rfl rfl rfl rfl ?_ | refine o_store1 rfl rfl ev_go ?_)
     | (refine g_eql ?_; first | refine o_eqlP rfl rfl ?_ | refine o_eqlP0 rfl rfl ?_ | refine o_eqlI rfl rfl ?_ | refine o_eqlI0 rfl rfl ?_ | refine o_eqi rfl rfl rfl eq_go ?_ | refine o_eqs rfl rfl rfl eqs_go ?_ | refine o_eqlS rfl rfl ?_ | refine o_eqlS0 rfl rfl ?_ | refine o_eqlM rfl rfl ?_ | refine o_eqlM0 rfl rfl ?_)
     | (refine g_neq ?_; first | refine o_neqP rfl rfl ?_ | refine o_neqP0 rfl rfl ?_ | refine o_neqI rfl rfl ?_ | refine o_neqI0 rfl rfl ?_ | refine o_neqM rfl rfl ?_ | refine o_neqM0 rfl rfl ?_ | refine o_nei rfl rfl rfl ne_go ?_ | refine o_nes rfl rfl rfl nes_go ?_ | refine o_neqS rfl rfl ?_ | refine o_neqS0 rfl rfl ?_)
     | (refine g_lss ?_; first | refine o_lss rfl rfl rfl lt_go ?_)
     | (refine g_add ?_; first | refine o_add rfl rfl rfl (by omega) (by omega) ?_)
     | (refine g_sub ?_; first | refine o_sub rfl rfl rfl (by omega) (by omega) ?_)
     | (refine g_gtr ?_; first | refine o_gtr rfl rfl rfl lt_go ?_)
     | (refine g_leq ?_; first | refine o_leq rfl rfl rfl le_go ?_)
     | (refine g_geq ?_; first | refine o_geq rfl rfl rfl le_go ?_)
     | (refine g_len ?_; first | refine o_lenS rfl rfl ?_ | refine o_lenM rfl rfl ?_ | refine o_lenM0 rfl rfl ?_)
     | (refine g_box ?_; first | refine o_boxA rfl rfl ?_ | refine o_box1 rfl ev_go ?_)
     | (refine g_alloc ?_; first | refine o_alloc rfl ?_)
     | (refine g_build ?_; first | refine o_buildR rfl fill_go ?_)
     | (refine g_buildSlice ?_; first | refine o_bSliceA rfl rfl rfl ?_ | refine o_bSlice1 rfl ev_go ?_ | refine o_buildSlice0 rfl ?_)
     | (refine g_mkI ?_; first | refine o_makeInterface rfl ev_go ?_)
     | (refine g_type ?_; first | refine o_typeHit rfl rfl ?_ | refine o_typeMiss rfl rfl rfl ?_ | refine o_typeNil rfl rfl ?_)
     | (refine g_pick ?_; first | refine o_pickT rfl rfl ?_ | refine o_pickF rfl rfl ?_)
     | (refine g_un ?_; first | refine o_not rfl rfl ?_)
     | (refine g_mkF ?_; first | refine o_makeFuncL rfl evl_go evl_go ?_)
     | (refine g_makeMap ?_; first | refine o_makeMap rfl ?_)
     | refine o_sk rfl ?_
     | (refine g_cinv ?_; first | refine m_IsNull rfl rfl ?_ | refine m_IsMap rfl rfl ?_ | refine m_IsList rfl rfl ?_ | refine m_IsString rfl rfl ?_ | refine m_IsBool rfl rfl ?_ | refine m_IsFloat rfl rfl ?_ | refine m_IsInt rfl rfl ?_))
    | refine r_end ?_ | refine q_n ?_
    | (refine g_wp ?_; first | refine WP.seq ?_ | refine WP.region ?_ | refine WP.yes rfl ?_ | refine WP.no rfl ?_ | refine WP.skip ?_ | refine WP.ret ?_ | refine WP.exit ?_ | refine WP.block ?_)
    | refine q_dret ?_ | refine q_ret ?_ | refine q_exit ?_ | refine q_bn ?_ | refine q_bret ?_ | refine q_bexit rfl ?_ | refine q_bother rfl ?_ | refine q_dn ?_)
   repeat (first
    | (refine g_rg ?_; first
     | (refine g_move ?_; first | refine o_move rfl ?_)
     | (refine g_assign ?_; first | refine o_assign rfl ?_)
     | (refine g_load ?_; first | refine o_load1 rfl rfl get_go ?_ | refine o_loadS rfl rfl ?_ | refine o_loadN rfl rfl rfl rfl ?_)
     | (refine g_fieldAddr ?_; first | refine o_fieldAddr0 rfl rfl ?_ | refine o_fieldAddrZ rfl rfl ?_ | refine o_fieldAddr rfl rfl ?_)
     | (refine g_nilCheck ?_; first | refine o_nilCheck rfl rfl ?_ | refine o_nilCheckI rfl rfl ?_)
     | (refine g_extract ?_; first | refine o_extract rfl rfl rfl ?_)
     | (refine g_store ?_; first | refine o_storeA rfl rfl rfl rfl rfl ?_ | refine o_store1 rfl rfl ev_go ?_)
     | (refine g_eql ?_; first | refine o_eqlP rfl rfl ?_ | refine o_eqlP0 rfl rfl ?_ | refine o_eqlI rfl rfl ?_ | refine o_eqlI0 rfl rfl ?_ | refine o_eqi rfl rfl rfl eq_go ?_ | refine o_eqs rfl rfl rfl eqs_go ?_ | refine o_eqlS rfl rfl ?_ | refine o_eqlS0 rfl rfl ?_ | refine o_eqlM rfl rfl ?_ | refine o_eqlM0 rfl rfl ?_)
     | (refine g_neq ?_; first | refine o_neqP rfl rfl ?_ | refine o_neqP0 rfl rfl ?_ | refine o_neqI rfl rfl ?_ | refine o_neqI0 rfl rfl ?_ | refine o_neqM rfl rfl ?_ | refine o_neqM0 rfl rfl ?_ | refine o_nei rfl rfl rfl ne_go ?_ | refine o_nes rfl rfl rfl nes_go ?_ | refine o_neqS rfl rfl ?_ | refine o_neqS0 rfl rfl ?_)
     | (refine g_lss ?_; first | refine o_lss rfl rfl rfl lt_go ?_)
     | (refine g_add ?_; first | refine o_add rfl rfl rfl (by omega) (by omega) ?_)
     | (refine g_sub ?_; first | refine o_sub rfl rfl rfl (by omega) (by omega) ?_)
     | (refine g_gtr ?_; first | refine o_gtr rfl rfl rfl lt_go ?_)
     | (refine g_leq ?_; first | refine o_leq rfl rfl rfl le_go ?_)
     | (refine g_geq ?_; first | refine o_geq rfl rfl rfl le_go ?_)
     | (refine g_len ?_; first | refine o_lenS rfl rfl ?_ | refine o_lenM rfl rfl ?_ | refine o_lenM0 rfl rfl ?_)
     | (refine g_box ?_; first | refine o_boxA rfl rfl ?_ | refine o_box1 rfl ev_go ?_)
     | (refine g_alloc ?_; first | refine o_alloc rfl ?_)
     | (refine g_build ?_; first | refine o_buildR rfl fill_go ?_)
     | (refine g_buildSlice ?_; first | refine o_bSliceA rfl rfl rfl ?_ | refine o_bSlice1 rfl ev_go ?_ | refine o_buildSlice0 rfl ?_)
     | (refine g_mkI ?_; first | refine o_makeInterface rfl ev_go ?_)
     | (refine g_type ?_; first | refine o_typeHit rfl rfl ?_ | refine o_typeMiss rfl rfl rfl ?_ | refine o_typeNil rfl rfl ?_)
     | (refine g_pick ?_; first | refine o_pickT rfl rfl ?_ | refine o_pickF rfl rfl ?_)
     | (refine g_un ?_; first | refine o_not rfl rfl ?_)
     | (refine g_mkF ?_; first | refine o_makeFuncL rfl evl_go evl_go ?_)
     | (refine g_makeMap ?_; first | refine o_makeMap rfl ?_)
     | refine o_sk rfl ?_
     | (refine g_cinv ?_; first | refine m_IsNull rfl rfl ?_ | refine m_IsMap rfl rfl ?_ | refine m_IsList rfl rfl ?_ | refine m_IsString rfl rfl ?_ | refine m_IsBool rfl rfl ?_ | refine m_IsFloat rfl rfl ?_ | refine m_IsInt rfl rfl ?_))
    | refine r_end ?_ | refine q_n ?_
    | (refine g_wp ?_; first | refine WP.seq ?_ | refine WP.region ?_ | refine WP.yes rfl ?_ | refine WP.no rfl ?_ | refine WP.skip ?_ | refine WP.ret ?_ | refine WP.exit ?_ | refine WP.block ?_)
    | refine q_dret ?_ | refine q_ret ?_ | refine q_exit ?_ | refine q_bn ?_ | refine q_bret ?_ | refine q_bexit rfl ?_ | refine q_bother rfl ?_ | refine q_dn ?_)
   exact hh.h) : g := s ⟨h⟩
end Go.Ux
namespace Go.Ux
open Go Go.Proofs
set_option maxRecDepth 20000
section
variable {n : Nat} {all : Array Oper} {dr : Bool} {Pin : Hp} {K : Fr → Fz → Hp → Prop} {rest : List Oper} {l : List Lay} {D : List Deferred} {Z : Fz} {H : Hp}
variable {d : Tmp} {ty : TypeId} {pos : String} {af : Array Edge} {gd : Option (Nat × Bool)} {x y : Operand} {b : Nat} {u r : Value} {ts : Array TypeId}
theorem m_as (name : String) {g : Nat} [Ent Tryz.prog g] [MthL Tryz.prog 301 name g 358] [hm : Mem false Z Pin H b (cl [u] 358)] (ht : Pu Tryz.prog g #[.agg #[u]] Z fun v => v = r)
  (hg : okO n all ⟨l,D⟩ ⟨some d,.call ⟨.invoke x name,#[],ts⟩,ty,pos,af,gd⟩ = true) (hx : ev ⟨l,D⟩ x = .iface 301 (.pointer (some ⟨b,0,none⟩)))
  (h : Rg Tryz.prog n all dr Pin K rest ⟨.s d r :: l,D⟩ Z H) : Rg Tryz.prog n all dr Pin K (⟨some d,.call ⟨.invoke x name,#[],ts⟩,ty,pos,af,gd⟩ :: rest) ⟨l,D⟩ Z H :=
 iL_pu (xs := []) (vs := [u]) hm hg hx rfl rfl ht rfl fun v hv => by subst hv; exact h
theorem m_AsBool {q : Bool} [hm : Mem false Z Pin H b (cl [.iface 4 (.bool q)] 358)] (hg : okO n all ⟨l,D⟩ ⟨some d,.call ⟨.invoke x "AsBool",#[],ts⟩,ty,pos,af,gd⟩ = true) (hx : ev ⟨l,D⟩ x = .iface 301 (.pointer (some ⟨b,0,none⟩)))
  (h : Rg Tryz.prog n all dr Pin K rest ⟨.s d (.bool q) :: l,D⟩ Z H) : Rg Tryz.prog n all dr Pin K (⟨some d,.call ⟨.invoke x "AsBool",#[],ts⟩,ty,pos,af,gd⟩ :: rest) ⟨l,D⟩ Z H := m_as "AsBool" (f263 q Z) hg hx h
theorem m_AsFloat {q : Nat} [hm : Mem false Z Pin H b (cl [.iface 33 (.float .f64 q)] 358)] (hg : okO n all ⟨l,D⟩ ⟨some d,.call ⟨.invoke x "AsFloat",#[],ts⟩,ty,pos,af,gd⟩ = true) (hx : ev ⟨l,D⟩ x = .iface 301 (.pointer (some ⟨b,0,none⟩)))
  (h : Rg Tryz.prog n all dr Pin K rest ⟨.s d (.float .f64 q) :: l,D⟩ Z H) : Rg Tryz.prog n all dr Pin K (⟨some d,.call ⟨.invoke x "AsFloat",#[],ts⟩,ty,pos,af,gd⟩ :: rest) ⟨l,D⟩ Z H := m_as "AsFloat" (f264 q Z) hg hx h
theorem m_AsInt {q : Int} [hm : Mem false Z Pin H b (cl [.iface 2 (.int .i64 q)] 358)] (hg : okO n all ⟨l,D⟩ ⟨some d,.call ⟨.invoke x "AsInt",#[],ts⟩,ty,pos,af,gd⟩ = true) (hx : ev ⟨l,D⟩ x = .iface 301 (.pointer (some ⟨b,0,none⟩)))
  (h : Rg Tryz.prog n all dr Pin K rest ⟨.s d (.int .i64 q) :: l,D⟩ Z H) : Rg Tryz.prog n all dr Pin K (⟨some d,.call ⟨.invoke x "AsInt",#[],ts⟩,ty,pos,af,gd⟩ :: rest) ⟨l,D⟩ Z H := m_as "AsInt" (f265 q Z) hg hx h
theorem m_AsString {q : ByteArray} [hm : Mem false Z Pin H b (cl [.iface 9 (.string q)] 358)] (hg : okO n all ⟨l,D⟩ ⟨some d,.call ⟨.invoke x "AsString",#[],ts⟩,ty,pos,af,gd⟩ = true) (hx : ev ⟨l,D⟩ x = .iface 301 (.pointer (some ⟨b,0,none⟩)))
  (h : Rg Tryz.prog n all dr Pin K rest ⟨.s d (.string q) :: l,D⟩ Z H) : Rg Tryz.prog n all dr Pin K (⟨some d,.call ⟨.invoke x "AsString",#[],ts⟩,ty,pos,af,gd⟩ :: rest) ⟨l,D⟩ Z H := m_as "AsString" (f270 q Z) hg hx h
theorem m_AsList {s a : Value} [hm : Mem false Z Pin H b (cl [.iface 197 s] 358)] (hg : okO n all ⟨l,D⟩ ⟨some d,.call ⟨.invoke x "AsListUsing",#[y],ts⟩,ty,pos,af,gd⟩ = true) (hx : ev ⟨l,D⟩ x = .iface 301 (.pointer (some ⟨b,0,none⟩))) (hy : ev ⟨l,D⟩ y = a)
  (h : Rg Tryz.prog n all dr Pin K rest ⟨.s d (.iface 504 s) :: l,D⟩ Z H) : Rg Tryz.prog n all dr Pin K (⟨some d,.call ⟨.invoke x "AsListUsing",#[y],ts⟩,ty,pos,af,gd⟩ :: rest) ⟨l,D⟩ Z H :=
 iL_pu (xs := [y]) (vs := [.iface 197 s]) hm hg hx rfl rfl (f267 s a Z) (by rw [← hy]; rfl) fun v hv => by subst hv; exact h
theorem m_AsMap {m : Nat} {a : Value} [hm : Mem false Z Pin H b (cl [.iface 198 (.map (some m))] 358)] (hg : okO n all ⟨l,D⟩ ⟨some d,.call ⟨.invoke x "AsMapUsing",#[y],ts⟩,ty,pos,af,gd⟩ = true) (hx : ev ⟨l,D⟩ x = .iface 301 (.pointer (some ⟨b,0,none⟩))) (hy : ev ⟨l,D⟩ y = a)
  (h : Rg Tryz.prog n all dr Pin K rest ⟨.s d (.iface 505 (.map (some m))) :: l,D⟩ Z H) : Rg Tryz.prog n all dr Pin K (⟨some d,.call ⟨.invoke x "AsMapUsing",#[y],ts⟩,ty,pos,af,gd⟩ :: rest) ⟨l,D⟩ Z H :=
 iL_pu (xs := [y]) (vs := [.iface 198 (.map (some m))]) hm hg hx rfl rfl (f269 m a Z) (by rw [← hy]; rfl) fun v hv => by subst hv; exact h
theorem o_eqb {p q : Bool} (hg : okO n all ⟨l,D⟩ ⟨some d,.binOp .eql 4 x y 4,ty,pos,af,gd⟩ = true) (hx : ev ⟨l,D⟩ x = .bool p) (hy : ev ⟨l,D⟩ y = .bool q)
  (h : Rg Tryz.prog n all dr Pin K rest ⟨.s d (.bool (p == q)) :: l,D⟩ Z H) : Rg Tryz.prog n all dr Pin K (⟨some d,.binOp .eql 4 x y 4,ty,pos,af,gd⟩ :: rest) ⟨l,D⟩ Z H := by
 refine o_bin hg (fun w _ => ?_) h
 rw [hx,hy]
 kernel_rfl
theorem o_eqf {T : Nat} {p q : Nat} (hg : okO n all ⟨l,D⟩ ⟨some d,.binOp .eql T x y T,ty,pos,af,gd⟩ = true) (hx : ev ⟨l,D⟩ x = .float .f64 p) (hy : ev ⟨l,D⟩ y = .float .f64 q)
  (h : ∀ e : Bool,Rg Tryz.prog n all dr Pin K rest ⟨.s d (.bool e) :: l,D⟩ Z H) : Rg Tryz.prog n all dr Pin K (⟨some d,.binOp .eql T x y T,ty,pos,af,gd⟩ :: rest) ⟨l,D⟩ Z H := by
 refine o_bin hg (v := .bool (FloatKind.f64.format.order p q == some .eq)) (fun w _ => ?_) (h _)
 rw [hx,hy]
 rfl
theorem o_toFloat {q : Int} (hg : okO n all ⟨l,D⟩ ⟨some d,.convert 2 33 x,ty,pos,af,gd⟩ = true) (hx : ev ⟨l,D⟩ x = .int .i64 q)
  (h : ∀ f : Nat,Rg Tryz.prog n all dr Pin K rest ⟨.s d (.float .f64 f) :: l,D⟩ Z H) : Rg Tryz.prog n all dr Pin K (⟨some d,.convert 2 33 x,ty,pos,af,gd⟩ :: rest) ⟨l,D⟩ Z H := by
 refine o_p (v := .float .f64 (FloatKind.f64.nearest q)) hg rfl (fun w _ => ?_) (h _)
 show Sem.run Tryz.prog (do pure (Next.value (← convert 2 33 (ev ⟨l,D⟩ x)))) w = _
 rw [hx]
 kernel_rfl
end
end Go.Ux
namespace Go.Ux
open Go Go.Proofs
set_option maxRecDepth 20000
attribute [local irreducible] WP Tr
section
variable {n : Nat} {all : Array Oper} {dr : Bool} {Pin : Hp} {K : Fr → Fz → Hp → Prop} {rest : List Oper} {l : List Lay} {D : List Deferred} {Z : Fz} {H : Hp}
variable {d : Tmp} {ty : TypeId} {pos : String} {af : Array Edge} {gd : Option (Nat × Bool)} {x y : Operand}
theorem o_eqf' {T : Nat} {p q : Nat} (hg : okO n all ⟨l,D⟩ ⟨some d,.binOp .eql T x y T,ty,pos,af,gd⟩ = true) (hx : ev ⟨l,D⟩ x = .float .f64 p) (hy : ev ⟨l,D⟩ y = .float .f64 q)
  (h : Rg Tryz.prog n all dr Pin K rest ⟨.s d (.bool (FloatKind.f64.format.order p q == some .eq)) :: l,D⟩ Z H) : Rg Tryz.prog n all dr Pin K (⟨some d,.binOp .eql T x y T,ty,pos,af,gd⟩ :: rest) ⟨l,D⟩ Z H := by
 refine o_bin hg (v := .bool (FloatKind.f64.format.order p q == some .eq)) (fun w _ => ?_) h
 rw [hx,hy]
 rfl
theorem o_toFloat' {q : Int} (hg : okO n all ⟨l,D⟩ ⟨some d,.convert 2 33 x,ty,pos,af,gd⟩ = true) (hx : ev ⟨l,D⟩ x = .int .i64 q)
  (h : Rg Tryz.prog n all dr Pin K rest ⟨.s d (.float .f64 (FloatKind.f64.nearest q)) :: l,D⟩ Z H) : Rg Tryz.prog n all dr Pin K (⟨some d,.convert 2 33 x,ty,pos,af,gd⟩ :: rest) ⟨l,D⟩ Z H := by
 refine o_p (v := .float .f64 (FloatKind.f64.nearest q)) hg rfl (fun w _ => ?_) h
 show Sem.run Tryz.prog (do pure (Next.value (← convert 2 33 (ev ⟨l,D⟩ x)))) w = _
 rw [hx]
 kernel_rfl
end
theorem g64 {g g' : Prop} (h : g')
  (s : Hide g' → g := by
   intro hh
   repeat (first | refine gv ?_ | refine m_AsBool rfl rfl ?_ | refine m_AsFloat rfl rfl ?_ | refine m_AsInt rfl rfl ?_ | refine m_AsString rfl rfl ?_ | refine o_toFloat' rfl rfl ?_)
   exact hh.h) : g := s ⟨h⟩
set_option maxHeartbeats 4000000 in
theorem f64_sc (u₁ u₂ r : Value) (Z : Fz) (b₁ b₂ : Nat) [Zf Z b₁ (cl [u₁] 358)] [Zf Z b₂ (cl [u₂] 358)] (h₁ : ScV u₁) (h₂ : ScV u₂) :
  Pu Tryz.prog 64 #[.iface 261 r,.iface 301 (.pointer (some ⟨b₁,0,none⟩)),.iface 301 (.pointer (some ⟨b₂,0,none⟩))] Z fun v => ∃ b,v = .bool b ∧ (u₁ = u₂ → b = true) := by
 refine Pu.intro Tryz.func64 rfl Tryz.ntmps64 Tryz.results64 rfl ?_
 rcases h₁ with ⟨p,rfl⟩ | ⟨p,rfl⟩ | ⟨p,rfl,hp⟩ | ⟨p,rfl⟩ <;> rcases h₂ with ⟨q,rfl⟩ | ⟨q,rfl⟩ | ⟨q,rfl,hq⟩ | ⟨q,rfl⟩
 ·refine g64 ?_
  refine o_eqb rfl rfl rfl ?_
  refine g64 ?_
  exact fin1 ⟨⟨_,rfl,fun h => by cases h; simp⟩,rfl⟩
 ·refine g64 ?_; exact fin1 ⟨⟨_,rfl,fun h => by cases h⟩,rfl⟩
 ·refine g64 ?_; exact fin1 ⟨⟨_,rfl,fun h => by cases h⟩,rfl⟩
 ·refine g64 ?_; exact fin1 ⟨⟨_,rfl,fun h => by cases h⟩,rfl⟩
 ·refine g64 ?_; exact fin1 ⟨⟨_,rfl,fun h => by cases h⟩,rfl⟩
 ·refine g64 ?_
  refine o_eqi rfl rfl rfl (r := decide (p = q)) rfl ?_
  refine g64 ?_
  exact fin1 ⟨⟨_,rfl,fun h => by cases h; simp⟩,rfl⟩
 ·refine g64 ?_
  refine o_eqf' rfl rfl rfl ?_
  refine g64 ?_; exact fin1 ⟨⟨_,rfl,fun h => by cases h⟩,rfl⟩
 ·refine g64 ?_; exact fin1 ⟨⟨_,rfl,fun h => by cases h⟩,rfl⟩
 ·refine g64 ?_; exact fin1 ⟨⟨_,rfl,fun h => by cases h⟩,rfl⟩
 ·refine g64 ?_
  refine o_eqf' rfl rfl rfl ?_
  refine g64 ?_; exact fin1 ⟨⟨_,rfl,fun h => by cases h⟩,rfl⟩
 ·refine g64 ?_
  refine o_eqf' rfl rfl rfl ?_
  refine g64 ?_; exact fin1 ⟨⟨_,rfl,fun h => by cases h; rw [hp]; rfl⟩,rfl⟩
 ·refine g64 ?_; exact fin1 ⟨⟨_,rfl,fun h => by cases h⟩,rfl⟩
 ·refine g64 ?_; exact fin1 ⟨⟨_,rfl,fun h => by cases h⟩,rfl⟩
 ·refine g64 ?_; exact fin1 ⟨⟨_,rfl,fun h => by cases h⟩,rfl⟩
 ·refine g64 ?_; exact fin1 ⟨⟨_,rfl,fun h => by cases h⟩,rfl⟩
 ·refine g64 ?_
  refine o_eqs rfl rfl rfl (r := decide (p = q)) rfl ?_
  refine g64 ?_
  exact fin1 ⟨⟨_,rfl,fun h => by cases h; simp⟩,rfl⟩
set_option maxHeartbeats 4000000 in
theorem f64 : ∀ N,E64 N := by
 intro N
 induction N with
 | zero => intro t₁ t₂ v₁ v₂ r Z h; omega
 | succ N ih =>
  rintro t₁ t₂ _ _ r Z hN ⟨b₁,u₁,rfl,z₁,a₁⟩ ⟨b₂,u₂,rfl,z₂,a₂⟩
  haveI : Zf Z b₁ (cl [u₁] 358) := ⟨z₁⟩
  haveI : Zf Z b₂ (cl [u₂] 358) := ⟨z₂⟩
  have sc : ∀ {t u},AV Z (.sc t) u → u = t ∧ ScV t := fun h => by simpa [AV] using h
  cases t₁ with
  | null =>
   simp only [AV] at a₁; subst a₁
   refine Pu.intro Tryz.func64 rfl Tryz.ntmps64 Tryz.results64 rfl ?_
   rcases a₂.sh with rfl | ⟨_,rfl⟩ | ⟨_,rfl⟩ | ⟨_,rfl⟩ | ⟨_,rfl⟩ | ⟨_,rfl⟩ | ⟨_,rfl⟩
   ·refine g64 ?_
    refine fin1 ⟨⟨_,rfl,fun _ => ?_,fun _ => rfl⟩,rfl⟩
    cases t₂ with
    | null => exact .null
    | sc u => obtain ⟨rfl,h⟩ := sc a₂; rcases h with ⟨_,h⟩ | ⟨_,h⟩ | ⟨_,h,_⟩ | ⟨_,h⟩ <;> cases h
    | li u ts => simp only [AV] at a₂; obtain ⟨_,_,_,_,h,_⟩ := a₂; cases h
    | mp l => simp only [AV] at a₂; obtain ⟨_,_,_,_,h,_⟩ := a₂; cases h
   all_goals (refine g64 ?_; refine fin1 ⟨⟨_,rfl,fun h => (by cases h),fun h => ?_⟩,rfl⟩; subst h; simp only [AV] at a₂; cases a₂)
  | sc u =>
   obtain ⟨rfl,h₁⟩ := sc a₁
   cases t₂ with
   | sc u' =>
    obtain ⟨rfl,h₂⟩ := sc a₂
    refine Tr.mono (f64_sc u₁ u₂ r Z b₁ b₂ h₁ h₂) ?_
    rintro v Z' H' ⟨⟨b,rfl,hb⟩,h⟩
    exact ⟨⟨b,rfl,fun _ => .sc _ _,fun e => hb (by cases e; rfl)⟩,h⟩
   | null =>
    simp only [AV] at a₂; subst a₂
    refine Pu.intro Tryz.func64 rfl Tryz.ntmps64 Tryz.results64 rfl ?_
    rcases h₁ with ⟨p,rfl⟩ | ⟨p,rfl⟩ | ⟨p,rfl,hp⟩ | ⟨p,rfl⟩ <;> (refine g64 ?_; exact fin1 ⟨⟨_,rfl,fun h => (by cases h),fun h => by cases h⟩,rfl⟩)
   | li u' ts =>
    simp only [AV] at a₂; obtain ⟨_,_,_,_,rfl,_⟩ := a₂
    refine Pu.intro Tryz.func64 rfl Tryz.ntmps64 Tryz.results64 rfl ?_
    rcases h₁ with ⟨p,rfl⟩ | ⟨p,rfl⟩ | ⟨p,rfl,hp⟩ | ⟨p,rfl⟩ <;> (refine g64 ?_; exact fin1 ⟨⟨_,rfl,fun h => (by cases h),fun h => by cases h⟩,rfl⟩)
   | mp l =>
    simp only [AV] at a₂; obtain ⟨_,_,_,_,rfl,_⟩ := a₂
    refine Pu.intro Tryz.func64 rfl Tryz.ntmps64 Tryz.results64 rfl ?_
    rcases h₁ with ⟨p,rfl⟩ | ⟨p,rfl⟩ | ⟨p,rfl,hp⟩ | ⟨p,rfl⟩ <;> (refine g64 ?_; exact fin1 ⟨⟨_,rfl,fun h => (by cases h),fun h => by cases h⟩,rfl⟩)
  | li u ts =>
   simp only [AV] at a₁; obtain ⟨rfl,s₁,n₁,vs₁,rfl,hn₁,r₁,q₁⟩ := a₁
   cases t₂ with
   | li u' ts' =>
    simp only [AV] at a₂; obtain ⟨rfl,s₂,n₂,vs₂,rfl,hn₂,r₂,q₂⟩ := a₂
    refine Pu.intro Tryz.func64 rfl Tryz.ntmps64 Tryz.results64 rfl ?_
    refine g64 ?_
    refine m_AsList rfl rfl rfl ?_
    refine g64 ?_
    refine o_free rfl rfl ?_
    refine g64 ?_
    refine m_AsList rfl rfl rfl ?_
    refine g64 ?_
    refine o_free rfl rfl ?_
    refine g64 ?_
    refine i_pu rfl rfl (f363 ih s₁ s₂ r n₁ n₂ vs₁ vs₂ ts ts' Z (r₁.mono fun _ _ h => h.1) (r₂.mono fun _ _ h => h.1) q₁ q₂ (by simp only [Tv.sz] at hN; omega) hn₁) rfl ?_
    rintro _ ⟨q,rfl,hq⟩
    refine g64 ?_
    refine fin_free ?_
    refine fin_free ?_
    exact fin1 ⟨⟨q,rfl,fun _ => .li _ _ _ _,fun h => by cases h; exact hq rfl⟩,rfl⟩
   | null =>
    simp only [AV] at a₂; subst a₂
    refine Pu.intro Tryz.func64 rfl Tryz.ntmps64 Tryz.results64 rfl ?_
    refine g64 ?_; exact fin1 ⟨⟨_,rfl,fun h => (by cases h),fun h => by cases h⟩,rfl⟩
   | sc u' =>
    obtain ⟨rfl,h₂⟩ := sc a₂
    refine Pu.intro Tryz.func64 rfl Tryz.ntmps64 Tryz.results64 rfl ?_
    rcases h₂ with ⟨p,rfl⟩ | ⟨p,rfl⟩ | ⟨p,rfl,hp⟩ | ⟨p,rfl⟩ <;> (refine g64 ?_; exact fin1 ⟨⟨_,rfl,fun h => (by cases h),fun h => by cases h⟩,rfl⟩)
   | mp l =>
    simp only [AV] at a₂; obtain ⟨_,_,_,_,rfl,_⟩ := a₂
    refine Pu.intro Tryz.func64 rfl Tryz.ntmps64 Tryz.results64 rfl ?_
    refine g64 ?_; exact fin1 ⟨⟨_,rfl,fun h => (by cases h),fun h => by cases h⟩,rfl⟩
  | mp l =>
   simp only [AV] at a₁; obtain ⟨m₁,es₁,c₁,es₁',rfl,y₁,s₁,p₁,q₁⟩ := a₁
   cases t₂ with
   | mp l' =>
    simp only [AV] at a₂; obtain ⟨m₂,es₂,c₂,es₂',rfl,y₂,s₂,p₂,q₂⟩ := a₂
    refine Pu.intro Tryz.func64 rfl Tryz.ntmps64 Tryz.results64 rfl ?_
    refine g64 ?_
    refine m_AsMap rfl rfl rfl ?_
    refine g64 ?_
    refine o_free rfl rfl ?_
    refine g64 ?_
    refine m_AsMap rfl rfl rfl ?_
    refine g64 ?_
    refine o_free rfl rfl ?_
    refine g64 ?_
    refine i_pu rfl rfl (f371 ih m₁ m₂ r l l' Z ⟨es₁,c₁,es₁',y₁,s₁,p₁,q₁⟩ ⟨es₂,c₂,es₂',y₂,s₂,p₂,q₂⟩ (by simp only [Tv.sz] at hN; omega)) rfl ?_
    rintro _ ⟨q,rfl,hq,hq'⟩
    refine g64 ?_
    refine fin_free ?_
    refine fin_free ?_
    exact fin1 ⟨⟨q,rfl,hq,fun h => by cases h; exact hq' rfl⟩,rfl⟩
   | null =>
    simp only [AV] at a₂; subst a₂
    refine Pu.intro Tryz.func64 rfl Tryz.ntmps64 Tryz.results64 rfl ?_
    refine g64 ?_; exact fin1 ⟨⟨_,rfl,fun h => (by cases h),fun h => by cases h⟩,rfl⟩
   | sc u' =>
    obtain ⟨rfl,h₂⟩ := sc a₂
    refine Pu.intro Tryz.func64 rfl Tryz.ntmps64 Tryz.results64 rfl ?_
    rcases h₂ with ⟨p,rfl⟩ | ⟨p,rfl⟩ | ⟨p,rfl,hp⟩ | ⟨p,rfl⟩ <;> (refine g64 ?_; exact fin1 ⟨⟨_,rfl,fun h => (by cases h),fun h => by cases h⟩,rfl⟩)
   | li u' ts =>
    simp only [AV] at a₂; obtain ⟨_,_,_,_,rfl,_⟩ := a₂
    refine Pu.intro Tryz.func64 rfl Tryz.ntmps64 Tryz.results64 rfl ?_
    refine g64 ?_; exact fin1 ⟨⟨_,rfl,fun h => (by cases h),fun h => by cases h⟩,rfl⟩
end Go.Ux
namespace Go.Ux
open Go Go.Proofs
set_option maxRecDepth 20000
attribute [local irreducible] WP Tr
section
variable {P : Program} {n : Nat} {all : Array Oper} {dr : Bool} {Pin : Hp} {K : Fr → Fz → Hp → Prop} {rest : List Oper} {l : List Lay} {D : List Deferred} {Z : Fz} {H : Hp}
variable {d : Tmp} {ty T T' : TypeId} {pos : String} {af : Array Edge} {gd : Option (Nat × Bool)} {x y : Operand}
theorem o_apnil {e e' k : Nat} [El P e k] [Sty P T e] [Sty P T' e'] (hg : okO n all ⟨l,D⟩ ⟨some d,.call ⟨.builtin .append,#[x,y],#[T,T']⟩,ty,pos,af,gd⟩ = true) (hx : ev ⟨l,D⟩ x = .slice none 0 0) (hy : ev ⟨l,D⟩ y = .slice none 0 0)
  (h : Rg P n all dr Pin K rest ⟨.s d (.slice none 0 0) :: l,D⟩ Z H) : Rg P n all dr Pin K (⟨some d,.call ⟨.builtin .append,#[x,y],#[T,T']⟩,ty,pos,af,gd⟩ :: rest) ⟨l,D⟩ Z H := by
 obtain ⟨i,z,hi,hik,hib,hiz,hzc⟩ := El.i (P := P) (e := e) (k := k)
 refine o_e (fun v Z₁ H₁ => v = .slice none 0 0 ∧ Z₁ = Z ∧ H₁ = H) hg rfl (fun w F hs => ?_) ?_
 ·have hrun : (execOp (ev ⟨l,D⟩) ⟨some d,.call ⟨.builtin .append,#[x,y],#[T,T']⟩,ty,pos,af,gd⟩).run P w = .ok (.value (.slice none 0 0)) w := by
   show Sem.run P (do let d ← resolve (ev ⟨l,D⟩) ⟨.builtin .append,#[x,y],#[T,T']⟩ ty; invoke d.target d.args) w = _
   simp only [resolve,invoke,builtin,Sem.run_bind,Sem.run_pure,Result.andThen_ok,hx,hy,List.map_toArray,List.map_cons,List.map_nil]
   have hsrc : Src P i.size T' (.slice none 0 0) 0 [] w := Src.ofNil w Sty.u 0
   rcases hsrc.kind with ⟨e'',hk'⟩ | hk' <;> simp [Builtin.append_,run_underlying (Sty.u (P := P) (T := T) (e := e)),run_underlying hk',sizeOf,typeInfo,hi,hsrc.len,hsrc.cells]
  unfold RunO
  rw [hrun]
  exact ⟨Z,H,.refl Z,hs,.refl w,rfl,rfl,rfl⟩
 ·rintro v Z₁ H₁ _ ⟨rfl,rfl,rfl⟩
  exact h
end
def Tv.at1 : Tv → At1
 | .null => .all
 | .sc _ => .sc
 | .li _ _ => .li
 | .mp _ => .mp
def dt : Option Tv → At1
 | none => .all
 | some t => t.at1
inductive OV (Z : Fz) : Option Tv → Value → Prop
 | none : OV Z none .nilIface
 | some {t : Tv} {v : Value} (h : VV Z t v) : OV Z (some t) v
theorem OV.lw {Z Z' : Fz} (hz : Fz.le Z Z') {t : Option Tv} {v : Value} (h : OV Z t v) : OV Z' t v := by
 cases h with
 | none => exact .none
 | some h => exact .some (h.mono hz)
theorem OV.one {Z : Fz} {t : Option Tv} {v : Value} (h : OV Z t v) : One v := by
 cases h with
 | none => infer_instance
 | some h => obtain ⟨b,u,rfl,_⟩ := h; infer_instance
section
variable {Z : Fz} {sb lb mb : Nat}
theorem sh_of {t : Tv} {u : Value} (h : AV Z t u) : (t = .null ∧ u = .nilIface) ∨ ((∃ b,u = .iface 4 (.bool b)) ∧ t = .sc u) ∨ ((∃ n,u = .iface 2 (.int .i64 n)) ∧ t = .sc u) ∨ ((∃ f,u = .iface 33 (.float .f64 f)) ∧ t = .sc u) ∨ ((∃ s,u = .iface 9 (.string s)) ∧ t = .sc u) ∨
  (∃ s ts,u = .iface 197 s ∧ t = .li u ts) ∨ ∃ m l,u = .iface 198 (.map (some m)) ∧ t = .mp l := by
 cases t with
 | null => simp only [AV] at h; exact .inl ⟨rfl,h⟩
 | sc x => simp only [AV] at h; obtain ⟨rfl,h⟩ := h; rcases h with ⟨_,rfl⟩ | ⟨_,rfl⟩ | ⟨_,rfl,_⟩ | ⟨_,rfl⟩ <;> simp
 | li x ts => simp only [AV] at h; obtain ⟨rfl,s,_,_,e,_⟩ := h; simp [e]
 | mp l => simp only [AV] at h; obtain ⟨m,_,_,_,e,_⟩ := h; simp [e]
set_option maxHeartbeats 4000000 in
theorem f162 (t : Option Tv) (v : Value) (h : OV Z t v) : Pu Tryz.prog 162 #[.agg (atom sb lb mb).toArray,v] Z fun r => r = .agg (At1.cells sb lb mb (dt t)).toArray := by
 refine Pu.intro Tryz.func162 rfl Tryz.ntmps162 Tryz.results162 rfl ?_
 cases h with
 | none =>
  repeat (first | refine gn ?_ | intro _)
  exact finC1 rfl ⟨rfl,rfl⟩
 | some h =>
  obtain ⟨b,u,rfl,z,a⟩ := h
  haveI : Zf Z b _ := ⟨.of (z)⟩
  rcases sh_of a with ⟨rfl,rfl⟩ | ⟨⟨_,rfl⟩,rfl⟩ | ⟨⟨_,rfl⟩,rfl⟩ | ⟨⟨_,rfl⟩,rfl⟩ | ⟨⟨_,rfl⟩,rfl⟩ | ⟨_,_,rfl,rfl⟩ | ⟨_,_,rfl,rfl⟩ <;>
   (repeat (first | refine gv ?_ | intro _)) <;> exact finC1 rfl ⟨rfl,rfl⟩
theorem f304_0 (x : Value) : Pu Tryz.prog 304 #[.pointer (some ⟨sb,0,none⟩),.nilIface,x] Z fun r => r = .slice none 0 0 := by
 refine Pu.intro Tryz.func304 rfl Tryz.ntmps304 Tryz.results304 rfl ?_
 refine gn ?_
 exact fin1 ⟨rfl,rfl⟩
set_option maxHeartbeats 4000000 in
theorem f304 (x : Value) (b : Nat) (u : Value) (hz : Z b = some (cl [u] 358)) (h : ScV u) (hs : Z sb = some (cl [.string stU] 291)) : Pu Tryz.prog 304 #[.pointer (some ⟨sb,0,none⟩),.iface 301 (.pointer (some ⟨b,0,none⟩)),x] Z fun r => r = .slice none 0 0 := by
 haveI : Zf Z b _ := ⟨.of (hz)⟩
 haveI : Zf Z sb _ := ⟨.of (hs)⟩
 refine Pu.intro Tryz.func304 rfl Tryz.ntmps304 Tryz.results304 rfl ?_
 rcases h with ⟨_,rfl⟩ | ⟨_,rfl⟩ | ⟨_,rfl,_⟩ | ⟨_,rfl⟩ <;> (refine gv ?_; refine o_eqs rfl rfl rfl (r := false) (by decide +kernel) ?_; refine gv ?_; refine o_eqs rfl rfl rfl (r := false) (by decide +kernel) ?_; refine gv ?_; refine o_eqs rfl rfl rfl (r := false) (by decide +kernel) ?_; refine gv ?_; exact fin1 ⟨rfl,rfl⟩)
theorem f237_n (r : Value) (b : Nat) (hz : Z b = some (cl [.nilIface] 358)) : Pu Tryz.prog 237 #[.iface 261 r,.iface 301 (.pointer (some ⟨b,0,none⟩))] Z fun v => v = .tuple #[.nilIface,.nilIface] := by
 haveI : Zf Z b _ := ⟨.of (hz)⟩
 refine Pu.intro Tryz.func237 rfl Tryz.ntmps237 Tryz.results237 rfl ?_
 refine gv ?_
 exact fin2 ⟨rfl,rfl⟩
theorem f237 (r s : Value) (b : Nat) (hz : Z b = some (cl [.iface 197 s] 358)) : Pu Tryz.prog 237 #[.iface 261 r,.iface 301 (.pointer (some ⟨b,0,none⟩))] Z fun v => v = .tuple #[.iface 504 s,.nilIface] := by
 haveI : Zf Z b _ := ⟨.of (hz)⟩
 refine Pu.intro Tryz.func237 rfl Tryz.ntmps237 Tryz.results237 rfl ?_
 refine gv ?_
 refine m_AsList rfl rfl rfl ?_
 refine gv ?_
 exact fin2 ⟨rfl,rfl⟩
theorem f239_n (r : Value) (b : Nat) (hz : Z b = some (cl [.nilIface] 358)) : Pu Tryz.prog 239 #[.iface 261 r,.iface 301 (.pointer (some ⟨b,0,none⟩))] Z fun v => v = .tuple #[.nilIface,.nilIface] := by
 haveI : Zf Z b _ := ⟨.of (hz)⟩
 refine Pu.intro Tryz.func239 rfl Tryz.ntmps239 Tryz.results239 rfl ?_
 refine gv ?_
 exact fin2 ⟨rfl,rfl⟩
theorem f239 (r : Value) (b m : Nat) (hz : Z b = some (cl [.iface 198 (.map (some m))] 358)) : Pu Tryz.prog 239 #[.iface 261 r,.iface 301 (.pointer (some ⟨b,0,none⟩))] Z fun v => v = .tuple #[.iface 505 (.map (some m)),.nilIface] := by
 haveI : Zf Z b _ := ⟨.of (hz)⟩
 refine Pu.intro Tryz.func239 rfl Tryz.ntmps239 Tryz.results239 rfl ?_
 refine gv ?_
 refine m_AsMap rfl rfl rfl ?_
 refine gv ?_
 exact fin2 ⟨rfl,rfl⟩
theorem f163 (f : Value) : Pu Tryz.prog 163 #[.slice none 0 0,f] Z fun v => v = .slice none 0 0 := by
 refine Pu.intro Tryz.func163 rfl Tryz.ntmps163 Tryz.results163 rfl ?_
 refine gn ?_
 exact fin1 ⟨rfl,rfl⟩
end
end Go.Ux
namespace Go.Ux
open Go Go.Proofs
set_option maxRecDepth 20000
attribute [local irreducible] WP Tr
section
variable {Z : Fz} {sc sb lb mb eb nb : Nat} {W g : Nat} {p : Value} {H : Hp} {Q : Value → Fz → Hp → Prop} [Ent Tryz.prog g]
abbrev mM : String := "pub-coparcener/pub/structuredmerge/typed.doMap"
abbrev mS : String := "pub-coparcener/pub/structuredmerge/typed.doScalar"
abbrev mL : String := "pub-coparcener/pub/structuredmerge/typed.doList"
instance : Mth Tryz.prog 352 mM 343 := ⟨fun v w => by kernel_rfl⟩
instance : Mth Tryz.prog 352 mS 344 := ⟨fun v w => by kernel_rfl⟩
instance : Mth Tryz.prog 352 mL 342 := ⟨fun v w => by kernel_rfl⟩
instance : Mth Tryz.prog 226 mM 235 := ⟨fun v w => by kernel_rfl⟩
instance : Mth Tryz.prog 226 mS 236 := ⟨fun v w => by kernel_rfl⟩
instance : Mth Tryz.prog 226 mL 234 := ⟨fun v w => by kernel_rfl⟩
instance : Mth Tryz.prog 311 mM 281 := ⟨fun v w => by kernel_rfl⟩
instance : Mth Tryz.prog 311 mL 280 := ⟨fun v w => by kernel_rfl⟩
instance : Mth Tryz.prog 319 mM 298 := ⟨fun v w => by kernel_rfl⟩
instance : Mth Tryz.prog 319 mS 299 := ⟨fun v w => by kernel_rfl⟩
instance : Mth Tryz.prog 319 mL 297 := ⟨fun v w => by kernel_rfl⟩
instance : Mth Tryz.prog 340 mM 330 := ⟨fun v w => by kernel_rfl⟩
instance : Mth Tryz.prog 340 mS 331 := ⟨fun v w => by kernel_rfl⟩
instance : Mth Tryz.prog 340 mL 329 := ⟨fun v w => by kernel_rfl⟩
instance : Mth Tryz.prog 378 mM 352 := ⟨fun v w => by kernel_rfl⟩
instance : Mth Tryz.prog 378 mS 353 := ⟨fun v w => by kernel_rfl⟩
instance : Mth Tryz.prog 378 mL 351 := ⟨fun v w => by kernel_rfl⟩
theorem f159_mp [Mth Tryz.prog W mM g] (x : At1) (hx : x = .mp ∨ x = .all) (ht : Tr Tryz.prog g #[p,.pointer (some ⟨mb,0,none⟩)] Z H Q) :
  Tr Tryz.prog 159 #[.agg (x.cells sb lb mb).toArray,.agg (tref nb).toArray,.iface W p] Z H Q := by
 refine Tr.introk Tryz.func159 rfl Tryz.ntmps159 Tryz.results159 rfl ?_
 rcases hx with rfl | rfl <;> simp only [At1.cells]
 all_goals
  repeat (first | refine gn ?_ | intro _)
  refine ci (args := [.pointer (some ⟨mb,0,none⟩)]) ht ?_
  intro v Z' H' hz hq
  refine gn ?_
  exact fk1 (A := H') hq
theorem f159_sc [Mth Tryz.prog W mS g] (ht : Tr Tryz.prog g #[p,.pointer (some ⟨sb,0,none⟩)] Z H Q) :
  Tr Tryz.prog 159 #[.agg (At1.sc.cells sb lb mb).toArray,.agg (tref nb).toArray,.iface W p] Z H Q := by
 refine Tr.introk Tryz.func159 rfl Tryz.ntmps159 Tryz.results159 rfl ?_
 simp only [At1.cells]
 repeat (first | refine gn ?_ | intro _)
 refine ci (args := [.pointer (some ⟨sb,0,none⟩)]) ht ?_
 intro v Z' H' hz hq
 refine gn ?_
 exact fk1 (A := H') hq
theorem f159_li [Mth Tryz.prog W mL g] (ht : Tr Tryz.prog g #[p,.pointer (some ⟨lb,0,none⟩)] Z H Q) :
  Tr Tryz.prog 159 #[.agg (At1.li.cells sb lb mb).toArray,.agg (tref nb).toArray,.iface W p] Z H Q := by
 refine Tr.introk Tryz.func159 rfl Tryz.ntmps159 Tryz.results159 rfl ?_
 simp only [At1.cells]
 repeat (first | refine gn ?_ | intro _)
 refine ci (args := [.pointer (some ⟨lb,0,none⟩)]) ht ?_
 intro v Z' H' hz hq
 refine gn ?_
 exact fk1 (A := H') hq
theorem f129g (x : At1) (t : Option Tv) (v : Value) (hx : dt t = x) (h : Pu Tryz.prog 131 #[.pointer (some ⟨sc,0,none⟩),.agg (tref nb).toArray] Z fun v => v = .tuple #[.agg (atom sb lb mb).toArray,.bool true]) (hv : OV Z t v)
  (ht : Tr Tryz.prog 159 #[.agg (x.cells sb lb mb).toArray,.agg (tref nb).toArray,.iface W p] Z H Q) :
  Tr Tryz.prog 129 #[.pointer (some ⟨sc,0,none⟩),.agg (tref nb).toArray,v,.iface W p] Z H Q := by
 refine Tr.introk Tryz.func129 rfl Tryz.ntmps129 Tryz.results129 rfl ?_
 repeat (first | refine gn ?_ | intro _)
 refine cp h ?_
 rintro _ rfl
 repeat (first | refine gn ?_ | intro _)
 refine cp (f162 t v hv) ?_
 rintro _ rfl
 rw [hx]
 clear hx
 cases x <;> simp only [At1.cells] at ht ⊢
 all_goals
  repeat (first | refine gn ?_ | intro _)
  refine ct (args := [_,.agg (tref nb).toArray,.iface W p]) ht ?_
  intro v Z' H' hz hq
  refine gn ?_
  exact fk1 (A := H') hq
theorem f129 (x : At1) (t : Option Tv) (v : Value) (hx : dt t = x) (h : Sch Z sc sb lb mb eb) (hb : Z nb = some (cl [.string nmD] 9)) (hv : OV Z t v)
  (ht : Tr Tryz.prog 159 #[.agg (x.cells sb lb mb).toArray,.agg (tref nb).toArray,.iface W p] Z H Q) :
  Tr Tryz.prog 129 #[.pointer (some ⟨sc,0,none⟩),.agg (tref nb).toArray,v,.iface W p] Z H Q := f129g x t v hx (f131 h nb hb) hv ht
end
end Go.Ux
namespace Go.Ux
open Go Go.Proofs
set_option maxRecDepth 20000
def Wks (W k : Nat) : List Value → Hp → Prop
 | [],H => H = []
 | p :: ps,H => ∃ b xs H',p = .pointer (some ⟨b,0,none⟩) ∧ xs.length = k ∧ H = (b,cl xs W) :: H' ∧ Wks W k ps H'
def SP (W E S k B : Nat) (sp : Value) (H : Hp) : Prop := (sp = .pointer none ∧ H = []) ∨
 ∃ b v ps Hr Hw,sp = .pointer (some ⟨b,0,none⟩) ∧ H = (b,cl [v] S) :: (Hr ++ Hw) ∧ Sl E 1 v ps Hr ∧ Wks W k ps Hw ∧ ps.length ≤ B
theorem SP.one {W E S k B : Nat} {sp : Value} {H : Hp} (h : SP W E S k B sp H) : One sp := by
 rcases h with ⟨rfl,_⟩ | ⟨b,_,_,_,_,rfl,_⟩ <;> infer_instance
theorem SP.up {W E S k B B' : Nat} {sp : Value} {H : Hp} (h : SP W E S k B sp H) (hb : B ≤ B') : SP W E S k B' sp H := by
 rcases h with h | ⟨b,v,ps,Hr,Hw,h1,h2,h3,h4,h5⟩
 ·exact .inl h
 ·exact .inr ⟨b,v,ps,Hr,Hw,h1,h2,h3,h4,by omega⟩
theorem SP.nil {W E S k B : Nat} : SP W E S k B (.pointer none) [] := .inl ⟨rfl,rfl⟩
theorem Wks.all {W k : Nat} : ∀ {ps : List Value} {H : Hp},Wks W k ps H → ps.all Value.oneCell' = true
 | [],_,_ => rfl
 | p :: ps,_,⟨b,xs,H',h1,_,_,h2⟩ => by subst h1; simp only [List.all_cons,h2.all]; rfl
theorem Wks.snoc {W k : Nat} {p : Value} : ∀ {ps : List Value} {H : Hp},Wks W k (ps ++ [p]) H → ∃ b xs H',p = .pointer (some ⟨b,0,none⟩) ∧ xs.length = k ∧ H = H' ++ [(b,cl xs W)] ∧ Wks W k ps H'
 | [],H,⟨b,xs,H',h1,h2,h3,h4⟩ => by
  simp only [Wks] at h4; subst h4
  exact ⟨b,xs,[],h1,h2,h3,rfl⟩
 | q :: ps,H,⟨b,xs,H',h1,h2,h3,h4⟩ => by
  obtain ⟨b',xs',H'',k1,k2,k3,k4⟩ := Wks.snoc h4
  exact ⟨b',xs',(b,cl xs W) :: H'',k1,k2,by rw [h3,k3]; rfl,b,xs,H'',h1,h2,rfl,k4⟩
theorem Wks.add {W k b : Nat} {xs : List Value} (hx : xs.length = k) : ∀ {ps : List Value} {H : Hp},Wks W k ps H → Wks W k (ps ++ [.pointer (some ⟨b,0,none⟩)]) (H ++ [(b,cl xs W)])
 | [],H,h => by simp only [Wks] at h; subst h; exact ⟨b,xs,[],rfl,hx,rfl,rfl⟩
 | q :: ps,H,⟨b',xs',H',h1,h2,h3,h4⟩ => ⟨b',xs',_,h1,h2,by rw [h3]; rfl,h4.add hx⟩
end Go.Ux
namespace Go.Ux
open Go Go.Proofs
variable {P : Program} {n : Nat} {Q : Post} {Z : Fz} {H : Hp}
theorem WP.loopD {c : Code} {l : List Lay} {D : List Deferred} (ds : List Nat) (I : Nat → List Deferred → (Nat → Value) → Fz → Hp → Prop) (k₀ : Nat) (h₀ : I k₀ D (look l) Z H)
  (round : ∀ k D' g Z' H',Fz.le Z Z' → I k D' g Z' H' → WP P n c (thenQ (fun f'' Z'' H'' => Back ds (.m ds g :: l) f''.D f'' ∧ ∃ k' A B,k' < k ∧ H''.Perm (A ++ B) ∧ I k' f''.D (look f''.l) Z'' A) Q) ⟨.m ds g :: l,D'⟩ Z' H') : WP P n (.loop c) Q ⟨l,D⟩ Z H := by
 refine WP.loopN (fun k f Z H => ∃ D' g A B,Same f ⟨.m ds g :: l,D'⟩ ∧ H.Perm (A ++ B) ∧ I k D' g Z A) k₀ ⟨D,look l,H,[],same_m,by simp,h₀⟩ ?_
 rintro k f' Z' H' hz ⟨D',g,A,B,hs,hp,hI⟩
 refine WP.same hs (WP.perm (hp.trans List.perm_append_comm) (WP.drop (WP.mono (round k D' g Z' A hz hI) ?_)))
 intro e f'' Z'' H'' hq
 cases e with
 | normal =>
  obtain ⟨hb,k',A',B',hk,hp',hI'⟩ := hq
  refine ⟨k',hk,f''.D,look f''.l,A',B',?_,hp',hI'⟩
  refine hb.same.trans ⟨fun t => ?_,rfl⟩
  simp only [look]
  cases ds.elem t <;> rfl
 | _ => exact hq
section
variable {all : Array Oper} {dr : Bool} {Pin : Hp} {K : Fr → Fz → Hp → Prop} {rest : List Oper} {l : List Lay} {D : List Deferred}
variable {d : Tmp} {ty : TypeId} {pos : String} {af : Array Edge} {gd : Option (Nat × Bool)} {x : Operand}
theorem o_nilCheckM {m : Nat} {ys : Array Value} (hg : okO n all ⟨l,D⟩ ⟨some d,.nilCheck x,ty,pos,af,gd⟩ = true) (hx : ev ⟨l,D⟩ x = .func (.method "IterateUsing") #[.iface 505 (.map (some m))] ys) (h : Rg Tryz.prog n all dr Pin K rest ⟨.al d x :: l,D⟩ Z H) :
  Rg Tryz.prog n all dr Pin K (⟨some d,.nilCheck x,ty,pos,af,gd⟩ :: rest) ⟨l,D⟩ Z H := by
 refine o_p (v := ev ⟨l,D⟩ x) hg rfl (fun w _ => ?_) (Rg.same (f := ⟨.al d x :: l,D⟩) ⟨fun t => by cases x <;> rfl,rfl⟩ h)
 unfold execOp
 simp only [hx]
 kernel_rfl
end
section
variable {R : Value → Fz → Hp → Prop} {l : List Lay} {D : List Deferred} {a : Tmp} {b T U : Nat} {xs : List Value} {v : Value}
theorem fkS [Ty P T 1 false] [hm : Mem false Z [] H b (cl xs U)] {A B : Hp} [k : Spl A H B] (hv : look l a = .pointer (some ⟨b,0,none⟩)) (hg : xs[0]? = some v) (h : R v Z A) : Fin P [.cell a T] (Kp R) [] ⟨l,D⟩ Z H :=
 fin_nil (.cell b ⟨⟨b,0,none⟩,hv,fun w hs => loadVar_one (hm.heap (w := w) hs) hg⟩ .nil) ⟨A,B,k.h,h⟩
theorem fkC {k : Nat} {vs : List Value} [Ty P T k true] [hm : Mem false Z [] H b (cl xs U)] [s : Seg xs 0 k vs] {A B : Hp} [q : Spl A H B] (hv : look l a = .pointer (some ⟨b,0,none⟩)) (h : R (.agg vs.toArray) Z A) : Fin P [.cell a T] (Kp R) [] ⟨l,D⟩ Z H :=
 fin_nil (.cell b ⟨⟨b,0,none⟩,hv,fun w hs => loadVar_agg (k := k) (hm.heap (w := w) hs) s.h s.l⟩ .nil) ⟨A,B,q.h,h⟩
end
theorem gd {g g' : Prop} (h : g')
  (s : Hide g' → g := by
   intro hh
   (first
    | (refine g_rg ?_; first
     | (refine g_move ?_; first | refine o_move rfl ?_)
     | (refine g_assign ?_; first | refine o_assign rfl ?_)
     | (refine g_load ?_; first | refine o_load1 rfl rfl get_go ?_ | refine o_loadS rfl rfl ?_ | refine o_loadN rfl rfl rfl rfl ?_)
     | (refine g_fieldAddr ?_; first | refine o_fieldAddr0 rfl rfl ?_ | refine o_fieldAddrZ rfl rfl ?_ | refine o_fieldAddr rfl rfl ?_)
     | (refine g_nilCheck ?_; first | refine o_nilCheck rfl rfl ?_ | refine o_nilCheckI rfl rfl ?_)
     | (refine g_extract ?_; first | refine o_extract rfl rfl rfl ?_)
     | (refine g_store ?_; first | refine o_storeA rfl rfl rfl rfl rfl ?_ | refine o_store1 rfl rfl ev_go ?_)
     | (refine g_eql ?_; first | refine o_eqlP rfl rfl ?_ | refine o_eqlP0 rfl rfl ?_ | refine o_eqlI rfl rfl ?_ | refine o_eqlI0 rfl rfl ?_ | refine o_eqi rfl rfl rfl eq_go ?_ | refine o_eqs rfl rfl rfl eqs_go ?_ | refine o_eqlS rfl rfl ?_ | refine o_eqlS0 rfl rfl ?_ | refine o_eqlM rfl rfl ?_ | refine o_eqlM0 rfl rfl ?_)
     | (refine g_neq ?_; first | refine o_neqP rfl rfl ?_ | refine o_neqP0 rfl rfl ?_ | refine o_neqI rfl rfl ?_ | refine o_neqI0 rfl rfl ?_ | refine o_neqM rfl rfl ?_ | refine o_neqM0 rfl rfl ?_ | refine o_nei rfl rfl rfl ne_go ?_ | refine o_nes rfl rfl rfl nes_go ?_ | refine o_neqS rfl rfl ?_ | refine o_neqS0 rfl rfl ?_)
     | (refine g_lss ?_; first | refine o_lss rfl rfl rfl lt_go ?_)
     | (refine g_add ?_; first | refine o_add rfl rfl rfl (by omega) (by omega) ?_)
     | (refine g_sub ?_; first | refine o_sub rfl rfl rfl (by omega) (by omega) ?_)
     | (refine g_gtr ?_; first | refine o_gtr rfl rfl rfl lt_go ?_)
     | (refine g_leq ?_; first | refine o_leq rfl rfl rfl le_go ?_)
     | (refine g_geq ?_; first | refine o_geq rfl rfl rfl le_go ?_)
     | (refine g_len ?_; first | refine o_lenS rfl rfl ?_ | refine o_lenM rfl rfl ?_ | refine o_lenM0 rfl rfl ?_)
     | (refine g_box ?_; first | refine o_boxA rfl rfl ?_ | refine o_box1 rfl ev_go ?_)
     | (refine g_alloc ?_; first | refine o_alloc rfl ?_)
     | (refine g_build ?_; first | refine o_buildR rfl fill_go ?_)
     | (refine g_buildSlice ?_; first | refine o_bSliceA rfl rfl rfl ?_ | refine o_bSlice1 rfl ev_go ?_ | refine o_buildSlice0 rfl ?_)
     | (refine g_mkI ?_; first | refine o_makeInterface rfl ev_go ?_)
     | (refine g_type ?_; first | refine o_typeHit rfl rfl ?_ | refine o_typeMiss rfl rfl rfl ?_ | refine o_typeNil rfl rfl ?_)
     | (refine g_pick ?_; first | refine o_pickT rfl rfl ?_ | refine o_pickF rfl rfl ?_)
     | (refine g_un ?_; first | refine o_not rfl rfl ?_)
     | (refine g_mkF ?_; first | refine o_makeFuncL rfl evl_go evl_go ?_)
     | (refine g_makeMap ?_; first | refine o_makeMap rfl ?_)
     | refine o_sk rfl ?_)
    | refine r_end ?_ | refine q_n ?_
    | (refine g_wp ?_; first | refine WP.seq ?_ | refine WP.region ?_ | refine WP.yes rfl ?_ | refine WP.no rfl ?_ | refine WP.skip ?_ | refine WP.ret ?_ | refine WP.exit ?_ | refine WP.block ?_)
    | refine q_ret ?_ | refine q_exit ?_ | refine q_bn ?_ | refine q_bret ?_ | refine q_bexit rfl ?_ | refine q_bother rfl ?_)
   repeat (first
    | (refine g_rg ?_; first
     | (refine g_move ?_; first | refine o_move rfl ?_)
     | (refine g_assign ?_; first | refine o_assign rfl ?_)
     | (refine g_load ?_; first | refine o_load1 rfl rfl get_go ?_ | refine o_loadS rfl rfl ?_ | refine o_loadN rfl rfl rfl rfl ?_)
     | (refine g_fieldAddr ?_; first | refine o_fieldAddr0 rfl rfl ?_ | refine o_fieldAddrZ rfl rfl ?_ | refine o_fieldAddr rfl rfl ?_)
     | (refine g_nilCheck ?_; first | refine o_nilCheck rfl rfl ?_ | refine o_nilCheckI rfl rfl ?_)
     | (refine g_extract ?_; first | refine o_extract rfl rfl rfl ?_)
     | (refine g_store ?_; first | refine o_storeA rfl rfl rfl rfl rfl ?_ | refine o_store1 rfl rfl ev_go ?_)
     | (refine g_eql ?_; first | refine o_eqlP rfl rfl ?_ | refine o_eqlP0 rfl rfl ?_ | refine o_eqlI rfl rfl ?_ | refine o_eqlI0 rfl rfl ?_ | refine o_eqi rfl rfl rfl eq_go ?_ | refine o_eqs rfl rfl rfl eqs_go ?_ | refine o_eqlS rfl rfl ?_ | refine o_eqlS0 rfl rfl ?_ | refine o_eqlM rfl rfl ?_ | refine o_eqlM0 rfl rfl ?_)
     | (refine g_neq ?_; first | refine o_neqP rfl rfl ?_ | refine o_neqP0 rfl rfl ?_ | refine o_neqI rfl rfl ?_ | refine o_neqI0 rfl rfl ?_ | refine o_neqM rfl rfl ?_ | refine o_neqM0 rfl rfl ?_ | refine o_nei rfl rfl rfl ne_go ?_ | refine o_nes rfl rfl rfl nes_go ?_ | refine o_neqS rfl rfl ?_ | refine o_neqS0 rfl rfl ?_)
     | (refine g_lss ?_; first | refine o_lss rfl rfl rfl lt_go ?_)
     | (refine g_add ?_; first | refine o_add rfl rfl rfl (by omega) (by omega) ?_)
     | (refine g_sub ?_; first | refine o_sub rfl rfl rfl (by omega) (by omega) ?_)
     | (refine g_gtr ?_; first | refine o_gtr rfl rfl rfl lt_go ?_)
     | (refine g_leq ?_; first | refine o_leq rfl rfl rfl le_go ?_)
     | (refine g_geq ?_; first | refine o_geq rfl rfl rfl le_go ?_)
     | (refine g_len ?_; first | refine o_lenS rfl rfl ?_ | refine o_lenM rfl rfl ?_ | refine o_lenM0 rfl rfl ?_)
     | (refine g_box ?_; first | refine o_boxA rfl rfl ?_ | refine o_box1 rfl ev_go ?_)
     | (refine g_alloc ?_; first | refine o_alloc rfl ?_)
     | (refine g_build ?_; first | refine o_buildR rfl fill_go ?_)
     | (refine g_buildSlice ?_; first | refine o_bSliceA rfl rfl rfl ?_ | refine o_bSlice1 rfl ev_go ?_ | refine o_buildSlice0 rfl ?_)
     | (refine g_mkI ?_; first | refine o_makeInterface rfl ev_go ?_)
     | (refine g_type ?_; first | refine o_typeHit rfl rfl ?_ | refine o_typeMiss rfl rfl rfl ?_ | refine o_typeNil rfl rfl ?_)
     | (refine g_pick ?_; first | refine o_pickT rfl rfl ?_ | refine o_pickF rfl rfl ?_)
     | (refine g_un ?_; first | refine o_not rfl rfl ?_)
     | (refine g_mkF ?_; first | refine o_makeFuncL rfl evl_go evl_go ?_)
     | (refine g_makeMap ?_; first | refine o_makeMap rfl ?_)
     | refine o_sk rfl ?_)
    | refine r_end ?_ | refine q_n ?_
    | (refine g_wp ?_; first | refine WP.seq ?_ | refine WP.region ?_ | refine WP.yes rfl ?_ | refine WP.no rfl ?_ | refine WP.skip ?_ | refine WP.ret ?_ | refine WP.exit ?_ | refine WP.block ?_)
    | refine q_ret ?_ | refine q_exit ?_ | refine q_bn ?_ | refine q_bret ?_ | refine q_bexit rfl ?_ | refine q_bother rfl ?_)
   exact hh.h) : g := s ⟨h⟩
inductive Frs (D₀ : List Deferred) : List Deferred → Prop
 | nil : Frs D₀ D₀
 | cons {D : List Deferred} (r x : Value) (h : Frs D₀ D) : Frs D₀ (⟨.fn (.method "Free") #[],#[.iface 261 r,x]⟩ :: D)
theorem fin_frees {rs : List ResultVar} {R : Value → Fz → Hp → Prop} {D₀ D : List Deferred} {f : Fr} (hd : Frs D₀ D) (h : Fin Tryz.prog rs R D₀ f Z H) : Fin Tryz.prog rs R D f Z H := by
 induction hd with
 | nil => exact h
 | cons r x _ ih => exact fin_free ih
theorem f376T (m c : Nat) (es : List En) (r : Value) (g : FuncId) (fs cs : List Value) (Z : Fz) (H₀ : Hp) [Ent Tryz.prog g] [Zf Z m (mp es c)] (hst : Stm es c) (hone : ∀ e ∈ es,e.v.cells = #[e.v] ∧ e.v.oneCell' = true)
  (I : List En → Fz → Hp → Prop) (h0 : I [] Z H₀)
  (hcb : ∀ done e Z₁ H₁ b,Fz.le Z Z₁ → e ∈ es → (∀ x ∈ done,x ∈ es) → e ∉ done → I done Z₁ H₁ → Z₁ b = none →
   Tr Tryz.prog g (fs ++ [Value.string e.k,Value.iface 301 (.pointer (some ⟨b,0,none⟩))] ++ cs).toArray (Z₁.add b (cl [e.v] 358)) H₁ fun v Z₂ H₂ => v = .bool true ∧ I (done ++ [e]) (Z₂.del b) H₂) :
  Tr Tryz.prog 376 #[.map (some m),.iface 261 r,.func (.func g) fs.toArray cs.toArray] Z H₀ fun v Z' H' => v = .bool true ∧ ∃ done,done.Perm es ∧ I done Z' H' := by
 refine Tr.keep (f376 m c es r g fs cs Z H₀ hst hone I (fun _ _ => False) h0 fun done e Z₁ H₁ b h1 h2 h3 h4 h5 h6 => Tr.mono (hcb done e Z₁ H₁ b h1 h2 h3 h4 h5 h6) fun v Z₂ H₂ ⟨k1,k2⟩ => ⟨true,k1,fun _ => k2,fun h => by cases h⟩) ?_
 rintro v Z' H' ⟨q,hv,h1,h2⟩
 cases q with
 | true =>
  obtain ⟨done,H₁,A,hd,hI,hp⟩ := h1 rfl
  exact ⟨A,H₁,hp,hv,done,hd,hI⟩
 | false =>
  obtain ⟨_,_,h,_⟩ := h2 rfl
  exact h.elim
end Go.Ux
namespace Go.Ux
open Go
variable {P : Program} {n : Nat} {all : Array Oper}
def mvO : Op → Bool
 | .move _ | .binOp .. => true
 | _ => false
def barM (all : Array Oper) (c₁ c₂ : List Nat) : Bool := c₂.all fun i => c₁.all fun j => (dpF all 3 i).elem j || mvO (opAt all j).op
theorem Rg.mvs {Pin : Hp} {K : Fr → Fz → Hp → Prop} {c₂ : List Oper} : ∀ (d : List Oper) {f : Fr} {Z : Fz} {H : Hp},(∀ o ∈ d,mvO o.op = true) → Real Z (Pin ++ H) →
  Rg P n all true Pin (fun f Z H' => ∃ Pin₂ H₂,(H' ++ Pin).Perm (Pin₂ ++ H₂) ∧ Rg P n all true Pin₂ (fun f Z H => K f Z (H ++ Pin₂)) c₂ f Z H₂) d f Z H →
  ∃ Pin₂ H₂,(H ++ Pin).Perm (Pin₂ ++ H₂) ∧ Rg P n all true Pin₂ (fun f Z H => K f Z (H ++ Pin₂)) (d ++ c₂) f Z H₂
 | [],f,Z,H,_,_,h => by
  cases h with
  | nil s p h =>
   obtain ⟨Pin₂,H₂,hp,h⟩ := h
   exact ⟨Pin₂,H₂,(p.append_right Pin).trans hp,h.same s.symm⟩
 | o :: d,f,Z,H,hm,hb,h => by
  have hmo := hm o (List.mem_cons_self ..)
  cases h with
  | skip hw hd h =>
   obtain ⟨Pin₂,H₂,hp,h⟩ := Rg.mvs d (fun x hx => hm x (List.mem_cons_of_mem _ hx)) hb h
   exact ⟨Pin₂,H₂,hp,.skip hw hd h⟩
  | pure hw hd hk hr h =>
   obtain ⟨Pin₂,H₂,hp,h⟩ := Rg.mvs d (fun x hx => hm x (List.mem_cons_of_mem _ hx)) hb h
   refine ⟨Pin₂,H₂,hp,.pure hw hd hk (fun w _ => ?_) h⟩
   obtain ⟨w₀,hs⟩ := hb
   have h0 := hr w₀ (fun _ => by
    split
    ·exact (hs.perm List.perm_append_comm).drop
    ·exact hs)
   obtain ⟨dst,op,ty,pos,af,gd⟩ := o
   cases op with
   | move x =>
    have e : ∀ w,(execOp (ev f) ⟨dst,.move x,ty,pos,af,gd⟩).run P w = .ok (.value (ev f x)) w := fun _ => rfl
    rw [e] at h0 ⊢
    simp only [Result.ok.injEq,Next.value.injEq,and_true] at h0
    rw [h0]
   | binOp => exact hr w (fun h => by cases h)
   | _ => simp [mvO] at hmo
  | alc hw hd hk hr h => obtain ⟨dst,op,ty,pos,af,gd⟩ := o; cases op <;> simp [mvO] at hmo <;> exact absurd (hk rfl) (by simp [kindO])
  | eff Po hw hd hk hr h => obtain ⟨dst,op,ty,pos,af,gd⟩ := o; cases op <;> simp [mvO] at hmo <;> exact absurd (hk rfl) (by simp [kindO])
  | dfr d' hw hd hk hr h => obtain ⟨dst,op,ty,pos,af,gd⟩ := o; cases op <;> simp [mvO] at hmo <;> exact absurd (hk rfl) (by simp [kindO])
theorem Rg.any3 {T : Exit → Act → World → Prop} {F : Hp} {Z₀ : Fz} {w₀ : World} {Pin : Hp} {K : Fr → Fz → Hp → Prop} {c₂ : List Nat}
  (hT : ∀ f Z H a w,Rel a n f → Fz.le Z₀ Z → Sat w Z (H ++ F) → Stay w₀ w → K f Z H → T .normal a w) :
  ∀ (m : Nat) (c₁ : List Nat) (listed : Array Bool) (f : Fr) (Z : Fz) (H : Hp) (w : World) (a : Act),(c₁ ++ c₂).length ≤ m → barM all c₁ c₂ = true → Left all listed (c₁ ++ c₂) → Fz.le Z₀ Z → Stay w₀ w →
   Rg P n all true Pin (fun f Z H' => ∃ Pin₂ H₂,(H' ++ Pin).Perm (Pin₂ ++ H₂) ∧ Rg P n all true Pin₂ (fun f Z H => K f Z (H ++ Pin₂)) (c₂.map (opAt all)) f Z H₂) (c₁.map (opAt all)) f Z H →
   Sat w Z (Pin ++ (H ++ F)) → Rel a n f → wpAny P .any all T m listed a w := by
 have fin : ∀ (c : List Nat) (m : Nat) (listed : Array Bool) (f : Fr) (Z : Fz) (H : Hp) (w : World) (a : Act),c.length ≤ m → Left all listed c → Fz.le Z₀ Z → Stay w₀ w →
   (∃ Pin₂ H₂,(H ++ Pin).Perm (Pin₂ ++ H₂) ∧ Rg P n all true Pin₂ (fun f Z H => K f Z (H ++ Pin₂)) (c.map (opAt all)) f Z H₂) → Sat w Z (Pin ++ (H ++ F)) → Rel a n f → wpAny P .any all T m listed a w := by
  rintro c m listed f Z H w a hm hl hz ht ⟨Pin₂,H₂,hp,h⟩ hs hrel
  have hs' : Sat w Z (Pin₂ ++ (H₂ ++ F)) := by
   refine hs.perm ?_
   rw [← List.append_assoc,← List.append_assoc]
   exact (List.perm_append_comm.trans hp).append_right F
  exact Rg.any (Z₀ := Z₀) (w₀ := w₀) (F := F) (fun f' Z' H' a' w' r z s t q => hT f' Z' (H' ++ Pin₂) a' w' r z (s.perm (by rw [← List.append_assoc]; exact List.perm_append_comm.append_right F)) t q) m c listed f Z H₂ w a hm hl hz ht h hs' hrel
 intro m
 induction m with
 | zero =>
  intro c₁ listed f Z H w a hm hbar hl hz ht h hs hrel
  have hc : c₁ = [] := List.length_eq_zero_iff.1 (by rw [List.length_append] at hm; omega)
  subst hc
  cases h with
  | nil s p h => exact fin c₂ 0 listed _ Z _ w a (by simpa using hm) hl hz ht h (hs.perm (List.Perm.append_left Pin (p.append_right F))) (hrel.same s)
 | succ m ih =>
  intro c₁ listed f Z H w a hm hbar hl hz ht h hs hrel
  cases c₁ with
  | nil =>
   cases h with
   | nil s p h => exact fin c₂ (m + 1) listed _ Z _ w a (by simpa using hm) hl hz ht h (hs.perm (List.Perm.append_left Pin (p.append_right F))) (hrel.same s)
  | cons x c₁ =>
   generalize hc : x :: c₁ = d at *
   have hreal₀ : Real Z (Pin ++ H) := ⟨w,by
    have : (Pin ++ (H ++ F)).Perm (F ++ (Pin ++ H)) := by rw [← List.append_assoc]; exact List.perm_append_comm
    exact (hs.perm this).drop⟩
   by_cases hmv : ∀ y ∈ d,mvO (opAt all y).op = true
   ·obtain ⟨Pin₂,H₂,hp,h'⟩ := Rg.mvs (d.map (opAt all)) (by simpa using hmv) hreal₀ h
    exact fin (d ++ c₂) (m + 1) listed f Z H w a hm hl hz ht ⟨Pin₂,H₂,hp,by rw [List.map_append]; exact h'⟩ hs hrel
   obtain ⟨x₀,hx₀,hnm⟩ : ∃ y ∈ d,mvO (opAt all y).op = false := by
    apply Classical.byContradiction
    intro hno
    exact hmv fun y hy => by
     cases hmo : mvO (opAt all y).op with
     | true => rfl
     | false => exact absurd ⟨y,hy,hmo⟩ hno
   refine ⟨fun hr => ?_,fun i hi => ?_⟩
   ·exfalso
    obtain ⟨y,e,he⟩ : ∃ y e,d ++ c₂ = y :: e := ⟨x,c₁ ++ c₂,by rw [← hc]; rfl⟩
    have hy := (hl.mem y).1 (by rw [he]; exact List.mem_cons_self ..)
    obtain ⟨o,ho⟩ : ∃ o,all[y]? = some o := ⟨all[y],by simp [hy.1]⟩
    have : y ∈ Region.ready .any all listed := mem_ready.2 ⟨by rw [getD_bool (by rw [hl.size]; exact hy.1)]; exact hy.2,o,ho,fun e' he' hb => by
     rcases hl.topo [] y e he e'.on ((mem_direct ho).2 ⟨e',he',hb,rfl⟩) with h1 | h1
     ·exact h1
     ·cases h1⟩
    rw [hr] at this
    cases this
   ·obtain ⟨h1,o,ho,hdep⟩ := mem_ready.1 hi
    have hlt : i < all.size := (Array.getElem?_eq_some_iff.1 ho).1
    have hic : i ∈ d ++ c₂ := (hl.mem i).2 ⟨hlt,by rw [← getD_bool (by rw [hl.size]; exact hlt)]; exact h1⟩
    have hdir : ∀ k ∈ direct all i,listed.getD k false = true := fun k hk => by
     obtain ⟨e,he,hb,rfl⟩ := (mem_direct ho).1 hk
     exact hdep e he hb
    have hid : i ∈ d := by
     rcases List.mem_append.1 hic with h' | h'
     ·exact h'
     ·exfalso
      have hb : (dpF all 3 i).elem x₀ = true := by
       simp only [barM,List.all_eq_true,Bool.or_eq_true] at hbar
       rcases hbar i h' x₀ hx₀ with h1 | h1
       ·exact h1
       ·rw [hnm] at h1; cases h1
      have := dpF_listed hl.closed 3 i hdir x₀ (by simpa using hb)
      have h2 := ((hl.mem x₀).1 (List.mem_append_left _ hx₀)).2
      rw [this] at h2; cases h2
    obtain ⟨a₁,a₂,rfl⟩ := List.append_of_mem hid
    have hop : opAt all i = o := by
     unfold opAt
     simp [Array.getD_eq_getD_getElem?,ho]
    have hsw : ∀ j ∈ a₁.map (opAt all),swapB all j o = true := by
     intro j hj
     obtain ⟨k,hk,rfl⟩ := List.mem_map.1 hj
     have hl' := hl.assoc
     have hp := (List.pairwise_append.1 hl'.pairs).2.2 k hk i (List.mem_cons_self ..)
     simp only [pairB,Bool.or_eq_true] at hp
     rcases hp with hp | hp
     ·have hkl := dpF_listed hl.closed 3 i hdir k (by simpa using hp)
      have := ((hl.mem k).1 (by simp [hk])).2
      rw [hkl] at this; cases this
     ·rw [hop] at hp; exact hp
    rw [List.map_append,List.map_cons,hop] at h
    have hreal : Real Z (Pin ++ H) := ⟨w,by
     have : (Pin ++ (H ++ F)).Perm (F ++ (Pin ++ H)) := by rw [← List.append_assoc]; exact List.perm_append_comm
     exact (hs.perm this).drop⟩
    refine wpOp_mono ?_ (Rg.step ho (Rg.front _ _ _ _ hsw hreal h) hs hrel)
    rintro a' w' ⟨f',Z',H',r',z',s',t',h'⟩
    rw [← List.map_append] at h'
    have hl2 : Left all (listed.setIfInBounds i true) ((a₁ ++ a₂) ++ c₂) := by
     have := hl.assoc.take (c₁ := a₁) (c₂ := a₂ ++ c₂) hdir
     rwa [← List.append_assoc] at this
    have hbar2 : barM all (a₁ ++ a₂) c₂ = true := by
     simp only [barM,List.all_eq_true] at hbar ⊢
     exact fun i' hi' j hj => hbar i' hi' j (by
      rcases List.mem_append.1 hj with h | h
      ·exact List.mem_append_left _ h
      ·exact List.mem_append_right _ (List.mem_cons_of_mem _ h))
    exact ih (a₁ ++ a₂) _ f' Z' H' w' a' (by simp at hm ⊢; omega) hbar2 hl2 (hz.trans z') (ht.trans t') h' s' r'
variable {Q : Post} {f : Fr} {Z : Fz} {H : Hp} {id : Nat} {l : List Oper}
theorem WP.draw3 (Pin H₁ : Hp) (c₁ c₂ : List Nat) (hm : P.follows .mixedOrders = true) (ho : (orderB l.toArray (c₁ ++ c₂) && barM l.toArray c₁ c₂) = true) (hp : H.Perm (Pin ++ H₁))
  (h : Rg P n l.toArray true Pin (fun f Z H' => ∃ Pin₂ H₂,(H' ++ Pin).Perm (Pin₂ ++ H₂) ∧ Rg P n l.toArray true Pin₂ (fun f Z H => Q .normal f Z (H ++ Pin₂)) (c₂.map (opAt l.toArray)) f Z H₂) (c₁.map (opAt l.toArray)) f Z H₁) :
  WP P n (.region id l.toArray true) Q f Z H := by
 simp only [Bool.and_eq_true] at ho
 obtain ⟨ho,hbar⟩ := ho
 intro w F a hs hr
 refine wp_region_any hm ?_
 have hs' : Sat { w with drawn := w.drawn + 1 } Z (Pin ++ (H₁ ++ F)) := by
  have := hs.perm (hp.append_right F)
  rw [List.append_assoc] at this
  exact ⟨this.fz,this.own,this.nd,this.apart⟩
 refine Rg.any3 (K := fun f Z H => Q .normal f Z H) (Z₀ := Z) (w₀ := w) (F := F) (fun f' Z' H' a' w' r z s t q => ⟨f',Z',H',r,z,s,t,q⟩) l.toArray.size c₁ _ f Z H₁ _ a ?_ hbar (start_left ho) (.refl Z) ⟨rfl,rfl,rfl,Nat.le_refl _⟩ h hs' hr
 simp only [orderB,Bool.and_eq_true,beq_iff_eq] at ho
 have := ho.1.1.1.1
 omega
end Go.Ux
namespace Go.Ux
open Go Go.Proofs
variable {P : Program} {n : Nat} {Z : Fz} {H : Hp}
def dQ (K : Fz → Hp → Prop) : Post := fun e f Z H => (e = .normal ∨ e = .ret) ∧ f.D = [] ∧ K Z H
theorem dq1 {K : Fz → Hp → Prop} {l : List Lay} (h : K Z H) : dQ K .normal ⟨l,[]⟩ Z H := ⟨.inl rfl,rfl,h⟩
theorem dq2 {K : Fz → Hp → Prop} {l : List Lay} (h : K Z H) : dQ K .ret ⟨l,[]⟩ Z H := ⟨.inr rfl,rfl,h⟩
theorem TrD.intro0 {g : FuncId} {fn : Func} {c : Code} {args : Array Value} {n : Nat} {Z : Fz} {H : Hp} {K : Fz → Hp → Prop} (hf : P.funcs[g]? = some fn) (hb : fn.body = some c) (hn : fn.ntmps = n)
  (hrs : fn.results = #[]) (ha : Nat.ble args.size n = true) (h : WP P n c (dQ K) ⟨argL 0 args.toList,[]⟩ Z H) : TrD P g args Z H K :=
 TrD.intro (rs := []) hf hb hn hrs ha (WP.mono h fun _ _ _ _ ⟨h1,h2,h3⟩ => ⟨h1,h2,⟨[],.nil⟩,h3⟩)
theorem TrD.mono {g : FuncId} {args : Array Value} {K K' : Fz → Hp → Prop} (h : TrD P g args Z H K) (k : ∀ Z' H',K Z' H' → K' Z' H') : TrD P g args Z H K' :=
 fun w F hs => CallsD.mono (h w F hs) fun _ _ _ ⟨h1,h2,Z',H',a,b,c,d⟩ => ⟨h1,h2,Z',H',a,b,c,k _ _ d⟩
theorem TrD.frame {g : FuncId} {args : Array Value} {K : Fz → Hp → Prop} {A B : Hp} (h : TrD P g args Z A K) (p : H.Perm (A ++ B)) : TrD P g args Z H fun Z' H' => ∃ A',H' = A' ++ B ∧ K Z' A' :=
 fun w F hs => CallsD.mono (h w (B ++ F) (hs.perm (by rw [← List.append_assoc]; exact p.append_right F))) fun _ _ _ ⟨h1,h2,Z',H',a,b,c,d⟩ => ⟨h1,h2,Z',H' ++ B,a,by rw [List.append_assoc]; exact b,c,H',rfl,d⟩
theorem fin_dfr {rs : List ResultVar} {R : Value → Fz → Hp → Prop} {g : FuncId} {xs : Array Value} {ds : List Deferred} {f : Fr} {A B : Hp} {K : Fz → Hp → Prop} [en : Ent P g] [s : Spl A H B] (h : TrD P g xs Z A K)
  (k : ∀ Z' A',K Z' A' → Fin P rs R ds f Z' (A' ++ B)) : Fin P rs R (⟨.fn (.func g) #[],xs⟩ :: ds) f Z H := by
 refine ⟨.func g,#[],g,xs,rfl,fun w F _ => ?_,TrD.mono (h.frame s.h) fun Z' H' ⟨A',e,hk⟩ => e ▸ k Z' A' hk⟩
 simp only [invoke,Array.append_empty,en.run]
section
variable {all : Array Oper} {dr : Bool} {Pin : Hp} {K : Fr → Fz → Hp → Prop} {rest : List Oper} {l : List Lay} {D : List Deferred}
variable {ty : TypeId} {pos : String} {af : Array Edge} {gd : Option (Nat × Bool)} {g : FuncId} {xs : List Operand} {ts : Array TypeId} {args : List Value}
theorem o_dfr (h : Rg P n all dr Pin K rest ⟨l,⟨.fn (.func g) #[],args.toArray⟩ :: D⟩ Z H) (hg : okO n all ⟨l,D⟩ ⟨none,.defer ⟨.value (.func g),xs.toArray,ts⟩,ty,pos,af,gd⟩ = true := by rfl) (ha : EvL ⟨l,D⟩ xs args := by exact evl_go) :
  Rg P n all dr Pin K (⟨none,.defer ⟨.value (.func g),xs.toArray,ts⟩,ty,pos,af,gd⟩ :: rest) ⟨l,D⟩ Z H := by
 refine o_defer hg (fun w => ?_) h
 simp only [resolve,ev,Deferred.ofValue,Sem.run_pure,List.map_toArray,ha.map,Array.empty_append]
end
end Go.Ux
namespace Go.Ux
open Go
variable {P : Program}
def Gk (xv v : Value) (m : Nat) (Hx G : Hp) : Prop := (G = [] ∧ ∃ a n c,xv = .slice a n c ∧ v = .slice a (n + m) c) ∨ G = Hx
theorem run_append_kp {e k T T' ty m e' : Nat} {xv yv : Value} {cs ds : List Value} {Hx F : Hp} {Z : Fz} {R : Nat → Obj → Prop} [El P e k] [Sty P T e] [Sty P T' e'] {w : World} (hs : Sat w Z (Hx ++ F)) (hx : Sl e k xv cs Hx)
  (hR : ∀ b o,R b o → Seen w b o) (hy : Rs R k yv m ds) (h1 : ∀ u ∈ ds,u.oneCell' = true) (hk : 0 < k) (hsz : cs.length + ds.length ≤ 137438953472) :
  ∃ v' w' H' G,(Builtin.append_ #[T,T'] ty #[xv,yv]).run P w = .ok v' w' ∧ Sl e k v' (cs ++ ds) H' ∧ Gk xv v' m Hx G ∧ Sat w' Z (H' ++ (G ++ F)) ∧ Stay w w' := by
 obtain ⟨i,z,hi,hik,hib,hiz,hzc⟩ := El.i (P := P) (e := e) (k := k)
 have ht : P.underlying T = some (.slice e) := Sty.u
 have hsrc : Src P i.size T' yv m ds w := by rw [hik]; exact hy.src hR h1
 have hdl : ds.length = m * k := by rw [hsrc.newsLen,hik]
 have grow : ∀ (base : Option Addr) (n c : Nat),cs.length = n * k → xv = .slice base n c → n ≤ c → (Builtin.firstCells i.size n (.slice base n c)).run P w.drew = .ok cs.toArray w.drew → c < n + m →
   ∃ v' w' H' G,(Builtin.append_ #[T,T'] ty #[xv,yv]).run P w = .ok v' w' ∧ Sl e k v' (cs ++ ds) H' ∧ Gk xv v' m Hx G ∧ Sat w' Z (H' ++ (G ++ F)) ∧ Stay w w' := by
  intro base n c hcl hxe hnc hold hg
  have hnk : n + m ≤ (n + m) * k := Nat.le_mul_of_pos_right _ hk
  have hnm : n + m ≤ 137438953472 := by
   rw [hcl,hdl,← Nat.add_mul] at hsz; omega
  have hfit : Builtin.nextslicecap (n + m) c * i.bytes ≤ 281474976710656 := by
   refine growslice_fits hg ?_
   refine Nat.le_trans (Nat.mul_le_mul hnm hib) (by decide)
  have hr := run_append_grow_src (P := P) w T T' ty e i z ht hi hiz base n c cs hold yv m ds hsrc hg (by omega) hfit
  have hcap : n + m ≤ grownCap w (n + m) c e := by
   unfold grownCap
   simp only [Question.cut]
   exact Nat.le_trans (Nat.le_refl _) (by first | omega | exact Nat.le_max_left _ _ | exact Nat.le_add_right _ _)
  have hobj : Obj.cells ((cs ++ ds).toArray ++ Builtin.zeroCells z.cells (grownCap w (n + m) c e - (n + m))) e (0,0) = cl ((cs ++ ds) ++ (Builtin.zeroCells z.cells (grownCap w (n + m) c e - (n + m))).toList) e := by
   congr 1
   apply Array.toList_inj.1
   simp
  subst hxe
  refine ⟨_,_,_,Hx,hr,.row w.heap.size (n + m) (grownCap w (n + m) c e) (cs ++ ds) (Builtin.zeroCells z.cells (grownCap w (n + m) c e - (n + m))).toList ?_ ?_ hcap,.inr rfl,?_,?_⟩
  ·simp [hcl,hdl,Nat.add_mul]
  ·simp [Builtin.zeroCells,hzc]
  ·rw [← hobj]
   exact Sat.push (w := w.drew) ⟨hs.fz,hs.own,hs.nd,hs.apart⟩ _
  ·refine ⟨rfl,rfl,rfl,?_⟩
   show w.heap.size ≤ (w.heap.push _).size
   simp
 cases hx with
 | nil =>
  by_cases hm : m = 0
  ·subst hm
   have hd0 : ds = [] := List.length_eq_zero_iff.1 (by rw [hdl]; simp)
   subst hd0
   refine ⟨.slice none 0 0,w,[],[],?_,.nil,.inr rfl,hs,.refl w⟩
   rcases hsrc.kind with ⟨e'',hk'⟩ | hk' <;> simp [Builtin.append_,run_underlying ht,run_underlying hk',sizeOf,typeInfo,hi,hsrc.len,hsrc.cells]
  ·exact grow none 0 0 (by simp) rfl (by omega) (run_firstCells_none _ _ _ _ _) (by omega)
 | row b n c cs rest h1' h2' hn =>
  by_cases hroom : n + m ≤ c
  ·have hb : w.heap[b]? = some (cl (cs ++ rest) e) := hs.own (b,cl (cs ++ rest) e) (by simp)
   have hlen : ds.length ≤ rest.length := by
    rw [hdl,h2']; exact Nat.mul_le_mul_right _ (by omega)
   have hr := run_append_room_src (P := P) w T T' ty e i ht hi b 0 n c yv m ds hsrc hroom
    (fun j hj => by
     have : (cs ++ rest)[0 + n * i.size + j]? = some ((cs ++ rest)[0 + n * i.size + j]'(by simp [hik]; omega)) := List.getElem?_eq_getElem _
     rw [cell_of (.of hb) this]; rfl)
    (fun j hj => by simp [World.frozen?,hb])
   obtain ⟨q1,q2,q3⟩ := heap_setCells ds (0 + n * i.size) w (cs ++ rest) hb
   have e0 : 0 + n * i.size = cs.length := by rw [hik,h1']; simp
   rw [e0,setL_mid ds cs rest hlen] at q1
   refine ⟨_,_,_,[],hr,.row b (n + m) c (cs ++ ds) (rest.drop ds.length) ?_ ?_ hroom,.inl ⟨rfl,_,_,_,rfl,rfl⟩,?_,q3⟩
   ·simp [h1',hdl,Nat.add_mul]
   ·simp only [List.length_drop,h2',hdl,← Nat.sub_mul]; congr 1; omega
   ·rw [e0]
    exact Sat.set (b := b) hs (by rw [e0] at q2; exact q1) (by rw [e0] at q2; exact q2)
  ·refine grow (some ⟨b,0,none⟩) n c h1' rfl hn ?_ (by omega)
   have hb : w.heap[b]? = some (cl (cs ++ rest) e) := hs.own (b,cl (cs ++ rest) e) (by simp)
   refine run_firstCells_some w.drew i.size n ⟨b,0,none⟩ n c cs (by rw [hik,h1']) (fun j v hj => ?_)
   rw [addr_add]
   refine cell_of (w := w.drew) (.of hb) ?_
   rw [Nat.zero_add,List.getElem?_append_left]
   ·exact hj
   ·rcases Nat.lt_or_ge j cs.length with h | h
    ·exact h
    ·simp [List.getElem?_eq_none h] at hj
section
variable {n : Nat} {all : Array Oper} {dr : Bool} {Pin : Hp} {K : Fr → Fz → Hp → Prop} {rest : List Oper} {l : List Lay} {D : List Deferred} {Z : Fz} {H : Hp}
variable {d : Tmp} {ty : TypeId} {pos : String} {af : Array Edge} {gd : Option (Nat × Bool)} {x y : Operand} {T : TypeId}
theorem oapk0 {e k T' e' m : Nat} {xv yv : Value} {cs ds : List Value} {Hx : Hp} (Hr : Hp) [El P e k] [Sty P T e] [Sty P T' e'] (hg : okO n all ⟨l,D⟩ ⟨some d,.call ⟨.builtin .append,#[x,y],#[T,T']⟩,ty,pos,af,gd⟩ = true)
  (hx : ev ⟨l,D⟩ x = xv) (hy : ev ⟨l,D⟩ y = yv) (hp : H.Perm (Hx ++ Hr)) (hsl : Sl e k xv cs Hx) (hrs : Rs (fun b o => Mem false Z Pin Hr b o) k yv m ds) (h1 : ∀ u ∈ ds,u.oneCell' = true) (hk : 0 < k) (hsz : cs.length + ds.length ≤ 137438953472)
  (h : ∀ v H' G,Sl e k v (cs ++ ds) H' → Gk xv v m Hx G → Rg P n all dr Pin K rest ⟨.s d v :: l,D⟩ Z (H' ++ (G ++ Hr))) : Rg P n all dr Pin K (⟨some d,.call ⟨.builtin .append,#[x,y],#[T,T']⟩,ty,pos,af,gd⟩ :: rest) ⟨l,D⟩ Z H := by
 refine o_e (fun v Z₁ H₁ => Z₁ = Z ∧ ∃ H' G,H₁ = H' ++ (G ++ Hr) ∧ Sl e k v (cs ++ ds) H' ∧ Gk xv v m Hx G) hg rfl (fun w F hs => ?_) ?_
 ·have hs1 : Sat w Z (Hx ++ (Hr ++ F ++ Pin)) := by
   refine hs.perm ?_
   refine ((hp.append_right F).append_left Pin).trans ?_
   refine List.perm_append_comm.trans ?_
   simp only [List.append_assoc]; exact .refl _
  have hR : ∀ b o,Mem false Z Pin Hr b o → Seen w b o := fun b o hm => Mem.heap hm (w := w) (by
   have h2 : Sat w Z (F ++ (Pin ++ Hr)) := hs1.drop.perm (by
    refine List.perm_append_comm.trans ?_
    rw [← List.append_assoc]
    exact List.perm_append_comm)
   exact h2.drop)
  obtain ⟨v',w',H',G,q1,q2,q5,q3,q4⟩ := run_append_kp (P := P) (T := T) (T' := T') (ty := ty) hs1 hsl hR hrs h1 hk hsz
  have hrun : (execOp (ev ⟨l,D⟩) ⟨some d,.call ⟨.builtin .append,#[x,y],#[T,T']⟩,ty,pos,af,gd⟩).run P w = .ok (.value v') w' := by
   show Sem.run P (do let d ← resolve (ev ⟨l,D⟩) ⟨.builtin .append,#[x,y],#[T,T']⟩ ty; invoke d.target d.args) w = _
   simp only [resolve,invoke,builtin,Sem.run_bind,Sem.run_pure,Result.andThen_ok,hx,hy,List.map_toArray,List.map_cons,List.map_nil,q1]
  unfold RunO
  rw [hrun]
  refine ⟨Z,H' ++ (G ++ Hr),.refl Z,q3.perm ?_,q4,rfl,H',G,rfl,q2,q5⟩
  refine List.Perm.trans ?_ List.perm_append_comm
  simp only [List.append_assoc]
  exact .refl _
 ·rintro v' Z₁ H₁ _ ⟨rfl,H',G,rfl,hq,hg'⟩
  exact h v' H' G hq hg'
end
section
variable {n : Nat} {all : Array Oper} {dr : Bool} {Pin : Hp} {K : Fr → Fz → Hp → Prop} {rest : List Oper} {l : List Lay} {D : List Deferred} {Z : Fz} {H : Hp}
variable {d : Tmp} {ty : TypeId} {pos : String} {af : Array Edge} {gd : Option (Nat × Bool)} {x y : Operand} {T : TypeId}
theorem oapk {e k T' e' m : Nat} {xv yv : Value} {cs ds : List Value} {Hx Hr : Hp} [El P e k] [Sty P T e] [Sty P T' e'] (hsl : Sl e k xv cs Hx) (hg : okO n all ⟨l,D⟩ ⟨some d,.call ⟨.builtin .append,#[x,y],#[T,T']⟩,ty,pos,af,gd⟩ = true)
  (hx : ev ⟨l,D⟩ x = xv) (hy : ev ⟨l,D⟩ y = yv) [hp : Spl Hx H Hr] (hrs : Rs (fun b o => Mem false Z Pin Hr b o) k yv m ds) (h1 : ∀ u ∈ ds,u.oneCell' = true) (hk : 0 < k) (hsz : cs.length + ds.length ≤ 137438953472)
  (h : ∀ v H' G,Sl e k v (cs ++ ds) H' → Gk xv v m Hx G → Rg P n all dr Pin K rest ⟨.s d v :: l,D⟩ Z (H' ++ (G ++ Hr))) : Rg P n all dr Pin K (⟨some d,.call ⟨.builtin .append,#[x,y],#[T,T']⟩,ty,pos,af,gd⟩ :: rest) ⟨l,D⟩ Z H :=
 oapk0 Hr hg hx hy hp.h hsl hrs h1 hk hsz h
end
end Go.Ux
namespace Go.Ux
open Go
variable {P : Program}
theorem fnd_del (s : ByteArray) : ∀ (es : List En) (i : Nat),match fnd s es i with
  | some (j,_) => i ≤ j ∧ j - i < es.length ∧ del s es = es.eraseIdx (j - i)
  | none => del s es = es
 | [],_ => rfl
 | e :: es,i => by
  by_cases h : s = e.k
  ·simp [fnd,del,h]
  ·have := fnd_del s es (i + 1)
   simp only [fnd,if_neg h]
   have hd : del s (e :: es) = e :: del s es := by
    simp only [del]
    rw [List.eraseP_cons_of_neg (by simpa using h)]
   cases hf : fnd s es (i + 1) with
   | none => rw [hf] at this; simp only at this ⊢; rw [hd,this]
   | some q =>
    obtain ⟨j,u⟩ := q
    rw [hf] at this
    simp only at this ⊢
    obtain ⟨h1,h2,h3⟩ := this
    refine ⟨by omega,by simp only [List.length_cons]; omega,?_⟩
    rw [hd,h3,show j - i = (j - (i + 1)) + 1 by omega]; rfl
theorem run_delete {T T2 ty el m c : Nat} {es : List En} {s : ByteArray} [Kst P T el] {w : World} (h : w.heap[m]? = some (mp es c)) :
  ∃ w',(Builtin.delete_ #[T,T2] ty #[.map (some m),.string s]).run P w = .ok (.tuple #[]) w' ∧ w'.heap[m]? = some (mp (del s es) c) ∧ (∀ k,k ≠ m → w'.heap[k]? = w.heap[k]?) ∧ Stay w w' := by
 obtain ⟨k,h1,h2⟩ := Kst.u (P := P) (T := T) (el := el)
 have hset : ∀ o : Obj,∃ w',(do setObj m o; pure (Value.tuple #[])).run P w = .ok (.tuple #[]) w' ∧ w'.heap[m]? = some o ∧ (∀ k,k ≠ m → w'.heap[k]? = w.heap[k]?) ∧ Stay w w' := by
  intro o
  have hlt : m < w.heap.size := by
   rcases Nat.lt_or_ge m w.heap.size with h' | h'
   ·exact h'
   ·simp [Array.getElem?_eq_none h'] at h
  refine ⟨{ w with heap := w.heap.setIfInBounds m o },?_,by simp [hlt],fun k hk => ?_,⟨rfl,rfl,rfl,by simp⟩⟩
  ·simp only [Sem.run_bind,setObj,Sem.run_pure]
   simp only [Sem.run,h,Result.andThen_ok]
  show (w.heap.setIfInBounds m o)[k]? = _
  rw [Array.getElem?_setIfInBounds_ne (fun e => hk e.symm)]
 have hu := fnd_del s es 0
 have q0 : ((#[T,T2] : Array TypeId)[0]?) = some T := rfl
 have q1 : ((#[Value.map (some m),.string s] : Array Value)[0]?) = some (.map (some m)) := rfl
 have q2 : ((#[Value.map (some m),.string s] : Array Value)[1]?) = some (.string s) := rfl
 simp only [Builtin.delete_,q0,q1,q2,Sem.run_bind,h1,Result.andThen_ok,getObj_map h,checkKey_string h2,findKey_string h2]
 cases hf : fnd s es 0 with
 | none =>
  rw [hf] at hu
  simp only at hu
  rw [hu]
  simpa only [Sem.run_bind] using hset _
 | some q =>
  obtain ⟨j,u⟩ := q
  rw [hf] at hu
  simp only [Nat.sub_zero] at hu
  obtain ⟨_,hj,h3⟩ := hu
  have e2 : (ents es).eraseIdxIfInBounds j = ents (del s es) := by
   rw [h3]
   apply Array.toList_inj.1
   have hjs : j < (ents es).size := by simpa [ents] using hj
   unfold Array.eraseIdxIfInBounds
   rw [dif_pos hjs]
   simp only [ents,Array.toList_eraseIdx]
   simp only [List.eraseIdx_eq_take_drop_succ,List.map_append,List.map_take,List.map_drop]
  simp only [e2]
  simpa only [Sem.run_bind] using hset _
section
variable {n : Nat} {all : Array Oper} {dr : Bool} {Pin : Hp} {K : Fr → Fz → Hp → Prop} {rest : List Oper} {l : List Lay} {D : List Deferred} {Z : Fz} {H : Hp}
variable {d : Tmp} {ty : TypeId} {pos : String} {af : Array Edge} {gd : Option (Nat × Bool)} {x y : Operand} {T T2 : TypeId}
theorem o_makeSliceN {e k c : Nat} [El P e k] [Sty P T e] (hg : okO n all ⟨l,D⟩ ⟨some d,.makeSlice T x y,ty,pos,af,gd⟩ = true) (hx : ev ⟨l,D⟩ x = .int .i64 (Int.ofNat c)) (hy : ev ⟨l,D⟩ y = .int .i64 (Int.ofNat c)) (hc : c ≤ 137438953472)
  (h : ∀ b xs,xs.length = c * k → Rg P n all dr Pin K rest ⟨.s d (.slice (some ⟨b,0,none⟩) c c) :: l,D⟩ Z ((b,cl xs e) :: H)) : Rg P n all dr Pin K (⟨some d,.makeSlice T x y,ty,pos,af,gd⟩ :: rest) ⟨l,D⟩ Z H := by
 obtain ⟨i,z,hi,hik,hib,hiz,hzc⟩ := El.i (P := P) (e := e) (k := k)
 refine o_e (fun v Z₁ H₁ => Z₁ = Z ∧ ∃ b xs,v = .slice (some ⟨b,0,none⟩) c c ∧ xs.length = c * k ∧ H₁ = (b,cl xs e) :: H) hg rfl (fun w F hs => ?_) ?_
 ·have hr := run_make (P := P) w T e i z Sty.u hi hiz .i64 .i64 (Int.ofNat c) (Int.ofNat c) (by simp) (Int.le_refl _) (by
   have : i.bytes * c ≤ 1024 * 137438953472 := Nat.mul_le_mul hib hc
   have h2 : ((i.bytes * c : Nat) : Int) ≤ 281474976710656 := by omega
   simpa using h2) (by simp; omega)
  have : (execOp (ev ⟨l,D⟩) ⟨some d,.makeSlice T x y,ty,pos,af,gd⟩).run P w = .ok (.value (.slice (some ⟨w.heap.size,0,none⟩) c c)) (w.alloc (.cells (madeCells z.cells (c * i.size)) e)) := by
   show Sem.run P (do pure (Next.value (← Instr.makeSlice T (ev ⟨l,D⟩ x) (ev ⟨l,D⟩ y)))) w = _
   rw [hx,hy]
   simp only [Sem.run_bind,hr,Result.andThen_ok,Sem.run_pure]
   rfl
  unfold RunO
  rw [this]
  have ho : Obj.cells (madeCells z.cells (c * i.size)) e (0,0) = cl (madeCells z.cells (c * i.size)).toList e := by simp
  refine ⟨Z,(w.heap.size,Obj.cells (madeCells z.cells (c * i.size)) e) :: H,.refl Z,?_,⟨rfl,rfl,rfl,by show w.heap.size ≤ (w.heap.push _).size; simp⟩,rfl,w.heap.size,(madeCells z.cells (c * i.size)).toList,rfl,by simp [size_madeCells,hik],by rw [ho]⟩
  exact (Sat.push hs _).perm List.perm_middle.symm
 ·rintro v Z₁ H₁ _ ⟨rfl,b,xs,rfl,hl,rfl⟩
  exact h b xs hl
theorem o_delete {el m c : Nat} {es : List En} {s : ByteArray} {R : Obj → Hp} [Kst P T el] [ha : Pk m H (mp es c) R] (hg : okO n all ⟨l,D⟩ ⟨none,.call ⟨.builtin .delete,#[x,y],#[T,T2]⟩,ty,pos,af,gd⟩ = true)
  (hx : ev ⟨l,D⟩ x = .map (some m)) (hy : ev ⟨l,D⟩ y = .string s) (h : Rg P n all dr Pin K rest ⟨l,D⟩ Z (R (mp (del s es) c))) :
  Rg P n all dr Pin K (⟨none,.call ⟨.builtin .delete,#[x,y],#[T,T2]⟩,ty,pos,af,gd⟩ :: rest) ⟨l,D⟩ Z H := by
 refine o_w (b := m) (ob' := mp (del s es) c) (r := .tuple #[]) hg rfl (fun w hw => ?_) h
 obtain ⟨w',h1,h2,h3,h4⟩ := run_delete (P := P) (T := T) (T2 := T2) (ty := ty) (s := s) hw
 have : (execOp (ev ⟨l,D⟩) ⟨none,.call ⟨.builtin .delete,#[x,y],#[T,T2]⟩,ty,pos,af,gd⟩).run P w = .ok (.value (.tuple #[])) w' := by
  show Sem.run P (do let d ← resolve (ev ⟨l,D⟩) ⟨.builtin .delete,#[x,y],#[T,T2]⟩ ty; invoke d.target d.args) w = _
  simp only [resolve,invoke,builtin,Sem.run_bind,Sem.run_pure,Result.andThen_ok,hx,hy,List.map_toArray,List.map_cons,List.map_nil,h1]
 unfold RunO
 rw [this]
 exact ⟨rfl,h2,h3,h4⟩
end
end Go.Ux
namespace Go.Ux
open Go Go.Proofs
variable {P : Program}
instance (a b : Nm) : Decidable (ltN a b) := inferInstanceAs (Decidable (cmpN a b < 0))
theorem less_cmp : ∀ a b : List UInt8,Op.bytesLess a b = decide (Lib.compareBytes a b < 0)
 | [],[] => rfl
 | [],_ :: _ => by simp [Op.bytesLess,Lib.compareBytes]
 | _ :: _,[] => by simp [Op.bytesLess,Lib.compareBytes]
 | a :: xs,b :: ys => by
  simp only [Op.bytesLess,Lib.compareBytes]
  by_cases h : a < b
  ·simp [h]
  ·by_cases h' : b < a
   ·have : a ≠ b := fun e => by subst e; exact absurd h' h
    simp [h,h',this]
   ·have : a = b := UInt8.le_antisymm (UInt8.not_lt.1 h') (UInt8.not_lt.1 h)
    subst this
    simp [less_cmp xs ys]
section
variable {n : Nat} {all : Array Oper} {dr : Bool} {Pin : Hp} {K : Fr → Fz → Hp → Prop} {rest : List Oper} {l : List Lay} {D : List Deferred} {Z : Fz} {H : Hp}
variable {d : Tmp} {ty : TypeId} {pos : String} {af : Array Edge} {gd : Option (Nat × Bool)} {x y : Operand} {T T' : TypeId}
theorem o_lssS {s t : ByteArray} {r : Bool} (hg : okO n all ⟨l,D⟩ ⟨some d,.binOp .lss T x y T',ty,pos,af,gd⟩ = true) (hx : ev ⟨l,D⟩ x = .string s) (hy : ev ⟨l,D⟩ y = .string t) (hr : decide (ltN s t) = r)
  (h : Rg P n all dr Pin K rest ⟨.s d (.bool r) :: l,D⟩ Z H) : Rg P n all dr Pin K (⟨some d,.binOp .lss T x y T',ty,pos,af,gd⟩ :: rest) ⟨l,D⟩ Z H := by
 subst hr
 refine o_bin hg (fun w _ => ?_) h
 rw [hx,hy]
 simp [eqGuard,binOp,Op.stringOp,ByteArray.toList_eq,less_cmp,ltN,cmpN]
 exact decide_eq_decide.2 Iff.rfl
theorem o_quo2 {a : Nat} (hg : okO n all ⟨l,D⟩ ⟨some d,.binOp .quo T x y T',ty,pos,af,gd⟩ = true) (hx : ev ⟨l,D⟩ x = .int .i64 (a : Int)) (hy : ev ⟨l,D⟩ y = .int .i64 2) (ha : a ≤ 9223372036854775807)
  (h : Rg P n all dr Pin K rest ⟨.s d (.int .i64 ((a / 2 : Nat) : Int)) :: l,D⟩ Z H) : Rg P n all dr Pin K (⟨some d,.binOp .quo T x y T',ty,pos,af,gd⟩ :: rest) ⟨l,D⟩ Z H := by
 refine o_bin hg (fun w _ => ?_) h
 rw [hx,hy]
 have e : (a : Int).tdiv 2 = ((a / 2 : Nat) : Int) := rfl
 simp [eqGuard,binOp,Op.intDiv,e]
 rw [wrap_in (by omega) (by omega)]
theorem run_eqB {s t : Bool} [Und P T .bool] (w : World) : (Op.equal T (.bool s) (.bool t)).run P w = .ok (s == t) w := by
 show (Op.equalIn (9999 + 1) T (.bool s) (.bool t)).run P w = _
 rw [Op.equalIn]
 simp only [Sem.run_bind,Und.run (P := P) (T := T),Result.andThen_ok,Sem.run_pure]
theorem o_eqB {s t : Bool} [Und P T .bool] (hg : okO n all ⟨l,D⟩ ⟨some d,.binOp .eql T x y T',ty,pos,af,gd⟩ = true) (hx : ev ⟨l,D⟩ x = .bool s) (hy : ev ⟨l,D⟩ y = .bool t)
  (h : Rg P n all dr Pin K rest ⟨.s d (.bool (s == t)) :: l,D⟩ Z H) : Rg P n all dr Pin K (⟨some d,.binOp .eql T x y T',ty,pos,af,gd⟩ :: rest) ⟨l,D⟩ Z H := by
 refine o_bin hg (fun w _ => ?_) h
 rw [hx,hy]
 have e1 : eqGuard .eql T x y (.bool s) (.bool t) = pure () := rfl
 have e2 : binOp .eql T (.bool s) (.bool t) = (do pure (.bool (← Op.equal T (.bool s) (.bool t)))) := rfl
 simp only [e1,e2,Sem.run_bind,Sem.run_pure,Result.andThen_ok,run_eqB]
theorem o_eqF {s t : Nat} (hg : okO n all ⟨l,D⟩ ⟨some d,.binOp .eql T x y T',ty,pos,af,gd⟩ = true) (hx : ev ⟨l,D⟩ x = .float .f64 s) (hy : ev ⟨l,D⟩ y = .float .f64 t)
  (h : Rg P n all dr Pin K rest ⟨.s d (.bool (FloatKind.f64.format.order s t == some .eq)) :: l,D⟩ Z H) : Rg P n all dr Pin K (⟨some d,.binOp .eql T x y T',ty,pos,af,gd⟩ :: rest) ⟨l,D⟩ Z H := by
 refine o_bin hg (fun w _ => ?_) h
 rw [hx,hy]
 simp [eqGuard,binOp,Op.floatCmp]
end
end Go.Ux
namespace Go.Ux
open Go Go.Proofs
set_option maxRecDepth 20000
attribute [local irreducible] WP Tr
structure Sc2 (Z : Fz) (sc sb lb mb eb sb' lb' mb' eb' : Nat) : Prop where
 d : Sch Z sc sb lb mb eb
 c : ∃ tb c xs,Z sc = some (cl [.slice (some ⟨tb,0,none⟩) 2 c] 192) ∧ 2 ≤ c ∧ Z tb = some (cl (.string nmA :: .pointer (some ⟨sb',0,none⟩) :: .pointer (some ⟨lb',0,none⟩) :: .pointer (some ⟨mb',0,none⟩) :: .string nmD :: xs) 195)
 s : Z sb' = some (cl [.string stU] 291)
 l : ∃ ab,Z lb' = some (cl [.pointer (some ⟨ab,0,none⟩),.pointer none,.pointer none,.pointer none,.pointer none,.bool false,.string stA,.slice none 0 0] 293) ∧ Z ab = some (cl [.string nmA] 9)
 m : Z mb' = some (cl [.slice none 0 0,.slice none 0 0,.pointer (some ⟨eb',0,none⟩),.pointer none,.pointer none,.pointer none,.pointer none,.bool false,.string stA] 298)
 e : Z eb' = some (cl [.string nmA] 9)
theorem Sc2.lw {Z Z' : Fz} (hz : Fz.lw Z Z') {sc sb lb mb eb sb' lb' mb' eb' : Nat} (h : Sc2 Z sc sb lb mb eb sb' lb' mb' eb') : Sc2 Z' sc sb lb mb eb sb' lb' mb' eb' := by
 obtain ⟨h0,⟨tb,c,xs,h1,h2,h3⟩,h4,⟨ab,h5,h8⟩,h6,h7⟩ := h
 exact ⟨h0.lw hz,⟨tb,c,xs,Fz.lw.cl hz rfl h1,h2,Fz.lw.cl hz rfl h3⟩,Fz.lw.cl hz rfl h4,⟨ab,Fz.lw.cl hz rfl h5,Fz.lw.cl hz rfl h8⟩,Fz.lw.cl hz rfl h6,Fz.lw.cl hz rfl h7⟩
theorem Sc2.mono {Z Z' : Fz} (hz : Fz.le Z Z') {sc sb lb mb eb sb' lb' mb' eb' : Nat} (h : Sc2 Z sc sb lb mb eb sb' lb' mb' eb') : Sc2 Z' sc sb lb mb eb sb' lb' mb' eb' := h.lw hz.lw
section
variable {Z : Fz} {sc sb lb mb eb sb' lb' mb' eb' : Nat}
theorem f183a (h : Sc2 Z sc sb lb mb eb sb' lb' mb' eb') : Pu Tryz.prog 183 #[.pointer (some ⟨sc,0,none⟩),.string nmA] Z fun v => v = .tuple #[.agg #[.string nmA,.pointer (some ⟨sb',0,none⟩),.pointer (some ⟨lb',0,none⟩),.pointer (some ⟨mb',0,none⟩)],.bool true] := by
 obtain ⟨tb,c,xs,h1,h2,h3⟩ := h.c
 haveI : Zf Z sc _ := ⟨.of (h1)⟩
 haveI : Zf Z tb _ := ⟨.of (h3)⟩
 refine Pu.intro Tryz.func183 rfl Tryz.ntmps183 Tryz.results183 rfl ?_
 repeat (first | refine gn ?_ | intro _)
 rename_i rb
 refine WP.loopM (5 :: 6 :: List.range' 13 21) (fun m g Z' H' => (m = 0 ∧ g 6 = .int .i64 0 ∨ m = 1 ∧ g 6 = .int .i64 1) ∧ Z = Z' ∧ H' = [(rb,cl [.string ⟨#[]⟩,.pointer none,.pointer none,.pointer none] 195)]) 1 ⟨.inr ⟨rfl,rfl⟩,rfl,rfl⟩ ?_
 rintro m g Z' H' _ ⟨⟨rfl,h6⟩ | ⟨rfl,h6⟩,rfl,rfl⟩
 ·refine WP.pin 6 h6 ?_
  refine gn ?_
  refine o_indexAddrN 0 0 rfl (by omega) rfl rfl rfl ?_
  refine gn ?_
  refine o_indexAddrN 0 0 rfl (by omega) rfl rfl rfl ?_
  refine gn ?_
  exact finCT rfl ⟨rfl,rfl⟩
 ·refine WP.pin 6 h6 ?_
  refine gn ?_
  refine o_indexAddrN 1 4 rfl (by omega) rfl rfl rfl ?_
  refine gn ?_
  refine o_eqs rfl rfl rfl (r := false) (by decide +kernel) ?_
  refine gn ?_
  exact ⟨bk,0,by omega,.inl ⟨rfl,rfl⟩,rfl,rfl⟩
theorem f164a (h : Sc2 Z sc sb lb mb eb sb' lb' mb' eb') (nb : Nat) (hb : Z nb = some (cl [.string nmA] 9)) : Pu Tryz.prog 164 #[.pointer (some ⟨sc,0,none⟩),.agg (tref nb).toArray] Z fun v => v = .tuple #[.agg (atom sb' lb' mb').toArray,.bool true] := by
 haveI : Zf Z nb _ := ⟨.of (hb)⟩
 refine Pu.intro Tryz.func164 rfl Tryz.ntmps164 Tryz.results164 rfl ?_
 repeat (first | refine gn ?_ | intro _)
 refine cp (f183a h) ?_
 rintro _ rfl
 repeat (first | refine gn ?_ | intro _)
 exact finCT rfl ⟨rfl,rfl⟩
theorem f131a (h : Sc2 Z sc sb lb mb eb sb' lb' mb' eb') (nb : Nat) (hb : Z nb = some (cl [.string nmA] 9)) : Pu Tryz.prog 131 #[.pointer (some ⟨sc,0,none⟩),.agg (tref nb).toArray] Z fun v => v = .tuple #[.agg (atom sb' lb' mb').toArray,.bool true] := by
 refine Pu.intro Tryz.func131 rfl Tryz.ntmps131 Tryz.results131 rfl ?_
 repeat (first | refine gn ?_ | intro _)
 refine cp (f164a h nb hb) ?_
 rintro _ rfl
 refine gn ?_
 exact finCT rfl ⟨rfl,rfl⟩
theorem f132g (eb : Nat) (rel : ByteArray) (h : Z mb = some (cl [.slice none 0 0,.slice none 0 0,.pointer (some ⟨eb,0,none⟩),.pointer none,.pointer none,.pointer none,.pointer none,.bool false,.string rel] 298)) (k : ByteArray) :
  Pu Tryz.prog 132 #[.pointer (some ⟨mb,0,none⟩),.string k] Z fun v => v = .tuple #[.agg (sf0).toArray,.bool false] := by
 haveI : Zf Z mb _ := ⟨.of (h)⟩
 refine Pu.intro Tryz.func132 rfl Tryz.ntmps132 Tryz.results132 rfl ?_
 repeat (first | refine gn ?_ | intro _)
 rename_i rb
 refine WP.loopM (5 :: 6 :: List.range' 13 21) (fun m g Z' H' => g 6 = .int .i64 (-1) ∧ Z = Z' ∧ H' = [(rb,cl sf0 333)]) 0 ⟨rfl,rfl,rfl⟩ ?_
 rintro m g Z' H' _ ⟨h6,rfl,rfl⟩
 refine WP.pin 6 h6 ?_
 refine gn ?_
 exact finCT rfl ⟨rfl,rfl⟩
end
def nmK : Bool → ByteArray
 | true => nmD
 | false => nmA
structure Ty1 (Z : Fz) (sc : Nat) (k : Bool) (sb lb mb eb ab : Nat) : Prop where
 r : ∀ Z',Fz.le Z Z' → ∀ nb,Z' nb = some (cl [.string (nmK k)] 9) → Pu Tryz.prog 131 #[.pointer (some ⟨sc,0,none⟩),.agg (tref nb).toArray] Z' fun v => v = .tuple #[.agg (atom sb lb mb).toArray,.bool true]
 s : Z sb = some (cl [.string stU] 291)
 l : Z lb = some (cl [.pointer (some ⟨ab,0,none⟩),.pointer none,.pointer none,.pointer none,.pointer none,.bool false,.string stA,.slice none 0 0] 293)
 a : Z ab = some (cl [.string nmA] 9)
 m : ∃ rel,Z mb = some (cl [.slice none 0 0,.slice none 0 0,.pointer (some ⟨eb,0,none⟩),.pointer none,.pointer none,.pointer none,.pointer none,.bool false,.string rel] 298)
 e : Z eb = some (cl [.string (nmK k)] 9)
theorem Sc2.ty {Z : Fz} {sc sb lb mb eb sb' lb' mb' eb' : Nat} (h : Sc2 Z sc sb lb mb eb sb' lb' mb' eb') : ∀ k,∃ sb lb mb eb ab,Ty1 Z sc k sb lb mb eb ab
 | true => by
  obtain ⟨ab,h1,h2⟩ := h.d.l
  exact ⟨sb,lb,mb,eb,ab,fun Z' hz nb hb => f131 (h.d.mono hz) nb hb,h.d.s,h1,h2,⟨_,h.d.m⟩,h.d.e⟩
 | false => by
  obtain ⟨ab,h1,h2⟩ := h.l
  exact ⟨sb',lb',mb',eb',ab,fun Z' hz nb hb => f131a (h.mono hz) nb hb,h.s,h1,h2,⟨_,h.m⟩,h.e⟩
theorem Ty1.mono {Z Z' : Fz} (hz : Fz.le Z Z') {sc sb lb mb eb ab : Nat} {k : Bool} (h : Ty1 Z sc k sb lb mb eb ab) : Ty1 Z' sc k sb lb mb eb ab := by
 obtain ⟨h1,h2,h3,h4,⟨rel,h5⟩,h6⟩ := h
 exact ⟨fun Z'' hz' => h1 Z'' (hz.trans hz'),hz _ _ h2,hz _ _ h3,hz _ _ h4,⟨rel,hz _ _ h5⟩,hz _ _ h6⟩
end Go.Ux
namespace Go.Ux
open Go Go.Proofs
set_option maxRecDepth 20000
attribute [local irreducible] WP Tr
abbrev vw (v : Value) (sc nb : Nat) (q : Bool) (sp r : Value) : List Value := [v,.pointer (some ⟨sc,0,none⟩),.pointer (some ⟨nb,0,none⟩),.pointer none,.pointer none,.pointer none,.pointer none,.bool false,.bool q,sp,.iface 261 r]
theorem al1 {v : Value} [o : One v] {vs : List Value} (h : vs.all Value.oneCell' = true) : (v :: vs).all Value.oneCell' = true := by
 simp only [List.all_cons,o.h.2,h,Bool.and_self]
theorem SetS.full {xs vs : List Value} (h : xs.length = vs.length) : SetS xs 0 vs vs :=
 ⟨by rw [setL_eq (by omega)]; simp [h],by omega⟩
theorem Sl.ne {e k : Nat} {v : Value} {cs : List Value} {H : Hp} (h : Sl e k v cs H) (hn : cs ≠ []) : ∃ b n c rest,v = .slice (some ⟨b,0,none⟩) n c ∧ H = [(b,cl (cs ++ rest) e)] ∧ cs.length = n * k ∧ rest.length = (c - n) * k ∧ n ≤ c := by
 cases h with
 | nil => exact absurd rfl hn
 | row b n c cs rest h1 h2 hn => exact ⟨b,n,c,rest,rfl,rfl,h1,h2,hn⟩
section
variable {Z : Fz}
theorem f347 (w sc nb nb' B : Nat) (v sp r : Value) (q : Bool) (Hs : Hp) [One v] (hs : SP 356 352 563 11 (B + 1) sp Hs) (hB : B ≤ 68719476736) :
  Tr Tryz.prog 347 #[.pointer (some ⟨w,0,none⟩),.agg (tref nb').toArray] Z ((w,cl (vw v sc nb q sp r) 356) :: Hs) fun x Z' H' => ∃ w' sp' Hs',x = .pointer (some ⟨w',0,none⟩) ∧ Z = Z' ∧ H' = (w,cl (vw v sc nb q sp' r) 356) :: (w',cl (vw v sc nb' q sp' r) 356) :: Hs' ∧ SP 356 352 563 11 B sp' Hs' ∧ (∃ b,sp' = .pointer (some ⟨b,0,none⟩)) ∧ ((∃ b,sp = .pointer (some ⟨b,0,none⟩)) → sp' = sp) := by
 refine Tr.introk Tryz.func347 rfl Tryz.ntmps347 Tryz.results347 rfl ?_
 haveI : One sp := hs.one
 rcases hs with ⟨rfl,rfl⟩ | ⟨sb,sv,ps,Hr,Hw,rfl,rfl,h1,h2,h3⟩
 ·refine gn ?_; intro b0
  refine gn ?_; intro b1
  refine gn ?_; intro b2
  refine gn ?_; intro b3
  refine gn ?_
  refine o_storeA rfl rfl rfl rfl (al1 rfl) ?_
  refine gn ?_
  refine fk1 (A := [(w,cl (vw v sc nb q (.pointer (some ⟨b2,0,none⟩)) r) 356),(b3,cl (vw v sc nb' q (.pointer (some ⟨b2,0,none⟩)) r) 356),(b2,cl [.slice (some ⟨b1,0,none⟩) 0 0] 563),(b1,cl [] 352)]) ?_
  exact ⟨b3,_,_,rfl,rfl,rfl,.inr ⟨b2,_,[],[_],[],rfl,rfl,.row b1 0 0 [] [] rfl rfl (by omega),rfl,by simp⟩,⟨_,rfl⟩,fun ⟨_,h⟩ => by cases h⟩
 ·refine gn ?_; intro b0
  refine gn ?_
  obtain ⟨oa,n,c,rfl,hcl,hnc⟩ := h1.val
  refine gn ?_
  rcases List.eq_nil_or_concat ps with rfl | ⟨ps',p,rfl⟩
  ·have hn : n = 0 := by simpa using hcl.symm
   subst hn
   refine gn ?_; intro b3
   refine gn ?_
   refine o_storeA rfl rfl rfl rfl (al1 rfl) ?_
   refine gn ?_
   refine fk1 (A := (w,cl (vw v sc nb q (.pointer (some ⟨sb,0,none⟩)) r) 356) :: (b3,cl (vw v sc nb' q (.pointer (some ⟨sb,0,none⟩)) r) 356) :: (sb,cl [.slice oa 0 c] 563) :: (Hr ++ Hw)) ?_
   exact ⟨b3,_,_,rfl,rfl,rfl,.inr ⟨sb,_,[],Hr,Hw,rfl,rfl,h1,h2,by simp⟩,⟨_,rfl⟩,fun _ => rfl⟩
  ·rw [List.concat_eq_append] at *
   obtain ⟨pb,px,Hw',rfl,hpx,rfl,hw'⟩ := h2.snoc
   obtain ⟨rb,_,_,ro,e0,rfl,hr1,hr2,hr3⟩ := h1.ne (by simp)
   cases e0
   have hn : n = ps'.length + 1 := by simpa using hr1.symm
   subst hn
   refine o_gtr rfl rfl rfl (r := true) (decide_eq_true (by omega)) ?_
   refine gn ?_
   refine WP.drawS [(w,cl (vw v sc nb q (.pointer (some ⟨sb,0,none⟩)) r) 356),(sb,cl [.slice (some ⟨rb,0,none⟩) (ps'.length + 1) c] 563),(rb,cl (ps' ++ [.pointer (some ⟨pb,0,none⟩)] ++ ro) 352)] ((b0,cl (tref nb') 100) :: (Hw' ++ [(pb,cl px 356)])) 24 mo (by decide +kernel) (prm rfl) ?_
   refine gn ?_
   refine o_indexAddrN (ik := .i64) ps'.length ps'.length (by omega) (by omega) rfl rfl (int_eq (by simp only [Int.ofNat_eq_natCast]; omega)) ?_
   refine o_load1 (v := .pointer (some ⟨pb,0,none⟩)) rfl rfl (by simp) ?_
   refine gn ?_
   refine o_sliceH (ik := .i64) (j := ps'.length) rfl rfl (int_eq (by simp only [Int.ofNat_eq_natCast]; omega)) (by omega) ?_
   refine gn ?_
   refine ⟨[],_,spp,?_⟩
   refine gn ?_
   haveI := SetS.full (xs := px) (vs := vw v sc nb q (.pointer (some ⟨sb,0,none⟩)) r) hpx
   refine o_storeA rfl rfl rfl rfl (al1 rfl) ?_
   refine gn ?_
   refine fk1 (A := (w,cl (vw v sc nb q (.pointer (some ⟨sb,0,none⟩)) r) 356) :: (pb,cl (vw v sc nb' q (.pointer (some ⟨sb,0,none⟩)) r) 356) :: (sb,cl [.slice (some ⟨rb,0,none⟩) ps'.length c] 563) :: ([(rb,cl (ps' ++ [.pointer (some ⟨pb,0,none⟩)] ++ ro) 352)] ++ Hw')) ?_
   refine ⟨pb,_,_,rfl,rfl,rfl,.inr ⟨sb,_,ps',[_],Hw',rfl,rfl,?_,hw',?_⟩,⟨_,rfl⟩,fun _ => rfl⟩
   ·rw [List.append_assoc]
    exact .row rb _ c _ _ (by omega) (by simp; omega) (by omega)
   ·simp at h3; omega
theorem f348 (w w' sb sc nb B : Nat) (v r : Value) (q : Bool) (ys : List Value) (Hs : Hp) (hs : SP 356 352 563 11 B (.pointer (some ⟨sb,0,none⟩)) Hs) (hB : B ≤ 68719476736) (hy : ys.length = 11) :
  Tr Tryz.prog 348 #[.pointer (some ⟨w,0,none⟩),.pointer (some ⟨w',0,none⟩)] Z ((w,cl (vw v sc nb q (.pointer (some ⟨sb,0,none⟩)) r) 356) :: (w',cl ys 356) :: Hs) fun _x Z' H' => ∃ Hs',Z = Z' ∧ H' = (w,cl (vw v sc nb q (.pointer (some ⟨sb,0,none⟩)) r) 356) :: Hs' ∧ SP 356 352 563 11 (B + 1) (.pointer (some ⟨sb,0,none⟩)) Hs' := by
 refine Tr.introk Tryz.func348 rfl Tryz.ntmps348 Tryz.results348 rfl ?_
 rcases hs with ⟨h,_⟩ | ⟨_,sv,ps,Hr,Hw,h,rfl,h1,h2,h3⟩
 ·cases h
 cases h
 refine WP.drawS [(w,cl (vw v sc nb q (.pointer (some ⟨sb,0,none⟩)) r) 356),(sb,cl [sv] 563)] ((w',cl ys 356) :: (Hr ++ Hw)) 13 mo (by decide +kernel) (prm rfl) ?_
 haveI := h1.one
 refine gn ?_; intro b1
 refine oap (ds := [.pointer (some ⟨w',0,none⟩)]) h1 rfl rfl rfl (Rs.cells (inferInstance : Mem _ Z _ _ b1 (cl _ 352)) rfl (Nat.le_refl 1)) (by simp [Value.oneCell']) (by omega) (by simp; omega) ?_
 intro sv' Hr' h1'
 haveI := h1'.one
 refine r_two [] ?_
 refine gn ?_
 refine fk0 (A := (w,cl (vw v sc nb q (.pointer (some ⟨sb,0,none⟩)) r) 356) :: (sb,cl [sv'] 563) :: (Hr' ++ (Hw ++ [(w',cl ys 356)]))) ⟨_,rfl,rfl,.inr ⟨sb,sv',_,Hr',_,rfl,rfl,h1',h2.add hy,by simp; omega⟩⟩
end
end Go.Ux
namespace Go.Ux
open Go Go.Proofs
set_option maxRecDepth 20000
attribute [local irreducible] WP Tr
section
variable {Z : Fz}
theorem f361 (b off n c j U : Nat) (xs : List Value) (u r : Value) [Zf Z b (cl xs U)] [One u] (hj : j < n) (hx : xs[off + j * 1]? = some u) :
  Gr Tryz.prog 361 #[.slice (some ⟨b,off,none⟩) n c,.iface 261 r,.int .i64 j] Z fun v Z' => ∃ a,v = .iface 301 (.pointer (some ⟨a,0,none⟩)) ∧ Z' a = some (cl [u] 358) := by
 refine Gr.intro Tryz.func361 rfl Tryz.ntmps361 Tryz.results361 rfl ?_
 refine gn ?_
 refine WP.draw [] [] [0,2,3,4,5,1,6,7] mo (by decide +kernel) (prm rfl) ?_
 refine gn ?_
 refine o_indexAddr (j := j) rfl rfl rfl hj ?_
 refine o_load1 (v := u) rfl rfl hx ?_
 refine ci (args := []) (f118 r Z) ?_
 rintro _ _ _ _ ⟨a,rfl,rfl,rfl⟩
 refine ct (f119 a .nilIface u Z (One.h (v := u)).1 (One.h (v := u)).2) ?_
 rintro _ _ _ _ ⟨rfl,rfl,rfl⟩
 refine gn ?_
 exact fin1 fun Z' hz hp => ⟨a,rfl,fzat a hp⟩
theorem f344 (w sb sc nb b B : Nat) (q : Bool) (sp r u : Value) (Hs : Hp) (hz : Z b = some (cl [u] 358)) (hu : ScV u) (hs : Z sb = some (cl [.string stU] 291)) (hsp : SP 356 352 563 11 B sp Hs) :
  Tr Tryz.prog 344 #[.pointer (some ⟨w,0,none⟩),.pointer (some ⟨sb,0,none⟩)] Z ((w,cl (vw (.iface 301 (.pointer (some ⟨b,0,none⟩))) sc nb q sp r) 356) :: Hs) fun v _Z' H' => v = .slice none 0 0 ∧ ∃ sp' Hs',H' = (w,cl (vw (.iface 301 (.pointer (some ⟨b,0,none⟩))) sc nb q sp' r) 356) :: Hs' ∧ SP 356 352 563 11 B sp' Hs' ∧ ((∃ b,sp = .pointer (some ⟨b,0,none⟩)) → sp' = sp) := by
 haveI := hsp.one
 refine Tr.introk Tryz.func344 rfl Tryz.ntmps344 Tryz.results344 rfl ?_
 refine gn ?_
 refine cp (f304 _ b u hz hu hs) ?_
 rintro _ rfl
 refine gn ?_
 exact fk1 (A := (w,cl (vw (.iface 301 (.pointer (some ⟨b,0,none⟩))) sc nb q sp r) 356) :: Hs) ⟨rfl,sp,Hs,rfl,hsp,fun _ => rfl⟩
end
end Go.Ux
namespace Go.Ux
open Go Go.Proofs
set_option maxRecDepth 20000
attribute [local irreducible] WP Tr
abbrev pt (b : Nat) : Value := .pointer (some ⟨b,0,none⟩)
abbrev vv (b : Nat) : Value := .iface 301 (.pointer (some ⟨b,0,none⟩))
abbrev SPv (B : Nat) : Value → Hp → Prop := SP 356 352 563 11 B
def V149 (N : Nat) : Prop := ∀ (t : Tv) (Z : Fz) (w sc nb a B : Nat) (k q : Bool) (u sp r : Value) (Hs : Hp),t.sz < N → N ≤ B → B ≤ 68719476736 → (∀ k,∃ sb lb mb eb ab,Ty1 Z sc k sb lb mb eb ab) → Z nb = some (cl [.string (nmK k)] 9) → Z a = some (cl [u] 358) → AV Z t u → SPv B sp Hs →
 Tr Tryz.prog 149 #[pt w,.nilFunc] Z ((w,cl (vw (vv a) sc nb q sp r) 356) :: Hs) fun v _Z' H' => v = .slice none 0 0 ∧ ∃ sp' Hs',H' = (w,cl (vw (vv a) sc nb q sp' r) 356) :: Hs' ∧ SPv B sp' Hs' ∧ ((∃ b,sp = pt b) → sp' = sp)
section
variable {P : Program} {n : Nat} {all : Array Oper} {dr : Bool} {Pin : Hp} {K : Fr → Fz → Hp → Prop} {rest : List Oper} {l : List Lay} {D : List Deferred} {Z : Fz} {H : Hp}
variable {d : Tmp} {ty : TypeId} {pos : String} {af : Array Edge} {gd : Option (Nat × Bool)} {x y : Operand}
theorem o_tref0 {b : Nat} (hg : okO n all ⟨l,D⟩ ⟨some d,.binOp .eql 100 x y 100,ty,pos,af,gd⟩ = true) (hx : ev ⟨l,D⟩ x = .agg (tref b).toArray) (hy : ev ⟨l,D⟩ y = .agg #[.pointer none,.pointer none,.pointer none,.pointer none,.pointer none,.bool false])
  (h : Rg Tryz.prog n all dr Pin K rest ⟨.s d (.bool false) :: l,D⟩ Z H) : Rg Tryz.prog n all dr Pin K (⟨some d,.binOp .eql 100 x y 100,ty,pos,af,gd⟩ :: rest) ⟨l,D⟩ Z H := by
 refine o_bin hg (fun w _ => ?_) h
 rw [hx,hy]
 kernel_rfl
end
section
variable {Z : Fz}
set_option maxHeartbeats 4000000 in
theorem f349 {N : Nat} (ih : V149 N) (t : Tv) (w sc nb a B sb lb mb eb ab b2 b3 b4 : Nat) (kt q : Bool) (key : ByteArray) (u sp r v : Value) [One v] (Hs : Hp) (ht : t.sz < N) (hN : N ≤ B) (hB : B ≤ 68719476736) (hty : ∀ k,∃ sb lb mb eb ab,Ty1 Z sc k sb lb mb eb ab)
  (h1 : Ty1 Z sc kt sb lb mb eb ab) (ha : Z a = some (cl [u] 358)) (hu : AV Z t u) (hs : SPv (B + 1) sp Hs) :
  Tr Tryz.prog 349 #[.string key,vv a,pt b2,pt b3,pt b4] Z ((b2,cl [pt mb] 95) :: (b3,cl [.slice none 0 0] 229) :: (b4,cl [pt w] 352) :: (w,cl (vw v sc nb q sp r) 356) :: Hs) fun x _Z' H' => x = .bool true ∧ ∃ sp' Hs',H' = (b2,cl [pt mb] 95) :: (b3,cl [.slice none 0 0] 229) :: (b4,cl [pt w] 352) :: (w,cl (vw v sc nb q sp' r) 356) :: Hs' ∧ SPv (B + 1) sp' Hs' ∧ ((∃ b,sp = pt b) → sp' = sp) := by
 obtain ⟨rel,hm⟩ := h1.m
 haveI : Zf Z mb _ := ⟨.of (hm)⟩
 haveI := hs.one
 refine Tr.introk Tryz.func349 rfl Tryz.ntmps349 Tryz.results349 rfl ?_
 refine gn ?_; intro b8
 refine gn ?_
 refine cp (f132g eb rel hm key) ?_
 rintro _ rfl
 refine gn ?_; intro b9
 refine gn ?_
 refine o_tref0 rfl rfl rfl ?_
 refine gn ?_
 refine ct (f347 w sc nb eb B v sp r q Hs hs hB) ?_
 rintro _ _ _ _ ⟨w',sp',Hs',rfl,rfl,rfl,hs',⟨sb',rfl⟩,hk⟩
 refine gn ?_
 refine WP.only ((b3,cl [.slice none 0 0] 229) :: (w',cl (vw (vv a) sc eb q (pt sb') r) 356) :: (w,cl (vw v sc nb q (pt sb') r) 356) :: (b2,cl [pt mb] 95) :: (b4,cl [pt w] 352) :: Hs') ?_
 refine WP.drawS [(b3,cl [.slice none 0 0] 229)] ((w',cl (vw (vv a) sc eb q (pt sb') r) 356) :: (w,cl (vw v sc nb q (pt sb') r) 356) :: (b2,cl [pt mb] 95) :: (b4,cl [pt w] 352) :: Hs') 4 mo (by decide +kernel) (prm rfl) ?_
 refine gn ?_
 refine ct (ih t Z w' sc eb a B kt q u (pt sb') r Hs' ht hN hB hty h1.e ha hu hs') ?_
 rintro _ Z₁ _ hz ⟨rfl,sp'',Hs'',rfl,hs'',hk'⟩
 cases hk' ⟨_,rfl⟩
 refine o_apnil (k := 2) rfl rfl rfl ?_
 refine r_two [] ?_
 refine gn ?_
 refine ct (f348 w w' sb' sc nb B v r q (vw (vv a) sc eb q (pt sb') r) Hs'' hs'' hB rfl) ?_
 rintro _ _ _ _ ⟨Hs₃,rfl,rfl,hs₃⟩
 refine gn ?_
 refine fk1 (A := (b2,cl [pt mb] 95) :: (b3,cl [.slice none 0 0] 229) :: (b4,cl [pt w] 352) :: (w,cl (vw v sc nb q (pt sb') r) 356) :: Hs₃) ⟨rfl,_,_,rfl,hs₃,hk⟩
set_option maxHeartbeats 4000000 in
theorem f346 {N : Nat} (ih : V149 N) (l : List (ByteArray × Tv)) (m w sc nb B sb lb mb eb ab : Nat) (kt q : Bool) (sp r v : Value) [One v] (Hs : Hp) (ht : szM l < N) (hN : N ≤ B) (hB : B ≤ 68719476736) (hty : ∀ k,∃ sb lb mb eb ab,Ty1 Z sc k sb lb mb eb ab)
  (h1 : Ty1 Z sc kt sb lb mb eb ab) (hm : MP Z l m) (hs : SPv (B + 1) sp Hs) :
  Tr Tryz.prog 346 #[pt w,pt mb,.iface 505 (.map (some m))] Z ((w,cl (vw v sc nb q sp r) 356) :: Hs) fun x _Z' H' => x = .slice none 0 0 ∧ ∃ sp' Hs',H' = (w,cl (vw v sc nb q sp' r) 356) :: Hs' ∧ SPv (B + 1) sp' Hs' ∧ ((∃ b,sp = pt b) → sp' = sp) := by
 haveI := hs.one
 refine Tr.introk Tryz.func346 rfl Tryz.ntmps346 Tryz.results346 rfl ?_
 refine gn ?_; intro b3
 refine gn ?_; intro b4
 refine gn ?_; intro b6
 refine gn ?_
 refine WP.drawS [(b3,cl [pt w] 352),(w,cl (vw v sc nb q sp r) 356)] ((b4,cl [pt mb] 95) :: (b6,cl [.slice none 0 0] 229) :: Hs) 9 mo (by decide +kernel) (prm rfl) ?_
 refine gn ?_
 refine o_nilCheckM rfl rfl ?_
 refine gn ?_
 obtain ⟨es,c,es',hz,hst,hp,hav⟩ := hm
 haveI : Zf Z m _ := ⟨.of (hz)⟩
 refine ⟨[],_,spp,?_⟩
 refine ci (args := [.iface 261 r,.func (.func 349) #[] #[pt b4,pt b6,pt b3]]) (f376T m c es r 349 [] [pt b4,pt b6,pt b3] Z ((b4,cl [pt mb] 95) :: (b6,cl [.slice none 0 0] 229) :: (b3,cl [pt w] 352) :: (w,cl (vw v sc nb q sp r) 356) :: Hs) hst
  (fun e he => by obtain ⟨t,_,h⟩ := hav.lk e (hp.mem_iff.1 he); exact ⟨h.cells,h.cell1⟩)
  (fun done Z' H' => ∃ sp' Hs',H' = (b4,cl [pt mb] 95) :: (b6,cl [.slice none 0 0] 229) :: (b3,cl [pt w] 352) :: (w,cl (vw v sc nb q sp' r) 356) :: Hs' ∧ SPv (B + 1) sp' Hs' ∧ ((∃ b,sp = pt b) → sp' = sp)) ⟨sp,Hs,rfl,hs,fun _ => rfl⟩ ?cb) ?_
 case cb =>
  rintro done e Z₁ H₁ b hz he _ _ ⟨sp',Hs',rfl,hs',hk⟩ hb
  obtain ⟨t,ht',hv⟩ := hav.lk e (hp.mem_iff.1 he)
  have hz' : Fz.le Z (Z₁.add b (cl [e.v] 358)) := hz.trans (Fz.le_add hb)
  refine Tr.mono (f349 ih t w sc nb b B sb lb mb eb ab b4 b6 b3 kt q e.k e.v sp' r v Hs' (Nat.lt_of_le_of_lt (sz_memM ht') ht) hN hB (fun k => by obtain ⟨_,_,_,_,_,h⟩ := hty k; exact ⟨_,_,_,_,_,h.mono hz'⟩) (h1.mono hz') Fz.add_at (hv.mono hz') hs') ?_
  rintro _ Z₂ _ ⟨rfl,sp'',Hs'',rfl,hs'',hk'⟩
  exact ⟨rfl,sp'',Hs'',rfl,hs'',fun h => by obtain ⟨b,h'⟩ := h; rw [hk' ⟨b,(hk ⟨b,h'⟩).trans h'⟩]; exact hk ⟨b,h'⟩⟩
 rintro _ Z₁ _ hz₁ ⟨rfl,done,hd,sp',Hs',rfl,hs',hk⟩
 refine gn ?_
 exact fkS (A := (w,cl (vw v sc nb q sp' r) 356) :: Hs') rfl rfl ⟨rfl,sp',Hs',rfl,hs',hk⟩
theorem f343_n {_N : Nat} (w sc nb B mb a : Nat) (q : Bool) (sp r : Value) (Hs : Hp) (ha : Z a = some (cl [.nilIface] 358)) (hs : SPv B sp Hs) :
  Tr Tryz.prog 343 #[pt w,pt mb] Z ((w,cl (vw (vv a) sc nb q sp r) 356) :: Hs) fun x _Z' H' => x = .slice none 0 0 ∧ ∃ sp' Hs',H' = (w,cl (vw (vv a) sc nb q sp' r) 356) :: Hs' ∧ SPv B sp' Hs' ∧ ((∃ b,sp = pt b) → sp' = sp) := by
 haveI := hs.one
 refine Tr.introk Tryz.func343 rfl Tryz.ntmps343 Tryz.results343 rfl ?_
 refine gn ?_
 refine WP.drawA mo (by decide +kernel) ?_
 refine gn ?_
 refine cp (f239_n r a ha) ?_
 rintro _ rfl
 refine gn ?_
 exact fk1 (A := (w,cl (vw (vv a) sc nb q sp r) 356) :: Hs) ⟨rfl,sp,Hs,rfl,hs,fun _ => rfl⟩
theorem f343 {N : Nat} (ih : V149 N) (l : List (ByteArray × Tv)) (m w sc nb B sb lb mb eb ab a : Nat) (kt q : Bool) (sp r : Value) (Hs : Hp) (ht : szM l < N) (hN : N ≤ B) (hB : B ≤ 68719476736) (hty : ∀ k,∃ sb lb mb eb ab,Ty1 Z sc k sb lb mb eb ab)
  (h1 : Ty1 Z sc kt sb lb mb eb ab) (ha : Z a = some (cl [.iface 198 (.map (some m))] 358)) (hm : MP Z l m) (hs : SPv (B + 1) sp Hs) :
  Tr Tryz.prog 343 #[pt w,pt mb] Z ((w,cl (vw (vv a) sc nb q sp r) 356) :: Hs) fun x _Z' H' => x = .slice none 0 0 ∧ ∃ sp' Hs',H' = (w,cl (vw (vv a) sc nb q sp' r) 356) :: Hs' ∧ SPv (B + 1) sp' Hs' ∧ ((∃ b,sp = pt b) → sp' = sp) := by
 haveI := hs.one
 refine Tr.introk Tryz.func343 rfl Tryz.ntmps343 Tryz.results343 rfl ?_
 refine gn ?_
 refine WP.drawA mo (by decide +kernel) ?_
 refine gn ?_
 refine cp (f239 r a m ha) ?_
 rintro _ rfl
 refine gn ?_
 refine o_free rfl rfl ?_
 refine gn ?_
 refine ct (f346 ih l m w sc nb B sb lb mb eb ab kt q sp r (vv a) Hs ht hN hB hty h1 hm hs) ?_
 rintro _ Z₁ _ hz ⟨rfl,sp',Hs',rfl,hs',hk⟩
 refine gn ?_
 refine fin_free ?_
 exact fk1 (A := (w,cl (vw (vv a) sc nb q sp' r) 356) :: Hs') ⟨rfl,sp',Hs',rfl,hs',hk⟩
end
end Go.Ux
namespace Go.Ux
open Go Go.Proofs
set_option maxRecDepth 20000
attribute [local irreducible] WP Tr
theorem Tv.sz_pos : ∀ t : Tv,1 ≤ t.sz
 | .null => by simp [Tv.sz]
 | .sc _ => by simp [Tv.sz]
 | .li _ _ => by simp [Tv.sz]
 | .mp _ => by simp [Tv.sz]
theorem len_szL : ∀ ts : List Tv,ts.length ≤ szL ts
 | [] => by simp [szL]
 | t :: ts => by have := len_szL ts; have := t.sz_pos; simp [szL]; omega
section
variable {Z : Fz}
theorem f241 (c : Nat) (hc : c ≤ 137438953472) : Tr Tryz.prog 241 #[.int .i64 (Int.ofNat c)] Z [] fun v Z' H' => Z = Z' ∧ (∃ u,v = .agg #[u] ∧ One u) ∧ H' = [] := by
 refine Tr.introk Tryz.func241 rfl Tryz.ntmps241 Tryz.results241 rfl ?_
 refine gn ?_; intro b2
 refine gn ?_
 refine o_makeSlice0 (k := 4) rfl rfl hc ?_
 intro v H' hv
 haveI := hv.one
 refine gn ?_
 refine o_storeA (vs := [v]) rfl rfl rfl rfl (al1 rfl) ?_
 refine gn ?_
 exact fkC (A := []) rfl ⟨rfl,⟨v,rfl,inferInstance⟩,rfl⟩
set_option maxHeartbeats 4000000 in
theorem f345 {N : Nat} (ih : V149 N) (ts : List Tv) (s : Value) (n : Nat) (vs : List Value) (w sc nb B sb lb mb eb ab : Nat) (kt q : Bool) (sp r v : Value) [One v] (Hs : Hp) (ht : szL ts < N) (hN : N ≤ B) (hB : B ≤ 68719476736) (hty : ∀ k,∃ sb lb mb eb ab,Ty1 Z sc k sb lb mb eb ab)
  (h1 : Ty1 Z sc kt sb lb mb eb ab) (hr : Rs (inZ Z) 1 s n vs) (ha : AVs Z ts vs) (hs : SPv (B + 1) sp Hs) :
  Tr Tryz.prog 345 #[pt w,pt lb,.iface 504 s] Z ((w,cl (vw v sc nb q sp r) 356) :: Hs) fun x _Z' H' => x = .slice none 0 0 ∧ ∃ sp' Hs',H' = (w,cl (vw v sc nb q sp' r) 356) :: Hs' ∧ SPv (B + 1) sp' Hs' ∧ ((∃ b,sp = pt b) → sp' = sp) := by
 haveI := hs.one
 refine Tr.introk Tryz.func345 rfl Tryz.ntmps345 Tryz.results345 rfl ?_
 obtain ⟨oa,c,rfl,hl⟩ : ∃ oa c,s = .slice oa n c ∧ vs.length = n := by
  cases hr with
  | nil c => exact ⟨none,c,rfl,rfl⟩
  | emp => exact ⟨_,_,rfl,rfl⟩
  | row b off n c U xs ds h hd hl hn => exact ⟨_,c,rfl,by omega⟩
 have hn36 : n ≤ 68719476736 := by have := ha.len; have := len_szL ts; omega
 refine gn ?_
 refine cip (args := []) (f364 oa n c Z) ?_
 rintro _ rfl
 refine ct (f241 n (by have := ha.len; have := len_szL ts; omega)) ?_
 rintro _ _ _ _ ⟨rfl,⟨v7,rfl,hv7⟩,rfl⟩
 refine gn ?_; intro b7
 refine o_storeA (vs := [v7]) rfl rfl rfl rfl (al1 rfl) ?_
 refine gn ?_; intro b8
 refine gn ?_
 refine WP.only ((b8,cl [.int .i64 (Int.ofNat 0)] 3) :: (w,cl (vw v sc nb q sp r) 356) :: Hs) ?_
 refine WP.loopD (6 :: 8 :: 9 :: 10 :: 11 :: 12 :: List.range' 16 78) (fun k D' g Z' H' => ∃ i b8 sp' Hs',k = n - i ∧ i ≤ n ∧ Frs [] D' ∧ g 6 = .slice none 0 0 ∧ g 8 = pt b8 ∧ H' = (b8,cl [.int .i64 (Int.ofNat i)] 3) :: (w,cl (vw v sc nb q sp' r) 356) :: Hs' ∧ SPv (B + 1) sp' Hs' ∧ ((∃ b,sp = pt b) → sp' = sp)) n ⟨0,b8,sp,Hs,by omega,by omega,.nil,rfl,rfl,rfl,hs,fun _ => rfl⟩ ?_
 rintro k D' g Z' H' hz ⟨i,c8,sp',Hs',rfl,hi,hD,h6,h8,rfl,hs',hk⟩
 haveI := hs'.one
 refine WP.pin 6 h6 ?_
 refine WP.pin 8 h8 ?_
 refine gn ?_
 refine WP.drawA mo (by decide +kernel) ?_
 refine gn ?_
 refine cip (args := []) (f364 oa n c Z') ?_
 rintro _ rfl
 refine o_lss rfl rfl rfl (r := decide (i < n)) (by simp) ?_
 by_cases hin : i < n
 ·rw [decide_eq_true hin]
  refine gn ?_
  obtain ⟨b,off,U,xs,rfl,hxs,hget⟩ : ∃ b off U xs,oa = some ⟨b,off,none⟩ ∧ Z b = some (cl xs U) ∧ ∀ j,j < n → xs[off + j * 1]? = vs[j]? := by
   cases hr with
   | nil c => omega
   | emp => omega
   | row b off n c U xs ds h hd hl hn =>
    refine ⟨b,off,U,xs,rfl,h,fun j hj => ?_⟩
    subst hd
    rw [List.getElem?_take,List.getElem?_drop,if_pos (by omega)]; simp
  obtain ⟨t,u,k1,k2,k3⟩ := ha.at (j := i) (by omega)
  haveI : Zf Z' b _ := ⟨.of (hz _ _ hxs)⟩
  haveI : One u := ⟨k3.cells,k3.cell1⟩
  refine WP.drawA mo (by decide +kernel) ?_
  refine gn ?_
  refine cig (args := [.iface 261 r,.int .i64 i]) (f361 (Z := Z') b off n c i U xs u r hin (by rw [hget i hin,k1])) ?_
  rintro _ Z₂ hz₂ ⟨a,rfl,hza⟩
  refine gn ?_
  refine o_free rfl rfl ?_
  have hz3 : Fz.le Z Z₂ := hz.trans hz₂
  haveI : Zf Z₂ lb _ := ⟨.of (hz3 _ _ h1.l)⟩
  refine gn ?_; intro b10
  refine gn ?_
  refine o_nes rfl rfl rfl (r := true) (by decide +kernel) ?_
  refine gn ?_
  refine ct (f347 w sc nb ab B v sp' r q Hs' hs' hB) ?_
  rintro _ _ _ _ ⟨w',sp₂,Hs₂,rfl,rfl,rfl,hs₂,⟨sb',rfl⟩,hk₂⟩
  refine gn ?_
  refine ct (ih t Z₂ w' sc ab a B false q u (pt sb') r Hs₂ (Nat.lt_of_le_of_lt (sz_memL (List.mem_of_getElem? k2)) ht) hN hB (fun k => by obtain ⟨_,_,_,_,_,h⟩ := hty k; exact ⟨_,_,_,_,_,h.mono hz3⟩) (hz3 _ _ h1.a) hza (k3.mono hz3) hs₂) ?_
  rintro _ Z₃ _ hz₃ ⟨rfl,sp₃,Hs₃,rfl,hs₃,hk₃⟩
  cases hk₃ ⟨_,rfl⟩
  refine o_apnil (k := 2) rfl rfl rfl ?_
  refine gn ?_
  refine ct (f348 w w' sb' sc nb B v r q (vw (vv a) sc ab q (pt sb') r) Hs₃ hs₃ hB rfl) ?_
  rintro _ _ _ _ ⟨Hs₄,rfl,rfl,hs₄⟩
  refine gn ?_; intro b9
  refine gn ?_
  refine o_add rfl rfl rfl (by simp only [Int.ofNat_eq_natCast]; omega) (by simp only [Int.ofNat_eq_natCast]; omega) ?_
  refine gn ?_
  exact ⟨bk,n - (i + 1),(b9,cl [.int .i64 (Int.ofNat i + 1)] 3) :: (w,cl (vw v sc nb q (pt sb') r) 356) :: Hs₄,_,by omega,spp,i + 1,b9,pt sb',Hs₄,rfl,by omega,.cons _ _ hD,rfl,rfl,rfl,hs₄,fun ⟨b',h'⟩ => (hk₂ ⟨b',(hk ⟨b',h'⟩).trans h'⟩).trans (hk ⟨b',h'⟩)⟩
 ·rw [decide_eq_false hin]
  refine gd ?_
  refine q_dret ?_
  refine fin_frees hD ?_
  exact fk1 (A := (w,cl (vw v sc nb q sp' r) 356) :: Hs') ⟨rfl,sp',Hs',rfl,hs',hk⟩
theorem f342 {N : Nat} (ih : V149 N) (ts : List Tv) (s : Value) (n : Nat) (vs : List Value) (w sc nb B sb lb mb eb ab a : Nat) (kt q : Bool) (sp r : Value) (Hs : Hp) (ht : szL ts < N) (hN : N ≤ B) (hB : B ≤ 68719476736) (hty : ∀ k,∃ sb lb mb eb ab,Ty1 Z sc k sb lb mb eb ab)
  (h1 : Ty1 Z sc kt sb lb mb eb ab) (ha : Z a = some (cl [.iface 197 s] 358)) (hr : Rs (inZ Z) 1 s n vs) (hv : AVs Z ts vs) (hs : SPv (B + 1) sp Hs) :
  Tr Tryz.prog 342 #[pt w,pt lb] Z ((w,cl (vw (vv a) sc nb q sp r) 356) :: Hs) fun x _Z' H' => x = .slice none 0 0 ∧ ∃ sp' Hs',H' = (w,cl (vw (vv a) sc nb q sp' r) 356) :: Hs' ∧ SPv (B + 1) sp' Hs' ∧ ((∃ b,sp = pt b) → sp' = sp) := by
 haveI := hs.one
 refine Tr.introk Tryz.func342 rfl Tryz.ntmps342 Tryz.results342 rfl ?_
 refine gn ?_
 refine WP.drawA mo (by decide +kernel) ?_
 refine gn ?_
 refine cp (f237 r s a ha) ?_
 rintro _ rfl
 refine gn ?_
 refine o_free rfl rfl ?_
 refine gn ?_
 refine ct (f345 ih ts s n vs w sc nb B sb lb mb eb ab kt q sp r (vv a) Hs ht hN hB hty h1 hr hv hs) ?_
 rintro _ Z₁ _ hz ⟨rfl,sp',Hs',rfl,hs',hk⟩
 refine gn ?_
 refine fin_free ?_
 exact fk1 (A := (w,cl (vw (vv a) sc nb q sp' r) 356) :: Hs') ⟨rfl,sp',Hs',rfl,hs',hk⟩
set_option maxHeartbeats 1000000 in
theorem f149 : ∀ N,V149 N
 | 0 => fun t Z w sc nb a B k q u sp r Hs ht => by omega
 | N + 1 => by
  intro t Z w sc nb a B k q u sp r Hs ht hN hB hty hnb ha hu hs
  obtain ⟨sb,lb,mb,eb,ab,h1⟩ := hty k
  obtain ⟨B,rfl⟩ : ∃ B',B = B' + 1 := ⟨B - 1,by omega⟩
  haveI := hs.one
  have ih := f149 N
  have key : Tr Tryz.prog 129 #[.pointer (some ⟨sc,0,none⟩),.agg (tref nb).toArray,vv a,.iface 352 (pt w)] Z ((w,cl (vw (vv a) sc nb q sp r) 356) :: Hs) fun v Z' H' => v = .slice none 0 0 ∧ ∃ sp' Hs',H' = (w,cl (vw (vv a) sc nb q sp' r) 356) :: Hs' ∧ SPv (B + 1) sp' Hs' ∧ ((∃ b,sp = pt b) → sp' = sp) := by
   refine f129g _ (some t) (vv a) rfl (h1.r Z (.refl Z) nb hnb) (.some ⟨a,u,rfl,ha,hu⟩) ?_
   cases t with
   | null =>
    simp only [AV] at hu; subst hu
    exact f159_mp _ (.inr rfl) (f343_n (_N := N) w sc nb (B + 1) mb a q sp r Hs ha hs)
   | sc x =>
    simp only [AV] at hu; obtain ⟨rfl,hx⟩ := hu
    exact f159_sc (f344 w sb sc nb a (B + 1) q sp r _ Hs ha hx h1.s hs)
   | li x ts =>
    simp only [AV] at hu; obtain ⟨rfl,s,n,vs,rfl,_,h3,h4⟩ := hu
    exact f159_li (f342 ih ts s n vs w sc nb B sb lb mb eb ab a k q sp r Hs (by simp only [Tv.sz] at ht; omega) (by omega) (by omega) hty h1 ha (h3.mono fun _ _ h => h.1) h4 hs)
   | mp l =>
    simp only [AV] at hu; obtain ⟨m,es,c,es',rfl,h2,h3,h4,h5⟩ := hu
    exact f159_mp _ (.inl rfl) (f343 ih l m w sc nb B sb lb mb eb ab a k q sp r Hs (by simp only [Tv.sz] at ht; omega) (by omega) (by omega) hty h1 ha ⟨es,c,es',h2,h3,h4,h5⟩ hs)
  refine Tr.introk Tryz.func149 rfl Tryz.ntmps149 Tryz.results149 rfl ?_
  refine gn ?_
  refine WP.draw3 [(w,cl (vw (vv a) sc nb q sp r) 356)] Hs [0,1,2,3,4,5,6,7,8,9,10,11,12,13,15] [14,16,17] mo (by decide +kernel) (prm rfl) ?_
  refine gn ?_
  refine ⟨[],_,spp,?_⟩
  refine ct (args := [.pointer (some ⟨sc,0,none⟩),.agg (tref nb).toArray,vv a,.iface 352 (pt w)]) key ?_
  rintro _ Z₁ _ hz ⟨rfl,sp',Hs',rfl,hs',hk⟩
  refine cp (f163 .nilFunc) ?_
  rintro _ rfl
  refine gn ?_
  exact fk1 (A := (w,cl (vw (vv a) sc nb q sp' r) 356) :: Hs') ⟨rfl,sp',Hs',rfl,hs',hk⟩
end
end Go.Ux
namespace Go.Ux
open Go Go.Proofs
set_option maxRecDepth 20000
attribute [local irreducible] WP Tr
abbrev tv (v : Value) (sc nb : Nat) : List Value := [v,.pointer (some ⟨nb,0,none⟩),.pointer none,.pointer none,.pointer none,.pointer none,.bool false,.pointer (some ⟨sc,0,none⟩)]
section
variable {Z : Fz}
theorem f147 (v : Value) [One v] (sc nb : Nat) : Tr Tryz.prog 147 #[.agg (tv v sc nb).toArray] Z [] fun x Z' H' => ∃ w r,x = pt w ∧ Z = Z' ∧ H' = [(w,cl (vw v sc nb false (.pointer none) r) 356)] := by
 refine Tr.introk Tryz.func147 rfl Tryz.ntmps147 Tryz.results147 rfl ?_
 refine gn ?_; intro b1
 refine gn ?_; intro b3
 refine gn ?_
 refine ct (f65 _) ?_
 rintro _ _ _ _ ⟨r,rfl,rfl,rfl⟩
 refine gn ?_
 exact fk1 (A := [(b3,cl (vw v sc nb false (.pointer none) (pt r)) 356)]) ⟨b3,_,rfl,rfl,rfl⟩
theorem d148 (w : Nat) (v : Value) (sc nb : Nat) (q : Bool) (sp r : Value) : TrD Tryz.prog 148 #[pt w] Z [(w,cl (vw v sc nb q sp r) 356)] fun Z' _ => Z = Z' := by
 refine TrD.intro0 Tryz.func148 rfl Tryz.ntmps148 Tryz.results148 rfl ?_
 refine gd ?_
 refine dq1 rfl
theorem f117 (t : Tv) (sc nb a : Nat) (k : Bool) (u : Value) (ht : t.sz ≤ 34359738368) (hty : ∀ k,∃ sb lb mb eb ab,Ty1 Z sc k sb lb mb eb ab) (hnb : Z nb = some (cl [.string (nmK k)] 9)) (ha : Z a = some (cl [u] 358)) (hu : AV Z t u) :
  Tr Tryz.prog 117 #[.agg (tv (vv a) sc nb).toArray,.slice none 0 0] Z [] fun x _Z' H' => x = .nilIface ∧ H' = [] := by
 refine Tr.introk Tryz.func117 rfl Tryz.ntmps117 Tryz.results117 rfl ?_
 refine gn ?_; intro b1
 refine gn ?_
 refine ct (f147 (vv a) sc nb) ?_
 rintro _ _ _ _ ⟨w,r,rfl,rfl,rfl⟩
 refine gn ?_
 refine WP.only [(w,cl (vw (vv a) sc nb false (.pointer none) r) 356)] ?_
 refine WP.loopM (7 :: List.range' 13 11) (fun k g Z' H' => g 13 = .int .i64 0 ∧ Z = Z' ∧ H' = [(w,cl (vw (vv a) sc nb false (.pointer none) r) 356)]) 0 ⟨rfl,rfl,rfl⟩ ?_
 rintro k' g Z' H' hz ⟨h13,rfl,rfl⟩
 refine WP.pin 13 h13 ?_
 refine gn ?_
 refine o_dfr (args := [pt w]) ?_
 refine gn ?_
 refine ct (f149 (t.sz + 1) t Z w sc nb a (t.sz + 1) k false u (.pointer none) r [] (by omega) (by omega) (by omega) hty hnb ha hu .nil) ?_
 rintro _ Z₁ _ hz₁ ⟨rfl,sp',Hs',rfl,hs',hk⟩
 refine gn ?_
 refine fin_dfr (d148 w (vv a) sc nb false sp' r) ?_
 rintro _ _ rfl
 exact fk1 (A := []) ⟨rfl,rfl⟩
end
end Go.Ux
namespace Go.Ux
open Go Go.Proofs
set_option maxRecDepth 20000
attribute [local irreducible] WP Tr
abbrev fw (v : Value) (sc nb : Nat) (sb : Nat) (pv sp r : Value) : List Value := [v,.pointer (some ⟨sc,0,none⟩),.pointer (some ⟨nb,0,none⟩),.pointer none,.pointer none,.pointer none,.pointer none,.bool false,.pointer (some ⟨sb,0,none⟩),pv,sp,.iface 261 r]
abbrev SPf (B : Nat) : Value → Hp → Prop := SP 233 226 475 12 B
theorem Sl.pop {e k n c : Nat} {a : Option Addr} {cs ds : List Value} {H : Hp} (h : Sl e k (.slice a (n + 1) c) (cs ++ ds) H) (hd : ds.length = k) (hk : 0 < k) : Sl e k (.slice a n c) cs H := by
 obtain ⟨b,n',c',rest,e1,rfl,h1,h2,h3⟩ := h.ne (by intro h0; have := congrArg List.length h0; rw [List.length_append,List.length_nil] at this; omega)
 cases e1
 rw [List.append_assoc]
 rw [List.length_append,Nat.add_mul] at h1
 refine .row b n c cs _ (by omega) ?_ (by omega)
 rw [List.length_append,h2,show c - n = (c - (n + 1)) + 1 by omega,Nat.add_mul]; omega
section
variable {Z : Fz}
set_option maxHeartbeats 1000000 in
theorem f243 (w sc nb nb' sb B kb : Nat) (v pv sp r : Value) (pcs : List Value) (Hq Hs : Hp) [One v] (hp : Sl 308 4 pv pcs Hq) (hn : pcs.length ≤ 68719476736) (hs : SPf (B + 1) sp Hs) (hB : B ≤ 68719476736) :
  Tr Tryz.prog 243 #[pt w,.agg (pe kb).toArray,.agg (tref nb').toArray] Z ((w,cl (fw v sc nb sb pv sp r) 233) :: (Hq ++ Hs)) fun x Z' H' => ∃ w' sp' pv' Hq' Hs',x = pt w' ∧ Z = Z' ∧ H' = (w,cl (fw v sc nb sb pv sp' r) 233) :: (w',cl (fw v sc nb' sb pv' sp' r) 233) :: (Hq' ++ Hs') ∧ Sl 308 4 pv' (pcs ++ pe kb) Hq' ∧ SPf B sp' Hs' ∧ (∃ b,sp' = pt b) ∧ ((∃ b,sp = pt b) → sp' = sp) := by
 refine Tr.introk Tryz.func243 rfl Tryz.ntmps243 Tryz.results243 rfl ?_
 haveI : One sp := hs.one
 obtain ⟨pa,pn,pc,rfl,hpl,hpc⟩ := hp.val
 refine gn ?_; intro b4
 refine gn ?_; intro b5
 rcases hs with ⟨rfl,rfl⟩ | ⟨sb',sv,ps,Hr,Hw,rfl,rfl,h1,h2,h3⟩
 ·refine gn ?_; intro b1
  refine gn ?_; intro b2
  refine gn ?_; intro b3
  refine gn ?_
  refine o_storeA rfl rfl rfl rfl (al1 rfl) ?_
  refine gn ?_
  refine WP.only ((w,cl (fw v sc nb sb (.slice pa pn pc) (.pointer (some ⟨b2,0,none⟩)) r) 233) :: (b3,cl (fw v sc nb' sb (.slice pa pn pc) (.pointer (some ⟨b2,0,none⟩)) r) 233) :: (b4,cl (pe kb) 308) :: (Hq ++ [(b2,cl [.slice (some ⟨b1,0,none⟩) 0 0] 475),(b1,cl [] 226)])) ?_
  refine WP.drawS [(b3,cl (fw v sc nb' sb (.slice pa pn pc) (.pointer (some ⟨b2,0,none⟩)) r) 233),(b4,cl (pe kb) 308)] ((w,cl (fw v sc nb sb (.slice pa pn pc) (.pointer (some ⟨b2,0,none⟩)) r) 233) :: (Hq ++ [(b2,cl [.slice (some ⟨b1,0,none⟩) 0 0] 475),(b1,cl [] 226)])) 8 mo (by decide +kernel) (prm rfl) ?_
  refine gn ?_; intro b6
  refine oap (ds := pe kb) hp rfl rfl rfl (Rs.cells (inferInstance : Mem _ Z _ _ b6 (cl _ 308)) rfl (Nat.le_refl 1)) (by simp [Value.oneCell']) (by omega) (by simp; omega) ?_
  intro pv' Hq' hp'
  haveI := hp'.one
  refine r_two [] ?_
  refine gn ?_
  refine fk1 (A := (w,cl (fw v sc nb sb (.slice pa pn pc) (.pointer (some ⟨b2,0,none⟩)) r) 233) :: (b3,cl (fw v sc nb' sb pv' (.pointer (some ⟨b2,0,none⟩)) r) 233) :: (Hq' ++ [(b2,cl [.slice (some ⟨b1,0,none⟩) 0 0] 475),(b1,cl [] 226)])) ?_
  exact ⟨b3,_,_,Hq',_,rfl,rfl,rfl,hp',.inr ⟨b2,_,[],[_],[],rfl,rfl,.row b1 0 0 [] [] rfl rfl (by omega),rfl,by simp⟩,⟨_,rfl⟩,fun ⟨_,h⟩ => by cases h⟩
 ·obtain ⟨oa,n,c,rfl,hcl,hnc⟩ := h1.val
  refine gn ?_
  rcases List.eq_nil_or_concat ps with rfl | ⟨ps',p,rfl⟩
  ·have hn : n = 0 := by simpa using hcl.symm
   subst hn
   refine gn ?_; intro b3
   refine gn ?_
   refine o_storeA rfl rfl rfl rfl (al1 rfl) ?_
   refine gn ?_
   refine WP.only ((w,cl (fw v sc nb sb (.slice pa pn pc) (.pointer (some ⟨sb',0,none⟩)) r) 233) :: (b3,cl (fw v sc nb' sb (.slice pa pn pc) (.pointer (some ⟨sb',0,none⟩)) r) 233) :: (b4,cl (pe kb) 308) :: (Hq ++ (sb',cl [.slice oa 0 c] 475) :: (Hr ++ Hw))) ?_
   refine WP.drawS [(b3,cl (fw v sc nb' sb (.slice pa pn pc) (.pointer (some ⟨sb',0,none⟩)) r) 233),(b4,cl (pe kb) 308)] ((w,cl (fw v sc nb sb (.slice pa pn pc) (.pointer (some ⟨sb',0,none⟩)) r) 233) :: (Hq ++ (sb',cl [.slice oa 0 c] 475) :: (Hr ++ Hw))) 8 mo (by decide +kernel) (prm rfl) ?_
   refine gn ?_; intro b6
   refine oap (ds := pe kb) hp rfl rfl rfl (Rs.cells (inferInstance : Mem _ Z _ _ b6 (cl _ 308)) rfl (Nat.le_refl 1)) (by simp [Value.oneCell']) (by omega) (by simp; omega) ?_
   intro pv' Hq' hp'
   haveI := hp'.one
   refine r_two [] ?_
   refine gn ?_
   refine fk1 (A := (w,cl (fw v sc nb sb (.slice pa pn pc) (.pointer (some ⟨sb',0,none⟩)) r) 233) :: (b3,cl (fw v sc nb' sb pv' (.pointer (some ⟨sb',0,none⟩)) r) 233) :: (Hq' ++ (sb',cl [.slice oa 0 c] 475) :: (Hr ++ Hw))) ?_
   exact ⟨b3,_,_,Hq',_,rfl,rfl,rfl,hp',.inr ⟨sb',_,[],Hr,Hw,rfl,rfl,h1,h2,by simp⟩,⟨_,rfl⟩,fun _ => rfl⟩
  ·rw [List.concat_eq_append] at *
   obtain ⟨pb,px,Hw',rfl,hpx,rfl,hw'⟩ := h2.snoc
   obtain ⟨rb,_,_,ro,e0,rfl,hr1,hr2,hr3⟩ := h1.ne (by simp)
   cases e0
   have hn : n = ps'.length + 1 := by simpa using hr1.symm
   subst hn
   refine o_gtr rfl rfl rfl (r := true) (decide_eq_true (by omega)) ?_
   refine gn ?_
   refine WP.drawS [(w,cl (fw v sc nb sb (.slice pa pn pc) (.pointer (some ⟨sb',0,none⟩)) r) 233),(sb',cl [.slice (some ⟨rb,0,none⟩) (ps'.length + 1) c] 475),(rb,cl (ps' ++ [.pointer (some ⟨pb,0,none⟩)] ++ ro) 226)] ((b4,cl (pe kb) 308) :: (b5,cl (tref nb') 100) :: (Hq ++ (Hw' ++ [(pb,cl px 233)]))) 24 mo (by decide +kernel) (prm rfl) ?_
   refine gn ?_
   refine o_indexAddrN (ik := .i64) ps'.length ps'.length (by omega) (by omega) rfl rfl (int_eq (by simp only [Int.ofNat_eq_natCast]; omega)) ?_
   refine o_load1 (v := .pointer (some ⟨pb,0,none⟩)) rfl rfl (by simp) ?_
   refine gn ?_
   refine o_sliceH (ik := .i64) (j := ps'.length) rfl rfl (int_eq (by simp only [Int.ofNat_eq_natCast]; omega)) (by omega) ?_
   refine gn ?_
   refine ⟨[],_,spp,?_⟩
   refine gn ?_
   haveI := SetS.full (xs := px) (vs := fw v sc nb sb (.slice pa pn pc) (.pointer (some ⟨sb',0,none⟩)) r) hpx
   refine o_storeA rfl rfl rfl rfl (al1 rfl) ?_
   refine gn ?_
   refine WP.only ((w,cl (fw v sc nb sb (.slice pa pn pc) (.pointer (some ⟨sb',0,none⟩)) r) 233) :: (pb,cl (fw v sc nb' sb (.slice pa pn pc) (.pointer (some ⟨sb',0,none⟩)) r) 233) :: (b4,cl (pe kb) 308) :: (Hq ++ (sb',cl [.slice (some ⟨rb,0,none⟩) ps'.length c] 475) :: ([(rb,cl (ps' ++ [.pointer (some ⟨pb,0,none⟩)] ++ ro) 226)] ++ Hw'))) ?_
   refine WP.drawS [(pb,cl (fw v sc nb' sb (.slice pa pn pc) (.pointer (some ⟨sb',0,none⟩)) r) 233),(b4,cl (pe kb) 308)] ((w,cl (fw v sc nb sb (.slice pa pn pc) (.pointer (some ⟨sb',0,none⟩)) r) 233) :: (Hq ++ (sb',cl [.slice (some ⟨rb,0,none⟩) ps'.length c] 475) :: ([(rb,cl (ps' ++ [.pointer (some ⟨pb,0,none⟩)] ++ ro) 226)] ++ Hw'))) 8 mo (by decide +kernel) (prm rfl) ?_
   refine gn ?_; intro b6
   refine oap (ds := pe kb) hp rfl rfl rfl (Rs.cells (inferInstance : Mem _ Z _ _ b6 (cl _ 308)) rfl (Nat.le_refl 1)) (by simp [Value.oneCell']) (by omega) (by simp; omega) ?_
   intro pv' Hq' hp'
   haveI := hp'.one
   refine r_two [] ?_
   refine gn ?_
   refine fk1 (A := (w,cl (fw v sc nb sb (.slice pa pn pc) (.pointer (some ⟨sb',0,none⟩)) r) 233) :: (pb,cl (fw v sc nb' sb pv' (.pointer (some ⟨sb',0,none⟩)) r) 233) :: (Hq' ++ (sb',cl [.slice (some ⟨rb,0,none⟩) ps'.length c] 475) :: ([(rb,cl (ps' ++ [.pointer (some ⟨pb,0,none⟩)] ++ ro) 226)] ++ Hw'))) ?_
   exact ⟨pb,_,_,Hq',_,rfl,rfl,rfl,hp',.inr ⟨sb',_,ps',[_],Hw',rfl,rfl,(List.append_assoc .. ▸ .row rb _ c _ _ (by omega) (by simp; omega) (by omega)),hw',by simp at h3; omega⟩,⟨_,rfl⟩,fun _ => rfl⟩
theorem f244 (w w' sb sb' sc nb nb' B kb : Nat) (v v' pv pv' r : Value) (pcs : List Value) (Hq Hs : Hp) [One pv] (hp : Sl 308 4 pv' (pcs ++ pe kb) Hq) (hn : pcs.length ≤ 68719476736) (hs : SPf B (pt sb') Hs) (hB : B ≤ 68719476736) :
  Tr Tryz.prog 244 #[pt w,pt w'] Z ((w,cl (fw v sc nb sb pv (pt sb') r) 233) :: (w',cl (fw v' sc nb' sb pv' (pt sb') r) 233) :: (Hq ++ Hs)) fun _x Z' H' => ∃ pv'' Hs',Z = Z' ∧ H' = (w,cl (fw v sc nb sb pv'' (pt sb') r) 233) :: (Hq ++ Hs') ∧ Sl 308 4 pv'' pcs Hq ∧ SPf (B + 1) (pt sb') Hs' := by
 refine Tr.introk Tryz.func244 rfl Tryz.ntmps244 Tryz.results244 rfl ?_
 rcases hs with ⟨h,_⟩ | ⟨_,sv,ps,Hr,Hw,h,rfl,h1,h2,h3⟩
 ·cases h
 cases h
 obtain ⟨pa,pn,pc,rfl,hpl,hpc⟩ := hp.val
 rw [List.length_append,show (pe kb).length = 4 from rfl] at hpl
 obtain ⟨pn,rfl⟩ : ∃ m,pn = m + 1 := ⟨pn - 1,by omega⟩
 refine gn ?_
 refine WP.drawT [(w',cl (fw v' sc nb' sb (.slice pa (pn + 1) pc) (pt sb') r) 233)] ((w,cl (fw v sc nb sb pv (pt sb') r) 233) :: (Hq ++ (sb',cl [sv] 475) :: (Hr ++ Hw))) mo (by decide +kernel) (prm rfl) ?_
 refine gn ?_
 refine o_sliceH (ik := .i64) (j := pn) rfl rfl (int_eq (by simp only [Int.ofNat_eq_natCast]; omega)) (by omega) ?_
 refine gn ?_
 refine WP.drawS [(w,cl (fw v sc nb sb (.slice pa pn pc) (pt sb') r) 233),(sb',cl [sv] 475)] ((w',cl (fw v' sc nb' sb (.slice pa (pn + 1) pc) (pt sb') r) 233) :: (Hq ++ (Hr ++ Hw))) 13 mo (by decide +kernel) (prm rfl) ?_
 haveI := h1.one
 refine gn ?_; intro b1
 refine oap (ds := [.pointer (some ⟨w',0,none⟩)]) h1 rfl rfl rfl (Rs.cells (inferInstance : Mem _ Z _ _ b1 (cl _ 226)) rfl (Nat.le_refl 1)) (by simp [Value.oneCell']) (by omega) (by simp; omega) ?_
 intro sv' Hr' h1'
 haveI := h1'.one
 refine r_two [] ?_
 refine gn ?_
 refine fk0 (A := (w,cl (fw v sc nb sb (.slice pa pn pc) (pt sb') r) 233) :: (Hq ++ ((sb',cl [sv'] 475) :: (Hr' ++ (Hw ++ [(w',cl (fw v' sc nb' sb (.slice pa (pn + 1) pc) (pt sb') r) 233)]))))) ?_
 exact ⟨_,_,rfl,rfl,hp.pop rfl (by omega),.inr ⟨sb',sv',_,Hr',_,rfl,rfl,h1',h2.add (k := 12) rfl,by simp; omega⟩⟩
end
end Go.Ux
namespace Go.Ux
open Go
inductive At : Tv → List Nm → Tv → Prop
 | here (t : Tv) : At t [] t
 | down {l : List (Nm × Tv)} {k : Nm} {t u : Tv} {q : List Nm} (h : (k,t) ∈ l) (h' : At t q u) : At (.mp l) (k :: q) u
def Tv.leaf : Tv → Prop
 | .sc _ => True
 | .li _ _ => True
 | _ => False
def TF (t : Tv) (p x : List Nm) : Prop := ∃ q u,At t q u ∧ x = p ++ q ∧ (q ≠ [] ∨ (u.leaf ∧ p ≠ []))
def Tv.inU (U : List Nm) (t : Tv) : Prop := ∀ q u,At t q u → ∀ k ∈ q,k ∈ U
theorem At.nil_iff {t u : Tv} : At t [] u ↔ t = u := ⟨fun h => by cases h; rfl,fun h => h ▸ .here t⟩
theorem At.cons_iff {t u : Tv} {k : Nm} {q : List Nm} : At t (k :: q) u ↔ ∃ l t',t = .mp l ∧ (k,t') ∈ l ∧ At t' q u :=
 ⟨fun h => by cases h with | down h h' => exact ⟨_,_,rfl,h,h'⟩,fun ⟨l,t',h1,h2,h3⟩ => h1 ▸ .down h2 h3⟩
theorem TF_null {p x : List Nm} : ¬ TF .null p x := by
 rintro ⟨q,u,h,rfl,h'⟩
 cases h with
 | here => rcases h' with h | ⟨h,_⟩ <;> simp [Tv.leaf] at h
theorem TF_sc {v : Value} {p x : List Nm} : TF (.sc v) p x ↔ x = p ∧ p ≠ [] := by
 constructor
 ·rintro ⟨q,u,h,rfl,h'⟩
  cases h with
  | here => rcases h' with h | ⟨_,h⟩ <;> simp_all
 ·rintro ⟨rfl,h⟩; exact ⟨[],_,.here _,by simp,.inr ⟨trivial,h⟩⟩
theorem TF_li {v : Value} {ts : List Tv} {p x : List Nm} : TF (.li v ts) p x ↔ x = p ∧ p ≠ [] := by
 constructor
 ·rintro ⟨q,u,h,rfl,h'⟩
  cases h with
  | here => rcases h' with h | ⟨_,h⟩ <;> simp_all
 ·rintro ⟨rfl,h⟩; exact ⟨[],_,.here _,by simp,.inr ⟨trivial,h⟩⟩
theorem TF_mp {l : List (Nm × Tv)} {p x : List Nm} : TF (.mp l) p x ↔ ∃ k t,(k,t) ∈ l ∧ (x = p ++ [k] ∨ TF t (p ++ [k]) x) := by
 constructor
 ·rintro ⟨q,u,h,rfl,h'⟩
  cases h with
  | here => rcases h' with h | ⟨h,_⟩ <;> simp [Tv.leaf] at h
  | @down _ k t _ q h h2 =>
   refine ⟨k,t,h,?_⟩
   cases q with
   | nil => exact .inl rfl
   | cons k' q => exact .inr ⟨k' :: q,u,h2,by simp,.inl (by simp)⟩
 ·rintro ⟨k,t,h,rfl | ⟨q,u,h2,rfl,_⟩⟩
  ·exact ⟨[k],t,.down h (.here t),rfl,.inl (by simp)⟩
  ·exact ⟨k :: q,u,.down h h2,by simp,.inl (by simp)⟩
theorem Tv.inU.child {U : List Nm} {l : List (Nm × Tv)} (h : (Tv.mp l).inU U) {k : Nm} {t : Tv} (hk : (k,t) ∈ l) : k ∈ U ∧ t.inU U :=
 ⟨h [k] t (.down hk (.here t)) k (List.mem_cons_self ..),fun q u hq x hx => h (k :: q) u (.down hk hq) x (List.mem_cons_of_mem _ hx)⟩
end Go.Ux
namespace Go.Ux
open Go Go.Proofs
set_option maxRecDepth 20000
instance : Ent Tryz.prog 268 := ⟨fun a w => by kernel_rfl⟩
instance : MthL Tryz.prog 301 "AsMap" 268 358 := ⟨fun a w => by kernel_rfl⟩
attribute [local irreducible] WP Tr
theorem f268 (m : Nat) (Z : Fz) : Pu Tryz.prog 268 #[.agg #[.iface 198 (.map (some m))]] Z fun v => v = .iface 505 (.map (some m)) := by
 refine Pu.intro Tryz.func268 rfl Tryz.ntmps268 Tryz.results268 rfl ?_
 repeat (first | refine gn ?_ | intro _)
 refine cp (f269 m _ Z) ?_
 rintro _ rfl
 refine gn ?_
 exact fin1 ⟨rfl,rfl⟩
section
variable {n : Nat} {all : Array Oper} {dr : Bool} {Pin : Hp} {K : Fr → Fz → Hp → Prop} {rest : List Oper} {l : List Lay} {D : List Deferred} {Z : Fz} {H : Hp}
variable {d : Tmp} {ty : TypeId} {pos : String} {af : Array Edge} {gd : Option (Nat × Bool)} {x y : Operand} {b : Nat} {ts : Array TypeId}
theorem m_AsMap0 {m : Nat} [hm : Mem false Z Pin H b (cl [.iface 198 (.map (some m))] 358)] (hg : okO n all ⟨l,D⟩ ⟨some d,.call ⟨.invoke x "AsMap",#[],ts⟩,ty,pos,af,gd⟩ = true) (hx : ev ⟨l,D⟩ x = .iface 301 (.pointer (some ⟨b,0,none⟩)))
  (h : Rg Tryz.prog n all dr Pin K rest ⟨.s d (.iface 505 (.map (some m))) :: l,D⟩ Z H) : Rg Tryz.prog n all dr Pin K (⟨some d,.call ⟨.invoke x "AsMap",#[],ts⟩,ty,pos,af,gd⟩ :: rest) ⟨l,D⟩ Z H := m_as "AsMap" (f268 m Z) hg hx h
end
theorem tf_step {A B C E : Prop} (hE : E) : ((A ∨ B) ∨ (C ∧ E)) ↔ (A ∨ (C ∨ B)) := by
 constructor
 ·rintro ((h | h) | ⟨h,_⟩)
  ·exact .inl h
  ·exact .inr (.inr h)
  ·exact .inr (.inl h)
 ·rintro (h | h | h)
  ·exact .inl (.inl h)
  ·exact .inr ⟨h,hE⟩
  ·exact .inl (.inr h)
def T89 (N : Nat) : Prop := ∀ (t : Tv) (Z : Fz) (w sc sb₀ lb mb eb nb a sb B : Nat) (u pv sp r : Value) (π U : List Nm) (pcs : List Value) (s : FS) (Hq HS Hs : Hp),
 t.sz < N → N ≤ B → B ≤ 17179869184 → π.length + N ≤ 17179869184 → Sch Z sc sb₀ lb mb eb → Z nb = some (cl [.string nmD] 9) → Z a = some (cl [u] 358) → AV Z t u → Sl 308 4 pv pcs Hq → PM Z π pcs → OS Z s sb HS → s.Wf U → U.length ≤ 1073741824 → (∀ k ∈ π,k ∈ U) → t.inU U → SPf B sp Hs →
 Tr Tryz.prog 89 #[pt w] Z ((w,cl (fw (vv a) sc nb sb pv sp r) 233) :: (Hq ++ (HS ++ Hs))) fun v Z' H' => v = .slice none 0 0 ∧ ∃ pv' sp' s' Hq' HS' Hs',H' = (w,cl (fw (vv a) sc nb sb pv' sp' r) 233) :: (Hq' ++ (HS' ++ Hs')) ∧ Sl 308 4 pv' pcs Hq' ∧ OS Z' s' sb HS' ∧ s'.Wf U ∧ (∀ x,s'.has x ↔ s.has x ∨ TF t π x) ∧ SPf B sp' Hs' ∧ ((∃ b,sp = pt b) → sp' = sp)
section
variable {Z : Fz}
set_option maxHeartbeats 4000000 in
theorem f245 {N : Nat} (ih : T89 N) (t : Tv) (w sc sb₀ lb mb eb nb a sb B b2 b3 b4 : Nat) (k : Nm) (u v pv sp r : Value) [One v] (π U : List Nm) (pcs : List Value) (s : FS) (Hq HS Hs : Hp)
  (ht : t.sz < N) (hN : N ≤ B) (hB : B ≤ 17179869184) (hπ : π.length + 1 + N ≤ 17179869184) (hsc : Sch Z sc sb₀ lb mb eb) (ha : Z a = some (cl [u] 358)) (hu : AV Z t u) (hq : Sl 308 4 pv pcs Hq) (hpm : PM Z π pcs) (hos : OS Z s sb HS) (hw : s.Wf U) (hU : U.length ≤ 1073741824) (hπU : ∀ k ∈ π,k ∈ U) (hk : k ∈ U) (htU : t.inU U) (hs : SPf (B + 1) sp Hs) :
  Tr Tryz.prog 245 #[.string k,vv a,pt b2,pt b3,pt b4] Z ((b2,cl [pt mb] 95) :: (b3,cl [pt w] 226) :: (b4,cl [.slice none 0 0] 229) :: (w,cl (fw v sc nb sb pv sp r) 233) :: (Hq ++ (HS ++ Hs))) fun x Z' H' => x = .bool true ∧ ∃ pv' sp' s' Hq' HS' Hs',H' = (b2,cl [pt mb] 95) :: (b3,cl [pt w] 226) :: (b4,cl [.slice none 0 0] 229) :: (w,cl (fw v sc nb sb pv' sp' r) 233) :: (Hq' ++ (HS' ++ Hs')) ∧ Sl 308 4 pv' pcs Hq' ∧ OS Z' s' sb HS' ∧ s'.Wf U ∧ (∀ x,s'.has x ↔ s.has x ∨ (x = π ++ [k] ∨ TF t (π ++ [k]) x)) ∧ SPf (B + 1) sp' Hs' ∧ ((∃ b,sp = pt b) → sp' = sp) := by
 haveI := hs.one
 haveI := hq.one
 have hpl := hpm.len
 refine Tr.introk Tryz.func245 rfl Tryz.ntmps245 Tryz.results245 rfl ?_
 refine gn ?_; intro b5
 haveI : Zf Z mb _ := ⟨.of (hsc.m)⟩
 refine gn ?_; intro b8
 refine gn ?_; intro b9
 refine gn ?_
 refine cp (f132 hsc k) ?_
 rintro _ rfl
 refine gn ?_; intro b10
 refine gn ?_
 refine ct (f243 w sc nb eb sb B b5 v pv sp r pcs Hq Hs hq (by omega) hs (by omega)) ?_
 rintro _ _ _ _ ⟨w',sp',pv',Hq',Hs',rfl,rfl,rfl,hq',hs',⟨sb',rfl⟩,hk'⟩
 haveI := hq'.one
 refine gn ?_
 refine WP.fz b5 ?_
 intro Z1 hz1 hb5
 refine WP.only ((b4,cl [.slice none 0 0] 229) :: (w',cl (fw (vv a) sc eb sb pv' (pt sb') r) 233) :: (w,cl (fw v sc nb sb pv (pt sb') r) 233) :: (b2,cl [pt mb] 95) :: (b3,cl [pt w] 226) :: (Hq' ++ (HS ++ Hs'))) ?_
 refine WP.drawS [(b4,cl [.slice none 0 0] 229)] ((w',cl (fw (vv a) sc eb sb pv' (pt sb') r) 233) :: (w,cl (fw v sc nb sb pv (pt sb') r) 233) :: (b2,cl [pt mb] 95) :: (b3,cl [pt w] 226) :: (Hq' ++ (HS ++ Hs'))) 4 mo (by decide +kernel) (prm rfl) ?_
 refine gn ?_
 refine ct (ih t Z1 w' sc sb₀ lb mb eb eb a sb B u pv' (pt sb') r (π ++ [k]) U (pcs ++ pe b5) s Hq' HS Hs' ht hN hB (by simp; omega) (hsc.mono hz1) (hz1 _ _ hsc.e) (hz1 _ _ ha) (hu.mono hz1) hq' ((hpm.mono hz1).app (show PM Z1 [k] (pe b5) from ⟨b5,[],rfl,hb5,rfl⟩)) (hos.lw hz1.lw) hw hU (fun x hx => by
  rcases List.mem_append.1 hx with h | h
  ·exact hπU x h
  ·simp only [List.mem_singleton] at h; exact h ▸ hk) htU hs') ?_
 rintro _ Z₂ _ hz₂ ⟨rfl,pv₂,sp₂,s₂,Hq₂,HS₂,Hs₂,rfl,hq₂,hos₂,hw₂,hx₂,hs₂,hk₂⟩
 cases hk₂ ⟨_,rfl⟩
 haveI := hq₂.one
 refine o_apnil (k := 2) rfl rfl rfl ?_
 refine r_two [] ?_
 have hza : Z₂ a = some (cl [u] 358) := hz₂ _ _ (hz1 _ _ ha)
 have hav : AV Z₂ t u := (hu.mono hz1).mono hz₂
 have hsc₂ : Sch Z₂ sc sb₀ lb mb eb := (hsc.mono hz1).mono hz₂
 have hpm₂ : PM Z₂ (π ++ [k]) (pcs ++ pe b5) := ((hpm.mono hz1).app (show PM Z1 [k] (pe b5) from ⟨b5,[],rfl,hb5,rfl⟩)).mono hz₂
 haveI : Zf Z₂ mb _ := ⟨.of (hsc₂.m)⟩
 haveI : Zf Z₂ a _ := ⟨.of (hza)⟩
 haveI : Zf Z₂ b5 _ := ⟨.of (hz₂ _ _ hb5)⟩
 refine gn ?_
 have hkU : ∀ x ∈ π ++ [k],x ∈ U := fun x hx => by
  rcases List.mem_append.1 hx with h | h
  ·exact hπU x h
  ·simp only [List.mem_singleton] at h; exact h ▸ hk
 clear ih hu ha hos
 rcases sh_of hav with ⟨rfl,rfl⟩ | ⟨⟨_,rfl⟩,rfl⟩ | ⟨⟨_,rfl⟩,rfl⟩ | ⟨⟨_,rfl⟩,rfl⟩ | ⟨⟨_,rfl⟩,rfl⟩ | ⟨_,_,rfl,rfl⟩ | ⟨m,l,rfl,rfl⟩
 all_goals refine gv ?_
 case inr.inr.inr.inr.inr.inr =>
  simp only [AV] at hav
  obtain ⟨m',es,c,es',e1,hm1,hst,hp,hm2⟩ := hav
  cases e1
  haveI : Zf Z₂ m _ := ⟨.of (hm1)⟩
  refine m_AsMap0 rfl rfl ?_
  refine cip (args := []) (f377 m c es Z₂) ?_
  rintro _ rfl
  refine o_eqi rfl rfl rfl (r := decide (es.length = 0)) (by simp) ?_
  cases decide (es.length = 0)
  all_goals refine gn ?_
  all_goals try
   refine cp (f132 hsc₂ k) ?_
   rintro _ rfl
   refine gn ?_; intro b13
   refine gn ?_
  all_goals
   refine WP.only ((w',cl (fw (vv a) sc eb sb pv₂ (pt sb') r) 233) :: (w,cl (fw v sc nb sb pv (pt sb') r) 233) :: (b2,cl [pt mb] 95) :: (b3,cl [pt w] 226) :: (b4,cl [.slice none 0 0] 229) :: (Hq₂ ++ (HS₂ ++ Hs₂))) ?_
   refine WP.drawT [(w',cl (fw (vv a) sc eb sb pv₂ (pt sb') r) 233)] ((w,cl (fw v sc nb sb pv (pt sb') r) 233) :: (b2,cl [pt mb] 95) :: (b3,cl [pt w] 226) :: (b4,cl [.slice none 0 0] 229) :: (Hq₂ ++ (HS₂ ++ Hs₂))) mo (by decide +kernel) (prm rfl) ?_
   refine gn ?_
   refine ct (f82o sb pv₂ (π ++ [k]) (pcs ++ pe b5) s₂ HS₂ Hq₂ U Z₂ hos₂ hw₂ hU hq₂ hpm₂ hkU) ?_
   rintro _ _ _ _ ⟨rfl,rfl,s₃,HS₃,rfl,hos₃,hw₃,hx₃⟩
   refine gn ?_
   refine ct (f244 w w' sb sb' sc nb eb B b5 v (vv a) pv pv₂ r pcs Hq₂ Hs₂ hq₂ (by omega) hs₂ (by omega)) ?_
   rintro _ _ _ _ ⟨pv₄,Hs₄,rfl,rfl,hq₄,hs₄⟩
   refine gn ?_
   refine fk1 (A := (b2,cl [pt mb] 95) :: (b3,cl [pt w] 226) :: (b4,cl [.slice none 0 0] 229) :: (w,cl (fw v sc nb sb pv₄ (pt sb') r) 233) :: (Hq₂ ++ (HS₃ ++ Hs₄))) ?_
   exact ⟨rfl,pv₄,pt sb',s₃,Hq₂,HS₃,Hs₄,rfl,hq₄,hos₃,hw₃,fun x => by rw [hx₃,hx₂]; exact tf_step (by simp),hs₄,hk'⟩
 all_goals try
  refine cp (f132 hsc₂ k) ?_
  rintro _ rfl
  refine gn ?_; intro b13
  refine gn ?_
 all_goals
  refine WP.only ((w',cl (fw (vv a) sc eb sb pv₂ (pt sb') r) 233) :: (w,cl (fw v sc nb sb pv (pt sb') r) 233) :: (b2,cl [pt mb] 95) :: (b3,cl [pt w] 226) :: (b4,cl [.slice none 0 0] 229) :: (Hq₂ ++ (HS₂ ++ Hs₂))) ?_
  refine WP.drawT [(w',cl (fw (vv a) sc eb sb pv₂ (pt sb') r) 233)] ((w,cl (fw v sc nb sb pv (pt sb') r) 233) :: (b2,cl [pt mb] 95) :: (b3,cl [pt w] 226) :: (b4,cl [.slice none 0 0] 229) :: (Hq₂ ++ (HS₂ ++ Hs₂))) mo (by decide +kernel) (prm rfl) ?_
  refine gn ?_
  refine ct (f82o sb pv₂ (π ++ [k]) (pcs ++ pe b5) s₂ HS₂ Hq₂ U Z₂ hos₂ hw₂ hU hq₂ hpm₂ hkU) ?_
  rintro _ _ _ _ ⟨rfl,rfl,s₃,HS₃,rfl,hos₃,hw₃,hx₃⟩
  refine gn ?_
  refine ct (f244 w w' sb sb' sc nb eb B b5 v (vv a) pv pv₂ r pcs Hq₂ Hs₂ hq₂ (by omega) hs₂ (by omega)) ?_
  rintro _ _ _ _ ⟨pv₄,Hs₄,rfl,rfl,hq₄,hs₄⟩
  refine gn ?_
  refine fk1 (A := (b2,cl [pt mb] 95) :: (b3,cl [pt w] 226) :: (b4,cl [.slice none 0 0] 229) :: (w,cl (fw v sc nb sb pv₄ (pt sb') r) 233) :: (Hq₂ ++ (HS₃ ++ Hs₄))) ?_
  exact ⟨rfl,pv₄,pt sb',s₃,Hq₂,HS₃,Hs₄,rfl,hq₄,hos₃,hw₃,fun x => by rw [hx₃,hx₂]; exact tf_step (by simp),hs₄,hk'⟩
end
end Go.Ux
namespace Go.Ux
open Go
def Dm (t : Tv) (q : List Nm) : Prop := ∃ u,At t q u
def AtO (t : Option Tv) (q : List Nm) (u : Tv) : Prop := ∃ s,t = some s ∧ At s q u
def DmO (t : Option Tv) (q : List Nm) : Prop := ∃ u,AtO t q u
def Tv.cls : Tv → Nat
 | .null => 0
 | .mp _ => 0
 | .sc _ => 1
 | .li _ _ => 2
theorem leaf_iff {t : Tv} : t.leaf ↔ t.cls ≠ 0 := by cases t <;> simp [Tv.leaf,Tv.cls]
def Tv.uk (t : Tv) : Prop := ∀ q l,At t q (.mp l) → (l.map (·.1)).Nodup
theorem nodup_one {β : Type} : ∀ {l : List (Nm × β)} {k : Nm} {a b : β},(l.map (·.1)).Nodup → (k,a) ∈ l → (k,b) ∈ l → a = b
 | [],_,_,_,_,h,_ => by simp at h
 | (k',c) :: l,k,a,b,hn,ha,hb => by
  simp only [List.map_cons,List.nodup_cons] at hn
  rcases List.mem_cons.1 ha with ha | ha
  ·rcases List.mem_cons.1 hb with hb | hb
   ·cases ha; cases hb; rfl
   ·cases ha; exact absurd (List.mem_map_of_mem (f := (·.1)) hb) hn.1
  ·rcases List.mem_cons.1 hb with hb | hb
   ·cases hb; exact absurd (List.mem_map_of_mem (f := (·.1)) ha) hn.1
   ·exact nodup_one hn.2 ha hb
theorem Tv.uk.child {l : List (Nm × Tv)} (h : (Tv.mp l).uk) {k : Nm} {t : Tv} (hk : (k,t) ∈ l) : t.uk := fun q l' hq => h (k :: q) l' (.down hk hq)
theorem Tv.uk.det : ∀ {q : List Nm} {t u v : Tv},t.uk → At t q u → At t q v → u = v
 | [],t,u,v,_,hu,hv => (At.nil_iff.1 hu).symm.trans (At.nil_iff.1 hv)
 | k :: q,t,u,v,h,hu,hv => by
  obtain ⟨l,a,rfl,ha,hu'⟩ := At.cons_iff.1 hu
  obtain ⟨l',b,e,hb,hv'⟩ := At.cons_iff.1 hv
  cases e
  have : a = b := nodup_one (h [] l (.here _)) ha hb
  subst this
  exact Tv.uk.det (h.child ha) hu' hv'
def Cp (a b : Tv) : Prop := ∀ q u v,At a q u → At b q v → u.cls = v.cls
theorem Cp.symm {a b : Tv} (h : Cp a b) : Cp b a := fun q u v hu hv => (h q v u hv hu).symm
def Le (v u : Tv) : Prop := (v.leaf → u = v) ∧ u.cls = v.cls
theorem Le.refl (u : Tv) : Le u u := ⟨fun _ => rfl,rfl⟩
structure MG (l r : Option Tv) (o : Tv) : Prop where
 dom : ∀ q,Dm o q ↔ DmO l q ∨ DmO r q
 rt : ∀ q u v,At o q u → AtO r q v → Le v u
 lf : ∀ q u v,At o q u → AtO l q v → ¬ DmO r q → Le v u
structure RM (S : List Nm → Prop) (t t' : Tv) : Prop where
 dom : ∀ q,Dm t' q ↔ Dm t q ∧ ∀ p s,p ≠ [] → q = p ++ s → ¬ S p
 val : ∀ q u v,At t' q u → At t q v → Le v u
structure Cmp (l r : Tv) (R M A : List Nm → Prop) : Prop where
 rem : ∀ x,R x ↔ x ≠ [] ∧ Dm l x ∧ ¬ Dm r x
 add : ∀ x,A x ↔ x ≠ [] ∧ Dm r x ∧ ¬ Dm l x
 mod : ∀ x,M x → x ≠ [] ∧ ∃ u v,At l x u ∧ At r x v ∧ u ≠ v
structure Inv (live : Tv) (own : Nm → List Nm → Prop) : Prop where
 sub : ∀ m x,own m x → x ≠ [] ∧ Dm live x
 cov : ∀ x u,x ≠ [] → At live x u → u.leaf → ∃ m,own m x
structure Al (a b : Tv) : Prop where
 dom : ∀ q,Dm a q ↔ Dm b q
 cls : ∀ q u v,At a q u → At b q v → u.cls = v.cls
theorem Inv.sim {a b : Tv} {own : Nm → List Nm → Prop} (h : Inv b own) (s : Al a b) : Inv a own := by
 refine ⟨fun m x hx => ⟨(h.sub m x hx).1,(s.dom x).2 (h.sub m x hx).2⟩,fun x u hx hu hl => ?_⟩
 obtain ⟨v,hv⟩ := (s.dom x).1 ⟨u,hu⟩
 refine h.cov x v hx hv ?_
 rw [leaf_iff] at hl ⊢
 rwa [← s.cls x u v hu hv]
section
variable {live obj : Tv} {own own' : Nm → List Nm → Prop} {w : Nm} {R M A : List Nm → Prop}
theorem Inv.update (h : Inv live own) (_hu : live.uk) (hc : Cp live obj) (c : Cmp live obj R M A)
  (hw : ∀ x,own' w x ↔ (own w x ∧ ¬ R x) ∨ M x ∨ A x) (hm : ∀ m x,m ≠ w → (own' m x ↔ own m x ∧ ¬ (M x ∨ A x) ∧ ¬ R x)) : Inv obj own' := by
 constructor
 ·intro m x hx
  by_cases hmw : m = w
  ·subst hmw
   rcases (hw x).1 hx with ⟨h1,h2⟩ | h1 | h1
   ·obtain ⟨h3,h4⟩ := h.sub m x h1
    refine ⟨h3,Classical.byContradiction fun h5 => h2 ((c.rem x).2 ⟨h3,h4,h5⟩)⟩
   ·obtain ⟨h3,u,v,_,h4,_⟩ := c.mod x h1
    exact ⟨h3,v,h4⟩
   ·obtain ⟨h3,h4,_⟩ := (c.add x).1 h1
    exact ⟨h3,h4⟩
  ·obtain ⟨h1,_,h2⟩ := (hm m x hmw).1 hx
   obtain ⟨h3,h4⟩ := h.sub m x h1
   exact ⟨h3,Classical.byContradiction fun h5 => h2 ((c.rem x).2 ⟨h3,h4,h5⟩)⟩
 ·intro x v hx hv hl
  by_cases hd : Dm live x
  ·obtain ⟨u,hu'⟩ := hd
   have hul : u.leaf := by rw [leaf_iff] at hl ⊢; rwa [hc x u v hu' hv]
   obtain ⟨m,hm'⟩ := h.cov x u hx hu' hul
   have hr : ¬ R x := fun hr => ((c.rem x).1 hr).2.2 ⟨v,hv⟩
   by_cases hmw : m = w
   ·subst hmw; exact ⟨m,(hw x).2 (.inl ⟨hm',hr⟩)⟩
   ·by_cases hma : M x ∨ A x
    ·exact ⟨w,(hw x).2 (.inr hma)⟩
    ·exact ⟨m,(hm m x hmw).2 ⟨hm',hma,hr⟩⟩
  ·exact ⟨w,(hw x).2 (.inr (.inr ((c.add x).2 ⟨hx,⟨v,hv⟩,hd⟩)))⟩
variable {G N p₁ p₂ : Tv}
def Pruned (own : Nm → List Nm → Prop) (w : Nm) (obj G N : Tv) : Prop := (N = G ∧ ∀ x,¬ own w x) ∨
 ∃ p₁ p₂,RM (own w) G p₁ ∧ RM (fun x => (x ≠ [] ∧ Dm G x) ∧ ¬ ((x ≠ [] ∧ Dm p₁ x) ∨ (x ≠ [] ∧ Dm obj x) ∨ ∃ m,m ≠ w ∧ own m x)) G p₂ ∧
  RM (fun x => ((x ≠ [] ∧ Dm G x) ∧ ¬ (x ≠ [] ∧ Dm p₂ x)) ∧ own w x) G N
theorem RM.self {t : Tv} (h : t.uk) : RM (fun _ => False) t t := ⟨fun q => ⟨fun h => ⟨h,fun _ _ _ _ h => h⟩,fun h => h.1⟩,fun q u v hu hv => by rw [h.det hu hv]; exact .refl _⟩
theorem Pruned.rm (h : Pruned own w obj G N) (hg : G.uk) : ∃ S,RM S G N := by
 rcases h with ⟨rfl,_⟩ | ⟨p₁,p₂,_,_,h⟩
 ·exact ⟨_,.self hg⟩
 ·exact ⟨_,h⟩
theorem Dm.pre {t : Tv} : ∀ {p s : List Nm},Dm t (p ++ s) → Dm t p
 | [],s,_ => ⟨t,.here t⟩
 | k :: p,s,⟨u,h⟩ => by
  obtain ⟨l,a,rfl,ha,h'⟩ := At.cons_iff.1 h
  obtain ⟨v,hv⟩ := Dm.pre (t := a) ⟨u,h'⟩
  exact ⟨v,.down ha hv⟩
theorem dmo_some {t : Tv} {q : List Nm} : DmO (some t) q ↔ Dm t q := ⟨fun ⟨u,s,e,h⟩ => by cases e; exact ⟨u,h⟩,fun ⟨u,h⟩ => ⟨u,t,rfl,h⟩⟩
theorem ato_some {t : Tv} {q : List Nm} {u : Tv} : AtO (some t) q u ↔ At t q u := ⟨fun ⟨s,e,h⟩ => by cases e; exact h,fun h => ⟨t,rfl,h⟩⟩
theorem Pruned.here (h : Pruned own w obj G N) (mg : MG (some live) (some obj) G) {x : List Nm} (hx : Dm obj x) : Dm N x := by
 have hg : ∀ y,Dm obj y → Dm G y := fun y hy => (mg.dom y).2 (.inr (dmo_some.2 hy))
 rcases h with ⟨rfl,_⟩ | ⟨p₁,p₂,h1,h2,h3⟩
 ·exact hg x hx
 ·have key : ∀ y,Dm obj y → Dm p₂ y := fun y hy => (h2.dom y).2 ⟨hg y hy,fun p s hp e hs => hs.2 (.inr (.inl ⟨hp,by subst e; exact hy.pre⟩))⟩
  exact (h3.dom x).2 ⟨hg x hx,fun p s hp e hs => hs.1.2 ⟨hp,key p (by subst e; exact hx.pre)⟩⟩
theorem Pruned.gone (h : Pruned own w obj G N) {x : List Nm} (hx : x ≠ []) (hn : ¬ Dm obj x) (ho : own w x) (hm : ∀ m,m ≠ w → ¬ own m x) : ¬ Dm N x := by
 intro hN
 rcases h with ⟨_,h⟩ | ⟨p₁,p₂,h1,h2,h3⟩
 ·exact h x ho
 ·obtain ⟨hG,hS⟩ := (h3.dom x).1 hN
  have n1 : ¬ Dm p₁ x := fun h => ((h1.dom x).1 h).2 x [] hx (by simp) ho
  have n2 : ¬ Dm p₂ x := fun h => ((h2.dom x).1 h).2 x [] hx (by simp) ⟨⟨hx,hG⟩,fun h => by
   rcases h with h | h | ⟨m,h,h'⟩
   ·exact n1 h.2
   ·exact hn h.2
   ·exact hm m h h'⟩
  exact hS x [] hx (by simp) ⟨⟨⟨hx,hG⟩,fun h => n2 h.2⟩,ho⟩
theorem Inv.apply (h : Inv live own) (hu : live.uk) (hgu : G.uk) (hnu : N.uk) (mg : MG (some live) (some obj) G) (pr : Pruned own w obj G N) (c : Cmp live N R M A)
  (hw : ∀ x,own' w x ↔ x ≠ [] ∧ Dm obj x) (hm : ∀ m x,m ≠ w → (own' m x ↔ own m x ∧ ¬ (M x ∨ A x) ∧ ¬ R x)) : Inv N own' := by
 constructor
 ·intro m x hx
  by_cases hmw : m = w
  ·subst hmw
   obtain ⟨h1,h2⟩ := (hw x).1 hx
   exact ⟨h1,pr.here mg h2⟩
  ·obtain ⟨h1,_,h2⟩ := (hm m x hmw).1 hx
   obtain ⟨h3,h4⟩ := h.sub m x h1
   exact ⟨h3,Classical.byContradiction fun h5 => h2 ((c.rem x).2 ⟨h3,h4,h5⟩)⟩
 ·intro x u hx hN hl
  by_cases ho : Dm obj x
  ·exact ⟨w,(hw x).2 ⟨hx,ho⟩⟩
  ·obtain ⟨S,rm⟩ := pr.rm hgu
   obtain ⟨v,hv⟩ := ((rm.dom x).1 ⟨u,hN⟩).1
   have h1 := rm.val x u v hN hv
   have hvl : v.leaf := by rw [leaf_iff] at hl ⊢; rwa [← h1.2]
   have e1 := h1.1 hvl
   subst e1
   have hno : ¬ DmO (some obj) x := fun h => ho (dmo_some.1 h)
   rcases (mg.dom x).1 ⟨u,hv⟩ with hd | hd
   ·obtain ⟨y,hy⟩ := dmo_some.1 hd
    have h2 := mg.lf x u y hv (ato_some.2 hy) hno
    have hyl : y.leaf := by rw [leaf_iff] at hl ⊢; rwa [← h2.2]
    have e2 := h2.1 hyl
    subst e2
    obtain ⟨m,hm'⟩ := h.cov x u hx hy hl
    have : ∃ m,m ≠ w ∧ own m x := by
     refine Classical.byContradiction fun hno' => ?_
     have hmw : m = w := Classical.byContradiction fun hne => hno' ⟨m,hne,hm'⟩
     subst hmw
     exact pr.gone hx ho hm' (fun m' h1 h2 => hno' ⟨m',h1,h2⟩) ⟨u,hN⟩
    obtain ⟨m,hmw,hm'⟩ := this
    refine ⟨m,(hm m x hmw).2 ⟨hm',?_,fun hr => ((c.rem x).1 hr).2.2 ⟨u,hN⟩⟩⟩
    rintro (hh | hh)
    ·obtain ⟨_,a,b,ha,hb,hab⟩ := c.mod x hh
     exact hab ((hu.det ha hy).trans (hnu.det hb hN).symm)
    ·exact ((c.add x).1 hh).2.2 ⟨u,hy⟩
   ·exact absurd hd hno
theorem Cp.merge {b : Tv} (mg : MG (some live) (some obj) G) (h1 : Cp live b) (h2 : Cp obj b) : Cp G b := by
 intro q u v hu hv
 by_cases ho : Dm obj q
 ·obtain ⟨y,hy⟩ := ho
  rw [(mg.rt q u y hu (ato_some.2 hy)).2]
  exact h2 q y v hy hv
 ·have hno : ¬ DmO (some obj) q := fun h => ho (dmo_some.1 h)
  rcases (mg.dom q).1 ⟨u,hu⟩ with hd | hd
  ·obtain ⟨y,hy⟩ := dmo_some.1 hd
   rw [(mg.lf q u y hu (ato_some.2 hy) hno).2]
   exact h1 q y v hy hv
  ·exact absurd hd hno
theorem Cp.rm {b t t' : Tv} {S : List Nm → Prop} (rm : RM S t t') (h : Cp t b) : Cp t' b := by
 intro q u v hu hv
 obtain ⟨y,hy⟩ := ((rm.dom q).1 ⟨u,hu⟩).1
 rw [(rm.val q u y hu hy).2]
 exact h q y v hy hv
theorem Pruned.cp {b : Tv} (pr : Pruned own w obj G N) (hg : G.uk) (h : Cp G b) : Cp N b := let ⟨_,rm⟩ := pr.rm hg; h.rm rm
end
end Go.Ux
namespace Go.Ux
open Go
def kids : Option Tv → List (Nm × Tv)
 | some (.mp l) => l
 | _ => []
def Lk (l : List (Nm × Tv)) (k : Nm) : Option Tv → Prop
 | none => ∀ t,(k,t) ∉ l
 | some t => (k,t) ∈ l
theorem ato_cons {t : Option Tv} {k : Nm} {q : List Nm} {u : Tv} : AtO t (k :: q) u ↔ ∃ x,(k,x) ∈ kids t ∧ At x q u := by
 constructor
 ·rintro ⟨s,rfl,h⟩
  obtain ⟨l,x,rfl,hx,h'⟩ := At.cons_iff.1 h
  exact ⟨x,hx,h'⟩
 ·rintro ⟨x,hx,h⟩
  match t,hx with
  | some (.mp l),hx => exact ⟨_,rfl,.down hx h⟩
theorem at_cons {t : Tv} {k : Nm} {q : List Nm} {u : Tv} : At t (k :: q) u ↔ ∃ x,(k,x) ∈ kids (some t) ∧ At x q u := by rw [← ato_some,ato_cons]
theorem ato_nil {t : Option Tv} {u : Tv} : AtO t [] u ↔ t = some u := ⟨fun ⟨s,e,h⟩ => by rw [e,At.nil_iff.1 h],fun h => ⟨u,h,.here u⟩⟩
theorem dm_nil (t : Tv) : Dm t [] := ⟨t,.here t⟩
theorem dmo_nil {t : Option Tv} : DmO t [] ↔ t ≠ none := by
 constructor
 ·rintro ⟨u,h⟩ e
  rw [ato_nil,e] at h; cases h
 ·intro h
  cases t with
  | none => exact absurd rfl h
  | some u => exact ⟨u,ato_nil.2 rfl⟩
theorem dmo_cons {t : Option Tv} {k : Nm} {q : List Nm} : DmO t (k :: q) ↔ ∃ x,(k,x) ∈ kids t ∧ Dm x q := by
 constructor
 ·rintro ⟨u,h⟩; obtain ⟨x,hx,h'⟩ := ato_cons.1 h; exact ⟨x,hx,u,h'⟩
 ·rintro ⟨x,hx,u,h⟩; exact ⟨u,ato_cons.2 ⟨x,hx,h⟩⟩
theorem ato_lk {l : List (Nm × Tv)} {k : Nm} {x : Option Tv} (hn : (l.map (·.1)).Nodup) (h : Lk l k x) {q : List Nm} {u : Tv} : (∃ y,(k,y) ∈ l ∧ At y q u) ↔ AtO x q u := by
 match x,h with
 | none,h => exact ⟨fun ⟨y,hy,_⟩ => absurd hy (h y),fun ⟨_,e,_⟩ => by cases e⟩
 | some t,h => exact ⟨fun ⟨y,hy,h'⟩ => by rw [nodup_one hn hy h] at h'; exact ⟨t,rfl,h'⟩,fun ⟨s,e,h'⟩ => by cases e; exact ⟨t,h,h'⟩⟩
theorem dmo_lk {l : List (Nm × Tv)} {k : Nm} {x : Option Tv} (hn : (l.map (·.1)).Nodup) (h : Lk l k x) {q : List Nm} : (∃ y,(k,y) ∈ l ∧ Dm y q) ↔ DmO x q := by
 constructor
 ·rintro ⟨y,hy,u,h'⟩; exact ⟨u,(ato_lk hn h).1 ⟨y,hy,h'⟩⟩
 ·rintro ⟨u,h'⟩; obtain ⟨y,hy,h2⟩ := (ato_lk hn h).2 h'; exact ⟨y,hy,u,h2⟩
theorem lk_ex (l : List (Nm × Tv)) (k : Nm) : ∃ x,Lk l k x := by
 by_cases h : ∃ t,(k,t) ∈ l
 ·obtain ⟨t,h⟩ := h; exact ⟨some t,h⟩
 ·exact ⟨none,fun t ht => h ⟨t,ht⟩⟩
theorem lk_uniq {l : List (Nm × Tv)} {k : Nm} {x y : Option Tv} (hn : (l.map (·.1)).Nodup) (h : Lk l k x) (h' : Lk l k y) : x = y := by
 match x,y,h,h' with
 | none,none,_,_ => rfl
 | none,some t,h,h' => exact absurd h' (h t)
 | some t,none,h,h' => exact absurd h (h' t)
 | some t,some s,h,h' => rw [nodup_one hn h h']
def Nlf (t : Option Tv) : Prop := ∀ u,t = some u → u.cls = 0
def nodK (t : Option Tv) : Prop := ((kids t).map (·.1)).Nodup
theorem MG.map {lo ro : Option Tv} {c : List (Nm × Tv)} (hl : Nlf lo) (hr : Nlf ro) (hn : nodK lo) (hn' : nodK ro) (_hnc : (c.map (·.1)).Nodup) (hex : lo ≠ none ∨ ro ≠ none)
  (h1 : ∀ k z,(k,z) ∈ c → ∃ x y,Lk (kids lo) k x ∧ Lk (kids ro) k y ∧ MG x y z) (h2 : ∀ k t,(k,t) ∈ kids lo ∨ (k,t) ∈ kids ro → ∃ z,(k,z) ∈ c) : MG lo ro (.mp c) := by
 constructor
 ·intro q
  cases q with
  | nil => rw [dmo_nil,dmo_nil]; exact ⟨fun _ => hex,fun _ => dm_nil _⟩
  | cons k q =>
   rw [← dmo_some,dmo_cons,dmo_cons,dmo_cons]
   constructor
   ·rintro ⟨z,hz,hq⟩
    obtain ⟨x,y,hx,hy,mg⟩ := h1 k z hz
    rw [dmo_lk hn hx,dmo_lk hn' hy]
    exact (mg.dom q).1 hq
   ·intro h
    obtain ⟨z,hz⟩ : ∃ z,(k,z) ∈ c := by
     rcases h with ⟨t,ht,_⟩ | ⟨t,ht,_⟩
     ·exact h2 k t (.inl ht)
     ·exact h2 k t (.inr ht)
    obtain ⟨x,y,hx,hy,mg⟩ := h1 k z hz
    rw [dmo_lk hn hx,dmo_lk hn' hy] at h
    exact ⟨z,hz,(mg.dom q).2 h⟩
 ·intro q u v hu hv
  cases q with
  | nil =>
   rw [At.nil_iff] at hu; rw [ato_nil] at hv
   subst hu
   have := hr v hv
   exact ⟨fun hl => absurd this (leaf_iff.1 hl),this.symm⟩
  | cons k q =>
   obtain ⟨z,hz,hq⟩ := at_cons.1 hu
   obtain ⟨x,y,hx,hy,mg⟩ := h1 k z hz
   exact mg.rt q u v hq ((ato_lk hn' hy).1 (ato_cons.1 hv))
 ·intro q u v hu hv hno
  cases q with
  | nil =>
   rw [At.nil_iff] at hu; rw [ato_nil] at hv
   subst hu
   have := hl v hv
   exact ⟨fun hl => absurd this (leaf_iff.1 hl),this.symm⟩
  | cons k q =>
   obtain ⟨z,hz,hq⟩ := at_cons.1 hu
   obtain ⟨x,y,hx,hy,mg⟩ := h1 k z hz
   refine mg.lf q u v hq ((ato_lk hn hx).1 (ato_cons.1 hv)) fun hd => hno ?_
   rw [dmo_cons]
   exact (dmo_lk hn' hy).2 hd
theorem dmo_kid0 {t : Option Tv} (h : kids t = []) {q : List Nm} (hq : DmO t q) : q = [] := by
 cases q with
 | nil => rfl
 | cons k q => obtain ⟨x,hx,_⟩ := dmo_cons.1 hq; rw [h] at hx; cases hx
theorem MG.right {lo : Option Tv} {r : Tv} (h : kids lo = []) (hu : r.uk) : MG lo (some r) r := by
 refine ⟨fun q => ⟨fun h => .inr (dmo_some.2 h),?_⟩,fun q u v hu' hv => ?_,fun q u v hu' hv hno => absurd (dmo_some.2 ⟨u,hu'⟩) hno⟩
 ·rintro (hq | hq)
  ·rw [dmo_kid0 h hq]; exact dm_nil r
  ·exact dmo_some.1 hq
 ·rw [hu.det hu' (ato_some.1 hv)]; exact .refl _
theorem MG.left {l : Tv} (hu : l.uk) : MG (some l) none l := by
 refine ⟨fun q => ⟨fun h => .inl (dmo_some.2 h),?_⟩,fun q u v hu' ⟨_,e,_⟩ => (by cases e),fun q u v hu' hv _ => ?_⟩
 ·rintro (hq | ⟨_,_,e,_⟩)
  ·exact dmo_some.1 hq
  ·cases e
 ·rw [hu.det hu' (ato_some.1 hv)]; exact .refl _
theorem RM.mp {S : List Nm → Prop} {l c : List (Nm × Tv)} {t' : Tv} (hc : kids (some t') = c) (h0 : t'.cls = 0) (hn : (l.map (·.1)).Nodup)
  (h1 : ∀ k z,(k,z) ∈ c → ∃ x,(k,x) ∈ l ∧ ¬ S [k] ∧ RM (fun q => S (k :: q)) x z) (h2 : ∀ k x,(k,x) ∈ l → ¬ S [k] → ∃ z,(k,z) ∈ c) : RM S (.mp l) t' := by
 constructor
 ·intro q
  cases q with
  | nil => exact ⟨fun _ => ⟨dm_nil _,fun p s hp e => by simp at e; exact absurd e.1 hp⟩,fun _ => dm_nil _⟩
  | cons k q =>
   rw [← dmo_some,← dmo_some,dmo_cons,dmo_cons,hc]
   constructor
   ·rintro ⟨z,hz,hq⟩
    obtain ⟨x,hx,hs,rm⟩ := h1 k z hz
    obtain ⟨g1,g2⟩ := (rm.dom q).1 hq
    refine ⟨⟨x,hx,g1⟩,fun p s hp e hS => ?_⟩
    cases p with
    | nil => exact hp rfl
    | cons k' p =>
     simp only [List.cons_append,List.cons.injEq] at e
     obtain ⟨rfl,rfl⟩ := e
     cases p with
     | nil => exact hs hS
     | cons k₂ p => exact g2 (k₂ :: p) s (by simp) rfl hS
   ·rintro ⟨⟨x,hx,hq⟩,hS⟩
    have hk : ¬ S [k] := hS [k] q (by simp) rfl
    obtain ⟨z,hz⟩ := h2 k x hx hk
    obtain ⟨x',hx',_,rm⟩ := h1 k z hz
    rw [nodup_one hn hx' hx] at rm
    exact ⟨z,hz,(rm.dom q).2 ⟨hq,fun p s hp e hs => hS (k :: p) s (by simp) (by simp [e]) hs⟩⟩
 ·intro q u v hu hv
  cases q with
  | nil =>
   rw [At.nil_iff] at hu hv
   subst hu hv
   exact ⟨fun h => h.elim,h0⟩
  | cons k q =>
   obtain ⟨z,hz,hq⟩ := at_cons.1 hu
   obtain ⟨y,hy,hq'⟩ := at_cons.1 hv
   rw [hc] at hz
   obtain ⟨x,hx,_,rm⟩ := h1 k z hz
   rw [nodup_one hn hx hy] at rm
   exact rm.val q u v hq hq'
theorem RM.none {S : List Nm → Prop} {t : Tv} (hu : t.uk) (h : ∀ p,p ≠ [] → ¬ S p) : RM S t t :=
 ⟨fun q => ⟨fun hd => ⟨hd,fun p s hp _ => h p hp⟩,fun hd => hd.1⟩,fun q u v hu' hv => by rw [hu.det hu' hv]; exact .refl _⟩
def AddP (l r : Option Tv) (p x : List Nm) : Prop := ∃ q,x = p ++ q ∧ x ≠ [] ∧ DmO r q ∧ ¬ DmO l q
def ModP (l r : Option Tv) (p x : List Nm) : Prop := ∃ q u v,x = p ++ q ∧ x ≠ [] ∧ AtO l q u ∧ AtO r q v ∧ u ≠ v
theorem AddP_iff {l r : Option Tv} {p x : List Nm} (hn : nodK l) (hn' : nodK r) : AddP l r p x ↔ (x = p ∧ p ≠ [] ∧ r ≠ none ∧ l = none) ∨ ∃ k y z,Lk (kids l) k y ∧ Lk (kids r) k z ∧ AddP y z (p ++ [k]) x := by
 constructor
 ·rintro ⟨q,rfl,hx,h1,h2⟩
  cases q with
  | nil =>
   rw [dmo_nil] at h1 h2
   refine .inl ⟨by simp,by simpa using hx,h1,Classical.byContradiction h2⟩
  | cons k q =>
   rw [dmo_cons] at h1 h2
   obtain ⟨y,hy⟩ := lk_ex (kids l) k
   obtain ⟨z,hz⟩ := lk_ex (kids r) k
   rw [dmo_lk hn' hz] at h1
   rw [dmo_lk hn hy] at h2
   exact .inr ⟨k,y,z,hy,hz,q,by simp,hx,h1,h2⟩
 ·rintro (⟨rfl,h1,h2,h3⟩ | ⟨k,y,z,hy,hz,q,rfl,hx,h1,h2⟩)
  ·exact ⟨[],by simp,h1,dmo_nil.2 h2,fun h => dmo_nil.1 h h3⟩
  ·refine ⟨k :: q,by simp,hx,?_,?_⟩
   ·rw [dmo_cons,dmo_lk hn' hz]; exact h1
   ·rw [dmo_cons,dmo_lk hn hy]; exact h2
theorem ModP_kid {l r : Option Tv} {p x : List Nm} {k : Nm} {y z : Option Tv} (hy : Lk (kids l) k y) (hz : Lk (kids r) k z) (h : ModP y z (p ++ [k]) x) : ModP l r p x := by
 obtain ⟨q,u,v,rfl,hx,⟨s,rfl,hu⟩,⟨s',rfl,hv⟩,hne⟩ := h
 exact ⟨k :: q,u,v,by simp,hx,ato_cons.2 ⟨s,hy,hu⟩,ato_cons.2 ⟨s',hz,hv⟩,hne⟩
theorem ModP_top {u v : Tv} {p x : List Nm} (hx : x = p ∧ p ≠ []) (h : u ≠ v) : ModP (some u) (some v) p x := ⟨[],u,v,by simp [hx.1],by rw [hx.1]; exact hx.2,ato_nil.2 rfl,ato_nil.2 rfl,h⟩
theorem AddP_no {l : Option Tv} {p x : List Nm} : ¬ AddP l none p x := by rintro ⟨q,_,_,⟨_,_,e,_⟩,_⟩; cases e
theorem cmp_of {l r : Tv} {R M A : List Nm → Prop} (hr : ∀ x,R x ↔ AddP (some r) (some l) [] x) (ha : ∀ x,A x ↔ AddP (some l) (some r) [] x) (hm : ∀ x,M x → ModP (some l) (some r) [] x) : Cmp l r R M A := by
 have key : ∀ a b x,AddP (some a) (some b) [] x ↔ x ≠ [] ∧ Dm b x ∧ ¬ Dm a x := fun a b x => by
  constructor
  ·rintro ⟨q,rfl,h1,h2,h3⟩
   exact ⟨h1,dmo_some.1 h2,fun h => h3 (dmo_some.2 h)⟩
  ·rintro ⟨h1,h2,h3⟩
   exact ⟨x,rfl,h1,dmo_some.2 h2,fun h => h3 (dmo_some.1 h)⟩
 refine ⟨fun x => by rw [hr,key],fun x => by rw [ha,key],fun x hx => ?_⟩
 obtain ⟨q,u,v,rfl,h1,h2,h3,h4⟩ := hm x hx
 exact ⟨h1,u,v,ato_some.1 h2,ato_some.1 h3,h4⟩
end Go.Ux
namespace Go.Ux
open Go Go.Proofs
set_option maxRecDepth 20000
theorem Tr.le {P : Program} {g : FuncId} {args : Array Value} {Z : Fz} {H : Hp} {Q : Value → Fz → Hp → Prop} (h : Tr P g args Z H Q) : Tr P g args Z H fun v Z' H' => Fz.le Z Z' ∧ Q v Z' H' := by
 intro w F hs
 refine Calls.mono (h w F hs) ?_
 rintro e w' ⟨v,he,Z',H',hz,hs',ht,hq⟩
 exact ⟨v,he,Z',H',hz,hs',ht,hz,hq⟩
theorem Fz.lw_back {Z Z' : Fz} {b : Nat} {xs : List Value} (h : Fz.le (Z.add b (cl xs 358)) Z') : Fz.lw Z' (Z'.del b) := Fz.lw_del (h _ _ Fz.add_at)
theorem AVm.get {Z : Fz} : ∀ {l : List (Nm × Tv)} {es : List En} {k : Nm} {x : Tv},AVm Z l es → (k,x) ∈ l → ∃ v,AV Z x v
 | [],_,_,_,_,h => by cases h
 | (k',t) :: l,es,k,x,h5,hx => by
  simp only [AVm] at h5
  obtain ⟨e,es'',_,_,h6,h7⟩ := h5
  rcases List.mem_cons.1 hx with hx | hx
  ·cases hx; exact ⟨_,h6⟩
  ·exact h7.get hx
theorem no_kid {t : Tv} (h : kids (some t) = []) {k : Nm} {q : List Nm} {u : Tv} (hq : At t (k :: q) u) : False := by
 obtain ⟨x,hx,_⟩ := at_cons.1 hq
 rw [h] at hx; cases hx
theorem Al.flat {a b : Tv} (ha : kids (some a) = []) (hb : kids (some b) = []) (hc : a.cls = b.cls) : Al a b := by
 refine ⟨fun q => ?_,fun q x y hx hy => ?_⟩
 ·cases q with
  | nil => exact ⟨fun _ => dm_nil _,fun _ => dm_nil _⟩
  | cons k q => exact ⟨fun ⟨_,h⟩ => (no_kid ha h).elim,fun ⟨_,h⟩ => (no_kid hb h).elim⟩
 ·cases q with
  | nil => rw [At.nil_iff] at hx hy; subst hx hy; exact hc
  | cons k q => exact (no_kid ha hx).elim
theorem AV.at {Z : Fz} : ∀ {q : List Nm} {t u : Tv} {v : Value},AV Z t v → At t q u → ∃ v',AV Z u v'
 | [],t,u,v,h,hq => by rw [At.nil_iff] at hq; subst hq; exact ⟨v,h⟩
 | k :: q,t,u,v,h,hq => by
  obtain ⟨l,x,rfl,hx,hq'⟩ := At.cons_iff.1 hq
  simp only [AV] at h
  obtain ⟨m,es,c,es',_,_,_,_,h5⟩ := h
  obtain ⟨v',h'⟩ := h5.get hx
  exact AV.at h' hq'
theorem MP.nd {Z : Fz} {l : List (Nm × Tv)} {m : Nat} (h : MP Z l m) : (l.map (·.1)).Nodup := by
 obtain ⟨es,c,es',_,h2,h3,h4⟩ := h
 rw [h4.keys]
 exact ((h3.map En.k).nodup_iff).1 h2.kd
theorem AV.mp {Z : Fz} {l : List (Nm × Tv)} {v : Value} (h : AV Z (.mp l) v) : ∃ m,v = .iface 198 (.map (some m)) ∧ MP Z l m := by
 simp only [AV] at h
 obtain ⟨m,es,c,es',h1,h2,h3,h4,h5⟩ := h
 exact ⟨m,h1,es,c,es',h2,h3,h4,h5⟩
theorem AV.uk {Z : Fz} {t : Tv} {v : Value} (h : AV Z t v) : t.uk := fun q l hq => by
 obtain ⟨v',h'⟩ := h.at hq
 obtain ⟨m,_,hm⟩ := h'.mp
 exact hm.nd
theorem Sim.al {a b : Tv} (h : Sim a b) : a.uk → b.uk → Al a b := by
 induction h with
 | null => exact fun _ _ => .flat rfl rfl rfl
 | sc u v => exact fun _ _ => .flat rfl rfl rfl
 | li u v c d => exact fun _ _ => .flat rfl rfl rfl
 | mp l₁ l₂ hl f h1 h2 ih =>
  intro ha hb
  have n1 : (l₁.map (·.1)).Nodup := ha [] l₁ (.here _)
  have n2 : (l₂.map (·.1)).Nodup := hb [] l₂ (.here _)
  have back : ∀ k s,(k,s) ∈ l₁ → ∃ t,(k,t) ∈ l₂ ∧ f k t = s := by
   intro k s hs
   refine Classical.byContradiction fun hno => ?_
   have hk : k ∉ l₂.map (·.1) := fun hk => by
    obtain ⟨⟨k',t⟩,ht,rfl⟩ := List.mem_map.1 hk
    exact hno ⟨t,ht,nodup_one n1 (h1 k' t ht) hs⟩
   have := nodup_len (l := k :: l₂.map (·.1)) (U := l₁.map (·.1)) (List.nodup_cons.2 ⟨hk,n2⟩) fun x hx => by
    rcases List.mem_cons.1 hx with rfl | hx
    ·exact List.mem_map_of_mem (f := (·.1)) hs
    ·obtain ⟨⟨k',t⟩,ht,rfl⟩ := List.mem_map.1 hx
     exact List.mem_map_of_mem (f := (·.1)) (h1 k' t ht)
   simp at this; omega
  refine ⟨fun q => ?_,fun q x y hx hy => ?_⟩
  ·cases q with
   | nil => exact ⟨fun _ => dm_nil _,fun _ => dm_nil _⟩
   | cons k q =>
    rw [← dmo_some,← dmo_some,dmo_cons,dmo_cons]
    constructor
    ·rintro ⟨s,hs,hq⟩
     obtain ⟨t,ht,rfl⟩ := back k s hs
     exact ⟨t,ht,((ih k t ht (ha.child hs) (hb.child ht)).dom q).1 hq⟩
    ·rintro ⟨t,ht,hq⟩
     exact ⟨f k t,h1 k t ht,((ih k t ht (ha.child (h1 k t ht)) (hb.child ht)).dom q).2 hq⟩
  ·cases q with
   | nil => rw [At.nil_iff] at hx hy; subst hx hy; rfl
   | cons k q =>
    obtain ⟨s,hs,hq⟩ := at_cons.1 hx
    obtain ⟨t,ht,hq'⟩ := at_cons.1 hy
    rw [← nodup_one n1 (h1 k t ht) hs] at hq
    exact (ih k t ht (ha.child (h1 k t ht)) (hb.child ht)).cls q x y hq hq'
def Kept (pv : Value) (pcs : List Value) (pv' : Value) (G : Hp) : Prop := (pv' = pv ∧ G = []) ∨ Sl 308 4 pv pcs G
theorem Kept.refl {pv : Value} {pcs : List Value} : Kept pv pcs pv [] := .inl ⟨rfl,rfl⟩
theorem Kept.trans {a b c : Value} {cs : List Value} {G G' : Hp} (h : Kept a cs b G) (k : Kept b cs c G') : Kept a cs c G ∨ (G = [] ∧ Kept a cs c G') := by
 rcases h with ⟨rfl,rfl⟩ | h
 ·exact .inr ⟨rfl,k⟩
 ·exact .inl (.inr h)
theorem Kept.pop {a : Option Addr} {pv pv₂ : Value} {n c : Nat} {cs ds : List Value} {Hq G G₂ : Hp} (hq : Sl 308 4 pv cs Hq) (hg : Gk pv pv₂ 1 Hq G) (hk : Kept pv₂ (cs ++ ds) (.slice a (n + 1) c) G₂) (hd : ds.length = 4) :
  Kept pv cs (.slice a n c) G ∨ Kept pv cs (.slice a n c) G₂ := by
 rcases hg with ⟨rfl,a',n',c',rfl,rfl⟩ | rfl
 ·rcases hk with ⟨e,rfl⟩ | hk
  ·cases e; exact .inl (.inl ⟨rfl,rfl⟩)
  ·exact .inr (.inr (hk.pop hd (by omega)))
 ·exact .inl (.inr hq)
end Go.Ux
namespace Go.Ux
open Go Go.Proofs
set_option maxRecDepth 20000
attribute [local irreducible] WP Tr
theorem f375T (m c : Nat) (es : List En) (g : FuncId) (fs cs : List Value) (Z : Fz) (H₀ : Hp) [Ent Tryz.prog g] [Zf Z m (mp es c)] (hst : Stm es c) (hone : ∀ e ∈ es,e.v.cells = #[e.v] ∧ e.v.oneCell' = true)
  (I : List En → Fz → Hp → Prop) (h0 : I [] Z H₀)
  (hcb : ∀ done e Z₁ H₁ b,Fz.le Z Z₁ → e ∈ es → (∀ x ∈ done,x ∈ es) → e ∉ done → I done Z₁ H₁ → Z₁ b = none →
   Tr Tryz.prog g (fs ++ [Value.string e.k,Value.iface 301 (.pointer (some ⟨b,0,none⟩))] ++ cs).toArray (Z₁.add b (cl [e.v] 358)) H₁ fun v Z₂ H₂ => v = .bool true ∧ I (done ++ [e]) (Z₂.del b) H₂) :
  Tr Tryz.prog 375 #[.map (some m),.func (.func g) fs.toArray cs.toArray] Z H₀ fun v Z' H' => v = .bool true ∧ ∃ done,done.Perm es ∧ I done Z' H' := by
 refine Tr.introk Tryz.func375 rfl Tryz.ntmps375 Tryz.results375 rfl ?_
 refine gn ?_; intro b
 refine gn ?_
 refine ct (args := [.map (some m),.iface 261 (pt b),.func (.func g) fs.toArray cs.toArray]) (f376T m c es (pt b) g fs cs Z H₀ hst hone I h0 hcb) ?_
 rintro _ Z' H' hz ⟨rfl,done,hd,hI⟩
 refine gn ?_
 exact fk1 (A := H') ⟨rfl,done,hd,hI⟩
section
variable {Z : Fz}
theorem f236 (w sc nb sb : Nat) (v pv sp r p : Value) (π U : List Nm) (pcs : List Value) (s : FS) (Hq HS Hs : Hp) [One v] [One sp] (hq : Sl 308 4 pv pcs Hq) (hpm : PM Z π pcs) (hos : OS Z s sb HS) (hw : s.Wf U) (hU : U.length ≤ 1073741824) (hπU : ∀ k ∈ π,k ∈ U) :
  Tr Tryz.prog 236 #[pt w,p] Z ((w,cl (fw v sc nb sb pv sp r) 233) :: (Hq ++ (HS ++ Hs))) fun x Z' H' => x = .slice none 0 0 ∧ Z = Z' ∧ ∃ s' HS',H' = (w,cl (fw v sc nb sb pv sp r) 233) :: (Hq ++ (HS' ++ Hs)) ∧ OS Z s' sb HS' ∧ s'.Wf U ∧ ∀ x,s'.has x ↔ s.has x ∨ (x = π ∧ π ≠ []) := by
 haveI := hq.one
 refine Tr.introk Tryz.func236 rfl Tryz.ntmps236 Tryz.results236 rfl ?_
 refine gn ?_
 refine WP.drawT [(w,cl (fw v sc nb sb pv sp r) 233)] (Hq ++ (HS ++ Hs)) mo (by decide +kernel) (prm rfl) ?_
 refine gn ?_
 refine ct (f82o sb pv π pcs s HS Hq U Z hos hw hU hq hpm hπU) ?_
 rintro _ _ _ _ ⟨rfl,rfl,s',HS',rfl,hos',hw',hx'⟩
 refine gn ?_
 refine fk1 (A := (w,cl (fw v sc nb sb pv sp r) 233) :: (Hq ++ (HS' ++ Hs))) ?_
 exact ⟨rfl,rfl,s',HS',rfl,hos',hw',fun x => by rw [hx']⟩
theorem f234 (w sc nb sb lb a ab : Nat) (y pv sp r : Value) (π U : List Nm) (pcs : List Value) (s : FS) (Hq HS Hs : Hp) [One sp] (ha : Z a = some (cl [.iface 197 y] 358)) (hl : Z lb = some (cl [.pointer (some ⟨ab,0,none⟩),.pointer none,.pointer none,.pointer none,.pointer none,.bool false,.string stA,.slice none 0 0] 293))
  (hq : Sl 308 4 pv pcs Hq) (hpm : PM Z π pcs) (hos : OS Z s sb HS) (hw : s.Wf U) (hU : U.length ≤ 1073741824) (hπU : ∀ k ∈ π,k ∈ U) :
  Tr Tryz.prog 234 #[pt w,pt lb] Z ((w,cl (fw (vv a) sc nb sb pv sp r) 233) :: (Hq ++ (HS ++ Hs))) fun x Z' H' => x = .slice none 0 0 ∧ Z = Z' ∧ ∃ s' HS',H' = (w,cl (fw (vv a) sc nb sb pv sp r) 233) :: (Hq ++ (HS' ++ Hs)) ∧ OS Z s' sb HS' ∧ s'.Wf U ∧ ∀ x,s'.has x ↔ s.has x ∨ (x = π ∧ π ≠ []) := by
 haveI := hq.one
 haveI : Zf Z lb _ := ⟨.of (hl)⟩
 refine Tr.introk Tryz.func234 rfl Tryz.ntmps234 Tryz.results234 rfl ?_
 refine gn ?_
 refine WP.drawA mo (by decide +kernel) ?_
 refine gn ?_
 refine cp (f237 r y a ha) ?_
 rintro _ rfl
 refine gn ?_
 refine o_free rfl rfl ?_
 refine gn ?_
 refine WP.drawT [(w,cl (fw (vv a) sc nb sb pv sp r) 233)] (Hq ++ (HS ++ Hs)) mo (by decide +kernel) (prm rfl) ?_
 refine gn ?_
 refine ct (f82o sb pv π pcs s HS Hq U Z hos hw hU hq hpm hπU) ?_
 rintro _ _ _ _ ⟨rfl,rfl,s',HS',rfl,hos',hw',hx'⟩
 refine gn ?_
 refine fin_free ?_
 refine fk1 (A := (w,cl (fw (vv a) sc nb sb pv sp r) 233) :: (Hq ++ (HS' ++ Hs))) ?_
 exact ⟨rfl,rfl,s',HS',rfl,hos',hw',fun x => by rw [hx']⟩
set_option maxHeartbeats 4000000 in
theorem f240 {N : Nat} (ih : T89 N) (l : List (Nm × Tv)) (m w sc sb₀ lb mb eb nb sb B : Nat) (v pv sp r : Value) [One v] (π U : List Nm) (pcs : List Value) (s : FS) (Hq HS Hs : Hp)
  (ht : szM l < N) (hN : N ≤ B) (hB : B ≤ 17179869184) (hπ : π.length + 1 + N ≤ 17179869184) (hsc : Sch Z sc sb₀ lb mb eb) (hm : MP Z l m) (hq : Sl 308 4 pv pcs Hq) (hpm : PM Z π pcs) (hos : OS Z s sb HS) (hw : s.Wf U) (hU : U.length ≤ 1073741824) (hπU : ∀ k ∈ π,k ∈ U) (htU : (Tv.mp l).inU U) (hs : SPf (B + 1) sp Hs) :
  Tr Tryz.prog 240 #[pt w,pt mb,.iface 505 (.map (some m))] Z ((w,cl (fw v sc nb sb pv sp r) 233) :: (Hq ++ (HS ++ Hs))) fun x Z' H' => x = .slice none 0 0 ∧ ∃ pv' sp' s' Hq' HS' Hs',H' = (w,cl (fw v sc nb sb pv' sp' r) 233) :: (Hq' ++ (HS' ++ Hs')) ∧ Sl 308 4 pv' pcs Hq' ∧ OS Z' s' sb HS' ∧ s'.Wf U ∧ (∀ x,s'.has x ↔ s.has x ∨ TF (.mp l) π x) ∧ SPf (B + 1) sp' Hs' ∧ ((∃ b,sp = pt b) → sp' = sp) := by
 haveI := hs.one
 haveI := hq.one
 have hnd := hm.nd
 refine Tr.introk Tryz.func240 rfl Tryz.ntmps240 Tryz.results240 rfl ?_
 refine gn ?_; intro b3
 refine gn ?_; intro b4
 refine gn ?_; intro b6
 refine gn ?_
 obtain ⟨es,c,es',hz,hst,hp,hav⟩ := hm
 haveI : Zf Z m _ := ⟨.of (hz)⟩
 refine ci (args := [.func (.func 245) #[] #[pt b4,pt b3,pt b6]]) (f375T m c es 245 [] [pt b4,pt b3,pt b6] Z ((b4,cl [pt mb] 95) :: (b3,cl [pt w] 226) :: (b6,cl [.slice none 0 0] 229) :: (w,cl (fw v sc nb sb pv sp r) 233) :: (Hq ++ (HS ++ Hs))) hst
  (fun e he => by obtain ⟨t,_,h⟩ := hav.lk e (hp.mem_iff.1 he); exact ⟨h.cells,h.cell1⟩)
  (fun done Z' H' => ∃ pv' sp' s' Hq' HS' Hs',H' = (b4,cl [pt mb] 95) :: (b3,cl [pt w] 226) :: (b6,cl [.slice none 0 0] 229) :: (w,cl (fw v sc nb sb pv' sp' r) 233) :: (Hq' ++ (HS' ++ Hs')) ∧ Sl 308 4 pv' pcs Hq' ∧ OS Z' s' sb HS' ∧ s'.Wf U ∧ (∀ x,s'.has x ↔ s.has x ∨ ∃ e ∈ done,∃ t,(e.k,t) ∈ l ∧ (x = π ++ [e.k] ∨ TF t (π ++ [e.k]) x)) ∧ SPf (B + 1) sp' Hs' ∧ ((∃ b,sp = pt b) → sp' = sp)) ⟨pv,sp,s,Hq,HS,Hs,rfl,hq,hos,hw,fun x => by simp,hs,fun _ => rfl⟩ ?cb) ?_
 case cb =>
  rintro done e Z₁ H₁ b hz he _ _ ⟨pv',sp',s',Hq',HS',Hs',rfl,hq',hos',hw',hx',hs',hk⟩ hb
  obtain ⟨t,ht',hv⟩ := hav.lk e (hp.mem_iff.1 he)
  have hz' : Fz.le Z (Z₁.add b (cl [e.v] 358)) := hz.trans (Fz.le_add hb)
  obtain ⟨u1,u2⟩ := htU.child ht'
  refine Tr.mono (f245 ih t w sc sb₀ lb mb eb nb b sb B b4 b3 b6 e.k e.v v pv' sp' r π U pcs s' Hq' HS' Hs' (Nat.lt_of_le_of_lt (sz_memM ht') ht) hN hB hπ (hsc.mono hz') Fz.add_at (hv.mono hz') hq' (hpm.mono hz') (hos'.lw (Fz.le_add hb).lw) hw' hU hπU u1 u2 hs').le ?_
  rintro _ Z₂ _ ⟨hz₂,rfl,pv'',sp'',s'',Hq'',HS'',Hs'',rfl,hq'',hos'',hw'',hx'',hs'',hk''⟩
  refine ⟨rfl,pv'',sp'',s'',Hq'',HS'',Hs'',rfl,hq'',hos''.lw (Fz.lw_back hz₂),hw'',fun x => ?_,hs'',fun ⟨b,h⟩ => (hk'' ⟨b,(hk ⟨b,h⟩).trans h⟩).trans (hk ⟨b,h⟩)⟩
  rw [hx'',hx']
  constructor
  ·rintro ((h | ⟨e',he',h⟩) | h)
   ·exact .inl h
   ·exact .inr ⟨e',List.mem_append_left _ he',h⟩
   ·exact .inr ⟨e,by simp,t,ht',h⟩
  ·rintro (h | ⟨e',he',t',h1,h2⟩)
   ·exact .inl (.inl h)
   ·rcases List.mem_append.1 he' with he' | he'
    ·exact .inl (.inr ⟨e',he',t',h1,h2⟩)
    ·simp only [List.mem_singleton] at he'; subst he'
     rw [nodup_one hnd h1 ht'] at h2
     exact .inr h2
 rintro _ Z₁ _ hz₁ ⟨rfl,done,hd,pv',sp',s',Hq',HS',Hs',rfl,hq',hos',hw',hx',hs',hk⟩
 refine gn ?_
 refine fkS (A := (w,cl (fw v sc nb sb pv' sp' r) 233) :: (Hq' ++ (HS' ++ Hs'))) rfl rfl ⟨rfl,pv',sp',s',Hq',HS',Hs',rfl,hq',hos',hw',fun x => ?_,hs',hk⟩
 rw [hx',TF_mp]
 constructor
 ·rintro (h | ⟨e,_,t,h⟩)
  ·exact .inl h
  ·exact .inr ⟨e.k,t,h⟩
 ·rintro (h | ⟨k,t,h1,h2⟩)
  ·exact .inl h
  ·have : k ∈ es'.map En.k := by rw [← hav.keys]; exact List.mem_map_of_mem (f := (·.1)) h1
   obtain ⟨e,he,rfl⟩ := List.mem_map.1 this
   exact .inr ⟨e,hd.mem_iff.2 (hp.mem_iff.2 he),t,h1,h2⟩
theorem f235_n (w sc nb sb mb a eb : Nat) (pv sp r _rel : Value) (Hs : Hp) [One pv] [One sp] (ha : Z a = some (cl [.nilIface] 358)) (hm : Z mb = some (cl [.slice none 0 0,.slice none 0 0,.pointer (some ⟨eb,0,none⟩),.pointer none,.pointer none,.pointer none,.pointer none,.bool false,.string stS] 298)) :
  Tr Tryz.prog 235 #[pt w,pt mb] Z ((w,cl (fw (vv a) sc nb sb pv sp r) 233) :: Hs) fun x Z' H' => x = .slice none 0 0 ∧ Z = Z' ∧ H' = (w,cl (fw (vv a) sc nb sb pv sp r) 233) :: Hs := by
 haveI : Zf Z mb _ := ⟨.of (hm)⟩
 refine Tr.introk Tryz.func235 rfl Tryz.ntmps235 Tryz.results235 rfl ?_
 refine gn ?_
 refine WP.drawA mo (by decide +kernel) ?_
 refine gn ?_
 refine cp (f239_n r a ha) ?_
 rintro _ rfl
 refine gn ?_
 refine o_eqs rfl rfl rfl (r := false) (by decide +kernel) ?_
 refine gn ?_
 exact fk1 (A := (w,cl (fw (vv a) sc nb sb pv sp r) 233) :: Hs) ⟨rfl,rfl,rfl⟩
theorem f235 {N : Nat} (ih : T89 N) (l : List (Nm × Tv)) (m w sc sb₀ lb mb eb nb sb B a : Nat) (pv sp r : Value) (π U : List Nm) (pcs : List Value) (s : FS) (Hq HS Hs : Hp)
  (ht : szM l < N) (hN : N ≤ B) (hB : B ≤ 17179869184) (hπ : π.length + 1 + N ≤ 17179869184) (hsc : Sch Z sc sb₀ lb mb eb) (ha : Z a = some (cl [.iface 198 (.map (some m))] 358)) (hm : MP Z l m) (hq : Sl 308 4 pv pcs Hq) (hpm : PM Z π pcs) (hos : OS Z s sb HS) (hw : s.Wf U) (hU : U.length ≤ 1073741824) (hπU : ∀ k ∈ π,k ∈ U) (htU : (Tv.mp l).inU U) (hs : SPf (B + 1) sp Hs) :
  Tr Tryz.prog 235 #[pt w,pt mb] Z ((w,cl (fw (vv a) sc nb sb pv sp r) 233) :: (Hq ++ (HS ++ Hs))) fun x Z' H' => x = .slice none 0 0 ∧ ∃ pv' sp' s' Hq' HS' Hs',H' = (w,cl (fw (vv a) sc nb sb pv' sp' r) 233) :: (Hq' ++ (HS' ++ Hs')) ∧ Sl 308 4 pv' pcs Hq' ∧ OS Z' s' sb HS' ∧ s'.Wf U ∧ (∀ x,s'.has x ↔ s.has x ∨ TF (.mp l) π x) ∧ SPf (B + 1) sp' Hs' ∧ ((∃ b,sp = pt b) → sp' = sp) := by
 haveI := hs.one
 haveI := hq.one
 haveI : Zf Z mb _ := ⟨.of (hsc.m)⟩
 refine Tr.introk Tryz.func235 rfl Tryz.ntmps235 Tryz.results235 rfl ?_
 refine gn ?_
 refine WP.drawA mo (by decide +kernel) ?_
 refine gn ?_
 refine cp (f239 r a m ha) ?_
 rintro _ rfl
 refine gn ?_
 refine o_free rfl rfl ?_
 refine gn ?_
 refine o_eqs rfl rfl rfl (r := false) (by decide +kernel) ?_
 refine gn ?_
 refine ct (f240 ih l m w sc sb₀ lb mb eb nb sb B (vv a) pv sp r π U pcs s Hq HS Hs ht hN hB hπ hsc hm hq hpm hos hw hU hπU htU hs) ?_
 rintro _ Z₁ _ hz ⟨rfl,pv',sp',s',Hq',HS',Hs',rfl,hq',hos',hw',hx',hs',hk⟩
 refine gn ?_
 refine fin_free ?_
 exact fk1 (A := (w,cl (fw (vv a) sc nb sb pv' sp' r) 233) :: (Hq' ++ (HS' ++ Hs'))) ⟨rfl,pv',sp',s',Hq',HS',Hs',rfl,hq',hos',hw',hx',hs',hk⟩
end
end Go.Ux
namespace Go.Ux
open Go Go.Proofs
set_option maxRecDepth 20000
attribute [local irreducible] WP Tr
theorem FS.no (x : List Nm) : ¬ (FS.mk [] []).has x := by
 cases x with
 | nil => exact FS.has_nil _
 | cons k q => rw [FS.has_cons]; rintro (⟨_,h⟩ | ⟨_,h,_⟩) <;> cases h
set_option maxHeartbeats 1000000 in
theorem f89 : ∀ N,T89 N
 | 0 => fun t Z w sc sb₀ lb mb eb nb a sb B u pv sp r π U pcs s Hq HS Hs ht => by omega
 | N + 1 => by
  intro t Z w sc sb₀ lb mb eb nb a sb B u pv sp r π U pcs s Hq HS Hs ht hN hB hπ hsc hnb ha hu hq hpm hos hw hU hπU htU hs
  obtain ⟨B,rfl⟩ : ∃ B',B = B' + 1 := ⟨B - 1,by omega⟩
  haveI := hs.one
  haveI := hq.one
  have ih := f89 N
  have key : Tr Tryz.prog 129 #[.pointer (some ⟨sc,0,none⟩),.agg (tref nb).toArray,vv a,.iface 226 (pt w)] Z ((w,cl (fw (vv a) sc nb sb pv sp r) 233) :: (Hq ++ (HS ++ Hs))) fun v Z' H' => v = .slice none 0 0 ∧ ∃ pv' sp' s' Hq' HS' Hs',H' = (w,cl (fw (vv a) sc nb sb pv' sp' r) 233) :: (Hq' ++ (HS' ++ Hs')) ∧ Sl 308 4 pv' pcs Hq' ∧ OS Z' s' sb HS' ∧ s'.Wf U ∧ (∀ x,s'.has x ↔ s.has x ∨ TF t π x) ∧ SPf (B + 1) sp' Hs' ∧ ((∃ b,sp = pt b) → sp' = sp) := by
   refine f129 _ (some t) (vv a) rfl hsc hnb (.some ⟨a,u,rfl,ha,hu⟩) ?_
   cases t with
   | null =>
    simp only [AV] at hu; subst hu
    refine f159_mp _ (.inr rfl) (Tr.mono (f235_n w sc nb sb mb a eb pv sp r .nilIface (Hq ++ (HS ++ Hs)) ha hsc.m) ?_)
    rintro _ _ _ ⟨rfl,rfl,rfl⟩
    exact ⟨rfl,pv,sp,s,Hq,HS,Hs,rfl,hq,hos,hw,fun x => by simp [TF_null],hs,fun _ => rfl⟩
   | sc x =>
    simp only [AV] at hu; obtain ⟨rfl,hx⟩ := hu
    refine f159_sc (Tr.mono (f236 w sc nb sb (vv a) pv sp r _ π U pcs s Hq HS Hs hq hpm hos hw hU hπU) ?_)
    rintro _ _ _ ⟨rfl,rfl,s',HS',rfl,hos',hw',hx'⟩
    exact ⟨rfl,pv,sp,s',Hq,HS',Hs,rfl,hq,hos',hw',fun x => by rw [hx',TF_sc],hs,fun _ => rfl⟩
   | li x ts =>
    simp only [AV] at hu; obtain ⟨rfl,y,n,vs,rfl,_,_,_⟩ := hu
    obtain ⟨ab,hl,_⟩ := hsc.l
    refine f159_li (Tr.mono (f234 w sc nb sb lb a ab y pv sp r π U pcs s Hq HS Hs ha hl hq hpm hos hw hU hπU) ?_)
    rintro _ _ _ ⟨rfl,rfl,s',HS',rfl,hos',hw',hx'⟩
    exact ⟨rfl,pv,sp,s',Hq,HS',Hs,rfl,hq,hos',hw',fun x => by rw [hx',TF_li],hs,fun _ => rfl⟩
   | mp l =>
    obtain ⟨m,rfl,hm⟩ := hu.mp
    exact f159_mp _ (.inl rfl) (f235 ih l m w sc sb₀ lb mb eb nb sb B a pv sp r π U pcs s Hq HS Hs (by simp only [Tv.sz] at ht; omega) (by omega) (by omega) (by omega) hsc ha hm hq hpm hos hw hU hπU htU hs)
  refine Tr.introk Tryz.func89 rfl Tryz.ntmps89 Tryz.results89 rfl ?_
  refine gn ?_
  refine WP.drawS [(w,cl (fw (vv a) sc nb sb pv sp r) 233)] (Hq ++ (HS ++ Hs)) 14 mo (by decide +kernel) (prm rfl) ?_
  refine gn ?_
  refine ⟨[],_,spp,?_⟩
  refine ct (args := [.pointer (some ⟨sc,0,none⟩),.agg (tref nb).toArray,vv a,.iface 226 (pt w)]) key ?_
  rintro _ Z₁ _ hz ⟨rfl,pv',sp',s',Hq',HS',Hs',rfl,hq',hos',hw',hx',hs',hk⟩
  refine gn ?_
  exact fk1 (A := (w,cl (fw (vv a) sc nb sb pv' sp' r) 233) :: (Hq' ++ (HS' ++ Hs'))) ⟨rfl,pv',sp',s',Hq',HS',Hs',rfl,hq',hos',hw',hx',hs',hk⟩
section
variable {Z : Fz}
theorem f87 (v : Value) [One v] (sc nb : Nat) : Tr Tryz.prog 87 #[.agg (tv v sc nb).toArray] Z [] fun x Z' H' => ∃ w sb r,x = pt w ∧ Z = Z' ∧ H' = [(w,cl (fw v sc nb sb (.slice none 0 0) (.pointer none) r) 233),(sb,cl [.slice none 0 0,.slice none 0 0] 281)] := by
 refine Tr.introk Tryz.func87 rfl Tryz.ntmps87 Tryz.results87 rfl ?_
 refine gn ?_; intro b1
 refine gn ?_; intro b3
 refine gn ?_; intro b4
 refine gn ?_
 refine ct (f65 _) ?_
 rintro _ _ _ _ ⟨r,rfl,rfl,rfl⟩
 refine gn ?_
 exact fk1 (A := [(b3,cl (fw v sc nb b4 (.slice none 0 0) (.pointer none) (pt r)) 233),(b4,cl [.slice none 0 0,.slice none 0 0] 281)]) ⟨b3,b4,_,rfl,rfl,rfl⟩
theorem d88 (w sb : Nat) (v : Value) (sc nb : Nat) (pv sp r : Value) : TrD Tryz.prog 88 #[pt w] Z [(w,cl (fw v sc nb sb pv sp r) 233)] fun Z' _ => Z = Z' := by
 refine TrD.intro0 Tryz.func88 rfl Tryz.ntmps88 Tryz.results88 rfl ?_
 refine gd ?_
 refine dq1 rfl
theorem f59 (t : Tv) (sc sb₀ lb mb eb nb a : Nat) (u : Value) (U : List Nm) (ht : t.sz ≤ 4294967296) (hsc : Sch Z sc sb₀ lb mb eb) (hnb : Z nb = some (cl [.string nmD] 9)) (ha : Z a = some (cl [u] 358)) (hu : AV Z t u) (hU : U.length ≤ 1073741824) (htU : t.inU U) :
  Gr Tryz.prog 59 #[.agg (tv (vv a) sc nb).toArray] Z fun x Z' => ∃ sb s,x = .tuple #[pt sb,.nilIface] ∧ SR Z' s sb ∧ s.Wf U ∧ ∀ x,s.has x ↔ TF t [] x := by
 refine Gr.intro Tryz.func59 rfl Tryz.ntmps59 Tryz.results59 rfl ?_
 refine gn ?_; intro b1
 refine gn ?_
 refine ct (f87 (vv a) sc nb) ?_
 rintro _ _ _ _ ⟨w,sb,r,rfl,rfl,rfl⟩
 refine gn ?_
 refine o_dfr (args := [pt w]) ?_
 refine gn ?_
 refine ct (f89 (t.sz + 1) t Z w sc sb₀ lb mb eb nb a sb (t.sz + 1) u (.slice none 0 0) (.pointer none) r [] U [] (.mk [] []) [] [(sb,cl [.slice none 0 0,.slice none 0 0] 281)] [] (by omega) (by omega) (by omega) (by simp; omega) hsc hnb ha hu .nil rfl .empty .empty hU (by simp) htU .nil) ?_
 rintro _ Z₁ _ hz ⟨rfl,pv',sp',s',Hq',HS',Hs',rfl,hq',hos',hw',hx',hs',hk⟩
 refine gn ?_
 refine fin_dfr (d88 w sb (vv a) sc nb pv' sp' r) ?_
 rintro _ _ rfl
 refine fin2 ?_
 intro Z' hz' hp
 refine ⟨sb,s',rfl,hos'.frz hz' fun p h => hp p (by simp [h]),hw',fun x => by rw [hx']; exact ⟨fun h => h.resolve_left (FS.no x),.inr⟩⟩
end
end Go.Ux
namespace Go.Ux
open Go Go.Proofs
set_option maxRecDepth 20000
attribute [local irreducible] WP Tr
abbrev cw (lv rv : Value) (sc nb : Nat) (pv : Value) (cb : Nat) (q : Bool) (sp r : Value) : List Value := [lv,rv,pt sc,pt nb,.pointer none,.pointer none,.pointer none,.pointer none,.bool false,pv,pt cb,.bool q,sp,.iface 261 r]
abbrev SPc (B : Nat) : Value → Hp → Prop := SP 343 340 560 14 B
section
variable {Z : Fz}
set_option maxHeartbeats 1000000 in
theorem f340 (w sc nb nb' cb cb' B kb : Nat) (lv rv pv sp r : Value) (pcs : List Value) (Hq Hs : Hp) [One lv] [One rv] (hp : Sl 308 4 pv pcs Hq) (hn : pcs.length ≤ 68719476736) (hs : SPc (B + 1) sp Hs) (hB : B ≤ 68719476736) :
  Tr Tryz.prog 340 #[pt w,.agg (pe kb).toArray,.agg (tref nb').toArray,pt cb'] Z ((w,cl (cw lv rv sc nb pv cb false sp r) 343) :: (Hq ++ Hs)) fun x Z' H' => ∃ w' sp' pv' Hq' Hs' G,x = pt w' ∧ Z = Z' ∧ H' = (w,cl (cw lv rv sc nb pv cb false sp' r) 343) :: (w',cl (cw .nilIface .nilIface sc nb' pv' cb' false sp' r) 343) :: (Hq' ++ (G ++ Hs')) ∧ Sl 308 4 pv' (pcs ++ pe kb) Hq' ∧ Gk pv pv' 1 Hq G ∧ SPc B sp' Hs' ∧ (∃ b,sp' = pt b) ∧ ((∃ b,sp = pt b) → sp' = sp) := by
 refine Tr.introk Tryz.func340 rfl Tryz.ntmps340 Tryz.results340 rfl ?_
 haveI : One sp := hs.one
 obtain ⟨pa,pn,pc,rfl,hpl,hpc⟩ := hp.val
 refine gn ?_; intro b4
 refine gn ?_; intro b5
 rcases hs with ⟨rfl,rfl⟩ | ⟨sb',sv,ps,Hr,Hw,rfl,rfl,h1,h2,h3⟩
 ·refine gn ?_; intro b1
  refine gn ?_; intro b2
  refine gn ?_; intro b3
  refine gn ?_
  refine o_storeA rfl rfl rfl rfl (al1 (al1 rfl)) ?_
  refine gn ?_
  refine WP.only ((w,cl (cw lv rv sc nb (.slice pa pn pc) cb false (.pointer (some ⟨b2,0,none⟩)) r) 343) :: (b3,cl (cw lv rv sc nb' (.slice pa pn pc) cb false (.pointer (some ⟨b2,0,none⟩)) r) 343) :: (b4,cl (pe kb) 308) :: (Hq ++ [(b2,cl [.slice (some ⟨b1,0,none⟩) 0 0] 560),(b1,cl [] 340)])) ?_
  refine WP.drawS [(b3,cl (cw lv rv sc nb' (.slice pa pn pc) cb false (.pointer (some ⟨b2,0,none⟩)) r) 343),(b4,cl (pe kb) 308)] ((w,cl (cw lv rv sc nb (.slice pa pn pc) cb false (.pointer (some ⟨b2,0,none⟩)) r) 343) :: (Hq ++ [(b2,cl [.slice (some ⟨b1,0,none⟩) 0 0] 560),(b1,cl [] 340)])) 8 mo (by decide +kernel) (prm rfl) ?_
  refine gn ?_; intro b6
  refine oapk (ds := pe kb) hp rfl rfl rfl (Rs.cells (inferInstance : Mem _ Z _ _ b6 (cl _ 308)) rfl (Nat.le_refl 1)) (by simp [Value.oneCell']) (by omega) (by simp; omega) ?_
  intro pv' Hq' G hp' hG
  haveI := hp'.one
  refine r_two [] ?_
  refine gn ?_
  refine fk1 (A := (w,cl (cw lv rv sc nb (.slice pa pn pc) cb false (.pointer (some ⟨b2,0,none⟩)) r) 343) :: (b3,cl (cw .nilIface .nilIface sc nb' pv' cb' false (.pointer (some ⟨b2,0,none⟩)) r) 343) :: (Hq' ++ (G ++ [(b2,cl [.slice (some ⟨b1,0,none⟩) 0 0] 560),(b1,cl [] 340)]))) ?_
  exact ⟨b3,_,_,Hq',_,G,rfl,rfl,rfl,hp',hG,.inr ⟨b2,_,[],[_],[],rfl,rfl,.row b1 0 0 [] [] rfl rfl (by omega),rfl,by simp⟩,⟨_,rfl⟩,fun ⟨_,h⟩ => by cases h⟩
 ·obtain ⟨oa,n,c,rfl,hcl,hnc⟩ := h1.val
  refine gn ?_
  rcases List.eq_nil_or_concat ps with rfl | ⟨ps',p,rfl⟩
  ·have hn : n = 0 := by simpa using hcl.symm
   subst hn
   refine gn ?_; intro b3
   refine gn ?_
   refine o_storeA rfl rfl rfl rfl (al1 (al1 rfl)) ?_
   refine gn ?_
   refine WP.only ((w,cl (cw lv rv sc nb (.slice pa pn pc) cb false (.pointer (some ⟨sb',0,none⟩)) r) 343) :: (b3,cl (cw lv rv sc nb' (.slice pa pn pc) cb false (.pointer (some ⟨sb',0,none⟩)) r) 343) :: (b4,cl (pe kb) 308) :: (Hq ++ (sb',cl [.slice oa 0 c] 560) :: (Hr ++ Hw))) ?_
   refine WP.drawS [(b3,cl (cw lv rv sc nb' (.slice pa pn pc) cb false (.pointer (some ⟨sb',0,none⟩)) r) 343),(b4,cl (pe kb) 308)] ((w,cl (cw lv rv sc nb (.slice pa pn pc) cb false (.pointer (some ⟨sb',0,none⟩)) r) 343) :: (Hq ++ (sb',cl [.slice oa 0 c] 560) :: (Hr ++ Hw))) 8 mo (by decide +kernel) (prm rfl) ?_
   refine gn ?_; intro b6
   refine oapk (ds := pe kb) hp rfl rfl rfl (Rs.cells (inferInstance : Mem _ Z _ _ b6 (cl _ 308)) rfl (Nat.le_refl 1)) (by simp [Value.oneCell']) (by omega) (by simp; omega) ?_
   intro pv' Hq' G hp' hG
   haveI := hp'.one
   refine r_two [] ?_
   refine gn ?_
   refine fk1 (A := (w,cl (cw lv rv sc nb (.slice pa pn pc) cb false (.pointer (some ⟨sb',0,none⟩)) r) 343) :: (b3,cl (cw .nilIface .nilIface sc nb' pv' cb' false (.pointer (some ⟨sb',0,none⟩)) r) 343) :: (Hq' ++ (G ++ (sb',cl [.slice oa 0 c] 560) :: (Hr ++ Hw)))) ?_
   exact ⟨b3,_,_,Hq',_,G,rfl,rfl,rfl,hp',hG,.inr ⟨sb',_,[],Hr,Hw,rfl,rfl,h1,h2,by simp⟩,⟨_,rfl⟩,fun _ => rfl⟩
  ·rw [List.concat_eq_append] at *
   obtain ⟨pb,px,Hw',rfl,hpx,rfl,hw'⟩ := h2.snoc
   obtain ⟨rb,_,_,ro,e0,rfl,hr1,hr2,hr3⟩ := h1.ne (by simp)
   cases e0
   have hn : n = ps'.length + 1 := by simpa using hr1.symm
   subst hn
   refine o_gtr rfl rfl rfl (r := true) (decide_eq_true (by omega)) ?_
   refine gn ?_
   refine WP.drawS [(w,cl (cw lv rv sc nb (.slice pa pn pc) cb false (.pointer (some ⟨sb',0,none⟩)) r) 343),(sb',cl [.slice (some ⟨rb,0,none⟩) (ps'.length + 1) c] 560),(rb,cl (ps' ++ [.pointer (some ⟨pb,0,none⟩)] ++ ro) 340)] ((b4,cl (pe kb) 308) :: (b5,cl (tref nb') 100) :: (Hq ++ (Hw' ++ [(pb,cl px 343)]))) 24 mo (by decide +kernel) (prm rfl) ?_
   refine gn ?_
   refine o_indexAddrN (ik := .i64) ps'.length ps'.length (by omega) (by omega) rfl rfl (int_eq (by simp only [Int.ofNat_eq_natCast]; omega)) ?_
   refine o_load1 (v := .pointer (some ⟨pb,0,none⟩)) rfl rfl (by simp) ?_
   refine gn ?_
   refine o_sliceH (ik := .i64) (j := ps'.length) rfl rfl (int_eq (by simp only [Int.ofNat_eq_natCast]; omega)) (by omega) ?_
   refine gn ?_
   refine ⟨[],_,spp,?_⟩
   refine gn ?_
   haveI := SetS.full (xs := px) (vs := cw lv rv sc nb (.slice pa pn pc) cb false (.pointer (some ⟨sb',0,none⟩)) r) hpx
   refine o_storeA rfl rfl rfl rfl (al1 (al1 rfl)) ?_
   refine gn ?_
   refine WP.only ((w,cl (cw lv rv sc nb (.slice pa pn pc) cb false (.pointer (some ⟨sb',0,none⟩)) r) 343) :: (pb,cl (cw lv rv sc nb' (.slice pa pn pc) cb false (.pointer (some ⟨sb',0,none⟩)) r) 343) :: (b4,cl (pe kb) 308) :: (Hq ++ (sb',cl [.slice (some ⟨rb,0,none⟩) ps'.length c] 560) :: ([(rb,cl (ps' ++ [.pointer (some ⟨pb,0,none⟩)] ++ ro) 340)] ++ Hw'))) ?_
   refine WP.drawS [(pb,cl (cw lv rv sc nb' (.slice pa pn pc) cb false (.pointer (some ⟨sb',0,none⟩)) r) 343),(b4,cl (pe kb) 308)] ((w,cl (cw lv rv sc nb (.slice pa pn pc) cb false (.pointer (some ⟨sb',0,none⟩)) r) 343) :: (Hq ++ (sb',cl [.slice (some ⟨rb,0,none⟩) ps'.length c] 560) :: ([(rb,cl (ps' ++ [.pointer (some ⟨pb,0,none⟩)] ++ ro) 340)] ++ Hw'))) 8 mo (by decide +kernel) (prm rfl) ?_
   refine gn ?_; intro b6
   refine oapk (ds := pe kb) hp rfl rfl rfl (Rs.cells (inferInstance : Mem _ Z _ _ b6 (cl _ 308)) rfl (Nat.le_refl 1)) (by simp [Value.oneCell']) (by omega) (by simp; omega) ?_
   intro pv' Hq' G hp' hG
   haveI := hp'.one
   refine r_two [] ?_
   refine gn ?_
   refine fk1 (A := (w,cl (cw lv rv sc nb (.slice pa pn pc) cb false (.pointer (some ⟨sb',0,none⟩)) r) 343) :: (pb,cl (cw .nilIface .nilIface sc nb' pv' cb' false (.pointer (some ⟨sb',0,none⟩)) r) 343) :: (Hq' ++ (G ++ (sb',cl [.slice (some ⟨rb,0,none⟩) ps'.length c] 560) :: ([(rb,cl (ps' ++ [.pointer (some ⟨pb,0,none⟩)] ++ ro) 340)] ++ Hw')))) ?_
   exact ⟨pb,_,_,Hq',_,G,rfl,rfl,rfl,hp',hG,.inr ⟨sb',_,ps',[_],Hw',rfl,rfl,(List.append_assoc .. ▸ .row rb _ c _ _ (by omega) (by simp; omega) (by omega)),hw',by simp at h3; omega⟩,⟨_,rfl⟩,fun _ => rfl⟩
theorem f341 (w w' sb' sc nb nb' cb cb' B kb n c : Nat) (a : Option Addr) (q' : Bool) (lv rv lv' rv' pv r : Value) (pcs : List Value) (Hq Hs : Hp) [One pv] (hp : Sl 308 4 (.slice a (n + 1) c) (pcs ++ pe kb) Hq) (hn : pcs.length ≤ 68719476736) (hs : SPc B (pt sb') Hs) (hB : B ≤ 68719476736) :
  Tr Tryz.prog 341 #[pt w,pt w'] Z ((w,cl (cw lv rv sc nb pv cb false (pt sb') r) 343) :: (w',cl (cw lv' rv' sc nb' (.slice a (n + 1) c) cb' q' (pt sb') r) 343) :: (Hq ++ Hs)) fun _x Z' H' => ∃ Hs',Z = Z' ∧ H' = (w,cl (cw lv rv sc nb (.slice a n c) cb false (pt sb') r) 343) :: (Hq ++ Hs') ∧ Sl 308 4 (.slice a n c) pcs Hq ∧ SPc (B + 1) (pt sb') Hs' := by
 refine Tr.introk Tryz.func341 rfl Tryz.ntmps341 Tryz.results341 rfl ?_
 rcases hs with ⟨h,_⟩ | ⟨_,sv,ps,Hr,Hw,h,rfl,h1,h2,h3⟩
 ·cases h
 cases h
 obtain ⟨_,_,_,e0,hpl,hpc⟩ := hp.val
 cases e0
 rw [List.length_append,show (pe kb).length = 4 from rfl] at hpl
 refine gn ?_
 refine WP.drawT [(w',cl (cw lv' rv' sc nb' (.slice a (n + 1) c) cb' q' (pt sb') r) 343)] ((w,cl (cw lv rv sc nb pv cb false (pt sb') r) 343) :: (Hq ++ (sb',cl [sv] 560) :: (Hr ++ Hw))) mo (by decide +kernel) (prm rfl) ?_
 refine gn ?_
 refine o_sliceH (ik := .i64) (j := n) rfl rfl (int_eq (by simp only [Int.ofNat_eq_natCast]; omega)) (by omega) ?_
 refine gn ?_
 refine WP.drawS [(w,cl (cw lv rv sc nb (.slice a n c) cb false (pt sb') r) 343),(sb',cl [sv] 560)] ((w',cl (cw lv' rv' sc nb' (.slice a (n + 1) c) cb' q' (pt sb') r) 343) :: (Hq ++ (Hr ++ Hw))) 13 mo (by decide +kernel) (prm rfl) ?_
 haveI := h1.one
 refine gn ?_; intro b1
 refine oap (ds := [.pointer (some ⟨w',0,none⟩)]) h1 rfl rfl rfl (Rs.cells (inferInstance : Mem _ Z _ _ b1 (cl _ 340)) rfl (Nat.le_refl 1)) (by simp [Value.oneCell']) (by omega) (by simp; omega) ?_
 intro sv' Hr' h1'
 haveI := h1'.one
 refine r_two [] ?_
 refine gn ?_
 refine fk0 (A := (w,cl (cw lv rv sc nb (.slice a n c) cb false (pt sb') r) 343) :: (Hq ++ ((sb',cl [sv'] 560) :: (Hr' ++ (Hw ++ [(w',cl (cw lv' rv' sc nb' (.slice a (n + 1) c) cb' q' (pt sb') r) 343)]))))) ?_
 exact ⟨_,rfl,rfl,hp.pop rfl (by omega),.inr ⟨sb',sv',_,Hr',_,rfl,rfl,h1',h2.add (k := 14) rfl,by simp; omega⟩⟩
end
end Go.Ux
namespace Go.Ux
open Go Go.Proofs
set_option maxRecDepth 20000
instance : Ent Tryz.prog 380 := ⟨fun a w => by kernel_rfl⟩
instance : Ent Tryz.prog 382 := ⟨fun a w => by kernel_rfl⟩
instance : Ent Tryz.prog 383 := ⟨fun a w => by kernel_rfl⟩
instance : Ent Tryz.prog 385 := ⟨fun a w => by kernel_rfl⟩
instance : Ent Tryz.prog 386 := ⟨fun a w => by kernel_rfl⟩
instance : Ent Tryz.prog 207 := ⟨fun a w => by kernel_rfl⟩
instance : Ent Tryz.prog 205 := ⟨fun a w => by kernel_rfl⟩
attribute [local irreducible] WP Tr
def MO (Z : Fz) (l : List (Nm × Tv)) (v : Value) : Prop := (l = [] ∧ v = .nilIface) ∨ ∃ m,v = .iface 505 (.map (some m)) ∧ MP Z l m
theorem MP.mono {Z Z' : Fz} (hz : Fz.le Z Z') {l : List (Nm × Tv)} {m : Nat} (h : MP Z l m) : MP Z' l m := by
 obtain ⟨es,c,es',h1,h2,h3,h4⟩ := h
 exact ⟨es,c,es',hz _ _ h1,h2,h3,h4.mono hz⟩
theorem MO.mono {Z Z' : Fz} (hz : Fz.le Z Z') {l : List (Nm × Tv)} {v : Value} (h : MO Z l v) : MO Z' l v := by
 rcases h with h | ⟨m,h1,h2⟩
 ·exact .inl h
 ·exact .inr ⟨m,h1,h2.mono hz⟩
theorem MO.one {Z : Fz} {l : List (Nm × Tv)} {v : Value} (h : MO Z l v) : One v := by
 rcases h with ⟨_,rfl⟩ | ⟨m,rfl,_⟩ <;> infer_instance
theorem MO.nd {Z : Fz} {l : List (Nm × Tv)} {v : Value} (h : MO Z l v) : (l.map (·.1)).Nodup := by
 rcases h with ⟨rfl,_⟩ | ⟨m,_,h⟩
 ·simp
 ·exact h.nd
def ZC (g : FuncId) (fs cs : List Value) (Z : Fz) (la lb : List (Nm × Tv)) (I : List Nm → Fz → Hp → Prop) : Prop :=
 ∀ done k x y vx vy Z₁ H₁,Fz.le Z Z₁ → I done Z₁ H₁ → k ∉ done → Lk la k x → Lk lb k y → (x ≠ none ∨ y ≠ none) → OV Z₁ x vx → OV Z₁ y vy →
  Tr Tryz.prog g (fs ++ [Value.string k,vx,vy] ++ cs).toArray Z₁ H₁ fun v Z₂ H₂ => v = .bool true ∧ I (done ++ [k]) Z₂ H₂
theorem ZC.up {g : FuncId} {fs cs : List Value} {Z Z' : Fz} {la lb : List (Nm × Tv)} {I : List Nm → Fz → Hp → Prop} (h : ZC g fs cs Z la lb I) (hz : Fz.le Z Z') : ZC g fs cs Z' la lb I :=
 fun done k x y vx vy Z₁ H₁ h1 => h done k x y vx vy Z₁ H₁ (hz.trans h1)
def Stb (I : List Nm → Fz → Hp → Prop) : Prop := ∀ done Z Z' H,Fz.lw Z Z' → I done Z H → I done Z' H
theorem lk_no {es : List En} {k : Nm} (h : lk es k = none) : ∀ e ∈ es,e.k ≠ k := by
 intro e he hk
 unfold lk at h
 rw [Option.map_eq_none_iff,List.find?_eq_none] at h
 exact h e he (by simp [hk])
theorem MP.lkn {l : List (Nm × Tv)} {es es' : List En} {Z : Fz} {k : Nm} (hp : es.Perm es') (h : AVm Z l es') (hk : lk es k = none) : Lk l k none := by
 intro t ht
 have : k ∈ es'.map En.k := by rw [← h.keys]; exact List.mem_map_of_mem (f := (·.1)) ht
 obtain ⟨e,he,rfl⟩ := List.mem_map.1 this
 exact lk_no hk e (hp.mem_iff.2 he) rfl
section
variable {g : FuncId} {fs cs : List Value} [Ent Tryz.prog g] {Z : Fz} {la lb : List (Nm × Tv)} {I : List Nm → Fz → Hp → Prop} {H : Hp} {r : Value}
theorem f385 (hc : ZC g fs cs Z la lb I) (hI : Stb I) (done : List Nm) (k : Nm) (t : Tv) (a b6 b4 b7 : Nat) (u rv : Value) (h0 : I done Z H) (hkd : k ∉ done) (hk : (k,t) ∈ la) (ha : Z a = some (cl [u] 358)) (hu : AV Z t u)
  (h6 : Z b6 = some (cl [rv] 258)) (h4 : Z b4 = some (cl [.iface 261 r] 170)) (h7 : Z b7 = some (cl [.func (.func g) fs.toArray cs.toArray] 428)) (hr : MO Z lb rv) :
  Tr Tryz.prog 385 #[.string k,vv a,pt b6,pt b4,pt b7] Z H fun v Z' H' => v = .bool true ∧ I (done ++ [k]) Z' H' := by
 haveI : Zf Z b6 _ := ⟨.of (h6)⟩
 haveI : Zf Z b4 _ := ⟨.of (h4)⟩
 haveI : Zf Z b7 _ := ⟨.of (h7)⟩
 refine Tr.introk Tryz.func385 rfl Tryz.ntmps385 Tryz.results385 rfl ?_
 rcases hr with ⟨rfl,rfl⟩ | ⟨m,rfl,es,c,es',hz,hst,hp,hav⟩
 ·refine gn ?_
  refine cv (fs := fs) (cs := cs) (ys := [.string k,vv a,.nilIface]) (hc done k (some t) none (vv a) .nilIface Z H (.refl _) h0 hkd hk (fun _ h => by cases h) (.inl (by simp)) (.some ⟨a,u,rfl,ha,hu⟩) .none) ?_
  rintro _ Z₁ H₁ _ ⟨rfl,h1⟩
  refine gn ?_
  exact fk1 (A := H₁) ⟨rfl,h1⟩
 ·haveI : Zf Z m _ := ⟨.of (hz)⟩
  refine gn ?_
  refine cig (args := [.iface 261 r,.string k]) (f373 m c es k r Z fun u hu => by obtain ⟨e,he,_,rfl⟩ := lk_mem hu; obtain ⟨t,_,h⟩ := hav.lk e (hp.mem_iff.1 he); exact ⟨h.cells,h.cell1⟩) ?_
  intro v Z₁ hz₁ hq
  haveI : Zf Z₁ b6 _ := ⟨.of (hz₁ _ _ h6)⟩
  haveI : Zf Z₁ b4 _ := ⟨.of (hz₁ _ _ h4)⟩
  haveI : Zf Z₁ b7 _ := ⟨.of (hz₁ _ _ h7)⟩
  cases hlk : lk es k with
  | none =>
   rw [hlk] at hq
   simp only at hq
   subst hq
   refine gn ?_
   refine cv (fs := fs) (cs := cs) (ys := [.string k,vv a,.nilIface]) (hc done k (some t) none (vv a) .nilIface Z₁ H hz₁ (hI _ _ _ _ hz₁.lw h0) hkd hk (MP.lkn hp hav hlk) (.inl (by simp)) (.some ⟨a,u,rfl,hz₁ _ _ ha,hu.mono hz₁⟩) .none) ?_
   rintro _ Z₂ H₂ _ ⟨rfl,h1⟩
   refine gn ?_
   exact fk1 (A := H₂) ⟨rfl,h1⟩
  | some u' =>
   rw [hlk] at hq
   simp only at hq
   obtain ⟨b,rfl,hb⟩ := hq
   obtain ⟨e,he,rfl,rfl⟩ := lk_mem hlk
   obtain ⟨t',ht',hv'⟩ := hav.lk e (hp.mem_iff.1 he)
   refine gn ?_
   refine o_free rfl rfl ?_
   refine gn ?_
   refine cv (fs := fs) (cs := cs) (ys := [.string e.k,vv a,vv b]) (hc done e.k (some t) (some t') (vv a) (vv b) Z₁ H hz₁ (hI _ _ _ _ hz₁.lw h0) hkd hk ht' (.inl (by simp)) (.some ⟨a,u,rfl,hz₁ _ _ ha,hu.mono hz₁⟩) (.some ⟨b,_,rfl,hb,hv'.mono hz₁⟩)) ?_
   rintro _ Z₂ H₂ _ ⟨rfl,h1⟩
   refine gn ?_
   refine fin_free ?_
   exact fk1 (A := H₂) ⟨rfl,h1⟩
theorem f386 (hc : ZC g fs cs Z la lb I) (done : List Nm) (k : Nm) (t : Tv) (a b5 b7 : Nat) (u lv : Value) (h0 : I done Z H) (hkd : Lk la k none → k ∉ done) (hk : (k,t) ∈ lb) (ha : Z a = some (cl [u] 358)) (hu : AV Z t u)
  (h5 : Z b5 = some (cl [lv] 258)) (h7 : Z b7 = some (cl [.func (.func g) fs.toArray cs.toArray] 428)) (hl : MO Z la lv) :
  Tr Tryz.prog 386 #[.string k,vv a,pt b5,pt b7] Z H fun v Z' H' => v = .bool true ∧ (((∃ t,(k,t) ∈ la) ∧ I done Z' H') ∨ (Lk la k none ∧ I (done ++ [k]) Z' H')) := by
 haveI : Zf Z b5 _ := ⟨.of (h5)⟩
 haveI : Zf Z b7 _ := ⟨.of (h7)⟩
 refine Tr.introk Tryz.func386 rfl Tryz.ntmps386 Tryz.results386 rfl ?_
 have fin : ∀ hl : Lk la k none,_ := fun hl => hc done k none (some t) .nilIface (vv a) Z H (.refl _) h0 (hkd hl) hl hk (.inr (by simp)) .none (.some ⟨a,u,rfl,ha,hu⟩)
 rcases hl with ⟨rfl,rfl⟩ | ⟨m,rfl,es,c,es',hz,hst,hp,hav⟩
 ·refine gn ?_
  refine cv (fs := fs) (cs := cs) (ys := [.string k,.nilIface,vv a]) (fin (fun _ h => by cases h)) ?_
  rintro _ Z₁ H₁ _ ⟨rfl,h1⟩
  refine gn ?_
  exact fk1 (A := H₁) ⟨rfl,.inr ⟨(fun _ h => by cases h),h1⟩⟩
 ·haveI : Zf Z m _ := ⟨.of (hz)⟩
  refine gn ?_
  refine cip (args := [.string k]) (f374 m c es k Z) ?_
  rintro _ rfl
  cases hlk : lk es k with
  | none =>
   refine gn ?_
   refine cv (fs := fs) (cs := cs) (ys := [.string k,.nilIface,vv a]) (fin (MP.lkn hp hav hlk)) ?_
   rintro _ Z₁ H₁ _ ⟨rfl,h1⟩
   refine gn ?_
   exact fk1 (A := H₁) ⟨rfl,.inr ⟨MP.lkn hp hav hlk,h1⟩⟩
  | some u' =>
   refine gn ?_
   obtain ⟨e,he,rfl,rfl⟩ := lk_mem hlk
   obtain ⟨t',ht',hv'⟩ := hav.lk e (hp.mem_iff.1 he)
   exact fk1 (A := H) ⟨rfl,.inl ⟨⟨t',ht'⟩,h0⟩⟩
end
end Go.Ux
namespace Go.Ux
open Go Go.Proofs
set_option maxRecDepth 20000
attribute [local irreducible] WP Tr
def KS (la lb : List (Nm × Tv)) (done : List Nm) : Prop := ∀ k,k ∈ done ↔ (∃ t,(k,t) ∈ la) ∨ ∃ t,(k,t) ∈ lb
theorem KS.symm {la lb : List (Nm × Tv)} {done : List Nm} (h : KS la lb done) : KS lb la done := fun k => (h k).trans Or.comm
theorem mem_keys {es es' : List En} {l : List (Nm × Tv)} {Z : Fz} (hp : es.Perm es') (h : AVm Z l es') (k : Nm) : k ∈ es.map En.k ↔ ∃ t,(k,t) ∈ l := by
 rw [(hp.map En.k).mem_iff,← h.keys]
 constructor
 ·intro hk; obtain ⟨⟨k',t⟩,ht,rfl⟩ := List.mem_map.1 hk; exact ⟨t,ht⟩
 ·rintro ⟨t,ht⟩; exact List.mem_map_of_mem (f := (·.1)) ht
theorem fresh_key {es done : List En} {e : En} {c : Nat} (h : Stm es c) (he : e ∈ es) (hs : ∀ x ∈ done,x ∈ es) (hn : e ∉ done) : e.k ∉ done.map En.k := by
 intro hm
 obtain ⟨e',he',hk⟩ := List.mem_map.1 hm
 have key : ∀ {l : List En},(l.map En.k).Nodup → ∀ {a b : En},a ∈ l → b ∈ l → a.k = b.k → a = b := by
  intro l
  induction l with
  | nil => intro _ a b ha; cases ha
  | cons x l ih =>
   intro hn a b ha hb hab
   simp only [List.map_cons,List.nodup_cons] at hn
   rcases List.mem_cons.1 ha with rfl | ha'
   ·rcases List.mem_cons.1 hb with rfl | hb'
    ·rfl
    ·exact absurd (hab ▸ List.mem_map_of_mem (f := En.k) hb') hn.1
   ·rcases List.mem_cons.1 hb with rfl | hb
    ·exact absurd (hab ▸ List.mem_map_of_mem (f := En.k) ha') hn.1
    ·exact ih hn.2 ha' hb hab
 exact hn (key h.kd (hs e' he') he hk ▸ he')
theorem MP.nil {Z : Fz} {l : List (Nm × Tv)} {es es' : List En} (hp : es.Perm es') (h : AVm Z l es') : es.length = 0 ↔ l = [] := by
 rw [hp.length_eq,h.len]; exact List.length_eq_zero_iff
section
variable {g : FuncId} {fs cs : List Value} [Ent Tryz.prog g] {Z : Fz} {la lb : List (Nm × Tv)} {I : List Nm → Fz → Hp → Prop} {H : Hp} {r : Value}
theorem f383R (hc : ZC g fs cs Z la lb I) (hI : Stb I) (lv : Value) (m b5 b7 : Nat) (d₀ : List Nm) (hl : MO Z la lv) (hr : MP Z lb m) (h5 : Z b5 = some (cl [lv] 258)) (h7 : Z b7 = some (cl [.func (.func g) fs.toArray cs.toArray] 428))
  (hd : ∀ k,k ∈ d₀ ↔ ∃ t,(k,t) ∈ la) (h0 : I d₀ Z H) :
  Tr Tryz.prog 376 #[.map (some m),.iface 261 r,.func (.func 386) #[] #[pt b5,pt b7]] Z H fun v Z' H' => v = .bool true ∧ ∃ done,KS la lb done ∧ I done Z' H' := by
 obtain ⟨es,c,es',hz,hst,hp,hav⟩ := hr
 haveI : Zf Z m _ := ⟨.of (hz)⟩
 refine Tr.mono (f376T m c es r 386 [] [pt b5,pt b7] Z H hst (fun e he => by obtain ⟨t,_,h⟩ := hav.lk e (hp.mem_iff.1 he); exact ⟨h.cells,h.cell1⟩)
  (fun done Z' H' => ∃ d,(∀ k,k ∈ d ↔ (∃ t,(k,t) ∈ la) ∨ k ∈ done.map En.k) ∧ I d Z' H') ⟨d₀,fun k => by rw [hd]; simp,h0⟩ ?_) ?_
 ·rintro done e Z₁ H₁ b hz₁ he hsub hne ⟨d,hd',hi⟩ hb
  obtain ⟨t,ht,hv⟩ := hav.lk e (hp.mem_iff.1 he)
  have hz' : Fz.le Z (Z₁.add b (cl [e.v] 358)) := hz₁.trans (Fz.le_add hb)
  refine Tr.mono (f386 (hc.up hz') d e.k t b b5 b7 e.v lv (hI _ _ _ _ (Fz.le_add hb).lw hi) (fun hno hm => by
   rcases (hd' _).1 hm with ⟨t',ht'⟩ | hm
   ·exact hno t' ht'
   ·exact fresh_key hst he hsub hne hm) ht Fz.add_at (hv.mono hz') (hz' _ _ h5) (hz' _ _ h7) (hl.mono hz')).le ?_
  rintro v Z₂ H₂ ⟨hz₂,rfl,⟨⟨t',ht'⟩,h⟩ | ⟨hno,h⟩⟩
  ·refine ⟨rfl,d,fun k => ?_,hI _ _ _ _ (Fz.lw_back hz₂) h⟩
   rw [hd',List.map_append,List.mem_append]
   constructor
   ·rintro (h | h)
    ·exact .inl h
    ·exact .inr (.inl h)
   ·rintro (h | h | h)
    ·exact .inl h
    ·exact .inr h
    ·simp only [List.map_cons,List.map_nil,List.mem_singleton] at h; subst h; exact .inl ⟨t',ht'⟩
  ·refine ⟨rfl,d ++ [e.k],fun k => ?_,hI _ _ _ _ (Fz.lw_back hz₂) h⟩
   rw [List.mem_append,hd',List.map_append,List.mem_append]
   simp [or_assoc]
 ·rintro v Z' H' ⟨rfl,done,hdn,d,hd',hi⟩
  refine ⟨rfl,d,fun k => ?_,hi⟩
  rw [hd',(hdn.map En.k).mem_iff,mem_keys hp hav]
theorem f383L (hc : ZC g fs cs Z la lb I) (hI : Stb I) (rv : Value) (m b6 b4 b7 : Nat) (hl : MP Z la m) (hr : MO Z lb rv) (h6 : Z b6 = some (cl [rv] 258)) (h4 : Z b4 = some (cl [.iface 261 r] 170)) (h7 : Z b7 = some (cl [.func (.func g) fs.toArray cs.toArray] 428)) (h0 : I [] Z H) :
  Tr Tryz.prog 376 #[.map (some m),.iface 261 r,.func (.func 385) #[] #[pt b6,pt b4,pt b7]] Z H fun v Z' H' => v = .bool true ∧ ∃ done,(∀ k,k ∈ done ↔ ∃ t,(k,t) ∈ la) ∧ I done Z' H' := by
 obtain ⟨es,c,es',hz,hst,hp,hav⟩ := hl
 haveI : Zf Z m _ := ⟨.of (hz)⟩
 refine Tr.mono (f376T m c es r 385 [] [pt b6,pt b4,pt b7] Z H hst (fun e he => by obtain ⟨t,_,h⟩ := hav.lk e (hp.mem_iff.1 he); exact ⟨h.cells,h.cell1⟩)
  (fun done Z' H' => I (done.map En.k) Z' H') h0 ?_) ?_
 ·rintro done e Z₁ H₁ b hz₁ he hsub hne hi hb
  obtain ⟨t,ht,hv⟩ := hav.lk e (hp.mem_iff.1 he)
  have hz' : Fz.le Z (Z₁.add b (cl [e.v] 358)) := hz₁.trans (Fz.le_add hb)
  refine Tr.mono (f385 (hc.up hz') hI (done.map En.k) e.k t b b6 b4 b7 e.v rv (hI _ _ _ _ (Fz.le_add hb).lw hi) (fresh_key hst he hsub hne) ht Fz.add_at (hv.mono hz') (hz' _ _ h6) (hz' _ _ h4) (hz' _ _ h7) (hr.mono hz')).le ?_
  rintro v Z₂ H₂ ⟨hz₂,rfl,h⟩
  refine ⟨rfl,?_⟩
  rw [List.map_append]
  exact hI _ _ _ _ (Fz.lw_back hz₂) h
 ·rintro v Z' H' ⟨rfl,done,hdn,hi⟩
  exact ⟨rfl,_,fun k => by rw [(hdn.map En.k).mem_iff,mem_keys hp hav],hi⟩
set_option maxHeartbeats 1000000 in
theorem f383 (hc : ZC g fs cs Z la lb I) (hI : Stb I) (lv rv : Value) (hl : MO Z la lv) (hr : MO Z lb rv) (h0 : I [] Z H) :
  Tr Tryz.prog 383 #[.iface 261 r,lv,rv,.func (.func g) fs.toArray cs.toArray] Z H fun v Z' H' => v = .bool true ∧ ∃ done,KS la lb done ∧ I done Z' H' := by
 haveI := hl.one
 haveI := hr.one
 refine Tr.introk Tryz.func383 rfl Tryz.ntmps383 Tryz.results383 rfl ?_
 refine gn ?_; intro b4
 refine gn ?_; intro b5
 refine gn ?_; intro b6
 refine gn ?_; intro b7
 refine o_assign rfl ?_
 refine r_end ?_
 refine q_n ?_
 refine WP.fz b4 ?_
 intro Z1 hz1 h4
 refine WP.fz b5 ?_
 intro Z2 hz2 h5
 refine WP.fz b6 ?_
 intro Z3 hz3 h6
 refine WP.fz b7 ?_
 intro Z4 hz4 h7
 have hz : Fz.le Z Z4 := ((hz1.trans hz2).trans hz3).trans hz4
 replace h4 := hz4 _ _ (hz3 _ _ (hz2 _ _ h4))
 replace h5 := hz4 _ _ (hz3 _ _ h5)
 replace h6 := hz4 _ _ h6
 replace h0 := hI _ _ _ _ hz.lw h0
 replace hl := hl.mono hz
 replace hr := hr.mono hz
 replace hc := hc.up hz
 clear hz1 hz2 hz3 hz4 hz
 haveI : Zf Z4 b4 _ := ⟨.of (h4)⟩
 haveI : Zf Z4 b5 _ := ⟨.of (h5)⟩
 haveI : Zf Z4 b6 _ := ⟨.of (h6)⟩
 haveI : Zf Z4 b7 _ := ⟨.of (h7)⟩
 rcases hl with ⟨rfl,rfl⟩ | ⟨m,rfl,hm⟩ <;> rcases hr with ⟨rfl,rfl⟩ | ⟨m',rfl,hm'⟩
 ·refine gn ?_
  exact fk1 (A := H) ⟨rfl,[],fun k => by simp,h0⟩
 ·obtain ⟨es,c,es',hz,hst,hp,hav⟩ := id hm'
  haveI : Zf Z4 m' _ := ⟨.of (hz)⟩
  refine gn ?_
  refine cip (args := []) (f369 m' c es Z4) ?_
  rintro _ rfl
  by_cases he : es.length = 0
  ·rw [decide_eq_true he]
   refine gn ?_
   rw [(MP.nil hp hav).1 he]
   exact fk1 (A := H) ⟨rfl,[],fun k => by simp,h0⟩
  ·rw [decide_eq_false he]
   refine gn ?_
   refine ci (args := [.iface 261 r,.func (.func 386) #[] #[pt b5,pt b7]]) (f383R hc hI .nilIface m' b5 b7 [] (.inl ⟨rfl,rfl⟩) hm' h5 h7 (fun k => by simp) h0) ?_
   rintro _ Z₁ H₁ _ ⟨rfl,done,hd,h⟩
   refine gn ?_
   exact fk1 (A := H₁) ⟨rfl,done,hd,h⟩
 ·obtain ⟨es,c,es',hz,hst,hp,hav⟩ := id hm
  haveI : Zf Z4 m _ := ⟨.of (hz)⟩
  refine gn ?_
  refine cip (args := []) (f369 m c es Z4) ?_
  rintro _ rfl
  by_cases he : es.length = 0
  ·rw [decide_eq_true he]
   refine gn ?_
   rw [(MP.nil hp hav).1 he]
   exact fk1 (A := H) ⟨rfl,[],fun k => by simp,h0⟩
  ·rw [decide_eq_false he]
   refine gn ?_
   refine ci (args := [.iface 261 r,.func (.func 385) #[] #[pt b6,pt b4,pt b7]]) (f383L hc hI .nilIface m b6 b4 b7 hm (.inl ⟨rfl,rfl⟩) h6 h4 h7 h0) ?_
   rintro _ Z₁ H₁ hz₁ ⟨rfl,done,hd,h⟩
   haveI : Zf Z₁ b6 _ := ⟨.of (hz₁ _ _ h6)⟩
   refine gn ?_
   exact fk1 (A := H₁) ⟨rfl,done,fun k => by rw [hd]; simp,h⟩
 ·obtain ⟨es,c,es',hz,hst,hp,hav⟩ := id hm
  haveI : Zf Z4 m _ := ⟨.of (hz)⟩
  obtain ⟨es₂,c₂,es₂',hz₂,hst₂,hp₂,hav₂⟩ := id hm'
  haveI : Zf Z4 m' _ := ⟨.of (hz₂)⟩
  refine gn ?_
  refine cip (args := []) (f369 m c es Z4) ?_
  rintro _ rfl
  have main : ∀ {K : Prop},K → K := id
  by_cases he : es.length = 0 ∧ es₂.length = 0
  ·rw [decide_eq_true he.1]
   refine gn ?_
   refine cip (args := []) (f369 m' c₂ es₂ Z4) ?_
   rintro _ rfl
   rw [decide_eq_true he.2]
   refine gn ?_
   rw [(MP.nil hp hav).1 he.1,(MP.nil hp₂ hav₂).1 he.2]
   exact fk1 (A := H) ⟨rfl,[],fun k => by simp,h0⟩
  ·by_cases he1 : es.length = 0
   ·rw [decide_eq_true he1]
    refine gn ?_
    refine cip (args := []) (f369 m' c₂ es₂ Z4) ?_
    rintro _ rfl
    rw [decide_eq_false (fun h => he ⟨he1,h⟩)]
    refine gn ?_
    refine ci (args := [.iface 261 r,.func (.func 385) #[] #[pt b6,pt b4,pt b7]]) (f383L hc hI _ m b6 b4 b7 hm (.inr ⟨m',rfl,hm'⟩) h6 h4 h7 h0) ?_
    rintro _ Z₁ H₁ hz₁ ⟨rfl,done,hd,h⟩
    haveI : Zf Z₁ b6 _ := ⟨.of (hz₁ _ _ h6)⟩
    haveI : Zf Z₁ b4 _ := ⟨.of (hz₁ _ _ h4)⟩
    refine gn ?_
    refine ci (args := [.iface 261 r,.func (.func 386) #[] #[pt b5,pt b7]]) (f383R (hc.up hz₁) hI _ m' b5 b7 done (.inr ⟨m,rfl,hm.mono hz₁⟩) (hm'.mono hz₁) (hz₁ _ _ h5) (hz₁ _ _ h7) hd h) ?_
    rintro _ Z₂ H₂ _ ⟨rfl,done₂,hd₂,h₂⟩
    refine gn ?_
    exact fk1 (A := H₂) ⟨rfl,done₂,hd₂,h₂⟩
   ·rw [decide_eq_false he1]
    refine gn ?_
    refine ci (args := [.iface 261 r,.func (.func 385) #[] #[pt b6,pt b4,pt b7]]) (f383L hc hI _ m b6 b4 b7 hm (.inr ⟨m',rfl,hm'⟩) h6 h4 h7 h0) ?_
    rintro _ Z₁ H₁ hz₁ ⟨rfl,done,hd,h⟩
    haveI : Zf Z₁ b6 _ := ⟨.of (hz₁ _ _ h6)⟩
    haveI : Zf Z₁ b4 _ := ⟨.of (hz₁ _ _ h4)⟩
    refine gn ?_
    refine ci (args := [.iface 261 r,.func (.func 386) #[] #[pt b5,pt b7]]) (f383R (hc.up hz₁) hI _ m' b5 b7 done (.inr ⟨m,rfl,hm.mono hz₁⟩) (hm'.mono hz₁) (hz₁ _ _ h5) (hz₁ _ _ h7) hd h) ?_
    rintro _ Z₂ H₂ _ ⟨rfl,done₂,hd₂,h₂⟩
    refine gn ?_
    exact fk1 (A := H₂) ⟨rfl,done₂,hd₂,h₂⟩
theorem f380 (hc : ZC g fs cs Z la lb I) (hI : Stb I) (m : Nat) (rv : Value) (hl : MP Z la m) (hr : MO Z lb rv) (h0 : I [] Z H) :
  Tr Tryz.prog 380 #[.map (some m),.iface 261 r,rv,.int .i64 0,.func (.func g) fs.toArray cs.toArray] Z H fun v Z' H' => v = .bool true ∧ ∃ done,KS la lb done ∧ I done Z' H' := by
 haveI := hr.one
 have h382 : Tr Tryz.prog 382 #[.iface 261 r,.iface 505 (.map (some m)),rv,.int .i64 0,.func (.func g) fs.toArray cs.toArray] Z H fun v Z' H' => v = .bool true ∧ ∃ done,KS la lb done ∧ I done Z' H' := by
  refine Tr.introk Tryz.func382 rfl Tryz.ntmps382 Tryz.results382 rfl ?_
  refine gn ?_
  refine ct (args := [.iface 261 r,.iface 505 (.map (some m)),rv,.func (.func g) fs.toArray cs.toArray]) (f383 hc hI _ rv (.inr ⟨m,rfl,hl⟩) hr h0) ?_
  rintro _ Z₁ H₁ _ ⟨rfl,done,hd,h⟩
  refine gn ?_
  exact fk1 (A := H₁) ⟨rfl,done,hd,h⟩
 refine Tr.introk Tryz.func380 rfl Tryz.ntmps380 Tryz.results380 rfl ?_
 refine gn ?_
 refine ct (args := [.iface 261 r,.iface 505 (.map (some m)),rv,.int .i64 0,.func (.func g) fs.toArray cs.toArray]) h382 ?_
 rintro _ Z₁ H₁ _ ⟨rfl,done,hd,h⟩
 refine gn ?_
 exact fk1 (A := H₁) ⟨rfl,done,hd,h⟩
theorem zc207 (hc : ZC g fs cs Z la lb I) (b9 : Nat) (h9 : Z b9 = some (cl [.func (.func g) fs.toArray cs.toArray] 428)) : ZC 207 [] [pt b9] Z lb la I := by
 intro done k x y vx vy Z₁ H₁ hz h0 hkd hx hy hne vx' vy'
 haveI : Zf Z₁ b9 _ := ⟨.of (hz _ _ h9)⟩
 haveI := vx'.one
 haveI := vy'.one
 refine Tr.introk Tryz.func207 rfl Tryz.ntmps207 Tryz.results207 rfl ?_
 refine gn ?_
 refine cv (fs := fs) (cs := cs) (ys := [.string k,vy,vx]) (hc done k y x vy vx Z₁ H₁ hz h0 hkd hy hx hne.symm vy' vx') ?_
 rintro _ Z₂ H₂ _ ⟨rfl,h⟩
 refine gn ?_
 exact fk1 (A := H₂) ⟨rfl,h⟩
theorem f205 (hc : ZC g fs cs Z la lb I) (hI : Stb I) (lv rv : Value) (hl : MO Z la lv) (hr : MO Z lb rv) (h0 : I [] Z H) :
  Tr Tryz.prog 205 #[.iface 261 r,lv,rv,.int .i64 0,.func (.func g) fs.toArray cs.toArray] Z H fun v Z' H' => v = .bool true ∧ ∃ done,KS la lb done ∧ I done Z' H' := by
 haveI := hl.one
 haveI := hr.one
 refine Tr.introk Tryz.func205 rfl Tryz.ntmps205 Tryz.results205 rfl ?_
 refine gn ?_; intro b9
 refine o_assign rfl ?_
 refine r_end ?_
 refine q_n ?_
 refine WP.fz b9 ?_
 intro Z1 hz1 h9
 haveI : Zf Z1 b9 _ := ⟨.of (h9)⟩
 replace h0 := hI _ _ _ _ hz1.lw h0
 replace hl := hl.mono hz1
 replace hr := hr.mono hz1
 replace hc := hc.up hz1
 rcases hl with ⟨rfl,rfl⟩ | ⟨m,rfl,hm⟩
 ·rcases hr with ⟨rfl,rfl⟩ | ⟨m',rfl,hm'⟩
  ·refine gn ?_
   exact fk1 (A := H) ⟨rfl,[],fun k => by simp,h0⟩
  ·refine gn ?_
   refine ci (args := [.iface 261 r,.nilIface,.int .i64 0,.func (.func 207) #[] #[pt b9]]) (f380 (zc207 hc b9 h9) hI m' .nilIface hm' (.inl ⟨rfl,rfl⟩) h0) ?_
   rintro _ Z₁ H₁ _ ⟨rfl,done,hd,h⟩
   refine gn ?_
   exact fk1 (A := H₁) ⟨rfl,done,hd.symm,h⟩
 ·refine gn ?_
  refine ci (args := [.iface 261 r,rv,.int .i64 0,.func (.func g) fs.toArray cs.toArray]) (f380 hc hI m rv hm hr h0) ?_
  rintro _ Z₁ H₁ _ ⟨rfl,done,hd,h⟩
  refine gn ?_
  exact fk1 (A := H₁) ⟨rfl,done,hd,h⟩
end
end Go.Ux
namespace Go.Ux
open Go
def CpO (l r : Option Tv) : Prop := ∀ q u v,AtO l q u → AtO r q v → u.cls = v.cls
theorem CpO.symm {l r : Option Tv} (h : CpO l r) : CpO r l := fun q u v hu hv => (h q v u hv hu).symm
theorem CpO.kid {l r y z : Option Tv} {k : Nm} (h : CpO l r) (hy : Lk (kids l) k y) (hz : Lk (kids r) k z) : CpO y z := by
 rintro q u v ⟨s,rfl,hu⟩ ⟨s',rfl,hv⟩
 exact h (k :: q) u v (ato_cons.2 ⟨s,hy,hu⟩) (ato_cons.2 ⟨s',hz,hv⟩)
theorem CpO.top {u v : Tv} (h : CpO (some u) (some v)) : u.cls = v.cls := h [] u v (ato_nil.2 rfl) (ato_nil.2 rfl)
theorem CpO.of {a b : Tv} (h : Cp a b) : CpO (some a) (some b) := fun q u v hu hv => h q u v (ato_some.1 hu) (ato_some.1 hv)
def inUO (U : List Nm) (t : Option Tv) : Prop := ∀ q u,AtO t q u → ∀ k ∈ q,k ∈ U
theorem inUO.kid {U : List Nm} {t x : Option Tv} {k : Nm} (h : inUO U t) (hx : Lk (kids t) k x) : inUO U x := by
 rintro q u ⟨s,rfl,hu⟩ k' hk'
 exact h (k :: q) u (ato_cons.2 ⟨s,hx,hu⟩) k' (List.mem_cons_of_mem _ hk')
theorem inUO.key {U : List Nm} {t : Option Tv} {k : Nm} {x : Tv} (h : inUO U t) (hx : (k,x) ∈ kids t) : k ∈ U := h [k] x (ato_cons.2 ⟨x,hx,.here x⟩) k (List.mem_cons_self ..)
theorem inUO.of {U : List Nm} {t : Tv} (h : t.inU U) : inUO U (some t) := fun q u hu k hk => h q u (ato_some.1 hu) k hk
structure CR (U : List Nm) (l r : Option Tv) (π : List Nm) (R M A R' M' A' : FS) : Prop where
 wr : R'.Wf U
 wm : M'.Wf U
 wa : A'.Wf U
 rem : ∀ x,R'.has x ↔ R.has x ∨ AddP r l π x
 add : ∀ x,A'.has x ↔ A.has x ∨ AddP l r π x
 mod : ∀ x,M'.has x → M.has x ∨ ModP l r π x
structure CF (U : List Nm) (l r : Option Tv) (π : List Nm) (R M A R' M' A' : FS) : Prop where
 wr : R'.Wf U
 wm : M'.Wf U
 wa : A'.Wf U
 rem : ∀ x,R'.has x ↔ R.has x ∨ ∃ k y z,Lk (kids l) k y ∧ Lk (kids r) k z ∧ AddP z y (π ++ [k]) x
 add : ∀ x,A'.has x ↔ A.has x ∨ ∃ k y z,Lk (kids l) k y ∧ Lk (kids r) k z ∧ AddP y z (π ++ [k]) x
 mod : ∀ x,M'.has x → M.has x ∨ ModP l r π x
structure CK (U : List Nm) (l r : Option Tv) (π done : List Nm) (R M A R' M' A' : FS) : Prop where
 wr : R'.Wf U
 wm : M'.Wf U
 wa : A'.Wf U
 rem : ∀ x,R'.has x ↔ R.has x ∨ ∃ k ∈ done,∃ y z,Lk (kids l) k y ∧ Lk (kids r) k z ∧ AddP z y (π ++ [k]) x
 add : ∀ x,A'.has x ↔ A.has x ∨ ∃ k ∈ done,∃ y z,Lk (kids l) k y ∧ Lk (kids r) k z ∧ AddP y z (π ++ [k]) x
 mod : ∀ x,M'.has x → M.has x ∨ ModP l r π x
section
variable {U : List Nm} {l r : Option Tv} {π done : List Nm} {R M A R₁ M₁ A₁ R₂ M₂ A₂ : FS}
theorem CK.nil (hr : R.Wf U) (hm : M.Wf U) (ha : A.Wf U) : CK U l r π [] R M A R M A := ⟨hr,hm,ha,fun x => by simp,fun x => by simp,fun x h => .inl h⟩
theorem CK.step {k : Nm} {y z : Option Tv} (h : CK U l r π done R M A R₁ M₁ A₁) (hn : nodK l) (hn' : nodK r) (hy : Lk (kids l) k y) (hz : Lk (kids r) k z) (c : CR U y z (π ++ [k]) R₁ M₁ A₁ R₂ M₂ A₂) :
  CK U l r π (done ++ [k]) R M A R₂ M₂ A₂ := by
 have key : ∀ (F : Option Tv → Option Tv → List Nm → List Nm → Prop) (x : List Nm),((∃ k ∈ done,∃ y z,Lk (kids l) k y ∧ Lk (kids r) k z ∧ F y z (π ++ [k]) x) ∨ F y z (π ++ [k]) x) ↔
   ∃ k' ∈ done ++ [k],∃ y z,Lk (kids l) k' y ∧ Lk (kids r) k' z ∧ F y z (π ++ [k']) x := by
  intro F x
  constructor
  ·rintro (⟨k',h1,h2⟩ | h)
   ·exact ⟨k',List.mem_append_left _ h1,h2⟩
   ·exact ⟨k,by simp,y,z,hy,hz,h⟩
  ·rintro ⟨k',h1,y',z',h2,h3,h4⟩
   rcases List.mem_append.1 h1 with h1 | h1
   ·exact .inl ⟨k',h1,y',z',h2,h3,h4⟩
   ·simp only [List.mem_singleton] at h1; subst h1
    rw [lk_uniq hn h2 hy,lk_uniq hn' h3 hz] at h4
    exact .inr h4
 refine ⟨c.wr,c.wm,c.wa,fun x => ?_,fun x => ?_,fun x hx => ?_⟩
 ·rw [c.rem,h.rem,or_assoc,key fun y z p x => AddP z y p x]
 ·rw [c.add,h.add,or_assoc,key fun y z p x => AddP y z p x]
 ·rcases c.mod x hx with h1 | h1
  ·exact h.mod x h1
  ·exact .inr (ModP_kid hy hz h1)
theorem AddP.ne {y z : Option Tv} {p x : List Nm} (h : AddP y z p x) : ∃ t,z = some t := by
 obtain ⟨_,_,_,⟨_,s,e,_⟩,_⟩ := h; exact ⟨s,e⟩
theorem CK.all (h : CK U l r π done R M A R₁ M₁ A₁) (hd : ∀ k,k ∈ done ↔ (∃ t,(k,t) ∈ kids l) ∨ ∃ t,(k,t) ∈ kids r) : CF U l r π R M A R₁ M₁ A₁ := by
 refine ⟨h.wr,h.wm,h.wa,fun x => ?_,fun x => ?_,h.mod⟩
 ·rw [h.rem]
  refine or_congr_right ⟨fun ⟨k,_,h⟩ => ⟨k,h⟩,fun ⟨k,y,z,h1,h2,h3⟩ => ⟨k,?_,y,z,h1,h2,h3⟩⟩
  obtain ⟨t,rfl⟩ := h3.ne
  exact (hd k).2 (.inl ⟨t,h1⟩)
 ·rw [h.add]
  refine or_congr_right ⟨fun ⟨k,_,h⟩ => ⟨k,h⟩,fun ⟨k,y,z,h1,h2,h3⟩ => ⟨k,?_,y,z,h1,h2,h3⟩⟩
  obtain ⟨t,rfl⟩ := h3.ne
  exact (hd k).2 (.inr ⟨t,h2⟩)
theorem CF.twice (h : CF U l r π R M A R₁ M₁ A₁) (k : CF U l r π R₁ M₁ A₁ R₂ M₂ A₂) : CF U l r π R M A R₂ M₂ A₂ := by
 refine ⟨k.wr,k.wm,k.wa,fun x => ?_,fun x => ?_,fun x hx => ?_⟩
 ·rw [k.rem,h.rem,or_assoc,or_self]
 ·rw [k.add,h.add,or_assoc,or_self]
 ·rcases k.mod x hx with h1 | h1
  ·exact h.mod x h1
  ·exact .inr h1
theorem CR.twice (h : CR U l r π R M A R₁ M₁ A₁) (k : CR U l r π R₁ M₁ A₁ R₂ M₂ A₂) : CR U l r π R M A R₂ M₂ A₂ := by
 refine ⟨k.wr,k.wm,k.wa,fun x => ?_,fun x => ?_,fun x hx => ?_⟩
 ·rw [k.rem,h.rem,or_assoc,or_self]
 ·rw [k.add,h.add,or_assoc,or_self]
 ·rcases k.mod x hx with h1 | h1
  ·exact h.mod x h1
  ·exact .inr h1
theorem CF.both (h : CF U l r π R M A R₁ M₁ A₁) (hn : nodK l) (hn' : nodK r) (hl : l ≠ none) (hr : r ≠ none) : CR U l r π R M A R₁ M₁ A₁ := by
 refine ⟨h.wr,h.wm,h.wa,fun x => ?_,fun x => ?_,h.mod⟩
 ·rw [h.rem,AddP_iff hn' hn]
  refine or_congr_right ⟨fun ⟨k,y,z,h1,h2,h3⟩ => .inr ⟨k,z,y,h2,h1,h3⟩,?_⟩
  rintro (⟨_,_,_,h⟩ | ⟨k,y,z,h1,h2,h3⟩)
  ·exact absurd h hr
  ·exact ⟨k,z,y,h2,h1,h3⟩
 ·rw [h.add,AddP_iff hn hn']
  refine or_congr_right ⟨fun ⟨k,y,z,h1,h2,h3⟩ => .inr ⟨k,y,z,h1,h2,h3⟩,?_⟩
  rintro (⟨_,_,_,h⟩ | ⟨k,y,z,h1,h2,h3⟩)
  ·exact absurd h hl
  ·exact ⟨k,y,z,h1,h2,h3⟩
theorem CF.addl {A₂ : FS} (h : CF U none r π R M A R₁ M₁ A₁) (hn' : nodK r) (hr : r ≠ none) (hw : A₂.Wf U) (ha : ∀ x,A₂.has x ↔ A₁.has x ∨ (x = π ∧ π ≠ [])) : CR U none r π R M A R₁ M₁ A₂ := by
 have hn : nodK none := by simp [nodK,kids]
 refine ⟨h.wr,h.wm,hw,fun x => ?_,fun x => ?_,h.mod⟩
 ·rw [h.rem]
  refine or_congr_right ⟨fun ⟨k,y,z,h1,h2,h3⟩ => ?_,fun h => absurd h AddP_no⟩
  obtain ⟨t,rfl⟩ := h3.ne
  cases h1
 ·rw [ha,h.add,AddP_iff hn hn',or_assoc]
  refine or_congr_right ⟨?_,?_⟩
  ·rintro (⟨k,y,z,h1,h2,h3⟩ | ⟨h1,h2⟩)
   ·exact .inr ⟨k,y,z,h1,h2,h3⟩
   ·exact .inl ⟨h1,h2,hr,rfl⟩
  ·rintro (⟨h1,h2,_⟩ | ⟨k,y,z,h1,h2,h3⟩)
   ·exact .inr ⟨h1,h2⟩
   ·exact .inl ⟨k,y,z,h1,h2,h3⟩
theorem CF.flip (h : CF U l r π R M A R₁ M₁ A₁) : CF U r l π A M R A₁ M₁ R₁ := by
 refine ⟨h.wa,h.wm,h.wr,fun x => ?_,fun x => ?_,fun x hx => ?_⟩
 ·rw [h.add]
  exact or_congr_right ⟨fun ⟨k,y,z,h1,h2,h3⟩ => ⟨k,z,y,h2,h1,h3⟩,fun ⟨k,y,z,h1,h2,h3⟩ => ⟨k,z,y,h2,h1,h3⟩⟩
 ·rw [h.rem]
  exact or_congr_right ⟨fun ⟨k,y,z,h1,h2,h3⟩ => ⟨k,z,y,h2,h1,h3⟩,fun ⟨k,y,z,h1,h2,h3⟩ => ⟨k,z,y,h2,h1,h3⟩⟩
 ·rcases h.mod x hx with h | ⟨q,u,v,h1,h2,h3,h4,h5⟩
  ·exact .inl h
  ·exact .inr ⟨q,v,u,h1,h2,h4,h3,fun e => h5 e.symm⟩
theorem CR.flip (h : CR U l r π R M A R₁ M₁ A₁) : CR U r l π A M R A₁ M₁ R₁ := by
 refine ⟨h.wa,h.wm,h.wr,h.add,h.rem,fun x hx => ?_⟩
 rcases h.mod x hx with h | ⟨q,u,v,h1,h2,h3,h4,h5⟩
 ·exact .inl h
 ·exact .inr ⟨q,v,u,h1,h2,h4,h3,fun e => h5 e.symm⟩
theorem CF.addr {R₂ : FS} (h : CF U l none π R M A R₁ M₁ A₁) (hn : nodK l) (hl : l ≠ none) (hw : R₂.Wf U) (ha : ∀ x,R₂.has x ↔ R₁.has x ∨ (x = π ∧ π ≠ [])) : CR U l none π R M A R₂ M₁ A₁ :=
 (h.flip.addl hn hl hw ha).flip
theorem CF.flat (hr : R.Wf U) (hm : M.Wf U) (ha : A.Wf U) (hl : kids l = []) (hr' : kids r = []) : CF U l r π R M A R M A := by
 refine ⟨hr,hm,ha,fun x => ?_,fun x => ?_,fun x h => .inl h⟩
 ·refine ⟨.inl,fun h => h.resolve_right ?_⟩
  rintro ⟨k,y,z,h1,h2,h3⟩
  obtain ⟨t,rfl⟩ := h3.ne
  rw [hl] at h1; cases h1
 ·refine ⟨.inl,fun h => h.resolve_right ?_⟩
  rintro ⟨k,y,z,h1,h2,h3⟩
  obtain ⟨t,rfl⟩ := h3.ne
  rw [hr'] at h2; cases h2
theorem CF.mod1 {M₂ : FS} {u v : Tv} (h : CF U (some u) (some v) π R M A R₁ M₁ A₁) (hne : u ≠ v) (hw : M₂.Wf U) (hm : ∀ x,M₂.has x ↔ M₁.has x ∨ (x = π ∧ π ≠ [])) : CF U (some u) (some v) π R M A R₁ M₂ A₁ := by
 refine ⟨h.wr,hw,h.wa,h.rem,h.add,fun x hx => ?_⟩
 rcases (hm x).1 hx with h1 | h1
 ·exact h.mod x h1
 ·exact .inr (ModP_top h1 hne)
theorem nodK_flat {t : Option Tv} (h : kids t = []) : nodK t := by simp [nodK,h]
end
end Go.Ux
namespace Go.Ux
open Go Go.Proofs
set_option maxRecDepth 20000
attribute [local irreducible] WP Tr
def CS (Z : Fz) (R M A : FS) (rb mm ab : Nat) (H : Hp) : Prop := ∃ HR HM HA,H = HR ++ (HM ++ HA) ∧ OS Z R rb HR ∧ OS Z M mm HM ∧ OS Z A ab HA
theorem CS.lw {Z Z' : Fz} (hz : Fz.lw Z Z') {R M A : FS} {rb mm ab : Nat} {H : Hp} (h : CS Z R M A rb mm ab H) : CS Z' R M A rb mm ab H := by
 obtain ⟨HR,HM,HA,h1,h2,h3,h4⟩ := h
 exact ⟨HR,HM,HA,h1,h2.lw hz,h3.lw hz,h4.lw hz⟩
structure CX (Z : Fz) (U π : List Nm) (pcs : List Value) (sc sb lb mb eb nb cb rb mm ab : Nat) : Prop where
 sch : Sch Z sc sb lb mb eb
 nm : Z nb = some (cl [.string nmD] 9)
 cmp : Z cb = some (cl [pt rb,pt mm,pt ab] 185)
 pm : PM Z π pcs
 u : U.length ≤ 1073741824
 k : ∀ k ∈ π,k ∈ U
theorem CX.mono {Z Z' : Fz} (hz : Fz.le Z Z') {U π : List Nm} {pcs : List Value} {sc sb lb mb eb nb cb rb mm ab : Nat} (h : CX Z U π pcs sc sb lb mb eb nb cb rb mm ab) : CX Z' U π pcs sc sb lb mb eb nb cb rb mm ab :=
 ⟨h.sch.mono hz,hz _ _ h.nm,hz _ _ h.cmp,h.pm.mono hz,h.u,h.k⟩
theorem ov_tr {Z : Fz} {t : Tv} {v : Value} (h : OV Z (some t) v) : ∃ a u,v = vv a ∧ Z a = some (cl [u] 358) ∧ AV Z t u := by
 cases h with
 | some h => exact h
theorem ov_no {Z : Fz} {v : Value} (h : OV Z none v) : v = .nilIface := by cases h; rfl
section
variable {Z : Fz} {U π : List Nm} {pcs : List Value} {sc sb lb mb eb nb cb rb mm ab : Nat} {l r : Option Tv} {lv rv pv sp rr : Value} {R M A : FS} {Hq HC Hs : Hp}
set_option maxHeartbeats 1000000 in
theorem f328 (w : Nat) [One sp] (cx : CX Z U π pcs sc sb lb mb eb nb cb rb mm ab) (hl : OV Z l lv) (hr : OV Z r rv) (kl : kids l = []) (kr : kids r = []) (hne : l ≠ none ∨ r ≠ none) (hq : Sl 308 4 pv pcs Hq) (hc : CS Z R M A rb mm ab HC) (wr : R.Wf U) (wm : M.Wf U) (wa : A.Wf U) :
  Tr Tryz.prog 328 #[pt w] Z ((w,cl (cw lv rv sc nb pv cb false sp rr) 343) :: (Hq ++ (HC ++ Hs))) fun x Z' H' => x = .tuple #[] ∧ Z = Z' ∧ ∃ R' M' A' HC',H' = (w,cl (cw lv rv sc nb pv cb true sp rr) 343) :: (Hq ++ (HC' ++ Hs)) ∧ CS Z R' M' A' rb mm ab HC' ∧ CR U l r π R M A R' M' A' := by
 haveI := hq.one
 haveI := hl.one
 haveI := hr.one
 haveI : Zf Z cb _ := ⟨.of (cx.cmp)⟩
 obtain ⟨HR,HM,HA,rfl,oR,oM,oA⟩ := hc
 have c0 : CF U l r π R M A R M A := .flat wr wm wa kl kr
 refine Tr.introk Tryz.func328 rfl Tryz.ntmps328 Tryz.results328 rfl ?_
 cases l with
 | none =>
  cases r with
  | none => exact absurd rfl (hne.resolve_left fun h => h rfl)
  | some t =>
   obtain ⟨b,u,rfl,hb,hu⟩ := ov_tr hr
   cases ov_no hl
   refine gn ?_
   refine WP.drawT [(w,cl (cw .nilIface (vv b) sc nb pv cb true sp rr) 343)] (Hq ++ ((HR ++ (HM ++ HA)) ++ Hs)) mo (by decide +kernel) (prm rfl) ?_
   refine gn ?_
   refine ct (f82o ab pv π pcs A HA Hq U Z oA wa cx.u hq cx.pm cx.k) ?_
   rintro _ _ _ _ ⟨rfl,rfl,A',HA',rfl,oA',wa',hx⟩
   refine gn ?_
   refine fk0 (A := (w,cl (cw .nilIface (vv b) sc nb pv cb true sp rr) 343) :: (Hq ++ ((HR ++ (HM ++ HA')) ++ Hs))) ?_
   exact ⟨rfl,rfl,R,M,A',_,rfl,⟨HR,HM,HA',rfl,oR,oM,oA'⟩,c0.addl (nodK_flat kr) (by simp) wa' hx⟩
 | some s =>
  obtain ⟨a,v,rfl,ha,hv⟩ := ov_tr hl
  cases r with
  | none =>
   cases ov_no hr
   refine gn ?_
   refine WP.drawT [(w,cl (cw (vv a) .nilIface sc nb pv cb true sp rr) 343)] (Hq ++ ((HR ++ (HM ++ HA)) ++ Hs)) mo (by decide +kernel) (prm rfl) ?_
   refine gn ?_
   refine ct (f82o rb pv π pcs R HR Hq U Z oR wr cx.u hq cx.pm cx.k) ?_
   rintro _ _ _ _ ⟨rfl,rfl,R',HR',rfl,oR',wr',hx⟩
   refine gn ?_
   refine fk0 (A := (w,cl (cw (vv a) .nilIface sc nb pv cb true sp rr) 343) :: (Hq ++ ((HR' ++ (HM ++ HA)) ++ Hs))) ?_
   exact ⟨rfl,rfl,R',M,A,_,rfl,⟨HR',HM,HA,rfl,oR',oM,oA⟩,c0.addr (nodK_flat kl) (by simp) wr' hx⟩
  | some t =>
   obtain ⟨b,u,rfl,hb,hu⟩ := ov_tr hr
   refine gn ?_
   refine WP.drawT [(w,cl (cw (vv a) (vv b) sc nb pv cb true sp rr) 343)] (Hq ++ ((HR ++ (HM ++ HA)) ++ Hs)) mo (by decide +kernel) (prm rfl) ?_
   refine gn ?_
   refine cp (args := [.iface 261 rr,vv b,vv a]) (f64 (t.sz + 1) t s (vv b) (vv a) rr Z (by omega) ⟨b,u,rfl,hb,hu⟩ ⟨a,v,rfl,ha,hv⟩) ?_
   rintro _ ⟨q,rfl,_,hq2⟩
   cases q with
   | true =>
    refine gn ?_
    refine fk0 (A := (w,cl (cw (vv a) (vv b) sc nb pv cb true sp rr) 343) :: (Hq ++ ((HR ++ (HM ++ HA)) ++ Hs))) ?_
    exact ⟨rfl,rfl,R,M,A,_,rfl,⟨HR,HM,HA,rfl,oR,oM,oA⟩,c0.both (nodK_flat kl) (nodK_flat kr) (by simp) (by simp)⟩
   | false =>
    refine gn ?_
    refine WP.only ((w,cl (cw (vv a) (vv b) sc nb pv cb true sp rr) 343) :: (Hq ++ ((HR ++ (HM ++ HA)) ++ Hs))) ?_
    refine WP.drawT [(w,cl (cw (vv a) (vv b) sc nb pv cb true sp rr) 343)] (Hq ++ ((HR ++ (HM ++ HA)) ++ Hs)) mo (by decide +kernel) (prm rfl) ?_
    refine gn ?_
    refine ct (f82o mm pv π pcs M HM Hq U Z oM wm cx.u hq cx.pm cx.k) ?_
    rintro _ _ _ _ ⟨rfl,rfl,M',HM',rfl,oM',wm',hx⟩
    refine gn ?_
    refine fk0 (A := (w,cl (cw (vv a) (vv b) sc nb pv cb true sp rr) 343) :: (Hq ++ ((HR ++ (HM' ++ HA)) ++ Hs))) ?_
    exact ⟨rfl,rfl,R,M',A,_,rfl,⟨HR,HM',HA,rfl,oR,oM',oA⟩,(c0.mod1 (fun e => by have := hq2 e.symm; cases this) wm' hx).both (nodK_flat kl) (nodK_flat kr) (by simp) (by simp)⟩
def ScO (t : Option Tv) : Prop := ∀ s,t = some s → ∃ u,s = .sc u
theorem ScO.kids {t : Option Tv} (h : ScO t) : kids t = [] := by
 cases t with
 | none => rfl
 | some s => obtain ⟨u,rfl⟩ := h s rfl; rfl
def LiO (t : Option Tv) : Prop := ∀ s,t = some s → ∃ u l,s = .li u l
theorem LiO.kids {t : Option Tv} (h : LiO t) : kids t = [] := by
 cases t with
 | none => rfl
 | some s => obtain ⟨u,_,rfl⟩ := h s rfl; rfl
theorem f304o {t : Option Tv} {v : Value} (x : Value) (h : OV Z t v) (hs : ScO t) (hz : Z sb = some (cl [.string stU] 291)) : Pu Tryz.prog 304 #[pt sb,v,x] Z fun r => r = .slice none 0 0 := by
 cases t with
 | none => cases ov_no h; exact f304_0 x
 | some s =>
  obtain ⟨a,u,rfl,ha,hu⟩ := ov_tr h
  obtain ⟨y,rfl⟩ := hs s rfl
  simp only [AV] at hu
  exact f304 x a u ha (hu.1 ▸ hu.2) hz
theorem f331 (w : Nat) [One sp] (cx : CX Z U π pcs sc sb lb mb eb nb cb rb mm ab) (hl : OV Z l lv) (hr : OV Z r rv) (kl : ScO l) (kr : ScO r) (hne : l ≠ none ∨ r ≠ none) (hq : Sl 308 4 pv pcs Hq) (hc : CS Z R M A rb mm ab HC) (wr : R.Wf U) (wm : M.Wf U) (wa : A.Wf U) :
  Tr Tryz.prog 331 #[pt w,pt sb] Z ((w,cl (cw lv rv sc nb pv cb false sp rr) 343) :: (Hq ++ (HC ++ Hs))) fun x Z' H' => x = .slice none 0 0 ∧ Z = Z' ∧ ∃ R' M' A' HC',H' = (w,cl (cw lv rv sc nb pv cb true sp rr) 343) :: (Hq ++ (HC' ++ Hs)) ∧ CS Z R' M' A' rb mm ab HC' ∧ CR U l r π R M A R' M' A' := by
 haveI := hq.one
 haveI := hl.one
 haveI := hr.one
 refine Tr.introk Tryz.func331 rfl Tryz.ntmps331 Tryz.results331 rfl ?_
 refine gn ?_
 refine cp (f304o _ hl kl cx.sch.s) ?_
 rintro _ rfl
 refine gn ?_
 refine cp (f304o _ hr kr cx.sch.s) ?_
 rintro _ rfl
 refine gn ?_
 refine ct (f328 (Hs := Hs) (sp := sp) (rr := rr) w cx hl hr kl.kids kr.kids hne hq hc wr wm wa) ?_
 rintro _ _ _ _ ⟨rfl,rfl,R',M',A',HC',rfl,h1,h2⟩
 refine gn ?_
 exact fk1 (A := (w,cl (cw lv rv sc nb pv cb true sp rr) 343) :: (Hq ++ (HC' ++ Hs))) ⟨rfl,rfl,R',M',A',HC',rfl,h1,h2⟩
theorem f334 (w : Nat) (q : Bool) (s v : Value) {t : Option Tv} (h : OV Z t v) (hn : Nlf t) [One s] :
  Tr Tryz.prog 334 #[pt w,s,v] Z [(w,cl (cw lv rv sc nb pv cb q sp rr) 343)] fun x Z' H' => Z = Z' ∧ H' = [(w,cl (cw lv rv sc nb pv cb q sp rr) 343)] ∧ ∃ mv,x = .tuple #[mv,.slice none 0 0] ∧ MO Z (kids t) mv := by
 refine Tr.introk Tryz.func334 rfl Tryz.ntmps334 Tryz.results334 rfl ?_
 cases t with
 | none =>
  cases ov_no h
  refine gn ?_
  exact fk2 (A := [(w,cl (cw lv rv sc nb pv cb q sp rr) 343)]) ⟨rfl,rfl,.nilIface,rfl,.inl ⟨rfl,rfl⟩⟩
 | some t =>
  obtain ⟨a,u,rfl,ha,hu⟩ := ov_tr h
  have hc := hn t rfl
  cases t with
  | sc _ => simp [Tv.cls] at hc
  | li _ _ => simp [Tv.cls] at hc
  | null =>
   simp only [AV] at hu; subst hu
   refine gn ?_
   refine cp (f239_n rr a ha) ?_
   rintro _ rfl
   refine gn ?_
   exact fk2 (A := [(w,cl (cw lv rv sc nb pv cb q sp rr) 343)]) ⟨rfl,rfl,.nilIface,rfl,.inl ⟨rfl,rfl⟩⟩
  | mp l =>
   obtain ⟨m,rfl,hm⟩ := hu.mp
   refine gn ?_
   refine cp (f239 rr a m ha) ?_
   rintro _ rfl
   refine gn ?_
   exact fk2 (A := [(w,cl (cw lv rv sc nb pv cb q sp rr) 343)]) ⟨rfl,rfl,_,rfl,.inr ⟨m,rfl,hm⟩⟩
def LV (v : Value) : Prop := v = .nilIface ∨ ∃ a n c,v = .iface 504 (.slice a n c)
theorem LV.one {v : Value} (h : LV v) : One v := by rcases h with rfl | ⟨_,_,_,rfl⟩ <;> infer_instance
theorem f332 (w : Nat) (q : Bool) (s v : Value) {t : Option Tv} (h : OV Z t v) (hn : LiO t) [One s] :
  Tr Tryz.prog 332 #[pt w,s,v] Z [(w,cl (cw lv rv sc nb pv cb q sp rr) 343)] fun x Z' H' => Z = Z' ∧ H' = [(w,cl (cw lv rv sc nb pv cb q sp rr) 343)] ∧ ∃ mv,x = .tuple #[mv,.slice none 0 0] ∧ LV mv := by
 refine Tr.introk Tryz.func332 rfl Tryz.ntmps332 Tryz.results332 rfl ?_
 cases t with
 | none =>
  cases ov_no h
  refine gn ?_
  exact fk2 (A := [(w,cl (cw lv rv sc nb pv cb q sp rr) 343)]) ⟨rfl,rfl,.nilIface,rfl,.inl rfl⟩
 | some t =>
  obtain ⟨a,u,rfl,ha,hu⟩ := ov_tr h
  obtain ⟨y,ts,rfl⟩ := hn t rfl
  simp only [AV] at hu; obtain ⟨rfl,z,n,vs,rfl,_,h3,_⟩ := hu
  refine gn ?_
  refine cp (f237 rr z a ha) ?_
  rintro _ rfl
  refine gn ?_
  refine fk2 (A := [(w,cl (cw lv rv sc nb pv cb q sp rr) 343)]) ⟨rfl,rfl,_,rfl,.inr ?_⟩
  cases h3 with
  | nil c => exact ⟨_,_,_,rfl⟩
  | emp => exact ⟨_,_,_,rfl⟩
  | row => exact ⟨_,_,_,rfl⟩
theorem len0 (n : Nat) : decide ((Int.ofNat n : Int) = 0) = decide (n = 0) := by
 simp
set_option maxHeartbeats 2000000 in
theorem f329 (w : Nat) [One sp] (cx : CX Z U π pcs sc sb lb mb eb nb cb rb mm ab) (hl : OV Z l lv) (hr : OV Z r rv) (kl : LiO l) (kr : LiO r) (hne : l ≠ none ∨ r ≠ none) (hq : Sl 308 4 pv pcs Hq) (hc : CS Z R M A rb mm ab HC) (wr : R.Wf U) (wm : M.Wf U) (wa : A.Wf U) :
  Tr Tryz.prog 329 #[pt w,pt lb] Z ((w,cl (cw lv rv sc nb pv cb false sp rr) 343) :: (Hq ++ (HC ++ Hs))) fun x Z' H' => x = .slice none 0 0 ∧ Z = Z' ∧ ∃ R' M' A' HC',H' = (w,cl (cw lv rv sc nb pv cb true sp rr) 343) :: (Hq ++ (HC' ++ Hs)) ∧ CS Z R' M' A' rb mm ab HC' ∧ CR U l r π R M A R' M' A' := by
 haveI := hq.one
 haveI := hl.one
 haveI := hr.one
 obtain ⟨eb',hlb,_⟩ := cx.sch.l
 haveI : Zf Z lb _ := ⟨.of (hlb)⟩
 refine Tr.introk Tryz.func329 rfl Tryz.ntmps329 Tryz.results329 rfl ?_
 refine gn ?_
 refine ct (f332 (lv := lv) (rv := rv) (pv := pv) (sp := sp) (rr := rr) (sc := sc) (nb := nb) (cb := cb) w false (.string _) lv hl kl) ?_
 rintro _ _ _ _ ⟨rfl,rfl,x,rfl,hx⟩
 haveI := hx.one
 rcases hx with rfl | ⟨a1,n1,c1,rfl⟩
 ·refine gn ?_
  refine ct (f332 (lv := lv) (rv := rv) (pv := pv) (sp := sp) (rr := rr) (sc := sc) (nb := nb) (cb := cb) w false (.string _) rv hr kr) ?_
  rintro _ _ _ _ ⟨rfl,rfl,y,rfl,hy⟩
  haveI := hy.one
  rcases hy with rfl | ⟨a2,n2,c2,rfl⟩
  ·refine gn ?_
   refine ct (f328 (Hs := Hs) (sp := sp) (rr := rr) w cx hl hr kl.kids kr.kids hne hq hc wr wm wa) ?_
   rintro _ _ _ _ ⟨rfl,rfl,R',M',A',HC',rfl,h1,h2⟩
   refine gn ?_
   exact fk1 (A := (w,cl (cw lv rv sc nb pv cb true sp rr) 343) :: (Hq ++ (HC' ++ Hs))) ⟨rfl,rfl,R',M',A',HC',rfl,h1,h2⟩
  ·refine gn ?_
   refine o_free rfl rfl ?_
   refine gn ?_
   refine cip (args := []) (f364 a2 n2 c2 Z) ?_
   rintro _ rfl
   refine o_eqi rfl rfl rfl (r := decide (n2 = 0)) (len0 n2) ?_
   cases decide (n2 = 0)
   ·refine gn ?_
    refine ct (f328 (Hs := Hs) (sp := sp) (rr := rr) w cx hl hr kl.kids kr.kids hne hq hc wr wm wa) ?_
    rintro _ _ _ _ ⟨rfl,rfl,R',M',A',HC',rfl,h1,h2⟩
    refine gn ?_
    refine fin_free ?_
    exact fk1 (A := (w,cl (cw lv rv sc nb pv cb true sp rr) 343) :: (Hq ++ (HC' ++ Hs))) ⟨rfl,rfl,R',M',A',HC',rfl,h1,h2⟩
   ·refine gn ?_
    refine ct (f328 (Hs := Hs) (sp := sp) (rr := rr) w cx hl hr kl.kids kr.kids hne hq hc wr wm wa) ?_
    rintro _ _ _ _ ⟨rfl,rfl,R',M',A',HC',rfl,h1,h2⟩
    refine gn ?_
    refine fin_free ?_
    exact fk1 (A := (w,cl (cw lv rv sc nb pv cb true sp rr) 343) :: (Hq ++ (HC' ++ Hs))) ⟨rfl,rfl,R',M',A',HC',rfl,h1,h2⟩
 ·refine gn ?_
  refine o_free rfl rfl ?_
  refine gn ?_
  refine ct (f332 (lv := lv) (rv := rv) (pv := pv) (sp := sp) (rr := rr) (sc := sc) (nb := nb) (cb := cb) w false (.string _) rv hr kr) ?_
  rintro _ _ _ _ ⟨rfl,rfl,y,rfl,hy⟩
  haveI := hy.one
  rcases hy with rfl | ⟨a2,n2,c2,rfl⟩
  ·refine gn ?_
   refine cip (args := []) (f364 a1 n1 c1 Z) ?_
   rintro _ rfl
   refine o_eqi rfl rfl rfl (r := decide (n1 = 0)) (len0 n1) ?_
   cases decide (n1 = 0)
   ·refine gn ?_
    refine ct (f328 (Hs := Hs) (sp := sp) (rr := rr) w cx hl hr kl.kids kr.kids hne hq hc wr wm wa) ?_
    rintro _ _ _ _ ⟨rfl,rfl,R',M',A',HC',rfl,h1,h2⟩
    refine gn ?_
    refine fin_free ?_
    exact fk1 (A := (w,cl (cw lv rv sc nb pv cb true sp rr) 343) :: (Hq ++ (HC' ++ Hs))) ⟨rfl,rfl,R',M',A',HC',rfl,h1,h2⟩
   ·refine gn ?_
    refine ct (f328 (Hs := Hs) (sp := sp) (rr := rr) w cx hl hr kl.kids kr.kids hne hq hc wr wm wa) ?_
    rintro _ _ _ _ ⟨rfl,rfl,R',M',A',HC',rfl,h1,h2⟩
    refine gn ?_
    refine fin_free ?_
    exact fk1 (A := (w,cl (cw lv rv sc nb pv cb true sp rr) 343) :: (Hq ++ (HC' ++ Hs))) ⟨rfl,rfl,R',M',A',HC',rfl,h1,h2⟩
  ·refine gn ?_
   refine o_free rfl rfl ?_
   refine gn ?_
   refine cip (args := []) (f364 a1 n1 c1 Z) ?_
   rintro _ rfl
   refine o_eqi rfl rfl rfl (r := decide (n1 = 0)) (len0 n1) ?_
   cases decide (n1 = 0)
   ·refine gn ?_
    refine ct (f328 (Hs := Hs) (sp := sp) (rr := rr) w cx hl hr kl.kids kr.kids hne hq hc wr wm wa) ?_
    rintro _ _ _ _ ⟨rfl,rfl,R',M',A',HC',rfl,h1,h2⟩
    refine gn ?_
    refine fin_free ?_
    refine fin_free ?_
    exact fk1 (A := (w,cl (cw lv rv sc nb pv cb true sp rr) 343) :: (Hq ++ (HC' ++ Hs))) ⟨rfl,rfl,R',M',A',HC',rfl,h1,h2⟩
   ·refine gn ?_
    refine cip (args := []) (f364 a2 n2 c2 Z) ?_
    rintro _ rfl
    refine o_eqi rfl rfl rfl (r := decide (n2 = 0)) (len0 n2) ?_
    cases decide (n2 = 0)
    ·refine gn ?_
     refine ct (f328 (Hs := Hs) (sp := sp) (rr := rr) w cx hl hr kl.kids kr.kids hne hq hc wr wm wa) ?_
     rintro _ _ _ _ ⟨rfl,rfl,R',M',A',HC',rfl,h1,h2⟩
     refine gn ?_
     refine fin_free ?_
     refine fin_free ?_
     exact fk1 (A := (w,cl (cw lv rv sc nb pv cb true sp rr) 343) :: (Hq ++ (HC' ++ Hs))) ⟨rfl,rfl,R',M',A',HC',rfl,h1,h2⟩
    ·refine gn ?_
     refine ct (f328 (Hs := Hs) (sp := sp) (rr := rr) w cx hl hr kl.kids kr.kids hne hq hc wr wm wa) ?_
     rintro _ _ _ _ ⟨rfl,rfl,R',M',A',HC',rfl,h1,h2⟩
     refine gn ?_
     refine fin_free ?_
     refine fin_free ?_
     exact fk1 (A := (w,cl (cw lv rv sc nb pv cb true sp rr) 343) :: (Hq ++ (HC' ++ Hs))) ⟨rfl,rfl,R',M',A',HC',rfl,h1,h2⟩
end
end Go.Ux
