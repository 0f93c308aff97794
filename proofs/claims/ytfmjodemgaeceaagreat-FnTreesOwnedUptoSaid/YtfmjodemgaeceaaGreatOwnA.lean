/- The proof that FnTreesOwned is true for each history, part 1: I1 E1 E2 E3 E4 E5 E5b E5c E5d E5e E5f E5g E6. No condition beyond the given one on bulk. -/
import GoSem.ClaimChange
import Derived.DataReads
import Derived.WalkKit
import Derived.Orders
import Derived.KernelRfl
import Derived.Deep.AppendSrc
import Derived.Laws.IdiomCopy
import Derived.Laws.MakeOwn
import Derived.Laws.Slices
import Derived.Test.YtfmjodemgaeceaaGreatProg
namespace Go.Ux
open Go
theorem mapM_at {α β : Type} {f : α → Option β} : ∀ {l : List α} {ys : List β},l.mapM f = some ys → ys.length = l.length ∧ ∀ (i : Nat) (x : α),l[i]? = some x → ∃ y,ys[i]? = some y ∧ f x = some y
 | [],ys,h => by
  simp at h; subst h
  exact ⟨rfl,fun i x hx => by simp at hx⟩
 | a :: l,ys,h => by
  rw [List.mapM_cons] at h
  cases h1 : f a with
  | none => simp [h1] at h
  | some b =>
   cases h2 : l.mapM f with
   | none => simp [h1,h2] at h
   | some bs =>
    simp [h1,h2] at h
    subst h
    obtain ⟨q1,q2⟩ := mapM_at h2
    refine ⟨by simp [q1],fun i x hx => ?_⟩
    cases i with
    | zero => simp at hx; subst hx; exact ⟨b,by simp,h1⟩
    | succ i => simp at hx; obtain ⟨y,e1,e2⟩ := q2 i x hx; exact ⟨y,by simpa using e1,e2⟩
theorem range_at {β : Type} {f : Nat → Option β} {n : Nat} {ys : List β} (h : (List.range n).mapM f = some ys) : ys.length = n ∧ ∀ i,i < n → ∃ y,ys[i]? = some y ∧ f i = some y := by
 obtain ⟨h1,h2⟩ := mapM_at h
 rw [List.length_range] at h1
 exact ⟨h1,fun i hi => h2 i i (by simp [hi])⟩
theorem wcell_at {w : World} {a : Addr} {v : Value} (h : w.cell? a = some v) : a.spot = none ∧ ∃ c T fr,w.heap[a.block]? = some (.cells c T fr) ∧ c[a.off]? = some v := by
 have hs := World.cell?_spot h
 refine ⟨hs,?_⟩
 unfold World.cell? at h
 split at h
 ·next c T fr hc =>
  simp [hs] at h
  exact ⟨c,T,fr,hc,h⟩
 ·cases h
theorem cells_row {w : World} {b off : Nat} {s : Option Nat} {k : Nat} {cs : List Value} (h : w.cells? 0 ⟨b,off,s⟩ k = some cs) (hk : 0 < k) :
  s = none ∧ cs.length = k ∧ ∃ c T fr,w.heap[b]? = some (.cells c T fr) ∧ (c.toList.drop off).take k = cs := by
 unfold World.cells? at h
 rw [if_pos (Nat.zero_le _)] at h
 obtain ⟨h1,h2⟩ := range_at h
 obtain ⟨y,_,hy⟩ := h2 0 hk
 obtain ⟨hs,c,T,fr,hc,_⟩ := wcell_at (a := ⟨b,off,s⟩) hy
 simp only at hs
 subst hs
 have add : ∀ i,(⟨b,off,none⟩ : Addr).add i = ⟨b,off + i,none⟩ := fun i => by
  unfold Addr.add
  split
  ·next e => subst e; rfl
  ·rfl
 refine ⟨rfl,h1,c,T,fr,hc,?_⟩
 apply List.ext_getElem?
 intro i
 rw [List.getElem?_take]
 split
 ·next hi =>
  obtain ⟨y,e1,e2⟩ := h2 i hi
  rw [add] at e2
  obtain ⟨_,c',T',fr',hc',hv⟩ := wcell_at e2
  rw [hc] at hc'
  simp only [Option.some.injEq,Obj.cells.injEq] at hc'
  rw [← hc'.1] at hv
  rw [List.getElem?_drop,e1]
  simpa using hv
 ·rw [List.getElem?_eq_none (by omega)]
section
variable {H : Type} {enc : TypeId × Value → H} {P : Program} {w : World} {sp : Nat → Bool} {hd : Bool} {fuel : Nat} {t e : TypeId} {cs : List Value} {d : DataW H} {p : List MemPlace}
theorem td_int {k : IntKind} (ht : P.underlying t = some (.int k)) (h : DataW.trod enc P w 0 sp hd fuel t cs = some (d,p)) : ∃ n,cs = [.int k n] ∧ d = .lit (.int k n) := by
 cases fuel with
 | zero => simp [DataW.trod] at h
 | succ fuel =>
  match cs with
  | [] => simp [DataW.trod,ht] at h
  | _ :: _ :: _ => simp [DataW.trod,ht] at h
  | [c] =>
   cases c <;> simp [DataW.trod,ht] at h
   obtain ⟨⟨rfl,_⟩,rfl,rfl⟩ := h
   exact ⟨_,rfl,rfl⟩
theorem td_float {k : FloatKind} (ht : P.underlying t = some (.float k)) (h : DataW.trod enc P w 0 sp hd fuel t cs = some (d,p)) : ∃ n,cs = [.float k n] ∧ d = .lit (.float k n) := by
 cases fuel with
 | zero => simp [DataW.trod] at h
 | succ fuel =>
  match cs with
  | [] => simp [DataW.trod,ht] at h
  | _ :: _ :: _ => simp [DataW.trod,ht] at h
  | [c] =>
   cases c <;> simp [DataW.trod,ht] at h
   obtain ⟨⟨rfl,_⟩,rfl,rfl⟩ := h
   exact ⟨_,rfl,rfl⟩
theorem td_bool (ht : P.underlying t = some .bool) (h : DataW.trod enc P w 0 sp hd fuel t cs = some (d,p)) : ∃ b,cs = [.bool b] ∧ d = .lit (.bool b) := by
 cases fuel with
 | zero => simp [DataW.trod] at h
 | succ fuel =>
  match cs with
  | [] => simp [DataW.trod,ht] at h
  | _ :: _ :: _ => simp [DataW.trod,ht] at h
  | [c] =>
   cases c <;> simp [DataW.trod,ht] at h
   obtain ⟨rfl,rfl⟩ := h
   exact ⟨_,rfl,rfl⟩
theorem td_string (ht : P.underlying t = some .string) (h : DataW.trod enc P w 0 sp hd fuel t cs = some (d,p)) : ∃ s : ByteArray,cs = [.string s] ∧ d = .lit (.string s.data.toList) := by
 cases fuel with
 | zero => simp [DataW.trod] at h
 | succ fuel =>
  match cs with
  | [] => simp [DataW.trod,ht] at h
  | _ :: _ :: _ => simp [DataW.trod,ht] at h
  | [c] =>
   cases c <;> simp [DataW.trod,ht] at h
   obtain ⟨_,rfl,rfl⟩ := h
   exact ⟨_,rfl,rfl⟩
theorem td_struct {fs : Array Field} (ht : P.underlying t = some (.struct fs)) (h : DataW.trod enc P w 0 sp hd fuel t cs = some (d,p)) :
  cs.length = P.cellsOf t ∧ ∃ fuel' xs,(fs.toList.mapM fun f => DataW.trod enc P w 0 sp hd fuel' f.type ((cs.drop f.offset).take (P.cellsOf f.type))) = some xs ∧ d = .agg (xs.map (·.1)) ∧ fuel = fuel' + 1 := by
 cases fuel with
 | zero => simp [DataW.trod] at h
 | succ fuel =>
  simp only [DataW.trod,ht] at h
  split at h
  ·next hl =>
   obtain ⟨xs,h1,h2⟩ := Option.map_eq_some_iff.1 h
   exact ⟨hl,fuel,xs,h1,(Prod.mk.inj h2).1.symm,rfl⟩
  ·cases h
theorem td_slice (ht : P.underlying t = some (.slice e)) (hk : 0 < P.cellsOf e) (h : DataW.trod enc P w 0 (fun _ => true) hd fuel t cs = some (d,p)) :
  (cs = [.slice none 0 0] ∧ d = .nil) ∨ (∃ a,cs = [.slice (some a) 0 0] ∧ d = .slice [] []) ∨
  ∃ b off len cap fuel' c T fr es rs,cs = [.slice (some ⟨b,off,none⟩) len cap] ∧ len ≤ cap ∧ w.heap[b]? = some (.cells c T fr) ∧ d = .slice es rs ∧ es.length = len ∧ fuel = fuel' + 1 ∧
   ∀ i,i < len → ∃ y q,es[i]? = some y ∧ ((c.toList.drop (off + i * P.cellsOf e)).take (P.cellsOf e)).length = P.cellsOf e ∧ DataW.trod enc P w 0 (fun _ => true) hd fuel' e ((c.toList.drop (off + i * P.cellsOf e)).take (P.cellsOf e)) = some (y,q) := by
 cases fuel with
 | zero => simp [DataW.trod] at h
 | succ fuel =>
  match cs with
  | [] => simp [DataW.trod,ht] at h
  | _ :: _ :: _ => simp [DataW.trod,ht] at h
  | [c] =>
   cases c
   case slice a len cap =>
    cases a with
    | none =>
     left
     match len,cap,h with
     | 0,0,h => simp [DataW.trod,ht] at h; exact ⟨rfl,h.1.symm⟩
     | 0,c + 1,h => simp [DataW.trod,ht] at h
     | l + 1,c,h => simp [DataW.trod,ht] at h
    | some a =>
     right
     simp only [DataW.trod,ht] at h
     split at h
     ·next hc =>
      obtain ⟨_,hlc,_⟩ := hc
      obtain ⟨es,he,h⟩ := Option.bind_eq_some_iff.1 h
      obtain ⟨rs,hr,h⟩ := Option.map_eq_some_iff.1 h
      obtain ⟨rfl,_⟩ := Prod.mk.inj h
      rw [if_pos trivial] at hr
      obtain ⟨e1,e2⟩ := range_at he
      obtain ⟨r1,r2⟩ := range_at hr
      by_cases h0 : cap = 0
      ·left
       have : len = 0 := by omega
       subst h0 this
       have : es = [] := List.length_eq_zero_iff.1 e1
       subst this
       have : rs = [] := List.length_eq_zero_iff.1 r1
       subst this
       exact ⟨a,rfl,rfl⟩
      ·right
       obtain ⟨b,off,s⟩ := a
       have hone : ∃ x,(w.cells? 0 (⟨b,off,s⟩ : Addr) (P.cellsOf e)) = some x := by
        by_cases hl : 0 < len
        ·obtain ⟨y,_,hy⟩ := e2 0 hl
         simp only [Option.bind_eq_some_iff,Nat.zero_mul] at hy
         obtain ⟨x,hx,_⟩ := hy
         exact ⟨x,hx⟩
        ·obtain ⟨y,_,hy⟩ := r2 0 (by omega)
         have : len = 0 := by omega
         simp only [Option.bind_eq_some_iff,this,Nat.zero_add,Nat.zero_mul] at hy
         obtain ⟨x,hx,_⟩ := hy
         exact ⟨x,hx⟩
       obtain ⟨x,hx⟩ := hone
       obtain ⟨rfl,_,c,T,fr,hc,_⟩ := cells_row hx hk
       have add : ∀ i,(⟨b,off,none⟩ : Addr).add i = ⟨b,off + i,none⟩ := fun i => by
        unfold Addr.add
        split
        ·next e => subst e; rfl
        ·rfl
       refine ⟨b,off,len,cap,fuel,c,T,fr,es.map (·.1),rs.map (·.1),rfl,hlc,hc,rfl,by simp [e1],rfl,fun i hi => ?_⟩
       obtain ⟨y,h1,h2⟩ := e2 i hi
       simp only [Option.bind_eq_some_iff] at h2
       obtain ⟨x,h3,h4⟩ := h2
       rw [add] at h3
       obtain ⟨_,hlen,c',T',fr',hc',hx'⟩ := cells_row h3 hk
       rw [hc] at hc'
       simp only [Option.some.injEq,Obj.cells.injEq] at hc'
       rw [← hc'.1] at hx'
       refine ⟨y.1,y.2,by simp [h1],?_,?_⟩
       ·rw [hx']; exact hlen
       ·rw [hx']; exact h4
     ·cases h
   all_goals simp [DataW.trod,ht] at h
end
end Go.Ux
namespace Go.Ux
open Go
abbrev Fz := Nat → Option Obj
abbrev Hp := List (Nat × Obj)
def Fz.le (Z Z' : Fz) : Prop := ∀ b o,Z b = some o → Z' b = some o
theorem Fz.le.refl (Z : Fz) : Fz.le Z Z := fun _ _ h => h
theorem Fz.le.trans {A B C : Fz} (h : Fz.le A B) (k : Fz.le B C) : Fz.le A C := fun b o x => k b o (h b o x)
structure Sat (w : World) (Z : Fz) (H : Hp) : Prop where
 fz : ∀ b o,Z b = some o → w.heap[b]? = some o
 own : ∀ p ∈ H,w.heap[p.1]? = some p.2
 nd : (H.map (·.1)).Nodup
 apart : ∀ p ∈ H,Z p.1 = none
structure Stay (w w' : World) : Prop where
 os : w'.os = w.os
 tape : w'.tape = w.tape
 output : w'.output = w.output
 size : w.heap.size ≤ w'.heap.size
theorem Stay.refl (w : World) : Stay w w := ⟨rfl,rfl,rfl,Nat.le_refl _⟩
theorem Stay.trans {a b c : World} (h : Stay a b) (k : Stay b c) : Stay a c :=
 ⟨k.os.trans h.os,k.tape.trans h.tape,k.output.trans h.output,Nat.le_trans h.size k.size⟩
theorem Sat.perm {w : World} {Z : Fz} {H H' : Hp} (h : Sat w Z H) (p : H.Perm H') : Sat w Z H' :=
 ⟨h.fz,fun x hx => h.own x (p.mem_iff.2 hx),(p.map (·.1)).nodup_iff.1 h.nd,fun x hx => h.apart x (p.mem_iff.2 hx)⟩
theorem Sat.lt {w : World} {Z : Fz} {H : Hp} (h : Sat w Z H) {p : Nat × Obj} (hp : p ∈ H) : p.1 < w.heap.size := by
 have := h.own p hp
 rcases Nat.lt_or_ge p.1 w.heap.size with k | k
 ·exact k
 ·simp [Array.getElem?_eq_none k] at this
theorem Sat.ltz {w : World} {Z : Fz} {H : Hp} (h : Sat w Z H) {b : Nat} {o : Obj} (hb : Z b = some o) : b < w.heap.size := by
 have := h.fz b o hb
 rcases Nat.lt_or_ge b w.heap.size with k | k
 ·exact k
 ·simp [Array.getElem?_eq_none k] at this
theorem Sat.push {w : World} {Z : Fz} {H : Hp} (h : Sat w Z H) (o : Obj) : Sat { w with heap := w.heap.push o } Z ((w.heap.size,o) :: H) := by
 refine ⟨fun b x hb => ?_,fun p hp => ?_,?_,fun p hp => ?_⟩
 ·have := h.ltz hb
  show (w.heap.push o)[b]? = _
  rw [Array.getElem?_push,if_neg (by omega)]; exact h.fz b x hb
 ·show (w.heap.push o)[p.1]? = _
  rcases List.mem_cons.1 hp with rfl | hp
  ·simp
  ·have := h.lt hp
   rw [Array.getElem?_push,if_neg (by omega)]; exact h.own p hp
 ·simp only [List.map_cons,List.nodup_cons]
  refine ⟨fun hm => ?_,h.nd⟩
  obtain ⟨p,hp,e⟩ := List.mem_map.1 hm
  have := h.lt hp; omega
 ·rcases List.mem_cons.1 hp with rfl | hp
  ·cases e : Z w.heap.size with
   | none => rfl
   | some x => have := h.ltz e; exact absurd this (by simp)
  ·exact h.apart p hp
theorem Sat.set {w w' : World} {Z : Fz} {b : Nat} {o o' : Obj} {H : Hp} (h : Sat w Z ((b,o) :: H)) (hb : w'.heap[b]? = some o') (hk : ∀ k,k ≠ b → w'.heap[k]? = w.heap[k]?) :
  Sat w' Z ((b,o') :: H) := by
 have hnd := h.nd
 simp only [List.map_cons,List.nodup_cons] at hnd
 refine ⟨fun k x hz => ?_,fun p hp => ?_,?_,fun p hp => ?_⟩
 ·have hne : k ≠ b := by
   rintro rfl
   have := h.apart (k,o) (List.mem_cons_self ..)
   simp [hz] at this
  rw [hk k hne]; exact h.fz k x hz
 ·rcases List.mem_cons.1 hp with rfl | hp
  ·exact hb
  ·have hne : p.1 ≠ b := fun e => hnd.1 (e ▸ List.mem_map_of_mem hp)
   rw [hk p.1 hne]; exact h.own p (List.mem_cons_of_mem _ hp)
 ·simpa using hnd
 ·rcases List.mem_cons.1 hp with rfl | hp
  ·exact h.apart (b,o) (List.mem_cons_self ..)
  ·exact h.apart p (List.mem_cons_of_mem _ hp)
theorem Sat.drop {w : World} {Z : Fz} {A H : Hp} (h : Sat w Z (A ++ H)) : Sat w Z H := by
 refine ⟨h.fz,fun p hp => h.own p (List.mem_append_right _ hp),?_,fun p hp => h.apart p (List.mem_append_right _ hp)⟩
 have := h.nd
 rw [List.map_append] at this
 exact (List.nodup_append.1 this).2.1
def Fz.add (Z : Fz) (b : Nat) (o : Obj) : Fz := fun k => if k = b then some o else Z k
theorem Sat.freeze {w : World} {Z : Fz} {b : Nat} {o : Obj} {H : Hp} (h : Sat w Z ((b,o) :: H)) : Sat w (Z.add b o) H ∧ Fz.le Z (Z.add b o) ∧ Z.add b o b = some o := by
 have hnd := h.nd
 simp only [List.map_cons,List.nodup_cons] at hnd
 have hz : Z b = none := h.apart (b,o) (List.mem_cons_self ..)
 refine ⟨⟨fun k x hk => ?_,fun p hp => h.own p (List.mem_cons_of_mem _ hp),hnd.2,fun p hp => ?_⟩,fun k x hk => ?_,by simp [Fz.add]⟩
 ·unfold Fz.add at hk
  split at hk
  ·next e => subst e; cases hk; exact h.own (k,o) (List.mem_cons_self ..)
  ·exact h.fz k x hk
 ·have hne : p.1 ≠ b := fun e => hnd.1 (e ▸ List.mem_map_of_mem hp)
  simp only [Fz.add,if_neg hne]
  exact h.apart p (List.mem_cons_of_mem _ hp)
 ·unfold Fz.add
  split
  ·next e => subst e; simp [hz] at hk
  ·exact hk
inductive Lay where
 | s (d : Nat) (v : Value)
 | al (d : Nat) (x : Operand)
 | ex (d : Nat) (x : Operand) (i : Nat)
 | m (ds : List Nat) (g : Nat → Value)
def partOf (i : Nat) : Value → Value
 | .tuple vs => vs.getD i undef
 | _ => undef
def look : List Lay → Nat → Value
 | [],_ => undef
 | .s d v :: l,t => bif Nat.beq d t then v else look l t
 | .al d x :: l,t => bif Nat.beq d t then (match x with
  | .tmp u => look l u
  | .const v => v
  | .global g => .pointer (some ⟨g,0,none⟩)
  | .func f => .func (.func f) #[] #[]) else look l t
 | .ex d x i :: l,t => bif Nat.beq d t then partOf i (match x with
  | .tmp u => look l u
  | .const v => v
  | .global g => .pointer (some ⟨g,0,none⟩)
  | .func f => .func (.func f) #[] #[]) else look l t
 | .m ds g :: l,t => bif ds.elem t then g t else look l t
structure Fr where
 l : List Lay
 D : List Deferred := []
structure Rel (a : Act) (n : Nat) (f : Fr) : Prop where
 size : a.tmps.size = n
 look : ∀ t,a.tmps.getD t undef = look f.l t
 defers : a.defers = f.D
def ev (f : Fr) : Operand → Value
 | .tmp t => look f.l t
 | .const v => v
 | .global g => .pointer (some ⟨g,0,none⟩)
 | .func f => .func (.func f) #[] #[]
theorem Rel.eval {a : Act} {n : Nat} {f : Fr} (h : Rel a n f) (x : Operand) : a.eval x = ev f x := by
 cases x <;> simp [Act.eval,ev,h.look]
def put (f : Fr) : Option Tmp → Value → Fr
 | some d,v => { f with l := .s d v :: f.l }
 | none,_ => f
def fits (n : Nat) : Option Tmp → Bool
 | some d => Nat.blt d n
 | none => true
theorem Rel.put {a : Act} {n : Nat} {f : Fr} (h : Rel a n f) {d : Option Tmp} {v : Value} (hd : fits n d = true) : Rel (a.put d v) n (put f d v) := by
 cases d with
 | none => exact h
 | some d =>
  have hlt : d < a.tmps.size := by rw [h.size]; simpa [fits,Nat.blt_eq] using hd
  refine ⟨by simp [Act.put,h.size],fun t => ?_,h.defers⟩
  have hl := h.look t
  simp only [Act.put,Ux.put,Ux.look]
  by_cases e : d = t
  ·subst e
   simp [hlt]
  ·have e' : Nat.beq d t = false := by
    cases hb : Nat.beq d t with
    | false => rfl
    | true => exact absurd (Nat.eq_of_beq_eq_true hb) e
   rw [e',cond_false,← hl]
   simp only [Array.getD_eq_getD_getElem?]
   rw [Array.getElem?_setIfInBounds_ne e]
def Same (f g : Fr) : Prop := (∀ t,look f.l t = look g.l t) ∧ f.D = g.D
theorem Rel.same {a : Act} {n : Nat} {f g : Fr} (h : Rel a n f) (k : Same f g) : Rel a n g := ⟨h.size,fun t => (h.look t).trans (k.1 t),h.defers.trans k.2⟩
abbrev Post := Exit → Fr → Fz → Hp → Prop
variable {P : Program}
def lift (n : Nat) (Z : Fz) (F : Hp) (w : World) (Q : Post) : Exit → Act → World → Prop := fun e a w' =>
 ∃ f' Z' H',Rel a n f' ∧ Fz.le Z Z' ∧ Sat w' Z' (H' ++ F) ∧ Stay w w' ∧ Q e f' Z' H'
theorem lift.trans {n : Nat} {Z Z₁ : Fz} {F : Hp} {w w₁ : World} {Q : Post} (hz : Fz.le Z Z₁) (hs : Stay w w₁) {e : Exit} {a : Act} {w' : World}
  (h : lift n Z₁ F w₁ Q e a w') : lift n Z F w Q e a w' :=
 let ⟨f',Z',H',r,z,s,t,q⟩ := h
 ⟨f',Z',H',r,hz.trans z,s,hs.trans t,q⟩
def WP (P : Program) (n : Nat) (c : Code) (Q : Post) (f : Fr) (Z : Fz) (H : Hp) : Prop :=
 ∀ (w : World) (F : Hp) (a : Act),Sat w Z (H ++ F) → Rel a n f → c.wp P (lift n Z F w Q) a w
def thenQ (K : Fr → Fz → Hp → Prop) (Q : Post) : Post
 | .normal => K
 | e => Q e
section rules
variable {n : Nat} {Q : Post} {f : Fr} {Z : Fz} {H : Hp}
theorem WP.seq {x y : Code} (h : WP P n x (thenQ (WP P n y Q) Q) f Z H) : WP P n (.seq x y) Q f Z H := by
 intro w F a hs hr
 refine wp_seq (Code.wp_mono ?_ (h w F a hs hr))
 rintro e a₁ w₁ ⟨f₁,Z₁,H₁,r₁,z₁,s₁,t₁,q₁⟩
 cases e with
 | normal => exact Code.wp_mono (fun e a w h => h.trans z₁ t₁) (q₁ w₁ F a₁ s₁ r₁)
 | _ => exact ⟨f₁,Z₁,H₁,r₁,z₁,s₁,t₁,q₁⟩
theorem WP.skip (h : Q .normal f Z H) : WP P n .skip Q f Z H :=
 fun w _ _ hs hr => wp_skip ⟨f,Z,H,hr,.refl Z,hs,.refl w,h⟩
theorem WP.ret (h : Q .ret f Z H) : WP P n .ret Q f Z H :=
 fun w _ _ hs hr => wp_ret ⟨f,Z,H,hr,.refl Z,hs,.refl w,h⟩
theorem WP.exit {id : Nat} (h : Q (.exit id) f Z H) : WP P n (.exit id) Q f Z H :=
 fun w _ _ hs hr => wp_exit ⟨f,Z,H,hr,.refl Z,hs,.refl w,h⟩
theorem WP.cond {c : Operand} {x y : Code} {t : Bool} (hc : ev f c = .bool t) (h : WP P n (if t then x else y) Q f Z H) : WP P n (.cond c x y) Q f Z H :=
 fun w F a hs hr => wp_cond (t := t) (by rw [hr.eval]; exact hc) (h w F a hs hr)
theorem WP.yes {c : Operand} {x y : Code} (hc : ev f c = .bool true) (h : WP P n x Q f Z H) : WP P n (.cond c x y) Q f Z H := .cond hc h
theorem WP.no {c : Operand} {x y : Code} (hc : ev f c = .bool false) (h : WP P n y Q f Z H) : WP P n (.cond c x y) Q f Z H := .cond hc h
def blockQ (id : Nat) (Q : Post) : Post
 | .exit id' => bif Nat.beq id' id then Q .normal else Q (.exit id')
 | e => Q e
theorem WP.block {id : Nat} {c : Code} (h : WP P n c (blockQ id Q) f Z H) : WP P n (.block id c) Q f Z H := by
 intro w F a hs hr
 refine wp_block (Code.wp_mono ?_ (h w F a hs hr))
 rintro e a₁ w₁ ⟨f₁,Z₁,H₁,r₁,z₁,s₁,t₁,q₁⟩
 cases e with
 | exit id' =>
  simp only [Exit.inBlock]
  by_cases hid : id' = id
  ·subst hid
   rw [if_pos rfl]
   have hb : Nat.beq id' id' = true := by simp
   exact ⟨f₁,Z₁,H₁,r₁,z₁,s₁,t₁,by simpa [blockQ,hb] using q₁⟩
  ·rw [if_neg hid]
   have hb : Nat.beq id' id = false := by
    cases hb : Nat.beq id' id with
    | false => rfl
    | true => exact absurd (Nat.eq_of_beq_eq_true hb) hid
   exact ⟨f₁,Z₁,H₁,r₁,z₁,s₁,t₁,by simpa [blockQ,hb] using q₁⟩
 | _ => exact ⟨f₁,Z₁,H₁,r₁,z₁,s₁,t₁,q₁⟩
theorem WP.same {c : Code} {g : Fr} (k : Same f g) (h : WP P n c Q g Z H) : WP P n c Q f Z H :=
 fun w F a hs hr => h w F a hs (hr.same k)
theorem WP.perm {c : Code} {H' : Hp} (p : H.Perm H') (h : WP P n c Q f Z H') : WP P n c Q f Z H :=
 fun w F a hs hr => h w F a (hs.perm (p.append_right F)) hr
theorem WP.drop {c : Code} {A : Hp} (h : WP P n c Q f Z H) : WP P n c Q f Z (A ++ H) := by
 intro w F a hs hr
 rw [List.append_assoc] at hs
 exact h w F a hs.drop hr
theorem WP.freeze {c : Code} {b : Nat} {o : Obj} (h : ∀ Z',Fz.le Z Z' → Z' b = some o → WP P n c Q f Z' H) : WP P n c Q f Z ((b,o) :: H) := by
 intro w F a hs hr
 obtain ⟨h1,h2,h3⟩ := Sat.freeze (H := H ++ F) hs
 exact Code.wp_mono (fun e a w h => h.trans h2 (.refl _)) (h _ h2 h3 w F a h1 hr)
theorem WP.mono {c : Code} {Q' : Post} (h : WP P n c Q f Z H) (hq : ∀ e f Z H,Q e f Z H → Q' e f Z H) : WP P n c Q' f Z H :=
 fun w F a hs hr => Code.wp_mono (fun _ _ _ ⟨f',Z',H',r,z,s,t,q⟩ => ⟨f',Z',H',r,z,s,t,hq _ _ _ _ q⟩) (h w F a hs hr)
theorem WP.loop {c : Code} (I : Fr → Fz → Hp → Prop) (μ : Fr → Hp → Nat) (h₀ : I f Z H)
  (round : ∀ f' Z' H',Fz.le Z Z' → I f' Z' H' → WP P n c (thenQ (fun f'' Z'' H'' => I f'' Z'' H'' ∧ μ f'' H'' < μ f' H') Q) f' Z' H') : WP P n (.loop c) Q f Z H := by
 intro w F a hs hr b κ cs
 have key : ∀ k a w₁ f₁ Z₁ H₁,μ f₁ H₁ = k → Fz.le Z Z₁ → Stay w w₁ → Sat w₁ Z₁ (H₁ ++ F) → Rel a n f₁ → I f₁ Z₁ H₁ →
   ∃ e a' w',lift n Z F w Q e a' w' ∧ Arrives P (lone (b.at a (.code c :: .inLoop c :: κ)) cs w₁) b κ cs e a' w' := by
  intro k
  induction k using Nat.strongRecOn with
  | _ k ih =>
   intro a w₁ f₁ Z₁ H₁ hk hz ht hs₁ hr₁ hI
   obtain ⟨e,a₂,w₂,⟨f₂,Z₂,H₂,r₂,z₂,s₂,t₂,q₂⟩,harr⟩ := round f₁ Z₁ H₁ hz hI w₁ F a hs₁ hr₁ b (.inLoop c :: κ) cs
   cases e with
   | normal =>
    obtain ⟨hI₂,hlt⟩ := q₂
    obtain ⟨e₃,a₃,w₃,hq₃,harr₃⟩ := ih (μ f₂ H₂) (hk ▸ hlt) a₂ w₂ f₂ Z₂ H₂ rfl (hz.trans z₂) (ht.trans t₂) s₂ r₂ hI₂
    exact ⟨e₃,a₃,w₃,hq₃,.of_steps (Steps.trans harr (.one step_inLoop)) harr₃⟩
   | exit id => exact ⟨_,a₂,w₂,⟨f₂,Z₂,H₂,r₂,hz.trans z₂,s₂,ht.trans t₂,q₂⟩,.pass (x := .inLoop c) rfl (fun _ _ => .inl (by simp)) harr⟩
   | goto l => exact ⟨_,a₂,w₂,⟨f₂,Z₂,H₂,r₂,hz.trans z₂,s₂,ht.trans t₂,q₂⟩,.pass (x := .inLoop c) rfl (fun _ _ => .inl (by simp)) harr⟩
   | ret => exact ⟨_,a₂,w₂,⟨f₂,Z₂,H₂,r₂,hz.trans z₂,s₂,ht.trans t₂,q₂⟩,.pass (x := .inLoop c) rfl (fun _ _ => .inl (by simp)) harr⟩
   | panic ch => exact ⟨_,a₂,w₂,⟨f₂,Z₂,H₂,r₂,hz.trans z₂,s₂,ht.trans t₂,q₂⟩,.pass (x := .inLoop c) rfl (fun _ _ => .inl (by simp)) harr⟩
   | outgrown => exact ⟨_,a₂,w₂,⟨f₂,Z₂,H₂,r₂,hz.trans z₂,s₂,ht.trans t₂,q₂⟩,.pass (x := .inLoop c) rfl (fun _ _ => .inl (by simp)) harr⟩
 obtain ⟨e,a',w',hq,harr⟩ := key _ a w f Z H rfl (.refl Z) (.refl w) hs hr h₀
 exact ⟨e,a',w',hq,.of_steps (.one step_loop) harr⟩
end rules
end Go.Ux
namespace Go.Ux
open Go
variable {P : Program}
theorem Sat.dropMid {w : World} {Z : Fz} {A B C : Hp} (h : Sat w Z (A ++ (B ++ C))) : Sat w Z (A ++ C) := by
 have : (A ++ (B ++ C)).Perm (B ++ (A ++ C)) := by
  rw [← List.append_assoc,← List.append_assoc]
  exact List.Perm.append_right C List.perm_append_comm
 exact (h.perm this).drop
def RunO (P : Program) (ρ : Operand → Value) (o : Oper) (w : World) (R : Value → World → Prop) : Prop :=
 match (execOp ρ o).run P w with
 | .ok (.value v) w' => R v w'
 | .ok .skip w' => R undef w'
 | .ok (.enter f args) w' => Calls P f args w' (fun e w'' => ∃ v,e = .returned v ∧ R v w'')
 | _ => False
theorem RunO.mono {ρ : Operand → Value} {o : Oper} {w : World} {R R' : Value → World → Prop} (h : RunO P ρ o w R) (k : ∀ v w',R v w' → R' v w') : RunO P ρ o w R' := by
 unfold RunO at *
 split at h
 ·exact k _ _ h
 ·exact k _ _ h
 ·exact Calls.mono h fun e w' ⟨v,he,hr⟩ => ⟨v,he,k _ _ hr⟩
 ·exact h.elim
theorem RunO.some {ρ : Operand → Value} {o : Oper} {w : World} {R : Value → World → Prop} (h : RunO P ρ o w R) : ∃ v w',R v w' := by
 unfold RunO at h
 split at h
 ·exact ⟨_,_,h⟩
 ·exact ⟨_,_,h⟩
 ·obtain ⟨e,w',fr,⟨v,he,hr⟩,_⟩ := h []
  exact ⟨v,w',hr⟩
 ·exact h.elim
theorem RunO.wp {o : Oper} {a : Act} {w : World} {R : Value → World → Prop} {next : Act → World → Prop} {Q : Exit → Act → World → Prop}
  (h : RunO P a.eval o w R) (k : ∀ v w',R v w' → next (a.put o.dst v) w') : o.wp P a w next Q := by
 unfold RunO at h
 unfold Oper.wp
 split at h
 ·next e => rw [e]; exact k _ _ h
 ·next e => rw [e]; exact k _ _ h
 ·next e =>
  rw [e]
  refine Calls.mono h ?_
  rintro e w' ⟨v,rfl,hr⟩
  exact k _ _ hr
 ·exact h.elim
def kindO : Op → Nat
 | .move _ | .assign _ | .pick .. | .load .. | .nilCheck _ | .binOp .. | .unOp .. | .convert .. | .makeInterface .. | .makeFunc .. | .slice .. | .fieldAddr .. | .field .. | .indexAddr .. | .index .. | .lookup ..
 | .typeAssert .. | .extract .. | .build .. => 0
 | .call { callee := .builtin .len,.. } | .call { callee := .builtin .cap,.. } => 0
 | .alloc _ | .box .. | .buildSlice .. | .makeMap .. => 1
 | _ => 2
def wantF (all : Array Oper) (o : Oper) (f : Fr) : Bool :=
 match o.guard with
 | none => true
 | some (g,want) => match (all[g]?).bind (·.dst) with
  | none => false
  | some t => match look f.l t with
   | .bool b => b == want
   | _ => false
theorem wantF_eq {all : Array Oper} {o : Oper} {a : Act} {n : Nat} {f : Fr} (h : Rel a n f) : Region.wanted o (yielded all a.tmps) = wantF all o f := by
 unfold Region.wanted wantF yielded
 cases hg : o.guard with
 | none => rfl
 | some gw =>
  obtain ⟨g,want⟩ := gw
  simp only []
  cases ht : (all[g]?).bind (·.dst) with
  | none => simp
  | some t =>
   simp only [Option.bind_some]
   have hl := h.look t
   cases hx : a.tmps[t]? with
   | none =>
    have : look f.l t = undef := by rw [← hl]; simp [Array.getD_eq_getD_getElem?,hx]
    simp [this,undef]
   | some v =>
    have : look f.l t = v := by rw [← hl]; simp [Array.getD_eq_getD_getElem?,hx]
    rw [this]
    cases v <;> simp
def World.pushed (w : World) (o : Obj) : World := { w with heap := w.heap.push o }
def Real (Z : Fz) (H : Hp) : Prop := ∃ w,Sat w Z H
def freeO : Op → Bool
 | .binOp .. => true
 | _ => false
def hldO (all : Array Oper) (o : Oper) : Bool := match o.op with
 | .load .. => all.toList.all fun p => kindO p.op == 0 || p.after.toList.any fun e => Region.binds .any e && (match all[e.on]? with
  | some q => q.dst == o.dst && q.dst.isSome
  | none => false)
 | _ => false
inductive Rg (P : Program) (n : Nat) (all : Array Oper) (dr : Bool) (Pin : Hp) (K : Fr → Fz → Hp → Prop) : List Oper → Fr → Fz → Hp → Prop
 | nil {f g : Fr} {Z : Fz} {H H' : Hp} (s : Same f g) (p : H.Perm H') (h : K g Z H') : Rg P n all dr Pin K [] f Z H
 | skip {o : Oper} {rest : List Oper} {f : Fr} {Z : Fz} {H : Hp} (hw : wantF all o f = false) (hd : fits n o.dst = true) (h : Rg P n all dr Pin K rest (put f o.dst undef) Z H) : Rg P n all dr Pin K (o :: rest) f Z H
 | pure {o : Oper} {rest : List Oper} {f : Fr} {Z : Fz} {H : Hp} {v : Value} (hw : wantF all o f = true) (hd : fits n o.dst = true) (hk : dr = true → kindO o.op = 0)
   (hr : ∀ w,(freeO o.op = false → Sat w Z (if dr && !(hldO all o) then Pin else Pin ++ H)) → (execOp (ev f) o).run P w = .ok (.value v) w) (h : Rg P n all dr Pin K rest (put f o.dst v) Z H) : Rg P n all dr Pin K (o :: rest) f Z H
 | alc {o : Oper} {rest : List Oper} {f : Fr} {Z : Fz} {H : Hp} {mk : Nat → Value} {ob : Obj} (hw : wantF all o f = true) (hd : fits n o.dst = true) (hk : dr = true → kindO o.op = 1)
   (hr : ∀ w,(execOp (ev f) o).run P w = .ok (.value (mk w.heap.size)) (World.pushed w ob)) (h : ∀ b,Real Z (Pin ++ (b,ob) :: H) → Rg P n all dr Pin K rest (put f o.dst (mk b)) Z ((b,ob) :: H)) : Rg P n all dr Pin K (o :: rest) f Z H
 | eff {o : Oper} {rest : List Oper} {f : Fr} {Z : Fz} {H : Hp} (Po : Value → Fz → Hp → Prop) (hw : wantF all o f = true) (hd : fits n o.dst = true) (hk : dr = true → kindO o.op = 2)
   (hr : ∀ w F,Sat w Z (Pin ++ (H ++ F)) → RunO P (ev f) o w fun v w' => ∃ Z' H',Fz.le Z Z' ∧ Sat w' Z' (Pin ++ (H' ++ F)) ∧ Stay w w' ∧ Po v Z' H')
   (h : ∀ v Z' H',Fz.le Z Z' → Po v Z' H' → Real Z' (Pin ++ H') → Rg P n all dr Pin K rest (put f o.dst v) Z' H') : Rg P n all dr Pin K (o :: rest) f Z H
 | dfr {o : Oper} {rest : List Oper} {f : Fr} {Z : Fz} {H : Hp} (d : Deferred) (hw : wantF all o f = true) (hd : fits n o.dst = true) (hk : dr = true → kindO o.op = 2)
   (hr : ∀ w F,Sat w Z (Pin ++ (H ++ F)) → (execOp (ev f) o).run P w = .ok (.defer d) w)
   (h : Rg P n all dr Pin K rest (put { f with D := d :: f.D } o.dst undef) Z H) : Rg P n all dr Pin K (o :: rest) f Z H
variable {n : Nat} {all : Array Oper} {dr : Bool} {Pin : Hp} {K : Fr → Fz → Hp → Prop}
theorem Same.refl (f : Fr) : Same f f := ⟨fun _ => rfl,rfl⟩
theorem Same.symm {f g : Fr} (h : Same f g) : Same g f := ⟨fun t => (h.1 t).symm,h.2.symm⟩
theorem Same.trans {f g h : Fr} (a : Same f g) (b : Same g h) : Same f h := ⟨fun t => (a.1 t).trans (b.1 t),a.2.trans b.2⟩
theorem Same.put {f g : Fr} (h : Same f g) (d : Option Tmp) (v : Value) : Same (put f d v) (put g d v) := by
 cases d with
 | none => exact h
 | some d => exact ⟨fun t => by simp only [Ux.put,Ux.look,h.1 t],h.2⟩
theorem Same.dfr {f g : Fr} (h : Same f g) (d : Deferred) : Same { f with D := d :: f.D } { g with D := d :: g.D } := ⟨h.1,by simp [h.2]⟩
theorem Same.ev {f g : Fr} (h : Same f g) : ev f = ev g := by
 funext x
 cases x <;> simp [Ux.ev,h.1]
theorem Same.want {f g : Fr} (h : Same f g) (o : Oper) : wantF all o f = wantF all o g := by
 unfold wantF
 split
 ·rfl
 ·split
  ·rfl
  ·rw [h.1]
theorem Rg.same {l : List Oper} {f g : Fr} {Z : Fz} {H : Hp} (s : Same f g) (h : Rg P n all dr Pin K l f Z H) : Rg P n all dr Pin K l g Z H := by
 induction h generalizing g with
 | nil s' p h => exact .nil (s.symm.trans s') p h
 | skip hw hd h ih => exact .skip (by rw [← s.want]; exact hw) hd (ih (s.put _ _))
 | pure hw hd hk hr h ih => exact .pure (by rw [← s.want]; exact hw) hd hk (by rw [← s.ev]; exact hr) (ih (s.put _ _))
 | alc hw hd hk hr h ih => exact .alc (by rw [← s.want]; exact hw) hd hk (by rw [← s.ev]; exact hr) (fun b hb => ih b hb (s.put _ _))
 | eff Po hw hd hk hr h ih => exact .eff Po (by rw [← s.want]; exact hw) hd hk (by rw [← s.ev]; exact hr) (fun v Z' H' hz hp hb => ih v Z' H' hz hp hb (s.put _ _))
 | dfr d hw hd hk hr h ih => exact .dfr d (by rw [← s.want]; exact hw) hd hk (by rw [← s.ev]; exact hr) (ih ((s.dfr d).put _ _))
theorem Real.perm {Z : Fz} {H H' : Hp} (h : Real Z H) (p : H.Perm H') : Real Z H' := let ⟨w,hs⟩ := h; ⟨w,hs.perm p⟩
theorem Rg.perm {l : List Oper} {f : Fr} {Z : Fz} {H H' : Hp} (h : Rg P n all dr Pin K l f Z H) (p : H.Perm H') : Rg P n all dr Pin K l f Z H' := by
 induction h generalizing H' with
 | nil s q h => exact .nil s (p.symm.trans q) h
 | skip hw hd h ih => exact .skip hw hd (ih p)
 | pure hw hd hk hr h ih =>
  refine .pure hw hd hk (fun w hs => hr w fun hf => ?_) (ih p)
  have hs := hs hf
  split at hs
  ·next e => rw [if_pos e]; exact hs
  ·next e => rw [if_neg e]; exact hs.perm (List.Perm.append_left Pin p.symm)
 | alc hw hd hk hr h ih => exact .alc hw hd hk hr (fun b hb => ih b (hb.perm (List.Perm.append_left Pin (p.symm.cons _))) (p.cons _))
 | eff Po hw hd hk hr h ih => exact .eff Po hw hd hk (fun w F hs => hr w F (hs.perm (List.Perm.append_left Pin (p.symm.append_right F)))) h
 | dfr d hw hd hk hr h ih => exact .dfr d hw hd hk (fun w F hs => hr w F (hs.perm (List.Perm.append_left Pin (p.symm.append_right F)))) (ih p)
def Behind (P : Program) (n : Nat) (all : Array Oper) (dr : Bool) (Pin : Hp) (K : Fr → Fz → Hp → Prop) (F : Hp) (Z : Fz) (w : World) (rest : List Oper) (a' : Act) (w' : World) : Prop :=
 ∃ f' Z' H',Rel a' n f' ∧ Fz.le Z Z' ∧ Sat w' Z' (Pin ++ (H' ++ F)) ∧ Stay w w' ∧ Rg P n all dr Pin K rest f' Z' H'
theorem Rg.pure0 {o : Oper} {rest : List Oper} {f : Fr} {Z : Fz} {H : Hp} {v : Value} (hw : wantF all o f = true) (hd : fits n o.dst = true) (hk : dr = true → kindO o.op = 0)
  (hr : ∀ w,(freeO o.op = false → Sat w Z (if dr then Pin else Pin ++ H)) → (execOp (ev f) o).run P w = .ok (.value v) w) (h : Rg P n all dr Pin K rest (put f o.dst v) Z H) : Rg P n all dr Pin K (o :: rest) f Z H := by
 refine .pure hw hd hk (fun w hs => hr w fun hf => ?_) h
 have hs := hs hf
 cases dr with
 | false => simpa using hs
 | true =>
  rw [if_pos rfl]
  split at hs
  ·exact hs
  ·exact (hs.perm List.perm_append_comm).drop
theorem Rg.step {Q : Exit → Act → World → Prop} {i : Nat} {o : Oper} {rest : List Oper} {f : Fr} {Z : Fz} {H F : Hp} {w : World} {a : Act} (hi : all[i]? = some o)
  (h : Rg P n all dr Pin K (o :: rest) f Z H) (hs : Sat w Z (Pin ++ (H ++ F))) (hr : Rel a n f) : wpOp P all Q i (Behind P n all dr Pin K F Z w rest) a w := by
 have hev : a.eval = ev f := funext hr.eval
 unfold wpOp
 simp only [hi,wantF_eq hr]
 cases h with
 | skip hw hd h => simp only [hw,Bool.false_eq_true,if_false]; exact ⟨_,Z,H,hr.put hd,.refl Z,hs,.refl w,h⟩
 | @pure _ _ _ _ _ v hw hd hk hrun h =>
  simp only [hw,if_true]
  refine .inl ?_
  unfold Oper.wp
  rw [hev,hrun w]
  ·exact ⟨_,Z,H,hr.put hd,.refl Z,hs,.refl w,h⟩
  ·intro _
   split
   ·have : (Pin ++ (H ++ F)).Perm ((H ++ F) ++ Pin) := List.perm_append_comm
    exact (hs.perm this).drop
   ·have : (Pin ++ (H ++ F)).Perm (F ++ (Pin ++ H)) := by rw [← List.append_assoc]; exact List.perm_append_comm
    exact (hs.perm this).drop
 | @alc _ _ _ _ _ mk ob hw hd hk hrun h =>
  simp only [hw,if_true]
  refine .inl ?_
  unfold Oper.wp
  rw [hev,hrun w]
  have hp : Sat (World.pushed w ob) Z (Pin ++ (((w.heap.size,ob) :: H) ++ F)) := by
   refine (Sat.push hs ob).perm ?_
   exact (List.perm_middle (l₁ := Pin) (l₂ := H ++ F)).symm
  refine ⟨_,Z,(w.heap.size,ob) :: H,hr.put hd,.refl Z,hp,⟨rfl,rfl,rfl,by simp [World.pushed]⟩,h _ ⟨World.pushed w ob,?_⟩⟩
  have : (Pin ++ (((w.heap.size,ob) :: H) ++ F)).Perm (F ++ (Pin ++ (w.heap.size,ob) :: H)) := by rw [← List.append_assoc]; exact List.perm_append_comm
  exact (hp.perm this).drop
 | eff Po hw hd hk hrun h =>
  simp only [hw,if_true]
  refine .inl ?_
  have := hrun w F hs
  rw [← hev] at this
  refine RunO.wp this ?_
  rintro v w' ⟨Z',H',hz,hs',ht,hp⟩
  refine ⟨_,Z',H',hr.put hd,hz,hs',ht,h v Z' H' hz hp ⟨w',?_⟩⟩
  have : (Pin ++ (H' ++ F)).Perm (F ++ (Pin ++ H')) := by rw [← List.append_assoc]; exact List.perm_append_comm
  exact (hs'.perm this).drop
 | dfr d hw hd hk hrun h =>
  simp only [hw,if_true]
  refine .inl ?_
  unfold Oper.wp
  rw [hev,hrun w F hs]
  exact ⟨_,Z,H,Rel.put (a := { a with defers := d :: a.defers }) (f := { f with D := d :: f.D }) ⟨hr.size,hr.look,by simp [hr.defers]⟩ hd,.refl Z,hs,.refl w,h⟩
theorem Rg.text {T : Exit → Act → World → Prop} {F : Hp} {Z₀ : Fz} {w₀ : World}
  (hT : ∀ f Z H a w,Rel a n f → Fz.le Z₀ Z → Sat w Z (Pin ++ (H ++ F)) → Stay w₀ w → K f Z H → T .normal a w) :
  ∀ (l : List Oper) (k : Nat) (f : Fr) (Z : Fz) (H : Hp) (w : World) (a : Act),(∀ j,l[j]? = all[k + j]?) → Fz.le Z₀ Z → Stay w₀ w →
   Rg P n all dr Pin K l f Z H → Sat w Z (Pin ++ (H ++ F)) → Rel a n f → wpOps P all T (List.range' k l.length) a w := by
 intro l
 induction l with
 | nil =>
  intro k f Z H w a _ hz ht h hs hr
  cases h with
  | nil s p h => exact hT _ _ _ _ _ (hr.same s) hz (hs.perm (List.Perm.append_left Pin (p.append_right F))) ht h
 | cons o l ih =>
  intro k f Z H w a hl hz ht h hs hr
  have hi : all[k]? = some o := by simpa using (hl 0).symm
  rw [List.length_cons,List.range'_succ,wpOps_cons]
  refine wpOp_mono ?_ (Rg.step hi h hs hr)
  rintro a' w' ⟨f',Z',H',r',z',s',t',h'⟩
  exact ih (k + 1) f' Z' H' w' a' (fun j => by have := hl (j + 1); simpa [Nat.add_assoc,Nat.add_comm 1 j] using this) (hz.trans z') (ht.trans t') h' s' r'
def noSel : Op → Bool
 | .select .. => false
 | _ => true
def swapB (all : Array Oper) (j i : Oper) : Bool := j.apart all i && noSel j.op && noSel i.op && (kindO j.op == 0 || (kindO i.op == 1 || (kindO j.op == 1 && kindO i.op == 0))) && (kindO i.op == 0 || !(hldO all j)) && (kindO j.op == 0 || !(hldO all i))
theorem ev_put {f : Fr} {o : Oper} {d : Option Tmp} {v : Value} (hs : noSel o.op = true) (h : ∀ t,d = some t → t ∉ o.looksAt all) : execOp (ev (put f d v)) o = execOp (ev f) o := by
 refine execOp_congr o (fun cs b e => by rw [e] at hs; cases hs) fun x hx => ?_
 cases d with
 | none => rfl
 | some t =>
  cases x with
  | tmp u =>
   have hne : t ≠ u := fun e => h t rfl (by subst e; exact List.mem_append_left _ (List.mem_filterMap.2 ⟨.tmp t,by simpa using hx,rfl⟩))
   have hb : Nat.beq t u = false := by
    cases hb : Nat.beq t u with
    | false => rfl
    | true => exact absurd (Nat.eq_of_beq_eq_true hb) hne
   simp [ev,put,look,hb]
  | _ => rfl
theorem want_put {f : Fr} {o : Oper} {d : Option Tmp} {v : Value} (h : ∀ t,d = some t → t ∉ o.looksAt all) : wantF all o (put f d v) = wantF all o f := by
 cases d with
 | none => rfl
 | some t =>
  unfold wantF
  cases hg : o.guard with
  | none => rfl
  | some gw =>
   obtain ⟨g,want⟩ := gw
   simp only []
   cases hd : (all[g]?).bind (·.dst) with
   | none => rfl
   | some u =>
    have hne : t ≠ u := fun e => h t rfl (by subst e; simp [Oper.looksAt,hg,hd])
    have hb : Nat.beq t u = false := by
     cases hb : Nat.beq t u with
     | false => rfl
     | true => exact absurd (Nat.eq_of_beq_eq_true hb) hne
    simp [put,look,hb]
theorem put_put {f : Fr} {x y : Option Tmp} {v u : Value} (h : ∀ d,x = some d → y ≠ some d) : Same (put (put f x v) y u) (put (put f y u) x v) := by
 cases x with
 | none => exact Same.refl _
 | some d =>
  cases y with
  | none => exact Same.refl _
  | some e =>
   have hne : d ≠ e := fun he => h d rfl (he ▸ rfl)
   refine ⟨fun t => ?_,rfl⟩
   simp only [put,look]
   cases h1 : Nat.beq e t <;> cases h2 : Nat.beq d t <;> simp only [cond_true,cond_false]
   exact absurd ((Nat.eq_of_beq_eq_true h2).trans (Nat.eq_of_beq_eq_true h1).symm) hne
theorem put_dfr {f : Fr} {x : Option Tmp} {v : Value} {d : Deferred} : put { f with D := d :: f.D } x v = { put f x v with D := d :: (put f x v).D } := by
 cases x <;> rfl
theorem alloc_det {ρ : Operand → Value} {o : Oper} {mk mk' : Nat → Value} {ob ob' : Obj} (h : ∀ w,(execOp ρ o).run P w = .ok (.value (mk w.heap.size)) (World.pushed w ob))
  (h' : ∀ w,(execOp ρ o).run P w = .ok (.value (mk' w.heap.size)) (World.pushed w ob')) : ob = ob' ∧ ∀ b,mk b = mk' b := by
 have key : ∀ w : World,mk w.heap.size = mk' w.heap.size ∧ World.pushed w ob = World.pushed w ob' := fun w => by
  have := (h w).symm.trans (h' w)
  simp only [Result.ok.injEq,Next.value.injEq] at this
  exact this
 refine ⟨?_,fun b => ?_⟩
 ·have := (key default).2
  simp only [World.pushed,World.mk.injEq,and_true] at this
  exact (Array.push_eq_push.1 this).1
 ·have := (key { (default : World) with heap := Array.replicate b default }).1
  simpa using this
theorem swap_spec {j i : Oper} (h : swapB all j i = true) : (∀ d,j.dst = some d → d ∉ i.looksAt all) ∧ (∀ d,j.dst = some d → i.dst ≠ some d) ∧ (∀ d,i.dst = some d → d ∉ j.looksAt all) ∧ noSel j.op = true ∧ noSel i.op = true ∧
  (kindO j.op = 0 ∨ kindO i.op = 1 ∨ (kindO j.op = 1 ∧ kindO i.op = 0)) ∧ (kindO i.op = 0 ∨ hldO all j = false) ∧ (kindO j.op = 0 ∨ hldO all i = false) := by
 simp only [swapB,Bool.and_eq_true,Bool.or_eq_true,beq_iff_eq,Bool.not_eq_true'] at h
 obtain ⟨⟨⟨⟨⟨h1,h2⟩,h3⟩,h4⟩,h5⟩,h6⟩ := h
 obtain ⟨a,b,c⟩ := Oper.apart_spec h1
 exact ⟨a,b,c,h2,h3,h4,h5,h6⟩
theorem Rg.swap {j i : Oper} {rest : List Oper} {f : Fr} {Z : Fz} {H : Hp} (hsw : swapB all j i = true) (hb : Real Z (Pin ++ H)) (h : Rg P n all true Pin K (j :: i :: rest) f Z H) :
  Rg P n all true Pin K (i :: j :: rest) f Z H := by
 obtain ⟨h1,h2,h3,s1,s2,hk,hlj,hli⟩ := swap_spec hsw
 have wi : ∀ v,wantF all i (put f j.dst v) = wantF all i f := fun v => want_put h1
 have ei : ∀ v,execOp (ev (put f j.dst v)) i = execOp (ev f) i := fun v => ev_put s2 h1
 have wj : ∀ v,wantF all j (put f i.dst v) = wantF all j f := fun v => want_put h3
 have ej : ∀ v,execOp (ev (put f i.dst v)) j = execOp (ev f) j := fun v => ev_put s1 h3
 have exo : ∀ {o : Oper} {ρ ρ' : Operand → Value},execOp ρ o = execOp ρ' o → ∀ w R,RunO P ρ o w R → RunO P ρ' o w R := fun e w R hh => by unfold RunO at *; rw [e] at hh; exact hh
 have pp : ∀ v u,Same (put (put f j.dst v) i.dst u) (put (put f i.dst u) j.dst v) := fun v u => put_put h2
 cases h with
 | skip hw hd h =>
  cases h with
  | skip hw' hd' h' => exact .skip (by rw [← wi]; exact hw') hd' (.skip (by rw [wj]; exact hw) hd (h'.same (pp _ _)))
  | pure hw' hd' hk' hr' h' => exact .pure (by rw [← wi]; exact hw') hd' hk' (by rw [← ei]; exact hr') (.skip (by rw [wj]; exact hw) hd (h'.same (pp _ _)))
  | alc hw' hd' hk' hr' h' => exact .alc (by rw [← wi]; exact hw') hd' hk' (by rw [← ei]; exact hr') (fun b hb => .skip (by rw [wj]; exact hw) hd ((h' b hb).same (pp _ _)))
  | eff Po hw' hd' hk' hr' h' =>
   exact .eff Po (by rw [← wi]; exact hw') hd' hk' (fun w F hs => exo (ei _) _ _ (hr' w F hs)) (fun v Z' H' hz hp hb => .skip (by rw [wj]; exact hw) hd ((h' v Z' H' hz hp hb).same (pp _ _)))
  | dfr d hw' hd' hk' hr' h' =>
   refine .dfr d (by rw [← wi]; exact hw') hd' hk' (fun w F hs => by rw [← ei]; exact hr' w F hs) (.skip (f := put { f with D := d :: f.D } i.dst undef) ?_ hd ?_)
   ·rw [want_put (f := { f with D := d :: f.D }) h3]; exact hw
   ·refine h'.same ?_
    rw [← put_dfr (f := f)]
    exact put_put (f := { f with D := d :: f.D }) h2
 | @pure _ _ _ _ _ v hw hd hkj hrun h =>
  cases h with
  | skip hw' hd' h' => exact .skip (by rw [← wi]; exact hw') hd' (.pure (by rw [wj]; exact hw) hd hkj (by rw [ej]; exact hrun) (h'.same (pp _ _)))
  | pure hw' hd' hk' hr' h' => exact .pure (by rw [← wi]; exact hw') hd' hk' (by rw [← ei]; exact hr') (.pure (by rw [wj]; exact hw) hd hkj (by rw [ej]; exact hrun) (h'.same (pp _ _)))
  | alc hw' hd' hk' hr' h' =>
   have hnj : hldO all j = false := hlj.resolve_left (by have := hk' rfl; omega)
   simp only [hnj,Bool.not_false,Bool.and_true,if_true] at hrun
   exact .alc (by rw [← wi]; exact hw') hd' hk' (by rw [← ei]; exact hr') (fun b hb => .pure (by rw [wj]; exact hw) hd hkj (by simp only [hnj,Bool.not_false,Bool.and_true,if_true]; rw [ej]; exact hrun) ((h' b hb).same (pp _ _)))
  | eff Po hw' hd' hk' hr' h' =>
   have hnj : hldO all j = false := hlj.resolve_left (by have := hk' rfl; omega)
   simp only [hnj,Bool.not_false,Bool.and_true,if_true] at hrun
   exact .eff Po (by rw [← wi]; exact hw') hd' hk' (fun w F hs => exo (ei _) _ _ (hr' w F hs))
    (fun v' Z' H' hz hp hb => .pure (by rw [wj]; exact hw) hd hkj (by simp only [hnj,Bool.not_false,Bool.and_true,if_true]; rw [ej]; exact fun w hs => hrun w fun hf => ⟨fun b o hbo => (hs hf).fz b o (hz b o hbo),(hs hf).own,(hs hf).nd,fun p hp => by
     have := (hs hf).apart p hp
     cases hzp : Z p.1 with
     | none => rfl
     | some x => rw [hz _ _ hzp] at this; exact absurd this (by simp)⟩) ((h' v' Z' H' hz hp hb).same (pp _ _)))
  | dfr d hw' hd' hk' hr' h' =>
   refine .dfr d (by rw [← wi]; exact hw') hd' hk' (fun w F hs => by rw [← ei]; exact hr' w F hs) (.pure (v := v) (f := put { f with D := d :: f.D } i.dst undef) ?_ hd hkj ?_ ?_)
   ·rw [want_put (f := { f with D := d :: f.D }) h3]; exact hw
   ·rw [ev_put (f := { f with D := d :: f.D }) s1 h3]; exact hrun
   ·refine h'.same ?_
    rw [← put_dfr (f := f)]
    exact put_put (f := { f with D := d :: f.D }) h2
 | @alc _ _ _ _ _ mk ob hw hd hkj hrun h =>
  have hj1 : kindO j.op = 1 := hkj rfl
  obtain ⟨w₀,hw₀⟩ := hb
  have hreal : Real Z (Pin ++ (w₀.heap.size,ob) :: H) := ⟨World.pushed w₀ ob,(Sat.push hw₀ ob).perm List.perm_middle.symm⟩
  by_cases hwi : wantF all i f = true
  ·have h0 := h _ hreal
   cases h0 with
   | skip hw' => rw [wi,hwi] at hw'; cases hw'
   | @pure _ _ _ _ _ v' hw' hd' hk' hr' h' =>
    have hni : hldO all i = false := hli.resolve_left (by omega)
    simp only [hni,Bool.not_false,Bool.and_true,if_true] at hr'
    refine .pure (v := v') hwi hd' hk' (by simp only [hni,Bool.not_false,Bool.and_true,if_true]; rw [← ei]; exact hr') (.alc (mk := mk) (ob := ob) (by rw [wj]; exact hw) hd hkj (by rw [ej]; exact hrun) (fun b hb => ?_))
    have hs₀ : Sat w₀ Z Pin := (hw₀.perm List.perm_append_comm).drop
    have h1' := h b hb
    cases h1' with
    | skip hw'' => rw [wi,hwi] at hw''; cases hw''
    | @pure _ _ _ _ _ v'' hw'' hd'' hk'' hr'' h'' =>
     simp only [hni,Bool.not_false,Bool.and_true,if_true] at hr''
     have e1 := hr' w₀ fun _ => hs₀
     have e2 := hr'' w₀ fun _ => hs₀
     rw [ei] at e1 e2
     rw [e1] at e2
     simp only [Result.ok.injEq,Next.value.injEq,and_true] at e2
     rw [← e2] at h''
     exact h''.same (pp _ _)
    | alc _ _ hk'' => have := hk' rfl; have := hk'' rfl; omega
    | eff _ _ _ hk'' => have := hk' rfl; have := hk'' rfl; omega
    | dfr _ _ _ hk'' => have := hk' rfl; have := hk'' rfl; omega
   | eff _ _ _ hk' => have := hk' rfl; omega
   | dfr _ _ _ hk' => have := hk' rfl; omega
   | @alc _ _ _ _ _ mk' ob' hw' hd' hk' hr' h' =>
    refine .alc (mk := mk') (ob := ob') hwi hd' hk' (by rw [← ei]; exact hr') (fun b' hb' => .alc (mk := mk) (ob := ob) (by rw [wj]; exact hw) hd hkj (by rw [ej]; exact hrun) (fun b hb => ?_))
    have hreal' : Real Z (Pin ++ (b,ob) :: H) := by
     obtain ⟨w₁,hs₁⟩ := hb
     refine ⟨w₁,?_⟩
     have : (Pin ++ (b,ob) :: (b',ob') :: H).Perm ([(b',ob')] ++ (Pin ++ (b,ob) :: H)) := by
      have e1 : (Pin ++ (b,ob) :: (b',ob') :: H).Perm (Pin ++ (b',ob') :: (b,ob) :: H) := List.Perm.append_left Pin (List.Perm.swap _ _ _)
      exact e1.trans List.perm_middle
     exact (hs₁.perm this).drop
    have h1' := h b hreal'
    cases h1' with
    | skip hw'' => rw [wi,hwi] at hw''; cases hw''
    | pure _ _ hk'' => have := hk'' rfl; have := hk' rfl; omega
    | eff _ _ _ hk'' => have := hk'' rfl; omega
    | dfr _ _ _ hk'' => have := hk'' rfl; omega
    | @alc _ _ _ _ _ mk'' ob'' hw'' hd'' hk'' hr'' h'' =>
     obtain ⟨rfl,hmk⟩ := alloc_det (by rw [ei] at hr'; exact hr') (by rw [ei] at hr''; exact hr'')
     have hb2 : Real Z (Pin ++ (b',ob') :: (b,ob) :: H) := by
      obtain ⟨w₁,hs₁⟩ := hb
      exact ⟨w₁,hs₁.perm (List.Perm.append_left Pin (List.Perm.swap _ _ _))⟩
     have hfin := (h'' b' hb2).same (pp _ _)
     rw [← hmk b'] at hfin
     exact hfin.perm (List.Perm.swap _ _ _)
  ·have hwi' : wantF all i f = false := by simpa using hwi
   have h0 := h _ hreal
   have hd' : fits n i.dst = true := by cases h0 <;> assumption
   refine .skip hwi' hd' (.alc (mk := mk) (ob := ob) (by rw [wj]; exact hw) hd hkj (by rw [ej]; exact hrun) (fun b hb => ?_))
   have h1' := h b hb
   cases h1' with
   | skip _ _ h'' => exact h''.same (pp _ _)
   | pure hw'' => rw [wi,hwi'] at hw''; cases hw''
   | alc hw'' => rw [wi,hwi'] at hw''; cases hw''
   | eff _ hw'' => rw [wi,hwi'] at hw''; cases hw''
   | dfr _ hw'' => rw [wi,hwi'] at hw''; cases hw''
 | eff Po hw hd hkj hrun h =>
  have hj2 : kindO j.op = 2 := hkj rfl
  have hi1 : kindO i.op = 1 := by omega
  obtain ⟨w₀,hw₀⟩ := hb
  obtain ⟨v₀,w₁,Z₀,H₀,hz₀,hs₀,_,hp₀⟩ := (hrun w₀ [] (by simpa using hw₀)).some
  have hb₀ : Real Z₀ (Pin ++ H₀) := ⟨w₁,by simpa using hs₀⟩
  by_cases hwi : wantF all i f = true
  ·have h0 := h v₀ Z₀ H₀ hz₀ hp₀ hb₀
   cases h0 with
   | skip hw' => rw [wi,hwi] at hw'; cases hw'
   | pure _ _ hk' => have := hk' rfl; omega
   | eff _ _ _ hk' => have := hk' rfl; omega
   | dfr _ _ _ hk' => have := hk' rfl; omega
   | @alc _ _ _ _ _ mk' ob' hw' hd' hk' hr' h' =>
    refine .alc (mk := mk') (ob := ob') hwi hd' hk' (by rw [← ei]; exact hr') (fun b hb => ?_)
    refine .eff (fun v Z' H' => ∃ H₁,H' = (b,ob') :: H₁ ∧ Po v Z' H₁) (by rw [wj]; exact hw) hd hkj (fun w F hs => ?_) ?_
    ·have hs' : Sat w Z (Pin ++ (H ++ ((b,ob') :: F))) := by
      refine hs.perm (List.Perm.append_left Pin ?_)
      exact (List.perm_middle (l₁ := H) (l₂ := F)).symm
     refine exo (ej _).symm _ _ ((hrun w _ hs').mono ?_)
     rintro v w' ⟨Z',H',hz,hs'',ht,hp⟩
     refine ⟨Z',(b,ob') :: H',hz,?_,ht,H',rfl,hp⟩
     exact hs''.perm (List.Perm.append_left Pin (List.perm_middle (l₁ := H') (l₂ := F)))
    ·rintro v Z' H' hz ⟨H₁,rfl,hp⟩ hb'
     have hb₁ : Real Z' (Pin ++ H₁) := by
      obtain ⟨w,hs⟩ := hb'
      exact ⟨w,(hs.perm List.perm_middle).drop (A := [(b,ob')])⟩
     have h1' := h v Z' H₁ hz hp hb₁
     cases h1' with
     | skip hw'' => rw [wi,hwi] at hw''; cases hw''
     | pure _ _ hk'' => have := hk'' rfl; omega
     | eff _ _ _ hk'' => have := hk'' rfl; omega
     | dfr _ _ _ hk'' => have := hk'' rfl; omega
     | @alc _ _ _ _ _ mk'' ob'' hw'' hd'' hk'' hr'' h'' =>
      obtain ⟨rfl,hmk⟩ := alloc_det (by rw [ei] at hr'; exact hr') (by rw [ei] at hr''; exact hr'')
      have hfin := (h'' b hb').same (pp _ _)
      rw [← hmk b] at hfin
      exact hfin
  ·have hwi' : wantF all i f = false := by simpa using hwi
   have hd' : fits n i.dst = true := by have h0 := h v₀ Z₀ H₀ hz₀ hp₀ hb₀; cases h0 <;> assumption
   refine .skip hwi' hd' (.eff Po (by rw [wj]; exact hw) hd hkj (fun w F hs => exo (ej _).symm _ _ (hrun w F hs)) (fun v Z' H' hz hp hb => ?_))
   have h1' := h v Z' H' hz hp hb
   cases h1' with
   | skip _ _ h'' => exact h''.same (pp _ _)
   | pure hw'' => rw [wi,hwi'] at hw''; cases hw''
   | alc hw'' => rw [wi,hwi'] at hw''; cases hw''
   | eff _ hw'' => rw [wi,hwi'] at hw''; cases hw''
   | dfr _ hw'' => rw [wi,hwi'] at hw''; cases hw''
 | dfr d hw hd hkj hrun h =>
  have hj2 : kindO j.op = 2 := hkj rfl
  have hi1 : kindO i.op = 1 := by omega
  have wi' : wantF all i (put { f with D := d :: f.D } j.dst undef) = wantF all i f := by rw [want_put h1]; rfl
  have ei' : execOp (ev (put { f with D := d :: f.D } j.dst undef)) i = execOp (ev f) i := by rw [ev_put s2 h1]; rfl
  have pp' : ∀ u,Same (put (put { f with D := d :: f.D } j.dst undef) i.dst u) (put { put f i.dst u with D := d :: (put f i.dst u).D } j.dst undef) := fun u => by
   rw [← put_dfr (f := f)]
   exact put_put h2
  cases h with
  | skip hw' hd' h' => exact .skip (by rw [← wi']; exact hw') hd' (.dfr d (by rw [wj]; exact hw) hd hkj (fun w F hs => by rw [ej]; exact hrun w F hs) (h'.same (pp' _)))
  | pure _ _ hk' => have := hk' rfl; omega
  | eff _ _ _ hk' => have := hk' rfl; omega
  | dfr _ _ _ hk' => have := hk' rfl; omega
  | @alc _ _ _ _ _ mk' ob' hw' hd' hk' hr' h' =>
   refine .alc (by rw [← wi']; exact hw') hd' hk' (by rw [← ei']; exact hr') (fun b hb => .dfr d (by rw [wj]; exact hw) hd hkj (fun w F hs => ?_) ((h' b hb).same (pp' _)))
   rw [ej]
   refine hrun w ((b,ob') :: F) (hs.perm (List.Perm.append_left Pin ?_))
   exact (List.perm_middle (l₁ := H) (l₂ := F)).symm
theorem Rg.under {j : Oper} {l l' : List Oper} {f : Fr} {Z : Fz} {H : Hp} (hb : Real Z (Pin ++ H)) (k : ∀ f Z H,Real Z (Pin ++ H) → Rg P n all dr Pin K l f Z H → Rg P n all dr Pin K l' f Z H)
  (h : Rg P n all dr Pin K (j :: l) f Z H) : Rg P n all dr Pin K (j :: l') f Z H := by
 cases h with
 | skip hw hd h => exact .skip hw hd (k _ _ _ hb h)
 | pure hw hd hk hr h => exact .pure hw hd hk hr (k _ _ _ hb h)
 | alc hw hd hk hr h => exact .alc hw hd hk hr (fun b hb' => k _ _ _ hb' (h b hb'))
 | eff Po hw hd hk hr h => exact .eff Po hw hd hk hr (fun v Z' H' hz hp hb' => k _ _ _ hb' (h v Z' H' hz hp hb'))
 | dfr d hw hd hk hr h => exact .dfr d hw hd hk hr (k _ _ _ hb h)
theorem Rg.front {i : Oper} {c₂ : List Oper} : ∀ (c₁ : List Oper) (f : Fr) (Z : Fz) (H : Hp),(∀ j ∈ c₁,swapB all j i = true) → Real Z (Pin ++ H) →
  Rg P n all true Pin K (c₁ ++ i :: c₂) f Z H → Rg P n all true Pin K (i :: (c₁ ++ c₂)) f Z H := by
 intro c₁
 induction c₁ with
 | nil => intro f Z H _ _ h; exact h
 | cons j c₁ ih =>
  intro f Z H hs hb h
  exact Rg.swap (hs j (List.mem_cons_self ..)) hb (Rg.under hb (fun f Z H hb h => ih f Z H (fun x hx => hs x (List.mem_cons_of_mem _ hx)) hb h) h)
def direct (all : Array Oper) (i : Nat) : List Nat := match all[i]? with
 | some o => (o.after.toList.filter (Region.binds .any ·)).map (·.on)
 | none => []
def dpF (all : Array Oper) : Nat → Nat → List Nat
 | 0,i => direct all i
 | m + 1,i => direct all i ++ (direct all i).flatMap (dpF all m)
def opAt (all : Array Oper) (i : Nat) : Oper := all.getD i default
def pairB (all : Array Oper) (j i : Nat) : Bool := (dpF all 3 i).elem j || swapB all (opAt all j) (opAt all i)
def allPairs (p : Nat → Nat → Bool) : List Nat → Bool
 | [] => true
 | j :: c => c.all (p j) && allPairs p c
def topo (all : Array Oper) : List Nat → List Nat → Bool
 | _,[] => true
 | seen,i :: c => (direct all i).all (seen.elem ·) && topo all (i :: seen) c
def orderB (all : Array Oper) (c : List Nat) : Bool :=
 c.length == all.size && (c.all (fun i => Nat.blt i all.size) && (List.range all.size).all (c.elem ·)) && allPairs (fun j i => !(Nat.beq j i)) c && topo all [] c && allPairs (pairB all) c
theorem allPairs_pairwise {p : Nat → Nat → Bool} : ∀ {c : List Nat},allPairs p c = true → c.Pairwise (fun j i => p j i = true)
 | [],_ => .nil
 | j :: c,h => by
  simp only [allPairs,Bool.and_eq_true,List.all_eq_true] at h
  exact .cons (fun i hi => h.1 i hi) (allPairs_pairwise h.2)
theorem mem_direct {i d : Nat} {o : Oper} (ho : all[i]? = some o) : d ∈ direct all i ↔ ∃ e ∈ o.after,Region.binds .any e = true ∧ e.on = d := by
 simp only [direct,ho,List.mem_map,List.mem_filter,Array.mem_toList_iff]
 constructor
 ·rintro ⟨e,⟨h1,h2⟩,h3⟩; exact ⟨e,h1,h2,h3⟩
 ·rintro ⟨e,h1,h2,h3⟩; exact ⟨e,⟨h1,h2⟩,h3⟩
def Closed (all : Array Oper) (listed : Array Bool) : Prop := ∀ k,listed.getD k false = true → ∀ d ∈ direct all k,listed.getD d false = true
theorem dpF_listed {listed : Array Bool} (hc : Closed all listed) : ∀ (m i : Nat),(∀ d ∈ direct all i,listed.getD d false = true) → ∀ j ∈ dpF all m i,listed.getD j false = true := by
 intro m
 induction m with
 | zero => intro i h j hj; exact h j hj
 | succ m ih =>
  intro i h j hj
  simp only [dpF,List.mem_append,List.mem_flatMap] at hj
  rcases hj with hj | ⟨k,hk,hj⟩
  ·exact h j hj
  ·exact ih k (hc k (h k hk)) j hj
structure Left (all : Array Oper) (listed : Array Bool) (c : List Nat) : Prop where
 size : listed.size = all.size
 mem : ∀ i,i ∈ c ↔ i < all.size ∧ listed.getD i false = false
 nodup : c.Nodup
 closed : Closed all listed
 pairs : c.Pairwise (fun j i => pairB all j i = true)
 topo : ∀ c₁ i c₂,c = c₁ ++ i :: c₂ → ∀ d ∈ direct all i,listed.getD d false = true ∨ d ∈ c₁
theorem getD_bool {listed : Array Bool} {i : Nat} (h : i < listed.size) : listed.getD i true = listed.getD i false := by
 simp [Array.getD_eq_getD_getElem?,h]
theorem Left.take {listed : Array Bool} {c₁ c₂ : List Nat} {i : Nat} (h : Left all listed (c₁ ++ i :: c₂)) (hr : ∀ d ∈ direct all i,listed.getD d false = true) :
  Left all (listed.setIfInBounds i true) (c₁ ++ c₂) := by
 have hi : i < all.size ∧ listed.getD i false = false := (h.mem i).1 (by simp)
 have hset : ∀ k,(listed.setIfInBounds i true).getD k false = if k = i then true else listed.getD k false := fun k => by
  by_cases e : k = i
  ·subst e; rw [if_pos rfl]; simp [Array.getD_eq_getD_getElem?,h.size,hi.1]
  ·rw [if_neg e]; simp only [Array.getD_eq_getD_getElem?]; rw [Array.getElem?_setIfInBounds_ne (fun e' => e e'.symm)]
 have hnd := h.nodup
 rw [List.nodup_append] at hnd
 obtain ⟨n1,n2,n3⟩ := hnd
 have n2' := List.nodup_cons.1 n2
 refine ⟨by simp [h.size],fun k => ?_,?_,?_,?_,?_⟩
 ·rw [hset]
  have := h.mem k
  simp only [List.mem_append,List.mem_cons] at this ⊢
  by_cases e : k = i
  ·subst e
   simp only [if_pos,Bool.true_eq_false,and_false,iff_false,not_or]
   exact ⟨fun hm => n3 _ hm _ (List.mem_cons_self ..) rfl,n2'.1⟩
  ·rw [if_neg e]
   constructor
   ·rintro (hm | hm)
    ·exact this.1 (.inl hm)
    ·exact this.1 (.inr (.inr hm))
   ·intro hh
    rcases this.2 hh with hm | hm | hm
    ·exact .inl hm
    ·exact absurd hm e
    ·exact .inr hm
 ·rw [List.nodup_append]
  exact ⟨n1,n2'.2,fun a ha b hb => n3 a ha b (List.mem_cons_of_mem _ hb)⟩
 ·intro k hk d hd
  rw [hset] at hk ⊢
  split
  ·rfl
  ·split at hk
   ·next e => subst e; exact hr d hd
   ·exact h.closed k hk d hd
 ·exact h.pairs.sublist (List.Sublist.append_left (List.sublist_cons_self i c₂) c₁)
 ·intro d₁ k d₂ he d hd
  rw [hset]
  by_cases e : d = i
  ·rw [if_pos e]; exact .inl rfl
  ·rw [if_neg e]
   have hsplit : ∃ e₁ e₂,c₁ ++ i :: c₂ = e₁ ++ k :: e₂ ∧ ∀ x ∈ e₁,x ∈ d₁ ∨ x = i := by
    rcases List.append_eq_append_iff.1 he with ⟨a,ha,hb⟩ | ⟨a,ha,hb⟩
    ·subst ha
     exact ⟨c₁ ++ i :: a,d₂,by simp [hb],fun x hx => by
      simp only [List.mem_append,List.mem_cons] at hx ⊢
      rcases hx with hx | hx | hx
      ·exact .inl (.inl hx)
      ·exact .inr hx
      ·exact .inl (.inr hx)⟩
    ·cases a with
     | nil =>
      simp only [List.append_nil] at ha
      simp only [List.nil_append] at hb
      subst ha
      exact ⟨c₁ ++ [i],d₂,by simp [← hb],fun x hx => by
       simp only [List.mem_append,List.mem_singleton] at hx
       exact hx⟩
     | cons y a =>
      simp only [List.cons_append,List.cons.injEq] at hb
      obtain ⟨rfl,rfl⟩ := hb
      subst ha
      exact ⟨d₁,a ++ i :: c₂,by simp,fun x hx => .inl hx⟩
   obtain ⟨e₁,e₂,hc,hsub⟩ := hsplit
   rcases h.topo e₁ k e₂ hc d hd with hl | hm
   ·exact .inl hl
   ·rcases hsub d hm with hx | hx
    ·exact .inr hx
    ·exact absurd hx e
theorem Rg.any {T : Exit → Act → World → Prop} {F : Hp} {Z₀ : Fz} {w₀ : World}
  (hT : ∀ f Z H a w,Rel a n f → Fz.le Z₀ Z → Sat w Z (Pin ++ (H ++ F)) → Stay w₀ w → K f Z H → T .normal a w) :
  ∀ (m : Nat) (c : List Nat) (listed : Array Bool) (f : Fr) (Z : Fz) (H : Hp) (w : World) (a : Act),c.length ≤ m → Left all listed c → Fz.le Z₀ Z → Stay w₀ w →
   Rg P n all true Pin K (c.map (opAt all)) f Z H → Sat w Z (Pin ++ (H ++ F)) → Rel a n f → wpAny P .any all T m listed a w := by
 have done : ∀ (listed : Array Bool) (c : List Nat) (f : Fr) (Z : Fz) (H : Hp) (w : World) (a : Act),Left all listed c → Fz.le Z₀ Z → Stay w₀ w → Region.ready .any all listed = [] →
   Rg P n all true Pin K (c.map (opAt all)) f Z H → Sat w Z (Pin ++ (H ++ F)) → Rel a n f → T .normal a w := by
  intro listed c f Z H w a hl hz ht hr h hs hrel
  cases c with
  | nil =>
   cases h with
   | nil s p h => exact hT _ _ _ _ _ (hrel.same s) hz (hs.perm (List.Perm.append_left Pin (p.append_right F))) ht h
  | cons i c =>
   exfalso
   have hi := (hl.mem i).1 (List.mem_cons_self ..)
   obtain ⟨o,ho⟩ : ∃ o,all[i]? = some o := ⟨all[i],by simp [hi.1]⟩
   have : i ∈ Region.ready .any all listed := mem_ready.2 ⟨by rw [getD_bool (by rw [hl.size]; exact hi.1)]; exact hi.2,o,ho,fun e he hb => by
    rcases hl.topo [] i c rfl e.on ((mem_direct ho).2 ⟨e,he,hb,rfl⟩) with h1 | h1
    ·exact h1
    ·cases h1⟩
   rw [hr] at this
   cases this
 intro m
 induction m with
 | zero =>
  intro c listed f Z H w a hm hl hz ht h hs hrel
  have hc : c = [] := List.length_eq_zero_iff.1 (by omega)
  subst hc
  have hr : Region.ready .any all listed = [] := by
   cases hr : Region.ready .any all listed with
   | nil => rfl
   | cons i l =>
    have hi : i ∈ Region.ready .any all listed := by rw [hr]; exact List.mem_cons_self ..
    obtain ⟨h1,o,ho,_⟩ := mem_ready.1 hi
    have hlt : i < all.size := (Array.getElem?_eq_some_iff.1 ho).1
    have := (hl.mem i).2 ⟨hlt,by rw [← getD_bool (by rw [hl.size]; exact hlt)]; exact h1⟩
    cases this
  exact ⟨hr,done listed [] f Z H w a hl hz ht hr h hs hrel⟩
 | succ m ih =>
  intro c listed f Z H w a hm hl hz ht h hs hrel
  refine ⟨fun hr => done listed c f Z H w a hl hz ht hr h hs hrel,fun i hi => ?_⟩
  obtain ⟨h1,o,ho,hdep⟩ := mem_ready.1 hi
  have hlt : i < all.size := (Array.getElem?_eq_some_iff.1 ho).1
  have hic : i ∈ c := (hl.mem i).2 ⟨hlt,by rw [← getD_bool (by rw [hl.size]; exact hlt)]; exact h1⟩
  obtain ⟨c₁,c₂,rfl⟩ := List.append_of_mem hic
  have hdir : ∀ d ∈ direct all i,listed.getD d false = true := fun d hd => by
   obtain ⟨e,he,hb,rfl⟩ := (mem_direct ho).1 hd
   exact hdep e he hb
  have hop : opAt all i = o := by
   unfold opAt
   simp [Array.getD_eq_getD_getElem?,ho]
  have hsw : ∀ j ∈ c₁.map (opAt all),swapB all j o = true := by
   intro j hj
   obtain ⟨k,hk,rfl⟩ := List.mem_map.1 hj
   have hp := (List.pairwise_append.1 hl.pairs).2.2 k hk i (List.mem_cons_self ..)
   simp only [pairB,Bool.or_eq_true] at hp
   rcases hp with hp | hp
   ·have hkl := dpF_listed hl.closed 3 i hdir k (by simpa using hp)
    have := ((hl.mem k).1 (by simp [hk])).2
    rw [hkl] at this; cases this
   ·rw [hop] at hp; exact hp
  rw [List.map_append,List.map_cons,hop] at h
  have hreal : Real Z (Pin ++ H) := ⟨w,by
   have : (Pin ++ (H ++ F)).Perm (F ++ (Pin ++ H)) := by rw [← List.append_assoc]; exact List.perm_append_comm
   exact (hs.perm this).drop⟩
  refine wpOp_mono ?_ (Rg.step ho (Rg.front _ _ _ _ hsw hreal h) hs hrel)
  rintro a' w' ⟨f',Z',H',r',z',s',t',h'⟩
  rw [← List.map_append] at h'
  exact ih (c₁ ++ c₂) _ f' Z' H' w' a' (by simp at hm ⊢; omega) (hl.take hdir) (hz.trans z') (ht.trans t') h' s' r'
theorem start_left {c : List Nat} (h : orderB all c = true) : Left all (Array.replicate all.size false) c := by
 simp only [orderB,Bool.and_eq_true,beq_iff_eq,List.all_eq_true] at h
 obtain ⟨⟨⟨⟨h1,h2,h2'⟩,h3⟩,h4⟩,h5⟩ := h
 have hlt : ∀ i ∈ c,i < all.size := fun i hi => by simpa [Nat.blt_eq] using h2 i hi
 have hnd : c.Nodup := (allPairs_pairwise h3).imp (fun h e => by subst e; simp at h)
 have hrep : ∀ i,(Array.replicate all.size false).getD i false = false := fun i => by
  simp only [Array.getD_eq_getD_getElem?,Array.getElem?_replicate]
  split <;> rfl
 refine ⟨by simp,fun i => ⟨fun hi => ⟨hlt i hi,hrep i⟩,fun ⟨hi,_⟩ => ?_⟩,hnd,fun k hk => (by rw [hrep] at hk; cases hk),allPairs_pairwise h5,?_⟩
 ·simpa using h2' i (List.mem_range.2 hi)
 ·have key : ∀ (c seen c₁ : List Nat) (i : Nat) (c₂ : List Nat),topo all seen c = true → c = c₁ ++ i :: c₂ → ∀ d ∈ direct all i,d ∈ seen ∨ d ∈ c₁ := by
   intro c
   induction c with
   | nil => intro seen c₁ i c₂ _ he; simp at he
   | cons x c ih =>
    intro seen c₁ i c₂ ht he d hd
    simp only [topo,Bool.and_eq_true,List.all_eq_true] at ht
    cases c₁ with
    | nil =>
     simp only [List.nil_append,List.cons.injEq] at he
     obtain ⟨rfl,rfl⟩ := he
     exact .inl (by simpa using ht.1 d hd)
    | cons y c₁ =>
     simp only [List.cons_append,List.cons.injEq] at he
     obtain ⟨rfl,he⟩ := he
     rcases ih (x :: seen) c₁ i c₂ ht.2 he d hd with h | h
     ·rcases List.mem_cons.1 h with h | h
      ·exact .inr (by rw [h]; exact List.mem_cons_self ..)
      ·exact .inl h
     ·exact .inr (List.mem_cons_of_mem _ h)
  intro c₁ i c₂ he d hd
  rcases key c [] c₁ i c₂ h4 he d hd with h | h
  ·cases h
  ·exact .inr h
theorem map_opAt (l : List Oper) : (List.range l.length).map (opAt l.toArray) = l := by
 refine List.ext_getElem (by simp) fun i h1 h2 => ?_
 simp [opAt,Array.getD_eq_getD_getElem?,h2]
section
variable {Q : Post} {f : Fr} {Z : Fz} {H : Hp} {id : Nat} {l : List Oper}
theorem WP.region (h : Rg P n l.toArray false [] (Q .normal) l f Z H) : WP P n (.region id l.toArray false) Q f Z H := by
 intro w F a hs hr
 refine wp_region ?_
 rw [List.range_eq_range']
 have := Rg.text (Z₀ := Z) (w₀ := w) (F := F) (T := lift n Z F w Q) (fun f' Z' H' a' w' r z s t q => ⟨f',Z',H',r,z,s,t,q⟩) l 0 f Z H w a (fun j => by simp) (.refl Z) (.refl w) h hs hr
 simpa using this
theorem WP.draw (Pin H₁ : Hp) (c : List Nat) (hm : P.follows .mixedOrders = true) (ho : orderB l.toArray c = true) (hp : H.Perm (Pin ++ H₁))
  (h : Rg P n l.toArray true Pin (fun f Z H => Q .normal f Z (H ++ Pin)) (c.map (opAt l.toArray)) f Z H₁) : WP P n (.region id l.toArray true) Q f Z H := by
 intro w F a hs hr
 refine wp_region_any hm ?_
 have hs' : Sat { w with drawn := w.drawn + 1 } Z (Pin ++ (H₁ ++ F)) := by
  have := hs.perm (hp.append_right F)
  rw [List.append_assoc] at this
  exact ⟨this.fz,this.own,this.nd,this.apart⟩
 refine Rg.any (Z₀ := Z) (w₀ := w) (F := F) (fun f' Z' H' a' w' r z s t q => ⟨f',Z',H' ++ Pin,r,z,s.perm (by rw [← List.append_assoc]; exact List.perm_append_comm.append_right F),t,q⟩) l.toArray.size c _ f Z H₁ _ a ?_ (start_left ho) (.refl Z) ⟨rfl,rfl,rfl,Nat.le_refl _⟩ h hs' hr
 simp only [orderB,Bool.and_eq_true,beq_iff_eq] at ho
 have := ho.1.1.1.1
 omega
theorem WP.drawT (Pin H₁ : Hp) (hm : P.follows .mixedOrders = true) (ho : orderB l.toArray (List.range l.length) = true) (hp : H.Perm (Pin ++ H₁))
  (h : Rg P n l.toArray true Pin (fun f Z H => Q .normal f Z (H ++ Pin)) l f Z H₁) : WP P n (.region id l.toArray true) Q f Z H :=
 WP.draw Pin H₁ (List.range l.length) hm ho hp (by rw [map_opAt]; exact h)
theorem WP.drawA (hm : P.follows .mixedOrders = true) (ho : orderB l.toArray (List.range l.length) = true)
  (h : Rg P n l.toArray true H (fun f Z H' => Q .normal f Z (H' ++ H)) l f Z []) : WP P n (.region id l.toArray true) Q f Z H :=
 WP.drawT H [] hm ho (by rw [List.append_nil]) h
end
end Go.Ux
namespace Go.Ux
open Go
variable {P : Program}
def Tr (P : Program) (g : FuncId) (args : Array Value) (Z : Fz) (H : Hp) (Q : Value → Fz → Hp → Prop) : Prop :=
 ∀ w F,Sat w Z (H ++ F) → Calls P g args w fun e w' => ∃ v,e = .returned v ∧ ∃ Z' H',Fz.le Z Z' ∧ Sat w' Z' (H' ++ F) ∧ Stay w w' ∧ Q v Z' H'
theorem Tr.mono {g : FuncId} {args : Array Value} {Z : Fz} {H : Hp} {Q Q' : Value → Fz → Hp → Prop} (h : Tr P g args Z H Q) (k : ∀ v Z' H',Q v Z' H' → Q' v Z' H') : Tr P g args Z H Q' :=
 fun w F hs => Calls.mono (h w F hs) fun _ _ ⟨v,he,Z',H',a,b,c,d⟩ => ⟨v,he,Z',H',a,b,c,k _ _ _ d⟩
def TrD (P : Program) (g : FuncId) (args : Array Value) (Z : Fz) (H : Hp) (K : Fz → Hp → Prop) : Prop :=
 ∀ w F,Sat w Z (H ++ F) → CallsD P g args .returning w fun e u w' => (∃ v,e = .returned v) ∧ u = .returning ∧ ∃ Z' H',Fz.le Z Z' ∧ Sat w' Z' (H' ++ F) ∧ Stay w w' ∧ K Z' H'
inductive ResL (P : Program) (f : Fr) (Z : Fz) (H : Hp) : List ResultVar → List Value → Prop
 | nil : ResL P f Z H [] []
 | tmp {t : Tmp} {rs : List ResultVar} {vs : List Value} (h : ResL P f Z H rs vs) : ResL P f Z H (.tmp t :: rs) (look f.l t :: vs)
 | cell {a : Tmp} {t : TypeId} {v : Value} {rs : List ResultVar} {vs : List Value} (b : Nat) (hl : ∃ ad,look f.l a = .pointer (some ad) ∧ ∀ w,Sat w Z H → (loadVar t ad).run P w = .ok v w)
   (h : ResL P f Z H rs vs) : ResL P f Z H (.cell a t :: rs) (v :: vs)
def oneOf (vs : List Value) : Value := match vs with
 | [v] => v
 | vs => .tuple vs.toArray
theorem ResL.run {f : Fr} {Z : Fz} {H : Hp} {rs : List ResultVar} {vs : List Value} (h : ResL P f Z H rs vs) {fn : Func} (hf : fn.results = rs.toArray) {n : Nat} {a : Act} (hr : Rel a n f) {w : World} (hs : Sat w Z H) :
  (results fn a.tmps).run P w = .ok (oneOf vs) w := by
 have key : (rs.mapM (fun | .tmp t => pure (a.tmps.getD t undef) | .cell c t => do loadVar t (← asAddr (a.tmps.getD c undef)) : ResultVar → Sem Value)).run P w = .ok vs w := by
  clear hf
  induction h with
  | nil => rfl
  | @tmp t rs vs h ih =>
   simp only [List.mapM_cons,Sem.run_bind,Sem.run_pure,Result.andThen_ok]
   rw [ih,hr.look]
   rfl
  | @cell c t v rs vs b hl h ih =>
   obtain ⟨ad,h1,h2⟩ := hl
   simp only [List.mapM_cons,Sem.run_bind]
   rw [hr.look c,h1]
   have e : (asAddr (.pointer (some ad))).run P w = .ok ad w := rfl
   rw [e,Result.andThen_ok,h2 w hs,Result.andThen_ok,ih]
   rfl
 unfold results
 simp only [hf,List.mapM_toArray,Sem.run_bind,Sem.run_map]
 refine Eq.trans (congrArg (fun r : Result (List Value) => ((r.andThen fun a w' => Result.ok a.toArray w').andThen fun a w' => Sem.run P (pure (if h : a.size = 1 then a[0] else Value.tuple a)) w')) key) ?_
 simp only [Result.andThen_ok,Sem.run_pure]
 congr 1
 unfold oneOf
 match vs with
 | [] => rfl
 | [v] => rfl
 | v :: u :: vs => simp
def Fin (P : Program) (rs : List ResultVar) (R : Value → Fz → Hp → Prop) : List Deferred → Fr → Fz → Hp → Prop
 | [],f,Z,H => ∃ vs,ResL P f Z H rs vs ∧ R (oneOf vs) Z H
 | d :: ds,f,Z,H => ∃ fv cap g args,d.target = .fn fv cap ∧ (∀ w F,Sat w Z (H ++ F) → (invoke (.fn fv cap) d.args).run P w = .ok (.enter g args) w) ∧ TrD P g args Z H fun Z' H' => Fin P rs R ds f Z' H'
def doneQ (P : Program) (rs : List ResultVar) (R : Value → Fz → Hp → Prop) : Post
 | .normal,f,Z,H => Fin P rs R f.D f Z H
 | .ret,f,Z,H => Fin P rs R f.D f Z H
 | _,_,_,_ => False
theorem Fin.leaves {rs : List ResultVar} {R : Value → Fz → Hp → Prop} {fn : Func} (hf : fn.results = rs.toArray) {n : Nat} {f : Fr} {a : Act} (hr : Rel a n f) {F : Hp} {w₀ : World} {Z₀ : Fz} :
  ∀ (ds : List Deferred) (Z : Fz) (H : Hp) (w : World),Sat w Z (H ++ F) → Fz.le Z₀ Z → Stay w₀ w → Fin P rs R ds f Z H →
   Leaves P fn a.tmps (fun e w' => ∃ v,e = .returned v ∧ ∃ Z' H',Fz.le Z₀ Z' ∧ Sat w' Z' (H' ++ F) ∧ Stay w₀ w' ∧ R v Z' H') ds .returning w := by
 intro ds
 induction ds with
 | nil =>
  intro Z H w hs hz ht h
  obtain ⟨vs,h1,h2⟩ := h
  have hs' : Sat w Z H := (hs.perm List.perm_append_comm).drop
  exact ⟨oneOf vs,h1.run hf hr hs',_,rfl,Z,H,hz,hs,ht,h2⟩
 | cons d ds ih =>
  intro Z H w hs hz ht h
  obtain ⟨fv,cap,g,args,htar,hinv,hcall⟩ := h
  refine ⟨by simp,fv,cap,g,args,htar,by rw [htar]; exact hinv w F hs,CallsD.mono (hcall w F hs) ?_⟩
  rintro e u w' ⟨⟨v,rfl⟩,rfl,Z',H',z',s',t',h'⟩
  exact ih Z' H' w' s' (hz.trans z') (ht.trans t') h'
def argL : Nat → List Value → List Lay
 | _,[] => []
 | i,v :: vs => .s i v :: argL (i + 1) vs
theorem look_argL : ∀ (vs : List Value) (i t : Nat),look (argL i vs) t = if i ≤ t then vs.getD (t - i) undef else undef
 | [],i,t => by simp [argL,look]
 | v :: vs,i,t => by
  simp only [argL,look,look_argL vs (i + 1) t]
  by_cases e : i = t
  ·subst e; simp
  ·have hb : Nat.beq i t = false := by
    cases hb : Nat.beq i t with
    | false => rfl
    | true => exact absurd (Nat.eq_of_beq_eq_true hb) e
   rw [hb,cond_false]
   by_cases h : i + 1 ≤ t
   ·rw [if_pos h,if_pos (by omega)]
    obtain ⟨k,rfl⟩ : ∃ k,t = i + 1 + k := ⟨t - (i + 1),by omega⟩
    rw [show i + 1 + k - (i + 1) = k by omega,show i + 1 + k - i = k + 1 by omega]
    rfl
   ·rw [if_neg h,if_neg (by omega)]
theorem rel_start {args : Array Value} {n : Nat} (ha : args.size ≤ n) : Rel { tmps := args ++ Array.replicate (n - args.size) undef,defers := [] } n ⟨argL 0 args.toList,[]⟩ := by
 refine ⟨by simp; omega,fun t => ?_,rfl⟩
 rw [look_argL]
 simp only [Nat.zero_le,if_true,Nat.sub_zero,Array.getD_eq_getD_getElem?,List.getD_eq_getElem?_getD,Array.getElem?_toList]
 by_cases h : t < args.size
 ·rw [Array.getElem?_append_left h]
 ·rw [Array.getElem?_append_right (by omega)]
  have : args[t]? = none := by simp; omega
  rw [this]
  simp only [Array.getElem?_replicate]
  split <;> rfl
theorem Tr.intro {g : FuncId} {fn : Func} {c : Code} {args : Array Value} {n : Nat} {rs : List ResultVar} {Z : Fz} {H : Hp} {R : Value → Fz → Hp → Prop} (hf : P.funcs[g]? = some fn) (hb : fn.body = some c) (hn : fn.ntmps = n)
  (hrs : fn.results = rs.toArray) (ha : Nat.ble args.size n = true) (h : WP P n c (doneQ P rs R) ⟨argL 0 args.toList,[]⟩ Z H) : Tr P g args Z H R := by
 intro w F hs
 refine calls_of_wp_defers hf hb ?_
 subst hn
 have ha' : args.size ≤ fn.ntmps := by simpa [Nat.ble_eq] using ha
 refine Code.wp_mono ?_ (h w F _ hs (rel_start ha'))
 rintro e a w' ⟨f',Z',H',r,z,s,t,q⟩
 cases e with
 | normal => exact (show Leaves .. from by rw [r.defers]; exact Fin.leaves hrs r _ _ _ _ s z t q)
 | ret => exact (show Leaves .. from by rw [r.defers]; exact Fin.leaves hrs r _ _ _ _ s z t q)
 | _ => exact q.elim
theorem TrD.intro {g : FuncId} {fn : Func} {c : Code} {args : Array Value} {n : Nat} {rs : List ResultVar} {Z : Fz} {H : Hp} {K : Fz → Hp → Prop} (hf : P.funcs[g]? = some fn) (hb : fn.body = some c) (hn : fn.ntmps = n)
  (hrs : fn.results = rs.toArray) (ha : Nat.ble args.size n = true)
  (h : WP P n c (fun e f Z H => (e = .normal ∨ e = .ret) ∧ f.D = [] ∧ (∃ vs,ResL P f Z H rs vs) ∧ K Z H) ⟨argL 0 args.toList,[]⟩ Z H) : TrD P g args Z H K := by
 intro w F hs
 subst hn
 have ha' : args.size ≤ fn.ntmps := by simpa [Nat.ble_eq] using ha
 refine CallsD.mono (callsD_of_wp (R := fun e w' => (∃ v,e = .returned v) ∧ ∃ Z' H',Fz.le Z Z' ∧ Sat w' Z' (H' ++ F) ∧ Stay w w' ∧ K Z' H') hf hb (Code.wp_mono ?_ (h w F _ hs (rel_start ha')))) ?_
 ·rintro e a w' ⟨f',Z',H',r,z,s,t,q1,q2,⟨vs,q3⟩,q4⟩
  have hs' : Sat w' Z' H' := (s.perm List.perm_append_comm).drop
  rcases q1 with rfl | rfl
  ·exact ⟨by rw [r.defers,q2],oneOf vs,q3.run hrs r hs',⟨_,rfl⟩,Z',H',z,s,t,q4⟩
  ·exact ⟨by rw [r.defers,q2],oneOf vs,q3.run hrs r hs',⟨_,rfl⟩,Z',H',z,s,t,q4⟩
 ·rintro e u w' ⟨rfl,hv,hr⟩
  exact ⟨hv,rfl,hr⟩
end Go.Ux
namespace Go.Ux
open Go
variable {P : Program}
abbrev cl (xs : List Value) (T : Nat) : Obj := .cells xs.toArray T (0,0)
def Alk (o o' : Obj) : Prop := match o with
 | .cells xs _ _ => ∃ T fr,o' = .cells xs T fr
 | _ => o' = o
theorem Alk.refl (o : Obj) : Alk o o := by cases o <;> first | exact ⟨_,_,rfl⟩ | rfl
def Rdz (Z : Fz) (b : Nat) (o : Obj) : Prop := ∃ o',Z b = some o' ∧ Alk o o'
theorem Rdz.of {Z : Fz} {b : Nat} {o : Obj} (h : Z b = some o) : Rdz Z b o := ⟨o,h,.refl o⟩
instance Rdz.coe {Z : Fz} {b : Nat} {o : Obj} : Coe (Z b = some o) (Rdz Z b o) := ⟨Rdz.of⟩
theorem Rdz.le {Z Z' : Fz} (hz : Fz.le Z Z') {b : Nat} {o : Obj} (h : Rdz Z b o) : Rdz Z' b o := let ⟨o',h1,h2⟩ := h; ⟨o',hz _ _ h1,h2⟩
def Seen (w : World) (b : Nat) (o : Obj) : Prop := ∃ o',w.heap[b]? = some o' ∧ Alk o o'
theorem Seen.of {w : World} {b : Nat} {o : Obj} (h : w.heap[b]? = some o) : Seen w b o := ⟨o,h,.refl o⟩
theorem Seen.cl {w : World} {b T : Nat} {xs : List Value} (h : Seen w b (cl xs T)) : ∃ T' fr,w.heap[b]? = some (.cells xs.toArray T' fr) := by
 obtain ⟨o',h1,T',fr,rfl⟩ := h
 exact ⟨T',fr,h1⟩
theorem Seen.lit {w : World} {b : Nat} {o : Obj} (h : Seen w b o) (hn : ∀ xs T fr,o ≠ .cells xs T fr) : w.heap[b]? = some o := by
 obtain ⟨o',h1,h2⟩ := h
 cases o with
 | cells xs T fr => exact absurd rfl (hn xs T fr)
 | _ => rw [h1,show o' = _ from h2]
class Zf (Z : Fz) (b : Nat) (o : outParam Obj) : Prop where
 h : Rdz Z b o
class ZLe (Z : outParam Fz) (Z' : Fz) : Prop where
 h : Fz.le Z Z'
instance {Z Z' : Fz} {b : Nat} {o : Obj} [k : ZLe Z Z'] [h : Zf Z b o] : Zf Z' b o := ⟨h.h.le k.h⟩
class Pk (b : Nat) (H : Hp) (o : outParam Obj) (R : outParam (Obj → Hp)) : Prop where
 h : ∃ F,H.Perm ((b,o) :: F) ∧ ∀ x,(R x).Perm ((b,x) :: F)
instance (priority := 1100) Pk.head {b : Nat} {o : Obj} {H : Hp} : Pk b ((b,o) :: H) o (fun x => (b,x) :: H) := ⟨H,.refl _,fun _ => .refl _⟩
instance Pk.tail {b : Nat} {o : Obj} {p : Nat × Obj} {H : Hp} {R : Obj → Hp} [k : Pk b H o R] : Pk b (p :: H) o (fun x => p :: R x) := by
 obtain ⟨F,h1,h2⟩ := k.h
 exact ⟨p :: F,(h1.cons p).trans (.swap ..),fun x => ((h2 x).cons p).trans (.swap ..)⟩
instance Pk.inl {b : Nat} {o : Obj} {A H : Hp} {R : Obj → Hp} [k : Pk b H o R] : Pk b (H ++ A) o (fun x => R x ++ A) := by
 obtain ⟨F,h1,h2⟩ := k.h
 exact ⟨F ++ A,h1.append_right A,fun x => (h2 x).append_right A⟩
instance Pk.inr {b : Nat} {o : Obj} {A H : Hp} {R : Obj → Hp} [k : Pk b H o R] : Pk b (A ++ H) o (fun x => A ++ R x) := by
 obtain ⟨F,h1,h2⟩ := k.h
 exact ⟨A ++ F,(h1.append_left A).trans List.perm_middle,fun x => ((h2 x).append_left A).trans List.perm_middle⟩
theorem Pk.mem {b : Nat} {o : Obj} {H : Hp} {R : Obj → Hp} (k : Pk b H o R) : (b,o) ∈ H := by
 obtain ⟨F,h1,_⟩ := k.h
 exact h1.mem_iff.2 (List.mem_cons_self ..)
class Mem (dr : Bool) (Z : Fz) (Pin H : Hp) (b : Nat) (o : outParam Obj) : Prop where
 h : Rdz Z b o ∨ (b,o) ∈ Pin ∨ (dr = false ∧ (b,o) ∈ H)
instance Mem.z {dr : Bool} {Z : Fz} {Pin H : Hp} {b : Nat} {o : Obj} [k : Zf Z b o] : Mem dr Z Pin H b o := ⟨.inl k.h⟩
instance Mem.p {dr : Bool} {Z : Fz} {Pin H : Hp} {b : Nat} {o : Obj} {R : Obj → Hp} [k : Pk b Pin o R] : Mem dr Z Pin H b o := ⟨.inr (.inl k.mem)⟩
instance (priority := 1100) Mem.o {Z : Fz} {Pin H : Hp} {b : Nat} {o : Obj} {R : Obj → Hp} [k : Pk b H o R] : Mem false Z Pin H b o := ⟨.inr (.inr ⟨rfl,k.mem⟩)⟩
theorem Mem.heap {dr : Bool} {Z : Fz} {Pin H : Hp} {b : Nat} {o : Obj} (hh : Mem dr Z Pin H b o) {w : World} (hs : Sat w Z (if dr then Pin else Pin ++ H)) : Seen w b o := by
 rcases hh.h with ⟨o',h1,h2⟩ | h | ⟨rfl,h⟩
 ·exact ⟨o',hs.fz _ _ h1,h2⟩
 ·exact .of (hs.own (b,o) (by cases dr <;> simp [h]))
 ·exact .of (hs.own (b,o) (by simp [h]))
def okO (n : Nat) (all : Array Oper) (f : Fr) (o : Oper) : Bool := wantF all o f && fits n o.dst
theorem ev_go {f : Fr} {x : Operand} {v : Value} (s : ev f x = v := by first | ((conv => (lhs; whnf)); done) | ((conv => (lhs; whnf)); exact rfl)) : ev f x = v := s
inductive EvL (f : Fr) : List Operand → List Value → Prop
 | nil : EvL f [] []
 | cons {x : Operand} {v : Value} {xs : List Operand} {vs : List Value} (h : ev f x = v) (t : EvL f xs vs) : EvL f (x :: xs) (v :: vs)
theorem EvL.map {f : Fr} {xs : List Operand} {vs : List Value} (h : EvL f xs vs) : xs.map (ev f) = vs := by
 induction h with
 | nil => rfl
 | cons h _ ih => simp only [List.map_cons,h,ih]
theorem evl_go {f : Fr} {xs : List Operand} {vs : List Value} (s : EvL f xs vs := by repeat (first | exact EvL.nil | (apply EvL.cons; exact ev_go))) : EvL f xs vs := s
class One (v : Value) : Prop where
 h : v.cells = #[v] ∧ v.oneCell' = true
instance {a : Option Addr} : One (.pointer a) := ⟨rfl,rfl⟩
instance {a : Option Addr} {n c : Nat} : One (.slice a n c) := ⟨rfl,rfl⟩
instance {t : Nat} {v : Value} : One (.iface t v) := ⟨rfl,rfl⟩
instance : One .nilIface := ⟨rfl,rfl⟩
instance {s : ByteArray} : One (.string s) := ⟨rfl,rfl⟩
instance {k : IntKind} {n : Int} : One (.int k n) := ⟨rfl,rfl⟩
instance {k : FloatKind} {n : Nat} : One (.float k n) := ⟨rfl,rfl⟩
instance {b : Bool} : One (.bool b) := ⟨rfl,rfl⟩
instance {m : Option Nat} : One (.map m) := ⟨rfl,rfl⟩
instance {g : Fn} {a b : Array Value} : One (.func g a b) := ⟨rfl,rfl⟩
class Ty (P : Program) (T : Nat) (n : outParam Nat) (agg : outParam Bool) : Prop where
 agg : ∀ w,(isAgg T).run P w = .ok agg w
 size : ∀ w,(sizeOf T).run P w = .ok n w
class Seg (xs : List Value) (off k : Nat) (vs : outParam (List Value)) : Prop where
 h : (xs.drop off).take k = vs
 l : vs.length = k
instance {xs : List Value} : Seg xs 0 0 [] := ⟨by simp,rfl⟩
instance {x : Value} {xs vs : List Value} {k : Nat} [s : Seg xs 0 k vs] : Seg (x :: xs) 0 (k + 1) (x :: vs) := ⟨by simpa using s.h,by simp [s.l]⟩
instance {x : Value} {xs vs : List Value} {o k : Nat} [s : Seg xs o k vs] : Seg (x :: xs) (o + 1) k vs := ⟨by simpa using s.h,s.l⟩
class FOff (P : Program) (T i : Nat) (o : outParam Nat) : Prop where
 run : ∀ w b off,(Instr.fieldAt T (.pointer (some ⟨b,off,none⟩)) i).run P w = .ok (.pointer (some ⟨b,off + o,none⟩)) w
class Conc (P : Program) (T : Nat) : Prop where
 run : ∀ x w,(Instr.makeInterface T x).run P w = .ok (.iface T x) w
class Und (P : Program) (T : Nat) (d : outParam TypeDesc) : Prop where
 run : ∀ w,(underlying T).run P w = .ok d w
section
variable {n : Nat} {all : Array Oper} {dr : Bool} {Pin : Hp} {K : Fr → Fz → Hp → Prop} {rest : List Oper} {l : List Lay} {D : List Deferred} {Z : Fz} {H : Hp}
variable {dst : Option Tmp} {d : Tmp} {ty : TypeId} {pos : String} {af : Array Edge} {gd : Option (Nat × Bool)} {x y z : Operand} {T : TypeId} {b off : Nat} {v u : Value}
theorem o_p {f : Fr} {o : Oper} (hg : okO n all f o = true) (hk : kindO o.op = 0) (hr : ∀ w,Sat w Z (if dr then Pin else Pin ++ H) → (execOp (ev f) o).run P w = .ok (.value v) w)
  (h : Rg P n all dr Pin K rest (put f o.dst v) Z H) (hf : freeO o.op = false := by first | rfl | (intros; rfl)) : Rg P n all dr Pin K (o :: rest) f Z H := by
 simp only [okO,Bool.and_eq_true] at hg
 exact .pure0 hg.1 hg.2 (fun _ => hk) (fun w hs => hr w (hs hf)) h
theorem o_sk {f : Fr} {o : Oper} (hg : (!(wantF all o f) && fits n o.dst) = true) (h : Rg P n all dr Pin K rest (put f o.dst undef) Z H) : Rg P n all dr Pin K (o :: rest) f Z H := by
 simp only [Bool.and_eq_true,Bool.not_eq_true'] at hg
 exact .skip hg.1 hg.2 h
theorem o_move (hg : okO n all ⟨l,D⟩ ⟨some d,.move x,ty,pos,af,gd⟩ = true) (h : Rg P n all dr Pin K rest ⟨.al d x :: l,D⟩ Z H) : Rg P n all dr Pin K (⟨some d,.move x,ty,pos,af,gd⟩ :: rest) ⟨l,D⟩ Z H :=
 o_p (v := ev ⟨l,D⟩ x) hg rfl (fun _ _ => rfl) (Rg.same (f := ⟨.al d x :: l,D⟩) ⟨fun t => by cases x <;> rfl,rfl⟩ h)
theorem o_assign (hg : okO n all ⟨l,D⟩ ⟨some d,.assign x,ty,pos,af,gd⟩ = true) (h : Rg P n all dr Pin K rest ⟨.al d x :: l,D⟩ Z H) : Rg P n all dr Pin K (⟨some d,.assign x,ty,pos,af,gd⟩ :: rest) ⟨l,D⟩ Z H :=
 o_p (v := ev ⟨l,D⟩ x) hg rfl (fun _ _ => rfl) (Rg.same (f := ⟨.al d x :: l,D⟩) ⟨fun t => by cases x <;> rfl,rfl⟩ h)
theorem o_extract {vs : Array Value} {i : Nat} (hg : okO n all ⟨l,D⟩ ⟨some d,.extract x i,ty,pos,af,gd⟩ = true) (hx : ev ⟨l,D⟩ x = .tuple vs) (hi : Nat.blt i vs.size = true)
  (h : Rg P n all dr Pin K rest ⟨.ex d x i :: l,D⟩ Z H) : Rg P n all dr Pin K (⟨some d,.extract x i,ty,pos,af,gd⟩ :: rest) ⟨l,D⟩ Z H := by
 have hi' : i < vs.size := by simpa [Nat.blt_eq] using hi
 refine o_p (v := vs.getD i undef) hg rfl (fun w _ => ?_) (Rg.same (f := ⟨.ex d x i :: l,D⟩) ⟨fun t => ?_,rfl⟩ h)
 ·show Sem.run P (do pure (Next.value (← Instr.extract (ev ⟨l,D⟩ x) i))) w = _
  rw [hx]
  simp [Instr.extract,Array.getD_eq_getD_getElem?,hi']
 ·show look (.ex d x i :: l) t = look (.s d _ :: l) t
  have : (partOf i (ev ⟨l,D⟩ x)) = vs.getD i undef := by rw [hx]; rfl
  rw [← this]
  cases x <;> rfl
theorem cell_of {w : World} {xs : List Value} {i : Nat} {T : Nat} (h : Seen w b (cl xs T)) (hv : xs[i]? = some v) : w.cell? ⟨b,i,none⟩ = some v := by
 obtain ⟨T',fr,h⟩ := h.cl
 simp [World.cell?,h,hv]
theorem loadVar_one [Ty P T 1 false] {w : World} {xs : List Value} {U : Nat} (h : Seen w b (cl xs U)) (hv : xs[off]? = some v) : (loadVar T ⟨b,off,none⟩).run P w = .ok v w := by
 simp only [loadVar,Sem.run_bind,Ty.agg (P := P) (T := T) (n := 1) (agg := false),Result.andThen_ok,Bool.false_eq_true,if_false,run_load,cell_of h hv]
theorem loadVar_agg {k : Nat} [Ty P T k true] {w : World} {xs vs : List Value} {U : Nat} (h : Seen w b (cl xs U)) (hv : (xs.drop off).take k = vs) (hl : vs.length = k) :
  (loadVar T ⟨b,off,none⟩).run P w = .ok (.agg vs.toArray) w := by
 simp only [loadVar,Sem.run_bind,Ty.agg (P := P) (T := T) (n := k) (agg := true),Ty.size (P := P) (T := T) (n := k) (agg := true),Result.andThen_ok,if_true]
 have hc : (loadCells ⟨b,off,none⟩ vs.length).run P w = .ok vs.toArray w := by
  refine run_loadCells_list w _ _ fun j u hj => ?_
  have hu : xs[off + j]? = some u := by
   have hj' := hj
   rw [← hv,List.getElem?_take] at hj
   split at hj
   ·rwa [List.getElem?_drop] at hj
   ·cases hj
  have e : (⟨b,off,none⟩ : Addr).add j = ⟨b,off + j,none⟩ := by
   unfold Addr.add
   split
   ·next e => subst e; rfl
   ·rfl
  rw [e]
  exact cell_of h hu
 rw [hl] at hc
 simp only [hc,Result.andThen_ok,Sem.run_pure]
theorem o_load1 [Ty P T 1 false] {xs : List Value} {U : Nat} (hg : okO n all ⟨l,D⟩ ⟨some d,.load T x,ty,pos,af,gd⟩ = true) (hx : ev ⟨l,D⟩ x = .pointer (some ⟨b,off,none⟩)) [hm : Mem dr Z Pin H b (cl xs U)] (hv : xs[off]? = some v)
  (h : Rg P n all dr Pin K rest ⟨.s d v :: l,D⟩ Z H) : Rg P n all dr Pin K (⟨some d,.load T x,ty,pos,af,gd⟩ :: rest) ⟨l,D⟩ Z H := by
 refine o_p hg rfl (fun w hs => ?_) h
 show Sem.run P (do pure (Next.value (← Instr.loadAt T (ev ⟨l,D⟩ x)))) w = _
 rw [hx]
 simp only [Instr.loadAt,Instr.sureAddr,Sem.run_bind,Sem.run_pure,Result.andThen_ok,loadVar_one (hm.heap hs) hv]
theorem o_loadN {k : Nat} [Ty P T k true] {xs vs : List Value} {U : Nat} (hg : okO n all ⟨l,D⟩ ⟨some d,.load T x,ty,pos,af,gd⟩ = true) (hx : ev ⟨l,D⟩ x = .pointer (some ⟨b,off,none⟩)) [hm : Mem dr Z Pin H b (cl xs U)] (hv : (xs.drop off).take k = vs) (hl : vs.length = k)
  (h : Rg P n all dr Pin K rest ⟨.s d (.agg vs.toArray) :: l,D⟩ Z H) : Rg P n all dr Pin K (⟨some d,.load T x,ty,pos,af,gd⟩ :: rest) ⟨l,D⟩ Z H := by
 refine o_p hg rfl (fun w hs => ?_) h
 show Sem.run P (do pure (Next.value (← Instr.loadAt T (ev ⟨l,D⟩ x)))) w = _
 rw [hx]
 simp only [Instr.loadAt,Instr.sureAddr,Sem.run_bind,Sem.run_pure,Result.andThen_ok,loadVar_agg (hm.heap hs) hv hl]
theorem o_loadH {k : Nat} [Ty P T k true] {xs vs : List Value} {U : Nat} (hg : okO n all ⟨l,D⟩ ⟨some d,.load T x,ty,pos,af,gd⟩ = true) (hh : hldO all ⟨some d,.load T x,ty,pos,af,gd⟩ = true) (hx : ev ⟨l,D⟩ x = .pointer (some ⟨b,off,none⟩)) [hm : Mem false Z Pin H b (cl xs U)] (hv : (xs.drop off).take k = vs) (hl : vs.length = k)
  (h : Rg P n all dr Pin K rest ⟨.s d (.agg vs.toArray) :: l,D⟩ Z H) : Rg P n all dr Pin K (⟨some d,.load T x,ty,pos,af,gd⟩ :: rest) ⟨l,D⟩ Z H := by
 simp only [okO,Bool.and_eq_true] at hg
 refine .pure hg.1 hg.2 (fun _ => rfl) (fun w hs => ?_) h
 have hs := hs rfl
 rw [hh] at hs
 simp only [Bool.not_true,Bool.and_false,Bool.false_eq_true,if_false] at hs
 show Sem.run P (do pure (Next.value (← Instr.loadAt T (ev ⟨l,D⟩ x)))) w = _
 rw [hx]
 simp only [Instr.loadAt,Instr.sureAddr,Sem.run_bind,Sem.run_pure,Result.andThen_ok,loadVar_agg (hm.heap (by simpa using hs)) hv hl]
theorem o_loadS {k : Nat} [Ty P T k true] {xs vs : List Value} {U : Nat} (hg : okO n all ⟨l,D⟩ ⟨some d,.load T x,ty,pos,af,gd⟩ = true) (hx : ev ⟨l,D⟩ x = .pointer (some ⟨b,off,none⟩)) [hm : Mem dr Z Pin H b (cl xs U)] [s : Seg xs off k vs]
  (h : Rg P n all dr Pin K rest ⟨.s d (.agg vs.toArray) :: l,D⟩ Z H) : Rg P n all dr Pin K (⟨some d,.load T x,ty,pos,af,gd⟩ :: rest) ⟨l,D⟩ Z H := o_loadN hg hx s.h s.l h
theorem o_fieldAddr {i o : Nat} [FOff P T i o] (hg : okO n all ⟨l,D⟩ ⟨some d,.fieldAddr T x i,ty,pos,af,gd⟩ = true) (hx : ev ⟨l,D⟩ x = .pointer (some ⟨b,off,none⟩))
  (h : Rg P n all dr Pin K rest ⟨.s d (.pointer (some ⟨b,off + o,none⟩)) :: l,D⟩ Z H) : Rg P n all dr Pin K (⟨some d,.fieldAddr T x i,ty,pos,af,gd⟩ :: rest) ⟨l,D⟩ Z H := by
 refine o_p hg rfl (fun w hs => ?_) h
 show Sem.run P (do pure (Next.value (← Instr.fieldAt T (ev ⟨l,D⟩ x) i))) w = _
 rw [hx]
 simp only [Sem.run_bind,FOff.run (P := P) (T := T) (i := i),Sem.run_pure,Result.andThen_ok]
theorem o_fieldAddr0 {i o : Nat} [FOff P T i o] (hg : okO n all ⟨l,D⟩ ⟨some d,.fieldAddr T x i,ty,pos,af,gd⟩ = true) (hx : ev ⟨l,D⟩ x = .pointer (some ⟨b,0,none⟩))
  (h : Rg P n all dr Pin K rest ⟨.s d (.pointer (some ⟨b,o,none⟩)) :: l,D⟩ Z H) : Rg P n all dr Pin K (⟨some d,.fieldAddr T x i,ty,pos,af,gd⟩ :: rest) ⟨l,D⟩ Z H :=
 o_fieldAddr hg hx (by rw [Nat.zero_add]; exact h)
theorem o_fieldAddrZ {i : Nat} [FOff P T i 0] (hg : okO n all ⟨l,D⟩ ⟨some d,.fieldAddr T x i,ty,pos,af,gd⟩ = true) (hx : ev ⟨l,D⟩ x = .pointer (some ⟨b,off,none⟩))
  (h : Rg P n all dr Pin K rest ⟨.s d (.pointer (some ⟨b,off,none⟩)) :: l,D⟩ Z H) : Rg P n all dr Pin K (⟨some d,.fieldAddr T x i,ty,pos,af,gd⟩ :: rest) ⟨l,D⟩ Z H :=
 o_fieldAddr hg hx (by rw [Nat.add_zero]; exact h)
theorem o_nilCheck {ad : Addr} (hg : okO n all ⟨l,D⟩ ⟨some d,.nilCheck x,ty,pos,af,gd⟩ = true) (hx : ev ⟨l,D⟩ x = .pointer (some ad)) (h : Rg P n all dr Pin K rest ⟨.al d x :: l,D⟩ Z H) :
  Rg P n all dr Pin K (⟨some d,.nilCheck x,ty,pos,af,gd⟩ :: rest) ⟨l,D⟩ Z H := by
 refine o_p (v := ev ⟨l,D⟩ x) hg rfl (fun w _ => ?_) (Rg.same (f := ⟨.al d x :: l,D⟩) ⟨fun t => by cases x <;> rfl,rfl⟩ h)
 unfold execOp
 simp only [hx]
 rfl
theorem o_nilCheckI {t : TypeId} (hg : okO n all ⟨l,D⟩ ⟨some d,.nilCheck x,ty,pos,af,gd⟩ = true) (hx : ev ⟨l,D⟩ x = .iface t v) (h : Rg P n all dr Pin K rest ⟨.al d x :: l,D⟩ Z H) :
  Rg P n all dr Pin K (⟨some d,.nilCheck x,ty,pos,af,gd⟩ :: rest) ⟨l,D⟩ Z H := by
 refine o_p (v := ev ⟨l,D⟩ x) hg rfl (fun w _ => ?_) (Rg.same (f := ⟨.al d x :: l,D⟩) ⟨fun t => by cases x <;> rfl,rfl⟩ h)
 unfold execOp
 simp only [hx]
 rfl
theorem o_makeInterface [Conc P T] (hg : okO n all ⟨l,D⟩ ⟨some d,.makeInterface T x,ty,pos,af,gd⟩ = true) (hx : ev ⟨l,D⟩ x = v)
  (h : Rg P n all dr Pin K rest ⟨.s d (.iface T v) :: l,D⟩ Z H) : Rg P n all dr Pin K (⟨some d,.makeInterface T x,ty,pos,af,gd⟩ :: rest) ⟨l,D⟩ Z H := by
 refine o_p hg rfl (fun w _ => ?_) h
 show Sem.run P (do pure (Next.value (← Instr.makeInterface T (ev ⟨l,D⟩ x)))) w = _
 rw [hx]
 simp only [Sem.run_bind,Conc.run (P := P) (T := T),Result.andThen_ok,Sem.run_pure]
theorem o_makeFunc {fn : Fn} {a1 a2 : List Operand} (hg : okO n all ⟨l,D⟩ ⟨some d,.makeFunc fn a1.toArray a2.toArray,ty,pos,af,gd⟩ = true)
  (h : Rg P n all dr Pin K rest ⟨.s d (.func fn (a1.map (ev ⟨l,D⟩)).toArray (a2.map (ev ⟨l,D⟩)).toArray) :: l,D⟩ Z H) : Rg P n all dr Pin K (⟨some d,.makeFunc fn a1.toArray a2.toArray,ty,pos,af,gd⟩ :: rest) ⟨l,D⟩ Z H := by
 refine o_p hg rfl (fun w _ => ?_) h
 have : (execOp (ev ⟨l,D⟩) ⟨some d,.makeFunc fn a1.toArray a2.toArray,ty,pos,af,gd⟩).run P w = .ok (.value (.func fn (a1.toArray.map (ev ⟨l,D⟩)) (a2.toArray.map (ev ⟨l,D⟩)))) w := rfl
 rw [this,List.map_toArray,List.map_toArray]
theorem o_makeFuncL {fn : Fn} {a1 a2 : List Operand} {v1 v2 : List Value} (hg : okO n all ⟨l,D⟩ ⟨some d,.makeFunc fn a1.toArray a2.toArray,ty,pos,af,gd⟩ = true) (h1 : EvL ⟨l,D⟩ a1 v1) (h2 : EvL ⟨l,D⟩ a2 v2)
  (h : Rg P n all dr Pin K rest ⟨.s d (.func fn v1.toArray v2.toArray) :: l,D⟩ Z H) : Rg P n all dr Pin K (⟨some d,.makeFunc fn a1.toArray a2.toArray,ty,pos,af,gd⟩ :: rest) ⟨l,D⟩ Z H :=
 o_makeFunc hg (by rw [h1.map,h2.map]; exact h)
theorem same_al {x : Operand} {v : Value} (hv : v = ev ⟨l,D⟩ x) : Same ⟨.al d x :: l,D⟩ (put ⟨l,D⟩ (some d) v) := by
 subst hv
 exact ⟨fun t => by cases x <;> rfl,rfl⟩
theorem o_pickT (hg : okO n all ⟨l,D⟩ ⟨some d,.pick z x y,ty,pos,af,gd⟩ = true) (hx : ev ⟨l,D⟩ z = .bool true)
  (h : Rg P n all dr Pin K rest ⟨.al d x :: l,D⟩ Z H) : Rg P n all dr Pin K (⟨some d,.pick z x y,ty,pos,af,gd⟩ :: rest) ⟨l,D⟩ Z H := by
 refine o_p (v := ev ⟨l,D⟩ x) hg rfl (fun w _ => ?_) (Rg.same (same_al rfl) h)
 show Sem.run P (do pure (Next.value (if ← asBool (ev ⟨l,D⟩ z) then _ else _))) w = _
 rw [hx]; rfl
theorem o_pickF (hg : okO n all ⟨l,D⟩ ⟨some d,.pick z x y,ty,pos,af,gd⟩ = true) (hx : ev ⟨l,D⟩ z = .bool false)
  (h : Rg P n all dr Pin K rest ⟨.al d y :: l,D⟩ Z H) : Rg P n all dr Pin K (⟨some d,.pick z x y,ty,pos,af,gd⟩ :: rest) ⟨l,D⟩ Z H := by
 refine o_p (v := ev ⟨l,D⟩ y) hg rfl (fun w _ => ?_) (Rg.same (same_al rfl) h)
 show Sem.run P (do pure (Next.value (if ← asBool (ev ⟨l,D⟩ z) then _ else _))) w = _
 rw [hx]; rfl
theorem o_pick {c : Bool} (hg : okO n all ⟨l,D⟩ ⟨some d,.pick z x y,ty,pos,af,gd⟩ = true) (hx : ev ⟨l,D⟩ z = .bool c)
  (h : Rg P n all dr Pin K rest ⟨.s d (if c then ev ⟨l,D⟩ x else ev ⟨l,D⟩ y) :: l,D⟩ Z H) : Rg P n all dr Pin K (⟨some d,.pick z x y,ty,pos,af,gd⟩ :: rest) ⟨l,D⟩ Z H := by
 refine o_p (v := if c then ev ⟨l,D⟩ x else ev ⟨l,D⟩ y) hg rfl (fun w _ => ?_) h
 show Sem.run P (do pure (Next.value (if ← asBool (ev ⟨l,D⟩ z) then _ else _))) w = _
 rw [hx]
 cases c <;> rfl
theorem o_not {c : Bool} (hg : okO n all ⟨l,D⟩ ⟨some d,.unOp .not T x,ty,pos,af,gd⟩ = true) (hx : ev ⟨l,D⟩ x = .bool c) (h : Rg P n all dr Pin K rest ⟨.s d (.bool (!c)) :: l,D⟩ Z H) :
  Rg P n all dr Pin K (⟨some d,.unOp .not T x,ty,pos,af,gd⟩ :: rest) ⟨l,D⟩ Z H := by
 refine o_p hg rfl (fun w _ => ?_) h
 show Sem.run P (do pure (Next.value (← Op.unary .not (ev ⟨l,D⟩ x)))) w = _
 rw [hx]
 rfl
end
end Go.Ux
namespace Go.Ux
open Go
variable {P : Program}
class Ent (P : Program) (g : FuncId) : Prop where
 run : ∀ args w,(callFunc g args).run P w = .ok (.enter g args) w
class Zero (P : Program) (T : Nat) (z : outParam (List Value)) : Prop where
 run : ∀ w,∃ v : Value,(zeroValue T).run P w = .ok v w ∧ v.cells = z.toArray
def setL : List Value → Nat → List Value → List Value
 | xs,_,[] => xs
 | xs,i,v :: vs => setL (xs.set i v) (i + 1) vs
theorem setL_length : ∀ (vs xs : List Value) (i : Nat),(setL xs i vs).length = xs.length
 | [],_,_ => rfl
 | v :: vs,xs,i => by simp [setL,setL_length vs]
class SetS (xs : List Value) (off : Nat) (vs : List Value) (ys : outParam (List Value)) : Prop where
 h : setL xs off vs = ys
 l : off + vs.length ≤ xs.length
theorem setL_succ (x : Value) : ∀ (vs xs : List Value) (o : Nat),setL (x :: xs) (o + 1) vs = x :: setL xs o vs
 | [],_,_ => rfl
 | v :: vs,xs,o => by simp only [setL,List.set_cons_succ]; exact setL_succ x vs (xs.set o v) (o + 1)
instance {xs : List Value} : SetS xs 0 [] xs := ⟨rfl,by simp⟩
instance {x v : Value} {xs vs ys : List Value} [s : SetS xs 0 vs ys] : SetS (x :: xs) 0 (v :: vs) (v :: ys) := ⟨by simp only [setL,List.set_cons_zero]; rw [setL_succ,s.h],by have := s.l; simp at this ⊢; omega⟩
instance {x : Value} {xs vs ys : List Value} {o : Nat} [s : SetS xs o vs ys] : SetS (x :: xs) (o + 1) vs (x :: ys) := ⟨by rw [setL_succ,s.h],by have := s.l; simp at this ⊢; omega⟩
theorem store_cells {b T : Nat} : ∀ (vs xs : List Value) (off i : Nat) (w : World),w.heap[b]? = some (cl xs T) → off + i + vs.length ≤ xs.length → (vs.all Value.oneCell') = true →
  ∃ w',(storeCells ⟨b,off,none⟩ vs i).run P w = .ok () w' ∧ w'.heap[b]? = some (cl (setL xs (off + i) vs) T) ∧ (∀ k,k ≠ b → w'.heap[k]? = w.heap[k]?) ∧ Stay w w'
 | [],xs,off,i,w,h,_,_ => ⟨w,rfl,h,fun _ _ => rfl,.refl w⟩
 | v :: vs,xs,off,i,w,h,hl,hv => by
  simp only [List.length_cons] at hl
  simp only [List.all_cons,Bool.and_eq_true] at hv
  have e : (⟨b,off,none⟩ : Addr).add i = ⟨b,off + i,none⟩ := by
   unfold Addr.add
   split
   ·next e => subst e; rfl
   ·rfl
  have hc : w.cell? ⟨b,off + i,none⟩ = some xs[off + i] := cell_of (.of h) (by simp)
  have hf : w.frozen? ⟨b,off + i,none⟩ = false := by simp [World.frozen?,h]
  have h' : (w.setCell ⟨b,off + i,none⟩ v).heap[b]? = some (cl (xs.set (off + i) v) T) := by
   simp [World.setCell,Array.getElem?_modify,h]
  obtain ⟨w',h1,h2,h3,h4⟩ := store_cells vs (xs.set (off + i) v) off (i + 1) (w.setCell ⟨b,off + i,none⟩ v) h' (by simp; omega) hv.2
  refine ⟨w',?_,by rw [← Nat.add_assoc] at h2; exact h2,fun k hk => ?_,Stay.trans (b := w.setCell ⟨b,off + i,none⟩ v) ⟨rfl,rfl,rfl,by simp [World.setCell]⟩ h4⟩
  ·simp only [storeCells,Sem.run_bind,e,run_store _ _ _ _ _ hv.1,hc,hf,Bool.false_eq_true,if_false,Result.andThen_ok]
   exact h1
  ·rw [h3 k hk]
   simp only [World.setCell,Array.getElem?_modify]
   rw [if_neg (fun e => hk e.symm)]
section
variable {n : Nat} {all : Array Oper} {dr : Bool} {Pin : Hp} {K : Fr → Fz → Hp → Prop} {rest : List Oper} {l : List Lay} {D : List Deferred} {Z : Fz} {H : Hp}
variable {dst : Option Tmp} {d : Tmp} {ty : TypeId} {pos : String} {af : Array Edge} {gd : Option (Nat × Bool)} {x y z : Operand} {T : TypeId} {b off : Nat} {v u : Value}
theorem o_e {f : Fr} {o : Oper} (Po : Value → Fz → Hp → Prop) (hg : okO n all f o = true) (hk : kindO o.op = 2)
  (hr : ∀ w F,Sat w Z (Pin ++ (H ++ F)) → RunO P (ev f) o w fun v w' => ∃ Z' H',Fz.le Z Z' ∧ Sat w' Z' (Pin ++ (H' ++ F)) ∧ Stay w w' ∧ Po v Z' H')
  (h : ∀ v Z' H',Fz.le Z Z' → Po v Z' H' → Rg P n all dr Pin K rest (put f o.dst v) Z' H') : Rg P n all dr Pin K (o :: rest) f Z H := by
 simp only [okO,Bool.and_eq_true] at hg
 exact .eff Po hg.1 hg.2 (fun _ => hk) hr (fun v Z' H' hz hp _ => h v Z' H' hz hp)
theorem o_a {f : Fr} {o : Oper} {mk : Nat → Value} {ob : Obj} (hg : okO n all f o = true) (hk : kindO o.op = 1) (hr : ∀ w,(execOp (ev f) o).run P w = .ok (.value (mk w.heap.size)) (World.pushed w ob))
  (h : ∀ b,Rg P n all dr Pin K rest (put f o.dst (mk b)) Z ((b,ob) :: H)) : Rg P n all dr Pin K (o :: rest) f Z H := by
 simp only [okO,Bool.and_eq_true] at hg
 exact .alc hg.1 hg.2 (fun _ => hk) hr (fun b _ => h b)
theorem o_box {vs : List Value} (hg : okO n all ⟨l,D⟩ ⟨some d,.box T x,ty,pos,af,gd⟩ = true) (hx : (ev ⟨l,D⟩ x).cells = vs.toArray) (h : ∀ b,Rg P n all dr Pin K rest ⟨.s d (.pointer (some ⟨b,0,none⟩)) :: l,D⟩ Z ((b,cl vs T) :: H)) :
  Rg P n all dr Pin K (⟨some d,.box T x,ty,pos,af,gd⟩ :: rest) ⟨l,D⟩ Z H := by
 refine o_a (mk := fun b => .pointer (some ⟨b,0,none⟩)) (ob := cl vs T) hg rfl (fun w => ?_) h
 show Sem.run P (do pure (Next.value (← Instr.box T (ev ⟨l,D⟩ x)))) w = _
 simp only [Instr.box,newVar,newRow,Sem.run_bind,run_newObj,Sem.run_pure,Result.andThen_ok,hx]
 rfl
theorem o_box1 [One v] (hg : okO n all ⟨l,D⟩ ⟨some d,.box T x,ty,pos,af,gd⟩ = true) (hx : ev ⟨l,D⟩ x = v) (h : ∀ b,Rg P n all dr Pin K rest ⟨.s d (.pointer (some ⟨b,0,none⟩)) :: l,D⟩ Z ((b,cl [v] T) :: H)) :
  Rg P n all dr Pin K (⟨some d,.box T x,ty,pos,af,gd⟩ :: rest) ⟨l,D⟩ Z H := o_box (vs := [v]) hg (by rw [hx]; exact One.h.1) h
theorem o_boxA {vs : List Value} (hg : okO n all ⟨l,D⟩ ⟨some d,.box T x,ty,pos,af,gd⟩ = true) (hx : ev ⟨l,D⟩ x = .agg vs.toArray) (h : ∀ b,Rg P n all dr Pin K rest ⟨.s d (.pointer (some ⟨b,0,none⟩)) :: l,D⟩ Z ((b,cl vs T) :: H)) :
  Rg P n all dr Pin K (⟨some d,.box T x,ty,pos,af,gd⟩ :: rest) ⟨l,D⟩ Z H := o_box hg (by rw [hx]; rfl) h
theorem o_alloc {zs : List Value} [Zero P T zs] (hg : okO n all ⟨l,D⟩ ⟨some d,.alloc T,ty,pos,af,gd⟩ = true) (h : ∀ b,Rg P n all dr Pin K rest ⟨.s d (.pointer (some ⟨b,0,none⟩)) :: l,D⟩ Z ((b,cl zs T) :: H)) :
  Rg P n all dr Pin K (⟨some d,.alloc T,ty,pos,af,gd⟩ :: rest) ⟨l,D⟩ Z H := by
 refine o_a (mk := fun b => .pointer (some ⟨b,0,none⟩)) (ob := cl zs T) hg rfl (fun w => ?_) h
 obtain ⟨zv,h1,h2⟩ := Zero.run (P := P) (T := T) w
 show Sem.run P (do pure (Next.value (← Instr.alloc T true (.tuple #[])))) w = _
 simp only [Instr.alloc,newVar,newRow,Sem.run_bind,run_newObj,Sem.run_pure,Result.andThen_ok,h1,h2]
 rfl
theorem o_store {xs vs : List Value} {U k : Nat} {ag : Bool} {R : Obj → Hp} [Ty P T k ag] [ha : Pk b H (cl xs U) R] (hg : okO n all ⟨l,D⟩ ⟨none,.store T x y,ty,pos,af,gd⟩ = true) (hx : ev ⟨l,D⟩ x = .pointer (some ⟨b,off,none⟩)) (hy : (ev ⟨l,D⟩ y).cells = vs.toArray)
  (hl : vs.length = k) (ho : vs.all Value.oneCell' = true) (hb : Nat.ble (off + vs.length) xs.length = true)
  (h : Rg P n all dr Pin K rest ⟨l,D⟩ Z (R (cl (setL xs off vs) U))) : Rg P n all dr Pin K (⟨none,.store T x y,ty,pos,af,gd⟩ :: rest) ⟨l,D⟩ Z H := by
 have hl' : vs.length = k := hl
 have hb' : off + vs.length ≤ xs.length := by simpa [Nat.ble_eq] using hb
 obtain ⟨F0,p1,p2'⟩ := ha.h
 have p2 := p2' (cl (setL xs off vs) U)
 refine o_e (fun v Z₁ H₁ => v = undef ∧ Z₁ = Z ∧ H₁ = R (cl (setL xs off vs) U)) hg rfl (fun w F hs => ?_) ?_
 ·have hs1 : Sat w Z ((b,cl xs U) :: (Pin ++ (F0 ++ F))) := by
   refine hs.perm ?_
   exact ((p1.append_right F).append_left Pin).trans List.perm_middle
  have hw := hs1.own (b,cl xs U) (List.mem_cons_self ..)
  obtain ⟨w',h1,h2,h3,h4⟩ := store_cells (P := P) vs xs off 0 w hw (by simpa using hb') ho
  have hrun : (execOp (ev ⟨l,D⟩) ⟨none,.store T x y,ty,pos,af,gd⟩).run P w = .ok .skip w' := by
   show Sem.run P (do Instr.storeAt T (ev ⟨l,D⟩ x) (ev ⟨l,D⟩ y); pure Next.skip) w = _
   rw [hx]
   have hsz : ¬ vs.toArray.size ≠ k := by simpa using hl'
   simp only [Instr.storeAt,Instr.sureAddr,storeVar,Sem.run_bind,Sem.run_pure,Result.andThen_ok,Ty.size (P := P) (T := T) (n := k) (agg := ag),hy,if_neg hsz,h1]
  unfold RunO
  rw [hrun]
  have hs2 : Sat w' Z ((b,cl (setL xs off vs) U) :: (Pin ++ (F0 ++ F))) := Sat.set hs1 (by simpa using h2) h3
  refine ⟨Z,_,.refl Z,hs2.perm ?_,h4,rfl,rfl,rfl⟩
  exact (((p2.append_right F).append_left Pin).trans List.perm_middle).symm
 ·rintro v Z₁ H₁ _ ⟨rfl,rfl,rfl⟩
  exact h
theorem o_storeS {xs vs ys : List Value} {U k : Nat} {ag : Bool} {R : Obj → Hp} [Ty P T k ag] [ha : Pk b H (cl xs U) R] (hg : okO n all ⟨l,D⟩ ⟨none,.store T x y,ty,pos,af,gd⟩ = true) (hx : ev ⟨l,D⟩ x = .pointer (some ⟨b,off,none⟩)) (hy : (ev ⟨l,D⟩ y).cells = vs.toArray)
  (hl : vs.length = k) (ho : vs.all Value.oneCell' = true) [s : SetS xs off vs ys]
  (h : Rg P n all dr Pin K rest ⟨l,D⟩ Z (R (cl ys U))) : Rg P n all dr Pin K (⟨none,.store T x y,ty,pos,af,gd⟩ :: rest) ⟨l,D⟩ Z H :=
 o_store hg hx hy hl ho (by rw [Nat.ble_eq]; exact s.l) (by rw [s.h]; exact h)
theorem o_store1 {xs ys : List Value} {U : Nat} {R : Obj → Hp} [Ty P T 1 false] [One v] [ha : Pk b H (cl xs U) R] (hg : okO n all ⟨l,D⟩ ⟨none,.store T x y,ty,pos,af,gd⟩ = true) (hx : ev ⟨l,D⟩ x = .pointer (some ⟨b,off,none⟩)) (hy : ev ⟨l,D⟩ y = v)
  [s : SetS xs off [v] ys] (h : Rg P n all dr Pin K rest ⟨l,D⟩ Z (R (cl ys U))) : Rg P n all dr Pin K (⟨none,.store T x y,ty,pos,af,gd⟩ :: rest) ⟨l,D⟩ Z H :=
 o_storeS (vs := [v]) hg hx (by rw [hy]; exact One.h.1) rfl (by simp [One.h (v := v)]) h
theorem o_storeA {xs vs ys : List Value} {U k : Nat} {R : Obj → Hp} [Ty P T k true] [ha : Pk b H (cl xs U) R] (hg : okO n all ⟨l,D⟩ ⟨none,.store T x y,ty,pos,af,gd⟩ = true) (hx : ev ⟨l,D⟩ x = .pointer (some ⟨b,off,none⟩)) (hy : ev ⟨l,D⟩ y = .agg vs.toArray)
  (hl : vs.length = k) (ho : vs.all Value.oneCell' = true) [s : SetS xs off vs ys] (h : Rg P n all dr Pin K rest ⟨l,D⟩ Z (R (cl ys U))) : Rg P n all dr Pin K (⟨none,.store T x y,ty,pos,af,gd⟩ :: rest) ⟨l,D⟩ Z H :=
 o_storeS hg hx (by rw [hy]; rfl) hl ho h
theorem o_call {g : FuncId} {xs : List Operand} {ats : Array TypeId} {args : List Value} {Q : Value → Fz → Hp → Prop} (Hc Hr : Hp) [Ent P g]
  (hg : okO n all ⟨l,D⟩ ⟨some d,.call ⟨.value (.func g),xs.toArray,ats⟩,ty,pos,af,gd⟩ = true) (ht : Tr P g args.toArray Z Hc Q) (ha : xs.map (ev ⟨l,D⟩) = args) (hp : H.Perm (Hc ++ Hr))
  (h : ∀ v Z' H',Fz.le Z Z' → Q v Z' H' → Rg P n all dr Pin K rest ⟨.s d v :: l,D⟩ Z' (H' ++ Hr)) : Rg P n all dr Pin K (⟨some d,.call ⟨.value (.func g),xs.toArray,ats⟩,ty,pos,af,gd⟩ :: rest) ⟨l,D⟩ Z H := by
 refine o_e (fun v Z₁ H₁ => ∃ H',H₁ = H' ++ Hr ∧ Q v Z₁ H') hg rfl (fun w F hs => ?_) ?_
 ·have hrun : (execOp (ev ⟨l,D⟩) ⟨some d,.call ⟨.value (.func g),xs.toArray,ats⟩,ty,pos,af,gd⟩).run P w = .ok (.enter g args.toArray) w := by
   show Sem.run P (do let d ← resolve (ev ⟨l,D⟩) ⟨.value (.func g),xs.toArray,ats⟩ ty; invoke d.target d.args) w = _
   simp only [resolve,ev,Deferred.ofValue,invoke,Sem.run_bind,Sem.run_pure,Result.andThen_ok,List.map_toArray,ha,Array.empty_append,Array.append_empty,Ent.run]
  unfold RunO
  rw [hrun]
  have e1 : (Pin ++ (H ++ F)).Perm (Hc ++ (Hr ++ F ++ Pin)) := by
   refine ((hp.append_right F).append_left Pin).trans ?_
   rw [List.append_assoc,List.append_assoc]
   exact List.perm_append_comm.trans (by simp only [List.append_assoc]; exact .refl _)
  refine Calls.mono (ht w _ (hs.perm e1)) ?_
  rintro e w' ⟨v,he,Z',H',hz,hs',hst,hq⟩
  refine ⟨v,he,Z',H' ++ Hr,hz,hs'.perm ?_,hst,H',rfl,hq⟩
  have e2 : (H' ++ (Hr ++ F ++ Pin)).Perm (Pin ++ (H' ++ Hr ++ F)) := by
   refine List.Perm.trans ?_ List.perm_append_comm
   simp only [List.append_assoc]
   exact .refl _
  exact e2
 ·rintro v Z₁ H₁ hz ⟨H',rfl,hq⟩
  exact h v Z₁ H' hz hq
theorem o_ext {g : FuncId} {xs : List Operand} {ats : Array TypeId} {args : List Value}
  (hg : okO n all ⟨l,D⟩ ⟨some d,.call ⟨.value (.func g),xs.toArray,ats⟩,ty,pos,af,gd⟩ = true) (hv : ∀ w,(callFunc g args.toArray).run P w = .ok (.value v) w) (ha : xs.map (ev ⟨l,D⟩) = args)
  (h : Rg P n all dr Pin K rest ⟨.s d v :: l,D⟩ Z H) : Rg P n all dr Pin K (⟨some d,.call ⟨.value (.func g),xs.toArray,ats⟩,ty,pos,af,gd⟩ :: rest) ⟨l,D⟩ Z H := by
 refine o_e (fun v' Z₁ H₁ => v' = v ∧ Z₁ = Z ∧ H₁ = H) hg rfl (fun w F hs => ?_) ?_
 ·have hrun : (execOp (ev ⟨l,D⟩) ⟨some d,.call ⟨.value (.func g),xs.toArray,ats⟩,ty,pos,af,gd⟩).run P w = .ok (.value v) w := by
   show Sem.run P (do let d ← resolve (ev ⟨l,D⟩) ⟨.value (.func g),xs.toArray,ats⟩ ty; invoke d.target d.args) w = _
   simp only [resolve,ev,Deferred.ofValue,invoke,Sem.run_bind,Sem.run_pure,Result.andThen_ok,List.map_toArray,ha,Array.empty_append,Array.append_empty,hv]
  unfold RunO
  rw [hrun]
  exact ⟨Z,H,.refl Z,hs,.refl w,rfl,rfl,rfl⟩
 ·rintro v' Z₁ H₁ _ ⟨rfl,rfl,rfl⟩
  exact h
theorem o_lenS {a : Option Addr} {k c : Nat} {T : TypeId} {e : TypeId} [Und P T (.slice e)] (hg : okO n all ⟨l,D⟩ ⟨some d,.call ⟨.builtin .len,#[x],#[T]⟩,ty,pos,af,gd⟩ = true) (hx : ev ⟨l,D⟩ x = .slice a k c)
  (h : Rg P n all dr Pin K rest ⟨.s d (.int .i64 k) :: l,D⟩ Z H) : Rg P n all dr Pin K (⟨some d,.call ⟨.builtin .len,#[x],#[T]⟩,ty,pos,af,gd⟩ :: rest) ⟨l,D⟩ Z H := by
 refine o_p hg rfl (fun w _ => ?_) h
 show Sem.run P (do let d ← resolve (ev ⟨l,D⟩) ⟨.builtin .len,#[x],#[T]⟩ ty; invoke d.target d.args) w = _
 simp only [resolve,invoke,builtin,Builtin.len_,Sem.run_bind,Sem.run_pure,Result.andThen_ok,hx,List.map_toArray,List.map_cons,List.map_nil]
 simp [Und.run (P := P) (T := T),goInt]
theorem o_bin {op : BinOp} {T' : TypeId} (hg : okO n all ⟨l,D⟩ ⟨some d,.binOp op T x y T',ty,pos,af,gd⟩ = true)
  (hr : ∀ w,True → (do eqGuard op T x y (ev ⟨l,D⟩ x) (ev ⟨l,D⟩ y); binOp op T (ev ⟨l,D⟩ x) (ev ⟨l,D⟩ y) : Sem Value).run P w = .ok v w)
  (h : Rg P n all dr Pin K rest ⟨.s d v :: l,D⟩ Z H) : Rg P n all dr Pin K (⟨some d,.binOp op T x y T',ty,pos,af,gd⟩ :: rest) ⟨l,D⟩ Z H := by
 simp only [okO,Bool.and_eq_true] at hg
 refine .pure hg.1 hg.2 (fun _ => rfl) (fun w _ => ?_) h
 show Sem.run P (do pure (Next.value (← (do eqGuard op T x y (ev ⟨l,D⟩ x) (ev ⟨l,D⟩ y); binOp op T (ev ⟨l,D⟩ x) (ev ⟨l,D⟩ y) : Sem Value)))) w = _
 simp only [Sem.run_bind (x := (do eqGuard op T x y (ev ⟨l,D⟩ x) (ev ⟨l,D⟩ y); binOp op T (ev ⟨l,D⟩ x) (ev ⟨l,D⟩ y) : Sem Value)),hr w trivial]
 rfl
theorem o_lss {k : IntKind} {a c : Int} {r : Bool} {T' : TypeId} (hg : okO n all ⟨l,D⟩ ⟨some d,.binOp .lss T x y T',ty,pos,af,gd⟩ = true) (hx : ev ⟨l,D⟩ x = .int k a) (hy : ev ⟨l,D⟩ y = .int k c) (hr : decide (a < c) = r)
  (h : Rg P n all dr Pin K rest ⟨.s d (.bool r) :: l,D⟩ Z H) : Rg P n all dr Pin K (⟨some d,.binOp .lss T x y T',ty,pos,af,gd⟩ :: rest) ⟨l,D⟩ Z H := by
 subst hr
 refine o_bin hg (fun w _ => ?_) h
 rw [hx,hy]
 simp [eqGuard,binOp,Op.intCmp]
theorem o_leq {k : IntKind} {a c : Int} {r : Bool} {T' : TypeId} (hg : okO n all ⟨l,D⟩ ⟨some d,.binOp .leq T x y T',ty,pos,af,gd⟩ = true) (hx : ev ⟨l,D⟩ x = .int k a) (hy : ev ⟨l,D⟩ y = .int k c) (hr : decide (a ≤ c) = r)
  (h : Rg P n all dr Pin K rest ⟨.s d (.bool r) :: l,D⟩ Z H) : Rg P n all dr Pin K (⟨some d,.binOp .leq T x y T',ty,pos,af,gd⟩ :: rest) ⟨l,D⟩ Z H := by
 subst hr
 refine o_bin hg (fun w _ => ?_) h
 rw [hx,hy]
 simp [eqGuard,binOp,Op.intCmp]
theorem o_gtr {k : IntKind} {a c : Int} {r : Bool} {T' : TypeId} (hg : okO n all ⟨l,D⟩ ⟨some d,.binOp .gtr T x y T',ty,pos,af,gd⟩ = true) (hx : ev ⟨l,D⟩ x = .int k a) (hy : ev ⟨l,D⟩ y = .int k c) (hr : decide (c < a) = r)
  (h : Rg P n all dr Pin K rest ⟨.s d (.bool r) :: l,D⟩ Z H) : Rg P n all dr Pin K (⟨some d,.binOp .gtr T x y T',ty,pos,af,gd⟩ :: rest) ⟨l,D⟩ Z H := by
 subst hr
 refine o_bin hg (fun w _ => ?_) h
 rw [hx,hy]
 simp [eqGuard,binOp,Op.intCmp]
theorem o_geq {k : IntKind} {a c : Int} {r : Bool} {T' : TypeId} (hg : okO n all ⟨l,D⟩ ⟨some d,.binOp .geq T x y T',ty,pos,af,gd⟩ = true) (hx : ev ⟨l,D⟩ x = .int k a) (hy : ev ⟨l,D⟩ y = .int k c) (hr : decide (c ≤ a) = r)
  (h : Rg P n all dr Pin K rest ⟨.s d (.bool r) :: l,D⟩ Z H) : Rg P n all dr Pin K (⟨some d,.binOp .geq T x y T',ty,pos,af,gd⟩ :: rest) ⟨l,D⟩ Z H := by
 subst hr
 refine o_bin hg (fun w _ => ?_) h
 rw [hx,hy]
 simp [eqGuard,binOp,Op.intCmp]
theorem o_eqi {k : IntKind} {a c : Int} {r : Bool} {T' : TypeId} (hg : okO n all ⟨l,D⟩ ⟨some d,.binOp .eql T x y T',ty,pos,af,gd⟩ = true) (hx : ev ⟨l,D⟩ x = .int k a) (hy : ev ⟨l,D⟩ y = .int k c) (hr : decide (a = c) = r)
  (h : Rg P n all dr Pin K rest ⟨.s d (.bool r) :: l,D⟩ Z H) : Rg P n all dr Pin K (⟨some d,.binOp .eql T x y T',ty,pos,af,gd⟩ :: rest) ⟨l,D⟩ Z H := by
 subst hr
 refine o_bin hg (fun w _ => ?_) h
 rw [hx,hy]
 by_cases e : a = c <;> simp [eqGuard,binOp,Op.intCmp,e]
theorem o_nei {k : IntKind} {a c : Int} {r : Bool} {T' : TypeId} (hg : okO n all ⟨l,D⟩ ⟨some d,.binOp .neq T x y T',ty,pos,af,gd⟩ = true) (hx : ev ⟨l,D⟩ x = .int k a) (hy : ev ⟨l,D⟩ y = .int k c) (hr : decide (a ≠ c) = r)
  (h : Rg P n all dr Pin K rest ⟨.s d (.bool r) :: l,D⟩ Z H) : Rg P n all dr Pin K (⟨some d,.binOp .neq T x y T',ty,pos,af,gd⟩ :: rest) ⟨l,D⟩ Z H := by
 subst hr
 refine o_bin hg (fun w _ => ?_) h
 rw [hx,hy]
 by_cases e : a = c <;> simp [eqGuard,binOp,Op.intCmp,e,bne]
theorem wrap_in {m : Int} (h1 : -9223372036854775808 ≤ m) (h2 : m ≤ 9223372036854775807) : IntKind.i64.wrap m = m := IntWalk.i64_in m ⟨h1,h2⟩
theorem o_add {a c : Int} {T' : TypeId} (hg : okO n all ⟨l,D⟩ ⟨some d,.binOp .add T x y T',ty,pos,af,gd⟩ = true) (hx : ev ⟨l,D⟩ x = .int .i64 a) (hy : ev ⟨l,D⟩ y = .int .i64 c) (h1 : -9223372036854775808 ≤ a + c) (h2 : a + c ≤ 9223372036854775807)
  (h : Rg P n all dr Pin K rest ⟨.s d (.int .i64 (a + c)) :: l,D⟩ Z H) : Rg P n all dr Pin K (⟨some d,.binOp .add T x y T',ty,pos,af,gd⟩ :: rest) ⟨l,D⟩ Z H := by
 refine o_bin hg (fun w _ => ?_) h
 rw [hx,hy]
 simp [eqGuard,binOp,Op.intArith,wrap_in h1 h2]
theorem o_sub {a c : Int} {T' : TypeId} (hg : okO n all ⟨l,D⟩ ⟨some d,.binOp .sub T x y T',ty,pos,af,gd⟩ = true) (hx : ev ⟨l,D⟩ x = .int .i64 a) (hy : ev ⟨l,D⟩ y = .int .i64 c) (h1 : -9223372036854775808 ≤ a - c) (h2 : a - c ≤ 9223372036854775807)
  (h : Rg P n all dr Pin K rest ⟨.s d (.int .i64 (a - c)) :: l,D⟩ Z H) : Rg P n all dr Pin K (⟨some d,.binOp .sub T x y T',ty,pos,af,gd⟩ :: rest) ⟨l,D⟩ Z H := by
 refine o_bin hg (fun w _ => ?_) h
 rw [hx,hy]
 simp [eqGuard,binOp,Op.intArith,wrap_in h1 h2]
theorem bytes_eq {s t : ByteArray} : (s.toList == t.toList) = decide (s = t) := by
 rw [ByteArray.toList_eq,ByteArray.toList_eq]
 by_cases e : s = t
 ·subst e; simp
 ·have : s.data.toList ≠ t.data.toList := fun hh => e (ByteArray.ext (Array.toList_inj.1 hh))
  rw [decide_eq_false e]
  exact beq_false_of_ne this
theorem o_eqs {s t : ByteArray} {r : Bool} {T' : TypeId} (hg : okO n all ⟨l,D⟩ ⟨some d,.binOp .eql T x y T',ty,pos,af,gd⟩ = true) (hx : ev ⟨l,D⟩ x = .string s) (hy : ev ⟨l,D⟩ y = .string t) (hr : decide (s = t) = r)
  (h : Rg P n all dr Pin K rest ⟨.s d (.bool r) :: l,D⟩ Z H) : Rg P n all dr Pin K (⟨some d,.binOp .eql T x y T',ty,pos,af,gd⟩ :: rest) ⟨l,D⟩ Z H := by
 subst hr
 refine o_bin hg (fun w _ => ?_) h
 rw [hx,hy]
 simp [eqGuard,binOp,Op.stringOp,← bytes_eq]
theorem o_nes {s t : ByteArray} {r : Bool} {T' : TypeId} (hg : okO n all ⟨l,D⟩ ⟨some d,.binOp .neq T x y T',ty,pos,af,gd⟩ = true) (hx : ev ⟨l,D⟩ x = .string s) (hy : ev ⟨l,D⟩ y = .string t) (hr : decide (s ≠ t) = r)
  (h : Rg P n all dr Pin K rest ⟨.s d (.bool r) :: l,D⟩ Z H) : Rg P n all dr Pin K (⟨some d,.binOp .neq T x y T',ty,pos,af,gd⟩ :: rest) ⟨l,D⟩ Z H := by
 subst hr
 refine o_bin hg (fun w _ => ?_) h
 rw [hx,hy]
 have : (!(s.toList == t.toList)) = decide (s ≠ t) := by rw [bytes_eq]; by_cases e : s = t <;> simp [e]
 simp only [eqGuard,binOp,Op.stringOp,Sem.run_bind]
 rw [this]
 rfl
theorem o_eqn {op : BinOp} {u : Value} {r : Bool} {T' : TypeId} (hg : okO n all ⟨l,D⟩ ⟨some d,.binOp op T x (.const u) T',ty,pos,af,gd⟩ = true) (hx : ev ⟨l,D⟩ x = v)
  (hr : ∀ w,(do eqGuard op T x (.const u) v u; binOp op T v u : Sem Value).run P w = .ok (.bool r) w)
  (h : Rg P n all dr Pin K rest ⟨.s d (.bool r) :: l,D⟩ Z H) : Rg P n all dr Pin K (⟨some d,.binOp op T x (.const u) T',ty,pos,af,gd⟩ :: rest) ⟨l,D⟩ Z H := by
 refine o_bin hg (fun w _ => ?_) h
 subst hx
 exact hr w
end
end Go.Ux
namespace Go.Ux
open Go
variable {P : Program}
class NilP (P : Program) (T : Nat) : Prop where
 eql : ∀ (a : Addr) (t : Tmp) w,(do eqGuard .eql T (.tmp t) (.const (.pointer none)) (.pointer (some a)) (.pointer none); binOp .eql T (.pointer (some a)) (.pointer none) : Sem Value).run P w = .ok (.bool false) w
 eql0 : ∀ (t : Tmp) w,(do eqGuard .eql T (.tmp t) (.const (.pointer none)) (.pointer none) (.pointer none); binOp .eql T (.pointer none) (.pointer none) : Sem Value).run P w = .ok (.bool true) w
 neq : ∀ (a : Addr) (t : Tmp) w,(do eqGuard .neq T (.tmp t) (.const (.pointer none)) (.pointer (some a)) (.pointer none); binOp .neq T (.pointer (some a)) (.pointer none) : Sem Value).run P w = .ok (.bool true) w
 neq0 : ∀ (t : Tmp) w,(do eqGuard .neq T (.tmp t) (.const (.pointer none)) (.pointer none) (.pointer none); binOp .neq T (.pointer none) (.pointer none) : Sem Value).run P w = .ok (.bool false) w
class NilM (P : Program) (T : Nat) : Prop where
 eql : ∀ (a : Nat) (t : Tmp) w,(do eqGuard .eql T (.tmp t) (.const (.map none)) (.map (some a)) (.map none); binOp .eql T (.map (some a)) (.map none) : Sem Value).run P w = .ok (.bool false) w
 eql0 : ∀ (t : Tmp) w,(do eqGuard .eql T (.tmp t) (.const (.map none)) (.map none) (.map none); binOp .eql T (.map none) (.map none) : Sem Value).run P w = .ok (.bool true) w
 neq : ∀ (a : Nat) (t : Tmp) w,(do eqGuard .neq T (.tmp t) (.const (.map none)) (.map (some a)) (.map none); binOp .neq T (.map (some a)) (.map none) : Sem Value).run P w = .ok (.bool true) w
 neq0 : ∀ (t : Tmp) w,(do eqGuard .neq T (.tmp t) (.const (.map none)) (.map none) (.map none); binOp .neq T (.map none) (.map none) : Sem Value).run P w = .ok (.bool false) w
class NilS (P : Program) (T : Nat) : Prop where
 eql : ∀ (a : Addr) (k c : Nat) (t : Tmp) w,(do eqGuard .eql T (.tmp t) (.const (.slice none 0 0)) (.slice (some a) k c) (.slice none 0 0); binOp .eql T (.slice (some a) k c) (.slice none 0 0) : Sem Value).run P w = .ok (.bool false) w
 eql0 : ∀ (t : Tmp) w,(do eqGuard .eql T (.tmp t) (.const (.slice none 0 0)) (.slice none 0 0) (.slice none 0 0); binOp .eql T (.slice none 0 0) (.slice none 0 0) : Sem Value).run P w = .ok (.bool true) w
 neq : ∀ (a : Addr) (k c : Nat) (t : Tmp) w,(do eqGuard .neq T (.tmp t) (.const (.slice none 0 0)) (.slice (some a) k c) (.slice none 0 0); binOp .neq T (.slice (some a) k c) (.slice none 0 0) : Sem Value).run P w = .ok (.bool true) w
 neq0 : ∀ (t : Tmp) w,(do eqGuard .neq T (.tmp t) (.const (.slice none 0 0)) (.slice none 0 0) (.slice none 0 0); binOp .neq T (.slice none 0 0) (.slice none 0 0) : Sem Value).run P w = .ok (.bool false) w
class NilI (P : Program) (T : Nat) : Prop where
 eql : ∀ (a : Nat) (v : Value) (t : Tmp) w,(do eqGuard .eql T (.tmp t) (.const (.nilIface)) (.iface a v) (.nilIface); binOp .eql T (.iface a v) (.nilIface) : Sem Value).run P w = .ok (.bool false) w
 eql0 : ∀ (t : Tmp) w,(do eqGuard .eql T (.tmp t) (.const (.nilIface)) (.nilIface) (.nilIface); binOp .eql T (.nilIface) (.nilIface) : Sem Value).run P w = .ok (.bool true) w
 neq : ∀ (a : Nat) (v : Value) (t : Tmp) w,(do eqGuard .neq T (.tmp t) (.const (.nilIface)) (.iface a v) (.nilIface); binOp .neq T (.iface a v) (.nilIface) : Sem Value).run P w = .ok (.bool true) w
 neq0 : ∀ (t : Tmp) w,(do eqGuard .neq T (.tmp t) (.const (.nilIface)) (.nilIface) (.nilIface); binOp .neq T (.nilIface) (.nilIface) : Sem Value).run P w = .ok (.bool false) w
section
variable {n : Nat} {all : Array Oper} {dr : Bool} {Pin : Hp} {K : Fr → Fz → Hp → Prop} {rest : List Oper} {l : List Lay} {D : List Deferred} {Z : Fz} {H : Hp}
variable {d t : Tmp} {ty T T' : TypeId} {pos : String} {af : Array Edge} {gd : Option (Nat × Bool)} {v : Value}
theorem o_eqlP [NilP P T] {a : Addr} (hg : okO n all ⟨l,D⟩ ⟨some d,.binOp .eql T (.tmp t) (.const (.pointer none)) T',ty,pos,af,gd⟩ = true) (hx : ev ⟨l,D⟩ (.tmp t) = .pointer (some a)) (h : Rg P n all dr Pin K rest ⟨.s d (.bool false) :: l,D⟩ Z H) :
  Rg P n all dr Pin K (⟨some d,.binOp .eql T (.tmp t) (.const (.pointer none)) T',ty,pos,af,gd⟩ :: rest) ⟨l,D⟩ Z H := o_eqn hg hx (NilP.eql a t) h
theorem o_eqlP0 [NilP P T] (hg : okO n all ⟨l,D⟩ ⟨some d,.binOp .eql T (.tmp t) (.const (.pointer none)) T',ty,pos,af,gd⟩ = true) (hx : ev ⟨l,D⟩ (.tmp t) = .pointer none) (h : Rg P n all dr Pin K rest ⟨.s d (.bool true) :: l,D⟩ Z H) :
  Rg P n all dr Pin K (⟨some d,.binOp .eql T (.tmp t) (.const (.pointer none)) T',ty,pos,af,gd⟩ :: rest) ⟨l,D⟩ Z H := o_eqn hg hx (NilP.eql0 t) h
theorem o_neqP [NilP P T] {a : Addr} (hg : okO n all ⟨l,D⟩ ⟨some d,.binOp .neq T (.tmp t) (.const (.pointer none)) T',ty,pos,af,gd⟩ = true) (hx : ev ⟨l,D⟩ (.tmp t) = .pointer (some a)) (h : Rg P n all dr Pin K rest ⟨.s d (.bool true) :: l,D⟩ Z H) :
  Rg P n all dr Pin K (⟨some d,.binOp .neq T (.tmp t) (.const (.pointer none)) T',ty,pos,af,gd⟩ :: rest) ⟨l,D⟩ Z H := o_eqn hg hx (NilP.neq a t) h
theorem o_neqP0 [NilP P T] (hg : okO n all ⟨l,D⟩ ⟨some d,.binOp .neq T (.tmp t) (.const (.pointer none)) T',ty,pos,af,gd⟩ = true) (hx : ev ⟨l,D⟩ (.tmp t) = .pointer none) (h : Rg P n all dr Pin K rest ⟨.s d (.bool false) :: l,D⟩ Z H) :
  Rg P n all dr Pin K (⟨some d,.binOp .neq T (.tmp t) (.const (.pointer none)) T',ty,pos,af,gd⟩ :: rest) ⟨l,D⟩ Z H := o_eqn hg hx (NilP.neq0 t) h
theorem o_eqlM [NilM P T] {a : Nat} (hg : okO n all ⟨l,D⟩ ⟨some d,.binOp .eql T (.tmp t) (.const (.map none)) T',ty,pos,af,gd⟩ = true) (hx : ev ⟨l,D⟩ (.tmp t) = .map (some a)) (h : Rg P n all dr Pin K rest ⟨.s d (.bool false) :: l,D⟩ Z H) :
  Rg P n all dr Pin K (⟨some d,.binOp .eql T (.tmp t) (.const (.map none)) T',ty,pos,af,gd⟩ :: rest) ⟨l,D⟩ Z H := o_eqn hg hx (NilM.eql a t) h
theorem o_eqlM0 [NilM P T] (hg : okO n all ⟨l,D⟩ ⟨some d,.binOp .eql T (.tmp t) (.const (.map none)) T',ty,pos,af,gd⟩ = true) (hx : ev ⟨l,D⟩ (.tmp t) = .map none) (h : Rg P n all dr Pin K rest ⟨.s d (.bool true) :: l,D⟩ Z H) :
  Rg P n all dr Pin K (⟨some d,.binOp .eql T (.tmp t) (.const (.map none)) T',ty,pos,af,gd⟩ :: rest) ⟨l,D⟩ Z H := o_eqn hg hx (NilM.eql0 t) h
theorem o_neqM [NilM P T] {a : Nat} (hg : okO n all ⟨l,D⟩ ⟨some d,.binOp .neq T (.tmp t) (.const (.map none)) T',ty,pos,af,gd⟩ = true) (hx : ev ⟨l,D⟩ (.tmp t) = .map (some a)) (h : Rg P n all dr Pin K rest ⟨.s d (.bool true) :: l,D⟩ Z H) :
  Rg P n all dr Pin K (⟨some d,.binOp .neq T (.tmp t) (.const (.map none)) T',ty,pos,af,gd⟩ :: rest) ⟨l,D⟩ Z H := o_eqn hg hx (NilM.neq a t) h
theorem o_neqM0 [NilM P T] (hg : okO n all ⟨l,D⟩ ⟨some d,.binOp .neq T (.tmp t) (.const (.map none)) T',ty,pos,af,gd⟩ = true) (hx : ev ⟨l,D⟩ (.tmp t) = .map none) (h : Rg P n all dr Pin K rest ⟨.s d (.bool false) :: l,D⟩ Z H) :
  Rg P n all dr Pin K (⟨some d,.binOp .neq T (.tmp t) (.const (.map none)) T',ty,pos,af,gd⟩ :: rest) ⟨l,D⟩ Z H := o_eqn hg hx (NilM.neq0 t) h
theorem o_eqlS [NilS P T] {a : Addr} {k c : Nat} (hg : okO n all ⟨l,D⟩ ⟨some d,.binOp .eql T (.tmp t) (.const (.slice none 0 0)) T',ty,pos,af,gd⟩ = true) (hx : ev ⟨l,D⟩ (.tmp t) = .slice (some a) k c) (h : Rg P n all dr Pin K rest ⟨.s d (.bool false) :: l,D⟩ Z H) :
  Rg P n all dr Pin K (⟨some d,.binOp .eql T (.tmp t) (.const (.slice none 0 0)) T',ty,pos,af,gd⟩ :: rest) ⟨l,D⟩ Z H := o_eqn hg hx (NilS.eql a k c t) h
theorem o_eqlS0 [NilS P T] (hg : okO n all ⟨l,D⟩ ⟨some d,.binOp .eql T (.tmp t) (.const (.slice none 0 0)) T',ty,pos,af,gd⟩ = true) (hx : ev ⟨l,D⟩ (.tmp t) = .slice none 0 0) (h : Rg P n all dr Pin K rest ⟨.s d (.bool true) :: l,D⟩ Z H) :
  Rg P n all dr Pin K (⟨some d,.binOp .eql T (.tmp t) (.const (.slice none 0 0)) T',ty,pos,af,gd⟩ :: rest) ⟨l,D⟩ Z H := o_eqn hg hx (NilS.eql0 t) h
theorem o_neqS [NilS P T] {a : Addr} {k c : Nat} (hg : okO n all ⟨l,D⟩ ⟨some d,.binOp .neq T (.tmp t) (.const (.slice none 0 0)) T',ty,pos,af,gd⟩ = true) (hx : ev ⟨l,D⟩ (.tmp t) = .slice (some a) k c) (h : Rg P n all dr Pin K rest ⟨.s d (.bool true) :: l,D⟩ Z H) :
  Rg P n all dr Pin K (⟨some d,.binOp .neq T (.tmp t) (.const (.slice none 0 0)) T',ty,pos,af,gd⟩ :: rest) ⟨l,D⟩ Z H := o_eqn hg hx (NilS.neq a k c t) h
theorem o_neqS0 [NilS P T] (hg : okO n all ⟨l,D⟩ ⟨some d,.binOp .neq T (.tmp t) (.const (.slice none 0 0)) T',ty,pos,af,gd⟩ = true) (hx : ev ⟨l,D⟩ (.tmp t) = .slice none 0 0) (h : Rg P n all dr Pin K rest ⟨.s d (.bool false) :: l,D⟩ Z H) :
  Rg P n all dr Pin K (⟨some d,.binOp .neq T (.tmp t) (.const (.slice none 0 0)) T',ty,pos,af,gd⟩ :: rest) ⟨l,D⟩ Z H := o_eqn hg hx (NilS.neq0 t) h
theorem o_eqlI [NilI P T] {a : Nat} (hg : okO n all ⟨l,D⟩ ⟨some d,.binOp .eql T (.tmp t) (.const (.nilIface)) T',ty,pos,af,gd⟩ = true) (hx : ev ⟨l,D⟩ (.tmp t) = .iface a v) (h : Rg P n all dr Pin K rest ⟨.s d (.bool false) :: l,D⟩ Z H) :
  Rg P n all dr Pin K (⟨some d,.binOp .eql T (.tmp t) (.const (.nilIface)) T',ty,pos,af,gd⟩ :: rest) ⟨l,D⟩ Z H := o_eqn hg hx (NilI.eql a v t) h
theorem o_eqlI0 [NilI P T] (hg : okO n all ⟨l,D⟩ ⟨some d,.binOp .eql T (.tmp t) (.const (.nilIface)) T',ty,pos,af,gd⟩ = true) (hx : ev ⟨l,D⟩ (.tmp t) = .nilIface) (h : Rg P n all dr Pin K rest ⟨.s d (.bool true) :: l,D⟩ Z H) :
  Rg P n all dr Pin K (⟨some d,.binOp .eql T (.tmp t) (.const (.nilIface)) T',ty,pos,af,gd⟩ :: rest) ⟨l,D⟩ Z H := o_eqn hg hx (NilI.eql0 t) h
theorem o_neqI [NilI P T] {a : Nat} (hg : okO n all ⟨l,D⟩ ⟨some d,.binOp .neq T (.tmp t) (.const (.nilIface)) T',ty,pos,af,gd⟩ = true) (hx : ev ⟨l,D⟩ (.tmp t) = .iface a v) (h : Rg P n all dr Pin K rest ⟨.s d (.bool true) :: l,D⟩ Z H) :
  Rg P n all dr Pin K (⟨some d,.binOp .neq T (.tmp t) (.const (.nilIface)) T',ty,pos,af,gd⟩ :: rest) ⟨l,D⟩ Z H := o_eqn hg hx (NilI.neq a v t) h
theorem o_neqI0 [NilI P T] (hg : okO n all ⟨l,D⟩ ⟨some d,.binOp .neq T (.tmp t) (.const (.nilIface)) T',ty,pos,af,gd⟩ = true) (hx : ev ⟨l,D⟩ (.tmp t) = .nilIface) (h : Rg P n all dr Pin K rest ⟨.s d (.bool false) :: l,D⟩ Z H) :
  Rg P n all dr Pin K (⟨some d,.binOp .neq T (.tmp t) (.const (.nilIface)) T',ty,pos,af,gd⟩ :: rest) ⟨l,D⟩ Z H := o_eqn hg hx (NilI.neq0 t) h
end
end Go.Ux
namespace Go.Ux
open Go
variable {P : Program}
def fillL (pl : List (Nat × Nat)) : List Value → List (Nat × Value) → Option (List Value)
 | xs,[] => some xs
 | xs,(i,v) :: r => match pl[i]? with
  | none => none
  | some (off,size) => bif Nat.beq v.cells.size size && Nat.ble (off + v.cells.size) xs.length then fillL pl (setL xs off v.cells.toList) r else none
theorem foldl_set : ∀ (vs : List Value) (off k : Nat) (xs : List Value),
  (vs.zipIdx k).foldl (fun (cs : Array Value) (p : Value × Nat) => cs.setIfInBounds (off + p.2) p.1) xs.toArray = (setL xs (off + k) vs).toArray
 | [],_,_,_ => rfl
 | v :: vs,off,k,xs => by
  rw [List.zipIdx_cons,List.foldl_cons,List.setIfInBounds_toArray,foldl_set vs off (k + 1)]
  rfl
theorem fold_cells (cs : Array Value) (off : Nat) (xs : List Value) :
  cs.zipIdx.foldl (fun (ys : Array Value) (p : Value × Nat) => ys.setIfInBounds (off + p.2) p.1) xs.toArray = (setL xs off cs.toList).toArray := by
 rw [← Array.foldl_toList,Array.toList_zipIdx]
 exact foldl_set cs.toList off 0 xs
theorem setL_all : ∀ (vs pre xs : List Value),xs.length = vs.length → setL (pre ++ xs) pre.length vs = pre ++ vs
 | [],pre,xs,h => by
  have : xs = [] := List.length_eq_zero_iff.1 h
  subst this; rfl
 | v :: vs,pre,x :: xs,h => by
  simp only [setL]
  have e : (pre ++ x :: xs).set pre.length v = (pre ++ [v]) ++ xs := by simp
  rw [e]
  have := setL_all vs (pre ++ [v]) xs (by simpa using h)
  simp only [List.length_append,List.length_cons,List.length_nil,Nat.zero_add,List.append_assoc,List.cons_append,List.nil_append] at this
  simpa using this
theorem fill_fillL {pl : List (Nat × Nat)} {place : Nat → Option (Nat × Nat)} (hp : ∀ i,place i = pl[i]?) : ∀ (parts : List (Nat × Value)) (xs ys : List Value),fillL pl xs parts = some ys → Instr.fill place xs.toArray parts = some ys.toArray
 | [],xs,ys,h => by simp only [fillL,Option.some.injEq] at h; subst h; rfl
 | (i,v) :: r,xs,ys,h => by
  simp only [fillL] at h
  simp only [Instr.fill,hp]
  cases e : pl[i]? with
  | none => simp [e] at h
  | some q =>
   obtain ⟨off,size⟩ := q
   simp only [e] at h
   cases hb : (Nat.beq v.cells.size size && Nat.ble (off + v.cells.size) xs.length) with
   | false => simp [hb] at h
   | true =>
    simp only [hb,cond_true] at h
    simp only [Bool.and_eq_true,Nat.ble_eq] at hb
    have h1 : v.cells.size = size := Nat.eq_of_beq_eq_true hb.1
    have h2 : ¬ (off + v.cells.size > xs.toArray.size) := by simp; omega
    have e1 : (decide (v.cells.size ≠ size) || decide (off + v.cells.size > xs.toArray.size)) = false := by
     simp only [Bool.or_eq_false_iff,decide_eq_false_iff_not]
     exact ⟨fun hh => hh h1,h2⟩
    simp only [ne_eq,gt_iff_lt] at e1 ⊢
    rw [e1]
    simp only [Bool.false_eq_true,if_false]
    rw [fold_cells]
    exact fill_fillL hp r _ ys h
def flds (P : Program) (T : Nat) : List Field := match P.underlying T with
 | some (.struct fs) => fs.toList
 | _ => []
class Bld (P : Program) (T : Nat) (pl : outParam (List (Nat × Nat))) (zs : outParam (List Value)) : Prop where
 u : ∀ w,(underlying T).run P w = .ok (.struct (flds P T).toArray) w
 s : ∀ w,((flds P T).mapM (fun (f : Field) => do pure (f.offset,← sizeOf f.type) : Field → Sem (Nat × Nat))).run P w = .ok pl w
 z : ∀ w,∃ v,(zeroValue T).run P w = .ok v w ∧ v.cells = zs.toArray
theorem Bld.run {T : Nat} {pl : List (Nat × Nat)} {zs : List Value} [Bld P T pl zs] (parts : Array (Nat × Value)) (w : World) :
  (Instr.build T parts).run P w = Sem.run P (match Instr.fill (fun i => (pl.toArray)[i]?) zs.toArray parts.toList with | some cells => pure (.agg cells) | none => stuck "build: no such field, or a part of the wrong size" : Sem Value) w := by
 obtain ⟨v,h1,h2⟩ := Bld.z (P := P) (T := T) w
 simp only [Instr.build,Sem.run_bind,h1,Result.andThen_ok,Bld.u (P := P) (T := T),List.mapM_toArray,Sem.run_map,Bld.s (P := P) (T := T),h2]
 cases Instr.fill (fun x => pl.toArray[x]?) zs.toArray parts.toList <;> rfl
inductive FillR (f : Fr) (pl : List (Nat × Nat)) : List Value → List (Nat × Operand) → List Value → Prop
 | nil {xs : List Value} : FillR f pl xs [] xs
 | one {xs xs' ys : List Value} {v : Value} {i off : Nat} {x : Operand} {r : List (Nat × Operand)} (hp : pl[i]? = some (off,1)) (hv : ev f x = v) (o : One v) (s : SetS xs off [v] xs') (h : FillR f pl xs' r ys) : FillR f pl xs ((i,x) :: r) ys
 | agg {xs xs' ys vs : List Value} {i off size : Nat} {x : Operand} {r : List (Nat × Operand)} (hp : pl[i]? = some (off,size)) (hv : ev f x = .agg vs.toArray) (hs : Nat.beq vs.length size = true) (s : SetS xs off vs xs') (h : FillR f pl xs' r ys) : FillR f pl xs ((i,x) :: r) ys
theorem FillR.fill {f : Fr} {pl : List (Nat × Nat)} {xs ys : List Value} {r : List (Nat × Operand)} (h : FillR f pl xs r ys) : fillL pl xs (r.map fun p => (p.1,ev f p.2)) = some ys := by
 induction h with
 | nil => rfl
 | @one xs xs' ys v i off x r hp hv o s h ih =>
  have e : Nat.ble (off + 1) xs.length = true := by rw [Nat.ble_eq]; exact s.l
  have e2 := o.h.1
  simp only [List.map_cons,fillL,hp,hv,e2,List.size_toArray,List.length_cons,List.length_nil,e]
  simp only [Nat.zero_add,Bool.and_true]
  have e3 : Nat.beq 1 1 = true := rfl
  rw [e3,cond_true,s.h]
  exact ih
 | @agg xs xs' ys vs i off size x r hp hv hs s h ih =>
  have e : Nat.ble (off + vs.length) xs.length = true := by rw [Nat.ble_eq]; exact s.l
  have e2 : (Value.agg vs.toArray).cells = vs.toArray := rfl
  simp only [List.map_cons,fillL,hp,hv,e2,List.size_toArray,hs,Bool.true_and,e,cond_true]
  rw [s.h]
  exact ih
theorem fill_go {f : Fr} {pl : List (Nat × Nat)} {xs ys : List Value} {r : List (Nat × Operand)} (s : FillR f pl xs r ys := by repeat (first | exact FillR.nil | (apply FillR.agg; exact rfl; exact rfl; exact rfl; infer_instance) | (apply FillR.one; exact rfl; exact ev_go; infer_instance; infer_instance))) : FillR f pl xs r ys := s
section
variable {n : Nat} {all : Array Oper} {dr : Bool} {Pin : Hp} {K : Fr → Fz → Hp → Prop} {rest : List Oper} {l : List Lay} {D : List Deferred} {Z : Fz} {H : Hp}
variable {dst : Option Tmp} {d : Tmp} {ty : TypeId} {pos : String} {af : Array Edge} {gd : Option (Nat × Bool)} {x y z : Operand} {T : TypeId} {b off : Nat} {v u : Value}
theorem o_build {pl : List (Nat × Nat)} {zs ys : List Value} {parts : List (Nat × Operand)} [Bld P T pl zs] (hg : okO n all ⟨l,D⟩ ⟨some d,.build T parts.toArray,ty,pos,af,gd⟩ = true)
  (hf : fillL pl zs (parts.map fun p => (p.1,ev ⟨l,D⟩ p.2)) = some ys) (h : Rg P n all dr Pin K rest ⟨.s d (.agg ys.toArray) :: l,D⟩ Z H) :
  Rg P n all dr Pin K (⟨some d,.build T parts.toArray,ty,pos,af,gd⟩ :: rest) ⟨l,D⟩ Z H := by
 refine o_p hg rfl (fun w _ => ?_) h
 show Sem.run P (do pure (Next.value (← Instr.build T (parts.toArray.map fun p => (p.1,ev ⟨l,D⟩ p.2))))) w = _
 simp only [Sem.run_bind,Bld.run (P := P) (T := T)]
 have := fill_fillL (pl := pl) (place := fun i => (pl.toArray)[i]?) (fun i => by simp) _ _ _ hf
 simp only [List.map_toArray,this]
 rfl
theorem o_buildR {pl : List (Nat × Nat)} {zs ys : List Value} {parts : List (Nat × Operand)} [Bld P T pl zs] (hg : okO n all ⟨l,D⟩ ⟨some d,.build T parts.toArray,ty,pos,af,gd⟩ = true)
  (hf : FillR ⟨l,D⟩ pl zs parts ys) (h : Rg P n all dr Pin K rest ⟨.s d (.agg ys.toArray) :: l,D⟩ Z H) :
  Rg P n all dr Pin K (⟨some d,.build T parts.toArray,ty,pos,af,gd⟩ :: rest) ⟨l,D⟩ Z H := o_build hg hf.fill h
theorem fill_one {k : Nat} {zs : List Value} {w : Value} (hc : w.cells.size = k) (hz : zs.length = k) : Instr.fill (fun i => some (i * k,k)) zs.toArray [(0,w)] = some w.cells := by
 simp only [Instr.fill,Nat.zero_mul]
 have e1 : (decide (w.cells.size ≠ k) || decide (0 + w.cells.size > zs.toArray.size)) = false := by
  simp [hc,hz]
 rw [e1]
 simp only [Bool.false_eq_true,if_false]
 rw [fold_cells]
 have := setL_all w.cells.toList [] zs (by simp [hc,hz])
 simp only [List.nil_append,List.length_nil] at this
 rw [this]
theorem o_buildSlice1 {e k : Nat} {ag : Bool} {zs vs : List Value} [Und P T (.slice e)] [Ty P e k ag] [Zero P e zs] (hg : okO n all ⟨l,D⟩ ⟨some d,.buildSlice T 1 #[(0,x)],ty,pos,af,gd⟩ = true)
  (hx : (ev ⟨l,D⟩ x).cells = vs.toArray) (hk : (Nat.beq vs.length k && Nat.blt 0 k && Nat.ble k 1000) = true) (h : ∀ b,Rg P n all dr Pin K rest ⟨.s d (.slice (some ⟨b,0,none⟩) 1 1) :: l,D⟩ Z ((b,cl vs e) :: H)) :
  Rg P n all dr Pin K (⟨some d,.buildSlice T 1 #[(0,x)],ty,pos,af,gd⟩ :: rest) ⟨l,D⟩ Z H := by
 refine o_a (mk := fun b => .slice (some ⟨b,0,none⟩) 1 1) (ob := cl vs e) hg rfl (fun w => ?_) h
 simp only [Bool.and_eq_true,Nat.blt_eq,Nat.ble_eq] at hk
 have hl : vs.length = k := Nat.eq_of_beq_eq_true hk.1.1
 obtain ⟨zv,h1,h2⟩ := Zero.run (P := P) (T := e) w
 have hne : ¬ (1 * k = 0) := by omega
 have hbig : ¬ (1 * k > 2 ^ 24) := by omega
 have hc : (ev ⟨l,D⟩ x).cells.size = k := by rw [hx]; simpa using hl
 have hf := fill_one (k := k) (zs := ((Array.range (1 * k)).map (zv.cells[· % zv.cells.size]!)).toList) hc (by simp)
 rw [Array.toArray_toList] at hf
 show Sem.run P (do pure (Next.value (← Instr.buildSlice T 1 (#[(0,x)].map fun p => (p.1,ev ⟨l,D⟩ p.2))))) w = _
 simp only [List.map_toArray,List.map_cons,List.map_nil,Instr.buildSlice,newRow,Sem.run_bind,Sem.run_pure,Result.andThen_ok,Und.run (P := P) (T := T),Ty.size (P := P) (T := e) (n := k) (agg := ag),if_neg hne,if_neg hbig,h1,hf,hx,run_newObj]
 rfl
theorem o_bSlice1 {e : Nat} {zs : List Value} [Und P T (.slice e)] [Ty P e 1 false] [Zero P e zs] [One v] (hg : okO n all ⟨l,D⟩ ⟨some d,.buildSlice T 1 #[(0,x)],ty,pos,af,gd⟩ = true)
  (hx : ev ⟨l,D⟩ x = v) (h : ∀ b,Rg P n all dr Pin K rest ⟨.s d (.slice (some ⟨b,0,none⟩) 1 1) :: l,D⟩ Z ((b,cl [v] e) :: H)) :
  Rg P n all dr Pin K (⟨some d,.buildSlice T 1 #[(0,x)],ty,pos,af,gd⟩ :: rest) ⟨l,D⟩ Z H := o_buildSlice1 (k := 1) (ag := false) (zs := zs) (vs := [v]) hg (by rw [hx]; exact One.h.1) rfl h
theorem o_bSliceA {e k : Nat} {zs vs : List Value} [Und P T (.slice e)] [Ty P e k true] [Zero P e zs] (hg : okO n all ⟨l,D⟩ ⟨some d,.buildSlice T 1 #[(0,x)],ty,pos,af,gd⟩ = true)
  (hx : ev ⟨l,D⟩ x = .agg vs.toArray) (hk : (Nat.beq vs.length k && Nat.blt 0 k && Nat.ble k 1000) = true) (h : ∀ b,Rg P n all dr Pin K rest ⟨.s d (.slice (some ⟨b,0,none⟩) 1 1) :: l,D⟩ Z ((b,cl vs e) :: H)) :
  Rg P n all dr Pin K (⟨some d,.buildSlice T 1 #[(0,x)],ty,pos,af,gd⟩ :: rest) ⟨l,D⟩ Z H := o_buildSlice1 (k := k) (ag := true) (zs := zs) hg (by rw [hx]; rfl) hk h
theorem o_buildSlice0 {e k : Nat} {ag : Bool} [Und P T (.slice e)] [Ty P e k ag] (hg : okO n all ⟨l,D⟩ ⟨some d,.buildSlice T 0 #[],ty,pos,af,gd⟩ = true)
  (h : ∀ b,Rg P n all dr Pin K rest ⟨.s d (.slice (some ⟨b,0,none⟩) 0 0) :: l,D⟩ Z ((b,cl [] e) :: H)) :
  Rg P n all dr Pin K (⟨some d,.buildSlice T 0 #[],ty,pos,af,gd⟩ :: rest) ⟨l,D⟩ Z H := by
 refine o_a (mk := fun b => .slice (some ⟨b,0,none⟩) 0 0) (ob := cl [] e) hg rfl (fun w => ?_) h
 have hz : 0 * k = 0 := by omega
 show Sem.run P (do pure (Next.value (← Instr.buildSlice T 0 ((#[] : Array (Nat × Operand)).map fun p => (p.1,ev ⟨l,D⟩ p.2))))) w = _
 simp [Instr.buildSlice,newRow,Und.run (P := P) (T := T),Ty.size (P := P) (T := e) (n := k) (agg := ag),Instr.fill]
 have e0 : Array.range 0 = #[] := Array.eq_empty_of_size_eq_zero (by simp)
 rw [e0,Array.map_empty]
 rfl
theorem addr_add {b off k : Nat} : (⟨b,off,none⟩ : Addr).add k = ⟨b,off + k,none⟩ := by
 unfold Addr.add
 split
 ·next e => subst e; rfl
 ·rfl
theorem o_indexAddr {e k : Nat} {ag : Bool} {ik : IntKind} {len cap j : Nat} [Und P T (.slice e)] [Ty P e k ag] (hg : okO n all ⟨l,D⟩ ⟨some d,.indexAddr T x y,ty,pos,af,gd⟩ = true)
  (hx : ev ⟨l,D⟩ x = .slice (some ⟨b,off,none⟩) len cap) (hy : ev ⟨l,D⟩ y = .int ik (Int.ofNat j)) (hj : j < len) (h : Rg P n all dr Pin K rest ⟨.s d (.pointer (some ⟨b,off + j * k,none⟩)) :: l,D⟩ Z H) :
  Rg P n all dr Pin K (⟨some d,.indexAddr T x y,ty,pos,af,gd⟩ :: rest) ⟨l,D⟩ Z H := by
 refine o_p hg rfl (fun w _ => ?_) h
 have e1 : (0 : Int) ≤ Int.ofNat j ∧ Int.ofNat j < (len : Int) := ⟨by simp,by simpa using hj⟩
 show Sem.run P (do pure (Next.value (← Instr.indexAt T (ev ⟨l,D⟩ x) (ev ⟨l,D⟩ y)))) w = _
 simp only [hx,hy,Instr.indexAt,asIntOf,Sem.run_bind,Sem.run_pure,Result.andThen_ok,Und.run (P := P) (T := T),if_pos e1,Ty.size (P := P) (T := e) (n := k) (agg := ag),addr_add]
 rfl
theorem o_sliceH {e k : Nat} {ag : Bool} {ik : IntKind} {a : Option Addr} {len cap j : Nat} [Und P T (.slice e)] [Ty P e k ag] (hg : okO n all ⟨l,D⟩ ⟨some d,.slice T x none (some y) none,ty,pos,af,gd⟩ = true)
  (hx : ev ⟨l,D⟩ x = .slice a len cap) (hy : ev ⟨l,D⟩ y = .int ik (Int.ofNat j)) (hj : j ≤ cap) (h : Rg P n all dr Pin K rest ⟨.s d (.slice a j cap) :: l,D⟩ Z H) :
  Rg P n all dr Pin K (⟨some d,.slice T x none (some y) none,ty,pos,af,gd⟩ :: rest) ⟨l,D⟩ Z H := by
 refine o_p hg rfl (fun w _ => ?_) h
 have e1 : (0 : Int) ≤ Int.ofNat j ∧ Int.ofNat j ≤ (cap : Int) := ⟨by simp,by simpa using hj⟩
 have e2 : (if cap = 0 then a else a.map (·.add (0 * k))) = a := by
  split
  ·rfl
  ·cases a with
   | none => rfl
   | some a => simp [Addr.add]
 show Sem.run P (do pure (Next.value (← Instr.sliceAt T (ev ⟨l,D⟩ x) none (some (ev ⟨l,D⟩ y)) none))) w = _
 simp only [hx,hy,Instr.sliceAt,Instr.slice,Instr.sliceBounds,Instr.sliceBound,asIntOf,Sem.run_bind,Sem.run_pure,Result.andThen_ok,Und.run (P := P) (T := T),if_pos e1,Ty.size (P := P) (T := e) (n := k) (agg := ag),e2,Nat.sub_zero]
 rfl
theorem o_sliceL {e k : Nat} {ag : Bool} {ik : IntKind} {a : Option Addr} {len cap j : Nat} [Und P T (.slice e)] [Ty P e k ag] (hg : okO n all ⟨l,D⟩ ⟨some d,.slice T x (some y) none none,ty,pos,af,gd⟩ = true)
  (hx : ev ⟨l,D⟩ x = .slice a len cap) (hy : ev ⟨l,D⟩ y = .int ik (Int.ofNat j)) (hj : j ≤ len) (h : Rg P n all dr Pin K rest ⟨.s d (.slice (if cap = j then a else a.map (·.add (j * k))) (len - j) (cap - j)) :: l,D⟩ Z H) :
  Rg P n all dr Pin K (⟨some d,.slice T x (some y) none none,ty,pos,af,gd⟩ :: rest) ⟨l,D⟩ Z H := by
 refine o_p hg rfl (fun w _ => ?_) h
 have e1 : (0 : Int) ≤ Int.ofNat j ∧ Int.ofNat j ≤ (len : Int) := ⟨by simp,by simpa using hj⟩
 show Sem.run P (do pure (Next.value (← Instr.sliceAt T (ev ⟨l,D⟩ x) (some (ev ⟨l,D⟩ y)) none none))) w = _
 simp only [hx,hy,Instr.sliceAt,Instr.slice,Instr.sliceBounds,Instr.sliceBound,asIntOf,Sem.run_bind,Sem.run_pure,Result.andThen_ok,Und.run (P := P) (T := T),if_pos e1,Ty.size (P := P) (T := e) (n := k) (agg := ag)]
 rfl
end
end Go.Ux
namespace Go.Ux
open Go
variable {P : Program}
inductive Sl (e k : Nat) : Value → List Value → Hp → Prop
 | nil : Sl e k (.slice none 0 0) [] []
 | row (b n c : Nat) (cs rest : List Value) (h1 : cs.length = n * k) (h2 : rest.length = (c - n) * k) (hn : n ≤ c) : Sl e k (.slice (some ⟨b,0,none⟩) n c) cs [(b,cl (cs ++ rest) e)]
inductive Rs (R : Nat → Obj → Prop) (k : Nat) : Value → Nat → List Value → Prop
 | nil (c : Nat) : Rs R k (.slice none 0 c) 0 []
 | emp (a : Addr) : Rs R k (.slice (some a) 0 0) 0 []
 | row (b off n c U : Nat) (xs ds : List Value) (h : R b (cl xs U)) (hd : (xs.drop off).take (n * k) = ds) (hl : ds.length = n * k) (hn : n ≤ c) : Rs R k (.slice (some ⟨b,off,none⟩) n c) n ds
class El (P : Program) (e k : Nat) : Prop where
 i : ∃ i z,P.info? e = some i ∧ i.size = k ∧ i.bytes ≤ 1024 ∧ i.zero = some z ∧ z.cells.size = k
def elB (P : Program) (e k : Nat) : Bool := match P.info? e with
 | some i => (match i.zero with
  | some z => Nat.beq i.size k && (Nat.ble i.bytes 1024 && Nat.beq z.cells.size k)
  | none => false)
 | none => false
theorem El.ofB {e k : Nat} (h : elB P e k = true) : El P e k := by
 unfold elB at h
 split at h
 ·next i hi =>
  split at h
  ·next z hz =>
   simp only [Bool.and_eq_true,Nat.ble_eq] at h
   exact ⟨⟨i,z,hi,Nat.eq_of_beq_eq_true h.1,h.2.1,hz,Nat.eq_of_beq_eq_true h.2.2⟩⟩
  ·cases h
 ·cases h
class Sty (P : Program) (T : Nat) (e : outParam Nat) : Prop where
 u : P.underlying T = some (.slice e)
theorem heap_setCell {w : World} {b off T : Nat} {xs : List Value} {v : Value} (h : w.heap[b]? = some (cl xs T)) : (w.setCell ⟨b,off,none⟩ v).heap[b]? = some (cl (xs.set off v) T) := by
 simp [World.setCell,Array.getElem?_modify,h]
theorem heap_setCells {b T : Nat} : ∀ (vs : List Value) (off : Nat) (w : World) (xs : List Value),w.heap[b]? = some (cl xs T) →
  (w.setCells b off vs).heap[b]? = some (cl (setL xs off vs) T) ∧ (∀ k,k ≠ b → (w.setCells b off vs).heap[k]? = w.heap[k]?) ∧ Stay w (w.setCells b off vs)
 | [],_,w,xs,h => ⟨h,fun _ _ => rfl,.refl w⟩
 | v :: vs,off,w,xs,h => by
  obtain ⟨h1,h2,h3⟩ := heap_setCells vs (off + 1) (w.setCell ⟨b,off,none⟩ v) (xs.set off v) (heap_setCell h)
  refine ⟨h1,fun k hk => ?_,Stay.trans (b := w.setCell ⟨b,off,none⟩ v) ⟨rfl,rfl,rfl,by simp [World.setCell]⟩ h3⟩
  show (World.setCells (w.setCell ⟨b,off,none⟩ v) b (off + 1) vs).heap[k]? = _
  rw [h2 k hk]
  simp only [World.setCell,Array.getElem?_modify]
  rw [if_neg (fun e => hk e.symm)]
theorem setL_mid : ∀ (ds pre rest : List Value),ds.length ≤ rest.length → setL (pre ++ rest) pre.length ds = pre ++ ds ++ rest.drop ds.length
 | [],pre,rest,_ => by simp [setL]
 | d :: ds,pre,r :: rest,h => by
  simp only [setL]
  have e : (pre ++ r :: rest).set pre.length d = (pre ++ [d]) ++ rest := by simp
  rw [e]
  have := setL_mid ds (pre ++ [d]) rest (by simpa using h)
  simp only [List.length_append,List.length_cons,List.length_nil,Nat.zero_add] at this
  rw [this]
  simp
theorem Rs.src {R : Nat → Obj → Prop} {k m tx e' : Nat} {v : Value} {ds : List Value} (h : Rs R k v m ds) {w : World} (hR : ∀ b o,R b o → Seen w b o) (h1 : ∀ u ∈ ds,u.oneCell' = true) [Sty P tx e'] : Src P k tx v m ds w := by
 cases h with
 | nil c => exact Src.ofNil w Sty.u c
 | emp a => exact Src.ofSlice w Sty.u a 0 0 [] (by simp) (fun j u hj => by simp at hj) (by simp)
 | row b off n c U xs ds hr hd hl =>
  refine Src.ofSlice w Sty.u ⟨b,off,none⟩ m c ds hl (fun j u hj => ?_) h1
  rw [addr_add]
  refine cell_of (hR _ _ hr) ?_
  rw [← hd,List.getElem?_take] at hj
  split at hj
  ·rwa [List.getElem?_drop] at hj
  ·cases hj
theorem run_append_sl {e k T T' ty m e' : Nat} {xv yv : Value} {cs ds : List Value} {Hx F : Hp} {Z : Fz} {R : Nat → Obj → Prop} [El P e k] [Sty P T e] [Sty P T' e'] {w : World} (hs : Sat w Z (Hx ++ F)) (hx : Sl e k xv cs Hx)
  (hR : ∀ b o,R b o → Seen w b o) (hy : Rs R k yv m ds) (h1 : ∀ u ∈ ds,u.oneCell' = true) (hk : 0 < k) (hsz : cs.length + ds.length ≤ 137438953472) :
  ∃ v' w' H',(Builtin.append_ #[T,T'] ty #[xv,yv]).run P w = .ok v' w' ∧ Sl e k v' (cs ++ ds) H' ∧ Sat w' Z (H' ++ F) ∧ Stay w w' := by
 obtain ⟨i,z,hi,hik,hib,hiz,hzc⟩ := El.i (P := P) (e := e) (k := k)
 have ht : P.underlying T = some (.slice e) := Sty.u
 have hsrc : Src P i.size T' yv m ds w := by rw [hik]; exact hy.src hR h1
 have hdl : ds.length = m * k := by rw [hsrc.newsLen,hik]
 have grow : ∀ (base : Option Addr) (n c : Nat),cs.length = n * k → xv = .slice base n c → n ≤ c → (Builtin.firstCells i.size n (.slice base n c)).run P w.drew = .ok cs.toArray w.drew → c < n + m →
   ∃ v' w' H',(Builtin.append_ #[T,T'] ty #[xv,yv]).run P w = .ok v' w' ∧ Sl e k v' (cs ++ ds) H' ∧ Sat w' Z (H' ++ F) ∧ Stay w w' := by
  intro base n c hcl hxe hnc hold hg
  have hnk : n + m ≤ (n + m) * k := Nat.le_mul_of_pos_right _ hk
  have hnm : n + m ≤ 137438953472 := by
   rw [hcl,hdl,← Nat.add_mul] at hsz; omega
  have hfit : Builtin.nextslicecap (n + m) c * i.bytes ≤ 281474976710656 := by
   refine growslice_fits hg ?_
   refine Nat.le_trans (Nat.mul_le_mul hnm hib) (by decide)
  have hr := run_append_grow_src (P := P) w T T' ty e i z ht hi hiz base n c cs hold yv m ds hsrc hg (by omega) hfit
  rw [hxe]
  have hcap : n + m ≤ grownCap w (n + m) c e := by
   unfold grownCap
   simp only [Question.cut]
   exact Nat.le_trans (Nat.le_refl _) (by first | omega | exact Nat.le_max_left _ _ | exact Nat.le_add_right _ _)
  have hobj : Obj.cells ((cs ++ ds).toArray ++ Builtin.zeroCells z.cells (grownCap w (n + m) c e - (n + m))) e (0,0) = cl ((cs ++ ds) ++ (Builtin.zeroCells z.cells (grownCap w (n + m) c e - (n + m))).toList) e := by
   congr 1
   apply Array.toList_inj.1
   simp
  refine ⟨_,_,_,hr,.row w.heap.size (n + m) (grownCap w (n + m) c e) (cs ++ ds) (Builtin.zeroCells z.cells (grownCap w (n + m) c e - (n + m))).toList ?_ ?_ hcap,?_,?_⟩
  ·simp [hcl,hdl,Nat.add_mul]
  ·simp [Builtin.zeroCells,hzc]
  ·rw [← hobj]
   have hd := hs.drop
   exact Sat.push (w := w.drew) ⟨hd.fz,hd.own,hd.nd,hd.apart⟩ _
  ·refine ⟨rfl,rfl,rfl,?_⟩
   show w.heap.size ≤ (w.heap.push _).size
   simp
 cases hx with
 | nil =>
  by_cases hm : m = 0
  ·subst hm
   have hd0 : ds = [] := List.length_eq_zero_iff.1 (by rw [hdl]; simp)
   subst hd0
   refine ⟨.slice none 0 0,w,[],?_,.nil,hs,.refl w⟩
   rcases hsrc.kind with ⟨e'',hk'⟩ | hk' <;> simp [Builtin.append_,run_underlying ht,run_underlying hk',sizeOf,typeInfo,hi,hsrc.len,hsrc.cells]
  ·exact grow none 0 0 (by simp) rfl (by omega) (run_firstCells_none _ _ _ _ _) (by omega)
 | row b n c cs rest h1' h2' hn =>
  by_cases hroom : n + m ≤ c
  ·have hb : w.heap[b]? = some (cl (cs ++ rest) e) := hs.own (b,cl (cs ++ rest) e) (by simp)
   have hlen : ds.length ≤ rest.length := by
    rw [hdl,h2']; exact Nat.mul_le_mul_right _ (by omega)
   have hr := run_append_room_src (P := P) w T T' ty e i ht hi b 0 n c yv m ds hsrc hroom
    (fun j hj => by
     have : (cs ++ rest)[0 + n * i.size + j]? = some ((cs ++ rest)[0 + n * i.size + j]'(by simp [hik]; omega)) := List.getElem?_eq_getElem _
     rw [cell_of (.of hb) this]; rfl)
    (fun j hj => by simp [World.frozen?,hb])
   obtain ⟨q1,q2,q3⟩ := heap_setCells ds (0 + n * i.size) w (cs ++ rest) hb
   have e0 : 0 + n * i.size = cs.length := by rw [hik,h1']; simp
   rw [e0,setL_mid ds cs rest hlen] at q1
   refine ⟨_,_,_,hr,.row b (n + m) c (cs ++ ds) (rest.drop ds.length) ?_ ?_ hroom,?_,q3⟩
   ·simp [h1',hdl,Nat.add_mul]
   ·simp only [List.length_drop,h2',hdl,← Nat.sub_mul]; congr 1; omega
   ·rw [e0]
    exact Sat.set (b := b) hs (by rw [e0] at q2; exact q1) (by rw [e0] at q2; exact q2)
  ·refine grow (some ⟨b,0,none⟩) n c h1' rfl hn ?_ (by omega)
   have hb : w.heap[b]? = some (cl (cs ++ rest) e) := hs.own (b,cl (cs ++ rest) e) (by simp)
   refine run_firstCells_some w.drew i.size n ⟨b,0,none⟩ n c cs (by rw [hik,h1']) (fun j v hj => ?_)
   rw [addr_add]
   refine cell_of (w := w.drew) (.of hb) ?_
   rw [Nat.zero_add,List.getElem?_append_left]
   ·exact hj
   ·rcases Nat.lt_or_ge j cs.length with h | h
    ·exact h
    ·simp [List.getElem?_eq_none h] at hj
section
variable {n : Nat} {all : Array Oper} {dr : Bool} {Pin : Hp} {K : Fr → Fz → Hp → Prop} {rest : List Oper} {l : List Lay} {D : List Deferred} {Z : Fz} {H : Hp}
variable {dst : Option Tmp} {d : Tmp} {ty : TypeId} {pos : String} {af : Array Edge} {gd : Option (Nat × Bool)} {x y z : Operand} {T : TypeId} {b off : Nat} {v u : Value}
theorem o_append {e k T' e' m : Nat} {xv yv : Value} {cs ds : List Value} {Hx : Hp} (Hr : Hp) [El P e k] [Sty P T e] [Sty P T' e'] (hg : okO n all ⟨l,D⟩ ⟨some d,.call ⟨.builtin .append,#[x,y],#[T,T']⟩,ty,pos,af,gd⟩ = true)
  (hx : ev ⟨l,D⟩ x = xv) (hy : ev ⟨l,D⟩ y = yv) (hp : H.Perm (Hx ++ Hr)) (hsl : Sl e k xv cs Hx) (hrs : Rs (fun b o => Mem false Z Pin Hr b o) k yv m ds) (h1 : ∀ u ∈ ds,u.oneCell' = true) (hk : 0 < k) (hsz : cs.length + ds.length ≤ 137438953472)
  (h : ∀ v H',Sl e k v (cs ++ ds) H' → Rg P n all dr Pin K rest ⟨.s d v :: l,D⟩ Z (H' ++ Hr)) : Rg P n all dr Pin K (⟨some d,.call ⟨.builtin .append,#[x,y],#[T,T']⟩,ty,pos,af,gd⟩ :: rest) ⟨l,D⟩ Z H := by
 refine o_e (fun v Z₁ H₁ => Z₁ = Z ∧ ∃ H',H₁ = H' ++ Hr ∧ Sl e k v (cs ++ ds) H') hg rfl (fun w F hs => ?_) ?_
 ·have hs1 : Sat w Z (Hx ++ (Hr ++ F ++ Pin)) := by
   refine hs.perm ?_
   refine ((hp.append_right F).append_left Pin).trans ?_
   refine List.perm_append_comm.trans ?_
   simp only [List.append_assoc]; exact .refl _
  have hR : ∀ b o,Mem false Z Pin Hr b o → Seen w b o := fun b o hm => Mem.heap hm (w := w) (by
   have h2 : Sat w Z (F ++ (Pin ++ Hr)) := hs1.drop.perm (by
    refine List.perm_append_comm.trans ?_
    rw [← List.append_assoc]
    exact List.perm_append_comm)
   exact h2.drop)
  obtain ⟨v',w',H',q1,q2,q3,q4⟩ := run_append_sl (P := P) (T := T) (T' := T') (ty := ty) hs1 hsl hR hrs h1 hk hsz
  have hrun : (execOp (ev ⟨l,D⟩) ⟨some d,.call ⟨.builtin .append,#[x,y],#[T,T']⟩,ty,pos,af,gd⟩).run P w = .ok (.value v') w' := by
   show Sem.run P (do let d ← resolve (ev ⟨l,D⟩) ⟨.builtin .append,#[x,y],#[T,T']⟩ ty; invoke d.target d.args) w = _
   simp only [resolve,invoke,builtin,Sem.run_bind,Sem.run_pure,Result.andThen_ok,hx,hy,List.map_toArray,List.map_cons,List.map_nil,q1]
  unfold RunO
  rw [hrun]
  refine ⟨Z,H' ++ Hr,.refl Z,q3.perm ?_,q4,rfl,H',rfl,q2⟩
  refine List.Perm.trans ?_ List.perm_append_comm
  simp only [List.append_assoc]
  exact .refl _
 ·rintro v' Z₁ H₁ _ ⟨rfl,H',rfl,hq⟩
  exact h v' H' hq
end
end Go.Ux
namespace Go.Ux
open Go
variable {P : Program}
structure En where
 k : ByteArray
 v : Value
 t : Nat
def En.e (p : En) : MapEntry := { key := .string p.k,val := p.v,born := p.t }
def ents (es : List En) : Array MapEntry := (es.map En.e).toArray
abbrev mp (es : List En) (c : Nat) : Obj := .map (ents es) c
def fnd (s : ByteArray) : List En → Nat → Option (Nat × Value)
 | [],_ => none
 | e :: es,i => if s = e.k then some (i,e.v) else fnd s es (i + 1)
def lk (es : List En) (s : ByteArray) : Option Value := (es.find? fun e => decide (s = e.k)).map En.v
def upd (s : ByteArray) (v : Value) (c : Nat) : List En → List En
 | [] => [⟨s,v,c⟩]
 | e :: es => if s = e.k then ⟨s,v,e.t⟩ :: es else e :: upd s v c es
def nxt (s : ByteArray) (es : List En) (c : Nat) : Nat := if (lk es s).isSome then c else c + 1
def del (s : ByteArray) (es : List En) : List En := es.eraseP fun e => decide (s = e.k)
theorem beq_bytes {a b : ByteArray} : (a == b) = decide (a = b) := by
 by_cases e : a = b
 ·subst e
  rw [decide_eq_true rfl]
  show (a.data == a.data) = true
  simp
 ·rw [decide_eq_false e]
  show (a.data == b.data) = false
  exact beq_false_of_ne fun h => e (ByteArray.ext h)
theorem findNow_fnd (s : ByteArray) : ∀ (es : List En) (i : Nat),Instr.findNow .string (.string s) (es.map En.e) i = some (fnd s es i)
 | [],_ => rfl
 | e :: es,i => by
  simp only [List.map_cons,Instr.findNow,fnd]
  have : Instr.sameNow .string (.string s) e.e.key = some (decide (s = e.k)) := by
   show some (s == e.k) = _
   rw [beq_bytes]
  rw [this]
  by_cases h : s = e.k
  ·simp [h,En.e]
  ·simp only [decide_eq_false h,if_neg h]
   exact findNow_fnd s es (i + 1)
theorem fnd_lk (s : ByteArray) : ∀ (es : List En) (i : Nat),(fnd s es i).map (·.2) = lk es s
 | [],_ => rfl
 | e :: es,i => by
  by_cases h : s = e.k
  ·simp [fnd,lk,h]
  ·have := fnd_lk s es (i + 1)
   simp only [fnd,if_neg h,this,lk,List.find?_cons,decide_eq_false h]
class Kst (P : Program) (T : Nat) (el : outParam Nat) : Prop where
 u : ∃ k,(∀ w,(underlying T).run P w = .ok (.map k el) w) ∧ (∀ w,(underlying k).run P w = .ok .string w)
class Zv (P : Program) (T : Nat) (z : outParam Value) : Prop where
 run : ∀ w,(zeroValue T).run P w = .ok z w
theorem checkKey_string {k : Nat} (hk : ∀ w,(underlying k).run P w = .ok .string w) (b : Bool) (s : ByteArray) (w : World) : (Instr.checkKey b 10000 k (.string s)).run P w = .ok () w := by
 unfold Instr.checkKey
 simp only [Sem.run_bind,hk,Result.andThen_ok,Sem.run_pure]
theorem findKey_string {k : Nat} (hk : ∀ w,(underlying k).run P w = .ok .string w) (s : ByteArray) (es : List En) (w : World) : (Instr.findKey k (.string s) (ents es).toList).run P w = .ok (fnd s es 0) w := by
 unfold Instr.findKey
 simp only [Sem.run_bind,hk,Result.andThen_ok]
 have : (ents es).toList = es.map En.e := by simp [ents]
 rw [this,findNow_fnd]
 rfl
theorem getObj_map {w : World} {m c : Nat} {es : Array MapEntry} (h : w.heap[m]? = some (.map es c)) : (getObj m).run P w = .ok (.map es c) w := by
 simp only [getObj,Sem.run,h]
theorem run_lookup {T el m c : Nat} {es : List En} {s : ByteArray} {z : Value} [Kst P T el] [Zv P el z] {w : World} (h : w.heap[m]? = some (mp es c)) (ok : Bool) :
  (Instr.lookup T (.map (some m)) (.string s) ok).run P w = .ok (if ok then .tuple #[(lk es s).getD z,.bool (lk es s).isSome] else (lk es s).getD z) w := by
 obtain ⟨k,h1,h2⟩ := Kst.u (P := P) (T := T) (el := el)
 simp only [Instr.lookup,Sem.run_bind,h1,Result.andThen_ok,getObj_map h,Sem.run_pure,checkKey_string h2,findKey_string h2]
 have := fnd_lk s es 0
 cases hf : fnd s es 0 with
 | none =>
  rw [hf] at this
  simp only [Option.map_none] at this
  simp only [← this,Zv.run (P := P) (T := el),Result.andThen_ok,Sem.run_bind,Sem.run_pure]
  cases ok <;> rfl
 | some q =>
  rw [hf] at this
  simp only [Option.map_some] at this
  simp only [← this,Sem.run_bind,Sem.run_pure,Result.andThen_ok]
  cases ok <;> rfl
theorem run_lookup0 {T el : Nat} {s : ByteArray} {z : Value} [Kst P T el] [Zv P el z] {w : World} (ok : Bool) :
  (Instr.lookup T (.map none) (.string s) ok).run P w = .ok (if ok then .tuple #[z,.bool false] else z) w := by
 obtain ⟨k,h1,h2⟩ := Kst.u (P := P) (T := T) (el := el)
 have := findKey_string h2 s [] w
 simp only [ents,List.map_nil,fnd] at this
 simp only [Instr.lookup,Sem.run_bind,h1,Result.andThen_ok,Sem.run_pure,checkKey_string h2,this,Zv.run (P := P) (T := el)]
 try (cases ok <;> rfl)
theorem fnd_upd (s : ByteArray) (v : Value) (c : Nat) : ∀ (es : List En) (i : Nat),match fnd s es i with
  | some (j,_) => i ≤ j ∧ ((es[j - i]?).map En.k = some s) ∧ upd s v c es = es.modify (j - i) (fun e => ⟨s,v,e.t⟩)
  | none => upd s v c es = es ++ [⟨s,v,c⟩]
 | [],_ => rfl
 | e :: es,i => by
  by_cases h : s = e.k
  ·simp [fnd,upd,h]
  ·have := fnd_upd s v c es (i + 1)
   simp only [fnd,if_neg h,upd]
   cases hf : fnd s es (i + 1) with
   | none => rw [hf] at this; simp only at this ⊢; simp [this]
   | some q =>
    obtain ⟨j,u⟩ := q
    rw [hf] at this
    simp only at this ⊢
    obtain ⟨h1,h2,h3⟩ := this
    refine ⟨by omega,?_,?_⟩
    ·rw [show j - i = (j - (i + 1)) + 1 by omega]; simpa using h2
    ·rw [h3,show j - i = (j - (i + 1)) + 1 by omega]; rfl
theorem run_mapUpdate {T el m c : Nat} {es : List En} {s : ByteArray} {v : Value} [Kst P T el] {w : World} (h : w.heap[m]? = some (mp es c)) :
  ∃ w',(Instr.mapUpdate T (.map (some m)) (.string s) v).run P w = .ok () w' ∧ w'.heap[m]? = some (mp (upd s v c es) (nxt s es c)) ∧ (∀ k,k ≠ m → w'.heap[k]? = w.heap[k]?) ∧ Stay w w' := by
 obtain ⟨k,h1,h2⟩ := Kst.u (P := P) (T := T) (el := el)
 have hset : ∀ o : Obj,∃ w',(setObj m o).run P w = .ok () w' ∧ w'.heap[m]? = some o ∧ (∀ k,k ≠ m → w'.heap[k]? = w.heap[k]?) ∧ Stay w w' := by
  intro o
  have hlt : m < w.heap.size := by
   rcases Nat.lt_or_ge m w.heap.size with h' | h'
   ·exact h'
   ·simp [Array.getElem?_eq_none h'] at h
  refine ⟨{ w with heap := w.heap.setIfInBounds m o },by simp only [setObj,Sem.run,h],by simp [hlt],fun k hk => ?_,⟨rfl,rfl,rfl,by simp⟩⟩
  show (w.heap.setIfInBounds m o)[k]? = _
  rw [Array.getElem?_setIfInBounds_ne (fun e => hk e.symm)]
 have hu := fnd_upd s v c es 0
 have hl := fnd_lk s es 0
 simp only [Instr.mapUpdate,Sem.run_bind,h1,Result.andThen_ok,getObj_map h,checkKey_string h2,findKey_string h2]
 cases hf : fnd s es 0 with
 | none =>
  rw [hf] at hu hl
  simp only [Option.map_none] at hu hl
  have hn : nxt s es c = c + 1 := by simp [nxt,← hl]
  rw [hn,hu]
  have e : (ents es).push { key := .string s,val := v,born := c } = ents (es ++ [⟨s,v,c⟩]) := by simp [ents,En.e]
  rw [e]
  exact hset _
 | some q =>
  obtain ⟨j,u⟩ := q
  rw [hf] at hu hl
  simp only [Option.map_some,Nat.sub_zero] at hu hl
  obtain ⟨_,hj,h3⟩ := hu
  have hn : nxt s es c = c := by simp [nxt,← hl]
  have e0 : (((ents es)[j]?).map (·.key)).getD (.string s) = .string s := by
   simp only [ents,List.getElem?_toArray,List.getElem?_map]
   cases hq : es[j]? with
   | none => rfl
   | some e => rw [hq] at hj; simp at hj; simp [En.e,hj]
  have e1 : (Instr.keyThatStays (.string s) (.string s)).run P w = .ok (.string s) w := by
   unfold Instr.keyThatStays
   have : Instr.sameBits 10000 (.string s) (.string s) = true := by
    unfold Instr.sameBits
    rw [beq_bytes]; simp
   simp [this]
  simp only [Sem.run_bind,e0,e1,Result.andThen_ok]
  have e2 : (ents es).modify j (fun e => { e with key := .string s,val := v }) = ents (upd s v c es) := by
   rw [h3]
   apply Array.toList_inj.1
   simp only [ents,Array.toList_modify]
   apply List.ext_getElem?
   intro i
   simp only [List.getElem?_modify,List.getElem?_map]
   cases es[i]? with
   | none => rfl
   | some e =>
    simp only [Option.map_some]
    by_cases hij : j = i
    ·simp [hij,En.e]
    ·simp [hij]
  rw [hn,e2]
  exact hset _
end Go.Ux
namespace Go.Ux
open Go
variable {P : Program}
theorem run_setObj {w : World} {m : Nat} {o o' : Obj} (h : w.heap[m]? = some o') (hn : ∀ cs T f,o' ≠ .cells cs T f) : ∃ w',(setObj m o).run P w = .ok () w' ∧ w'.heap[m]? = some o ∧ (∀ k,k ≠ m → w'.heap[k]? = w.heap[k]?) ∧ Stay w w' := by
 have hlt : m < w.heap.size := by
  rcases Nat.lt_or_ge m w.heap.size with h' | h'
  ·exact h'
  ·simp [Array.getElem?_eq_none h'] at h
 refine ⟨{ w with heap := w.heap.setIfInBounds m o },by cases o' <;> first | exact absurd rfl (hn _ _ _) | simp only [setObj,Sem.run,h],by simp [hlt],fun k hk => ?_,⟨rfl,rfl,rfl,by simp⟩⟩
 show (w.heap.setIfInBounds m o)[k]? = _
 rw [Array.getElem?_setIfInBounds_ne (fun e => hk e.symm)]
theorem getObj_iter {w : World} {m : Nat} {a b c d} (h : w.heap[m]? = some (.mapIter a b c d)) : (getObj m).run P w = .ok (.mapIter a b c d) w := by
 simp only [getObj,Sem.run,h]
theorem mem_ents {es : List En} {x : MapEntry} : x ∈ (ents es).toList ↔ ∃ e ∈ es,e.e = x := by simp [ents]
theorem run_next {w : World} {bi m c : Nat} {seen : Array Nat} {es : List En} {ty : Nat} (hi : w.heap[bi]? = some (.mapIter (some m) c seen c)) (hm : w.heap[m]? = some (mp es c)) (hb : ∀ e ∈ es,e.t < c) :
  ((∀ e ∈ es,e.t ∈ seen.toList) ∧ (Instr.next (.pointer (some ⟨bi,0,none⟩)) false ty).run P w = .ok (.tuple #[.bool false]) w) ∨
  ∃ e ∈ es,e.t ∉ seen.toList ∧ ∃ w',(Instr.next (.pointer (some ⟨bi,0,none⟩)) false ty).run P w = .ok (.tuple #[.bool true,.string e.k,e.v]) w' ∧
   w'.heap[bi]? = some (.mapIter (some m) c (seen.push e.t) c) ∧ (∀ k,k ≠ bi → w'.heap[k]? = w.heap[k]?) ∧ Stay w w' := by
 have htest : (!seen.isEmpty && !(ents es).isEmpty && (ents es).all (fun x => decide (x.born ≥ c))) = false :=
  next_test_false seen (ents es) c c (fun x hx => by
   obtain ⟨e,he,rfl⟩ := mem_ents.1 hx
   exact hb e he) (Nat.le_refl _)
 have hmem : ∀ x ∈ (Array.filter (fun e => !seen.contains e.born) (ents es)).toList,∃ e ∈ es,e.e = x ∧ e.t ∉ seen.toList := fun x hx => by
  simp only [Array.toList_filter,List.mem_filter] at hx
  obtain ⟨e,he,rfl⟩ := mem_ents.1 hx.1
  refine ⟨e,he,rfl,?_⟩
  have := hx.2
  simpa [En.e] using this
 have hall : (Array.filter (fun e => !seen.contains e.born) (ents es)).size = 0 → ∀ e ∈ es,e.t ∈ seen.toList := fun h0 e he => by
  rcases Classical.em (e.t ∈ seen.toList) with h | h
  ·exact h
  ·have : e.e ∈ (Array.filter (fun e => !seen.contains e.born) (ents es)).toList := by
    simp only [Array.toList_filter,List.mem_filter]
    exact ⟨mem_ents.2 ⟨e,he,rfl⟩,by simpa [En.e] using h⟩
   have h1 : (Array.filter (fun e => !seen.contains e.born) (ents es)) = #[] := Array.eq_empty_of_size_eq_zero h0
   rw [h1] at this
   simp at this
 simp only [Instr.next,Sem.run_bind,getObj_iter hi,getObj_map hm,Result.andThen_ok,htest,Bool.false_eq_true,if_false]
 generalize Array.filter (fun e => !seen.contains e.born) (ents es) = L at hmem hall ⊢
 have hlt : ∀ x ∈ L.toList,x.born < c := fun x hx => by
  obtain ⟨e,he,rfl,_⟩ := hmem x hx
  exact hb e he
 have e1 : L.filter (fun x => decide (x.born < c)) = L := Array.filter_eq_self.2 (fun x hx => by simpa using hlt x (by simpa using hx))
 have e2 : L.filter (fun x => decide (x.born ≥ c)) = #[] := by
  rw [Array.filter_eq_empty_iff]
  intro x hx
  have := hlt x (by simpa using hx)
  simp
  omega
 simp only [e1,e2,Array.append_empty]
 by_cases h0 : L.size = 0
 ·left
  refine ⟨hall h0,?_⟩
  have : L = #[] := Array.eq_empty_of_size_eq_zero h0
  subst this
  simp [choose,Sem.run,Question.forced]
 ·right
  have hne : L.isEmpty = false := by simp [Array.isEmpty,h0]
  simp only [hne,Bool.false_eq_true,if_false,Array.empty_append,Array.size_map]
  have hch : ∃ (j : Nat) (w1 : World),j < L.size ∧ w1.heap = w.heap ∧ Stay w w1 ∧ (choose (Question.mapNext L.size)).run P w = .ok j w1 := by
   by_cases hf : L.size ≤ 1
   ·exact ⟨0,w,by omega,rfl,.refl w,by simp [choose,Sem.run,Question.forced,hf]⟩
   ·exact ⟨_,w.drew,Nat.mod_lt _ (by omega),rfl,⟨rfl,rfl,rfl,Nat.le_refl _⟩,by
     simp only [choose,Sem.run,Question.forced,decide_eq_true_eq,hf,if_false,Question.cut]
     rfl⟩
  obtain ⟨j,w1,hj,hh,hst,hrun⟩ := hch
  obtain ⟨e,he,hee,hns⟩ := hmem L[j] (by simp)
  obtain ⟨w2,q1,q2,q3,q4⟩ := run_setObj (P := P) (w := w1) (m := bi) (o := .mapIter (some m) c (seen.push e.t) c) (by rw [hh]; exact hi) (fun _ _ _ h => by cases h)
  refine ⟨e,he,hns,w2,?_,q2,fun k hk => by rw [q3 k hk,hh],hst.trans q4⟩
  have hb' : L[j].born = e.t := by rw [← hee]; rfl
  simp only [hrun,Result.andThen_ok,Array.getElem?_map,Array.getElem?_eq_getElem hj,Option.map_some,Sem.run_bind,hb',q1,Sem.run_pure]
  rw [← hee]
  rfl
theorem run_entry {w : World} {bi m c : Nat} {seen : Array Nat} {es : List En} {e : En} (hi : w.heap[bi]? = some (.mapIter (some m) c (seen.push e.t) c)) (hm : w.heap[m]? = some (mp es c)) (he : e ∈ es) (hn : (es.map En.t).Nodup) :
  (Instr.entry (.pointer (some ⟨bi,0,none⟩))).run P w = .ok (.tuple #[.string e.k,e.v]) w := by
 have hf : (ents es).find? (·.born == e.t) = some e.e := by
  rw [← Array.find?_toList]
  refine find_born e.e (ents es).toList ?_ (mem_ents.2 ⟨e,he,rfl⟩)
  simpa [ents,En.e,Function.comp_def] using hn
 simp only [Instr.entry,Sem.run_bind,getObj_iter hi,getObj_map hm,Result.andThen_ok,Array.back?_push,bne_self_eq_false,Bool.false_eq_true,if_false,hf]
 rfl
class Tac (P : Program) (T : Nat) (z : outParam Value) : Prop where
 hit : ∀ ok v xT w,(Instr.typeAssert (.iface T v) xT T ok).run P w = .ok (if ok then .tuple #[v,.bool true] else v) w
 miss : ∀ t v xT w,t ≠ T → (Instr.typeAssert (.iface t v) xT T true).run P w = .ok (.tuple #[z,.bool false]) w
 nil : ∀ xT w,(Instr.typeAssert .nilIface xT T true).run P w = .ok (.tuple #[z,.bool false]) w
theorem tac {T : Nat} {d : TypeDesc} {z : Value} (hd : ∀ m,d ≠ .interface m) (hu : ∀ w,(underlying T).run P w = .ok d w) (hz : ∀ w,(zeroValue T).run P w = .ok z w) : Tac P T z := by
 have key : ∀ (x : Value) (xT : TypeId) (ok : Bool) w,(Instr.typeAssert x xT T ok).run P w = Sem.run P (match x with
  | .nilIface => if ok then do pure (.tuple #[← zeroValue T,.bool false]) else runtimePanic (.typeAssertion (some xT) none T "")
  | .iface t v => if t = T then pure (if ok then .tuple #[v,.bool true] else v) else if ok then do pure (.tuple #[← zeroValue T,.bool false]) else runtimePanic (.typeAssertion (some xT) (some t) T "")
  | _ => stuck "TypeAssert: interface value expected" : Sem Value) w := by
  intro x xT ok w
  simp only [Instr.typeAssert,Sem.run_bind,hu,Result.andThen_ok]
  cases d <;> first | exact absurd rfl (hd _) | (cases x <;> rfl)
 refine ⟨fun ok v xT w => ?_,fun t v xT w hne => ?_,fun xT w => ?_⟩
 ·rw [key]; simp
 ·rw [key]; simp [hne,hz]
 ·rw [key]; simp [hz]
class Mth (P : Program) (T : Nat) (name : String) (g : outParam Nat) : Prop where
 run : ∀ v w,(method (P.types.size + Made.depth) T v name).run P w = .ok (g,v) w
class MthL (P : Program) (T : Nat) (name : String) (g : outParam Nat) (e : outParam Nat) : Prop where
 run : ∀ a w,(method (P.types.size + Made.depth) T (.pointer (some a)) name).run P w = Sem.run P (do pure (g,← loadVar e a)) w
end Go.Ux
namespace Go.Ux
open Go
variable {P : Program}
section
variable {n : Nat} {all : Array Oper} {dr : Bool} {Pin : Hp} {K : Fr → Fz → Hp → Prop} {rest : List Oper} {l : List Lay} {D : List Deferred} {Z : Fz} {H : Hp}
variable {dst : Option Tmp} {d : Tmp} {ty : TypeId} {pos : String} {af : Array Edge} {gd : Option (Nat × Bool)} {x y z : Operand} {T : TypeId} {b off : Nat} {v u : Value}
theorem o_lookup {el m c : Nat} {es : List En} {s : ByteArray} {zv : Value} {ok : Bool} [Kst P T el] [Zv P el zv] [hm : Mem dr Z Pin H m (mp es c)] (hg : okO n all ⟨l,D⟩ ⟨some d,.lookup T x y ok,ty,pos,af,gd⟩ = true)
  (hx : ev ⟨l,D⟩ x = .map (some m)) (hy : ev ⟨l,D⟩ y = .string s) (h : Rg P n all dr Pin K rest ⟨.s d (if ok then .tuple #[(lk es s).getD zv,.bool (lk es s).isSome] else (lk es s).getD zv) :: l,D⟩ Z H) :
  Rg P n all dr Pin K (⟨some d,.lookup T x y ok,ty,pos,af,gd⟩ :: rest) ⟨l,D⟩ Z H := by
 refine o_p hg rfl (fun w hs => ?_) h
 show Sem.run P (do pure (Next.value (← Instr.lookup T (ev ⟨l,D⟩ x) (ev ⟨l,D⟩ y) ok))) w = _
 rw [hx,hy]
 simp only [Sem.run_bind,run_lookup ((hm.heap hs).lit (by intro _ _ _ h; cases h)),Result.andThen_ok,Sem.run_pure]
theorem o_lookup0 {el : Nat} {s : ByteArray} {zv : Value} {ok : Bool} [Kst P T el] [Zv P el zv] (hg : okO n all ⟨l,D⟩ ⟨some d,.lookup T x y ok,ty,pos,af,gd⟩ = true)
  (hx : ev ⟨l,D⟩ x = .map none) (hy : ev ⟨l,D⟩ y = .string s) (h : Rg P n all dr Pin K rest ⟨.s d (if ok then .tuple #[zv,.bool false] else zv) :: l,D⟩ Z H) :
  Rg P n all dr Pin K (⟨some d,.lookup T x y ok,ty,pos,af,gd⟩ :: rest) ⟨l,D⟩ Z H := by
 refine o_p hg rfl (fun w hs => ?_) h
 show Sem.run P (do pure (Next.value (← Instr.lookup T (ev ⟨l,D⟩ x) (ev ⟨l,D⟩ y) ok))) w = _
 rw [hx,hy]
 simp only [Sem.run_bind,run_lookup0,Result.andThen_ok,Sem.run_pure]
theorem o_makeMap (hg : okO n all ⟨l,D⟩ ⟨some d,.makeMap T none,ty,pos,af,gd⟩ = true) (h : ∀ b,Rg P n all dr Pin K rest ⟨.s d (.map (some b)) :: l,D⟩ Z ((b,mp [] 0) :: H)) :
  Rg P n all dr Pin K (⟨some d,.makeMap T none,ty,pos,af,gd⟩ :: rest) ⟨l,D⟩ Z H :=
 o_a (mk := fun b => .map (some b)) (ob := mp [] 0) hg rfl (fun _ => rfl) h
theorem o_w {o : Oper} {ob ob' : Obj} {R : Obj → Hp} {r : Value} [ha : Pk b H ob R] (hg : okO n all ⟨l,D⟩ o = true) (hk : kindO o.op = 2)
  (hr : ∀ w,w.heap[b]? = some ob → RunO P (ev ⟨l,D⟩) o w fun v w' => v = r ∧ w'.heap[b]? = some ob' ∧ (∀ k,k ≠ b → w'.heap[k]? = w.heap[k]?) ∧ Stay w w')
  (h : Rg P n all dr Pin K rest (put ⟨l,D⟩ o.dst r) Z (R ob')) : Rg P n all dr Pin K (o :: rest) ⟨l,D⟩ Z H := by
 obtain ⟨F0,p1,p2'⟩ := ha.h
 have p2 := p2' ob'
 refine o_e (fun v Z₁ H₁ => v = r ∧ Z₁ = Z ∧ H₁ = R ob') hg hk (fun w F hs => ?_) ?_
 ·have hs1 : Sat w Z ((b,ob) :: (Pin ++ (F0 ++ F))) := hs.perm (((p1.append_right F).append_left Pin).trans List.perm_middle)
  have hw := hs1.own (b,ob) (List.mem_cons_self ..)
  have := hr w hw
  unfold RunO at this ⊢
  have fin : ∀ (w' : World) (v : Value),(v = r ∧ w'.heap[b]? = some ob' ∧ (∀ k,k ≠ b → w'.heap[k]? = w.heap[k]?) ∧ Stay w w') →
    ∃ Z' H',Fz.le Z Z' ∧ Sat w' Z' (Pin ++ (H' ++ F)) ∧ Stay w w' ∧ v = r ∧ Z' = Z ∧ H' = R ob' := by
   rintro w' v ⟨rfl,h2,h3,h4⟩
   have hs2 : Sat w' Z ((b,ob') :: (Pin ++ (F0 ++ F))) := Sat.set hs1 h2 h3
   refine ⟨Z,_,.refl Z,hs2.perm ?_,h4,rfl,rfl,rfl⟩
   exact (((p2.append_right F).append_left Pin).trans List.perm_middle).symm
  revert this
  split
  all_goals first
   | exact fun hq => fin _ _ hq
   | exact fun hq => Calls.mono hq (fun e w' ⟨v,he,hq⟩ => ⟨v,he,fin _ _ hq⟩)
   | exact id
 ·rintro v Z₁ H₁ _ ⟨rfl,rfl,rfl⟩
  exact h
theorem o_mapUpdate {el m c : Nat} {es : List En} {s : ByteArray} {R : Obj → Hp} [Kst P T el] [ha : Pk m H (mp es c) R] (hg : okO n all ⟨l,D⟩ ⟨none,.mapUpdate T x y z,ty,pos,af,gd⟩ = true)
  (hx : ev ⟨l,D⟩ x = .map (some m)) (hy : ev ⟨l,D⟩ y = .string s) (hz : ev ⟨l,D⟩ z = v) (h : Rg P n all dr Pin K rest ⟨l,D⟩ Z (R (mp (upd s v c es) (nxt s es c)))) :
  Rg P n all dr Pin K (⟨none,.mapUpdate T x y z,ty,pos,af,gd⟩ :: rest) ⟨l,D⟩ Z H := by
 refine o_w (b := m) (ob' := mp (upd s v c es) (nxt s es c)) (r := undef) hg rfl (fun w hw => ?_) h
 obtain ⟨w',h1,h2,h3,h4⟩ := run_mapUpdate (P := P) (T := T) (s := s) (v := v) hw
 have : (execOp (ev ⟨l,D⟩) ⟨none,.mapUpdate T x y z,ty,pos,af,gd⟩).run P w = .ok .skip w' := by
  show Sem.run P (do Instr.mapUpdate T (ev ⟨l,D⟩ x) (ev ⟨l,D⟩ y) (ev ⟨l,D⟩ z); pure Next.skip) w = _
  rw [hx,hy,hz]
  simp only [Sem.run_bind,h1,Result.andThen_ok,Sem.run_pure]
 unfold RunO
 rw [this]
 exact ⟨rfl,h2,h3,h4⟩
theorem o_insert {el m c : Nat} {es : List En} {s : ByteArray} {R : Obj → Hp} [Kst P T el] [ha : Pk m H (mp es c) R] (hg : okO n all ⟨l,D⟩ ⟨none,.insert T x y z,ty,pos,af,gd⟩ = true)
  (hx : ev ⟨l,D⟩ x = .map (some m)) (hy : ev ⟨l,D⟩ y = .string s) (hz : ev ⟨l,D⟩ z = v) (h : Rg P n all dr Pin K rest ⟨l,D⟩ Z (R (mp (upd s v c es) (nxt s es c)))) :
  Rg P n all dr Pin K (⟨none,.insert T x y z,ty,pos,af,gd⟩ :: rest) ⟨l,D⟩ Z H := by
 refine o_w (b := m) (ob' := mp (upd s v c es) (nxt s es c)) (r := undef) hg rfl (fun w hw => ?_) h
 obtain ⟨w',h1,h2,h3,h4⟩ := run_mapUpdate (P := P) (T := T) (s := s) (v := v) hw
 have : (execOp (ev ⟨l,D⟩) ⟨none,.insert T x y z,ty,pos,af,gd⟩).run P w = .ok .skip w' := by
  show Sem.run P (do Instr.mapUpdate T (ev ⟨l,D⟩ x) (ev ⟨l,D⟩ y) (ev ⟨l,D⟩ z); pure Next.skip) w = _
  rw [hx,hy,hz]
  simp only [Sem.run_bind,h1,Result.andThen_ok,Sem.run_pure]
 unfold RunO
 rw [this]
 exact ⟨rfl,h2,h3,h4⟩
theorem o_typeHit {z' : Value} {xT : TypeId} {ok : Bool} [Tac P T z'] (hg : okO n all ⟨l,D⟩ ⟨some d,.typeAssert x xT T ok,ty,pos,af,gd⟩ = true) (hx : ev ⟨l,D⟩ x = .iface T v)
  (h : Rg P n all dr Pin K rest ⟨.s d (if ok then .tuple #[v,.bool true] else v) :: l,D⟩ Z H) : Rg P n all dr Pin K (⟨some d,.typeAssert x xT T ok,ty,pos,af,gd⟩ :: rest) ⟨l,D⟩ Z H := by
 refine o_p hg rfl (fun w hs => ?_) h
 show Sem.run P (do pure (Next.value (← Instr.typeAssert (ev ⟨l,D⟩ x) xT T ok))) w = _
 rw [hx]
 simp only [Sem.run_bind,Tac.hit (P := P) (T := T),Result.andThen_ok,Sem.run_pure]
theorem o_typeMiss {t : Nat} {z' : Value} {xT : TypeId} [Tac P T z'] (hg : okO n all ⟨l,D⟩ ⟨some d,.typeAssert x xT T true,ty,pos,af,gd⟩ = true) (hx : ev ⟨l,D⟩ x = .iface t v) (hne : Nat.beq t T = false)
  (h : Rg P n all dr Pin K rest ⟨.s d (.tuple #[z',.bool false]) :: l,D⟩ Z H) : Rg P n all dr Pin K (⟨some d,.typeAssert x xT T true,ty,pos,af,gd⟩ :: rest) ⟨l,D⟩ Z H := by
 refine o_p hg rfl (fun w hs => ?_) h
 have : t ≠ T := fun e => by subst e; simp at hne
 show Sem.run P (do pure (Next.value (← Instr.typeAssert (ev ⟨l,D⟩ x) xT T true))) w = _
 rw [hx]
 simp only [Sem.run_bind,Tac.miss (P := P) (T := T) t v xT w this,Result.andThen_ok,Sem.run_pure]
theorem o_typeNil {z' : Value} {xT : TypeId} [Tac P T z'] (hg : okO n all ⟨l,D⟩ ⟨some d,.typeAssert x xT T true,ty,pos,af,gd⟩ = true) (hx : ev ⟨l,D⟩ x = .nilIface)
  (h : Rg P n all dr Pin K rest ⟨.s d (.tuple #[z',.bool false]) :: l,D⟩ Z H) : Rg P n all dr Pin K (⟨some d,.typeAssert x xT T true,ty,pos,af,gd⟩ :: rest) ⟨l,D⟩ Z H := by
 refine o_p hg rfl (fun w hs => ?_) h
 show Sem.run P (do pure (Next.value (← Instr.typeAssert (ev ⟨l,D⟩ x) xT T true))) w = _
 rw [hx]
 simp only [Sem.run_bind,Tac.nil (P := P) (T := T),Result.andThen_ok,Sem.run_pure]
theorem o_enter {c : Call} {g : FuncId} {args : List Value} {Q : Value → Fz → Hp → Prop} (Hc Hr : Hp)
  (hg : okO n all ⟨l,D⟩ ⟨dst,.call c,ty,pos,af,gd⟩ = true) (hk : kindO (.call c) = 2)
  (hrun : ∀ w F,Sat w Z (Pin ++ (H ++ F)) → (execOp (ev ⟨l,D⟩) ⟨dst,.call c,ty,pos,af,gd⟩).run P w = .ok (.enter g args.toArray) w) (ht : Tr P g args.toArray Z Hc Q) (hp : H.Perm (Hc ++ Hr))
  (h : ∀ v Z' H',Fz.le Z Z' → Q v Z' H' → Rg P n all dr Pin K rest (put ⟨l,D⟩ dst v) Z' (H' ++ Hr)) : Rg P n all dr Pin K (⟨dst,.call c,ty,pos,af,gd⟩ :: rest) ⟨l,D⟩ Z H := by
 refine o_e (fun v Z₁ H₁ => ∃ H',H₁ = H' ++ Hr ∧ Q v Z₁ H') hg hk (fun w F hs => ?_) ?_
 ·unfold RunO
  rw [hrun w F hs]
  have e1 : (Pin ++ (H ++ F)).Perm (Hc ++ (Hr ++ F ++ Pin)) := by
   refine ((hp.append_right F).append_left Pin).trans ?_
   rw [List.append_assoc,List.append_assoc]
   exact List.perm_append_comm.trans (by simp only [List.append_assoc]; exact .refl _)
  refine Calls.mono (ht w _ (hs.perm e1)) ?_
  rintro e w' ⟨v,he,Z',H',hz,hs',hst,hq⟩
  refine ⟨v,he,Z',H' ++ Hr,hz,hs'.perm ?_,hst,H',rfl,hq⟩
  have e2 : (H' ++ (Hr ++ F ++ Pin)).Perm (Pin ++ (H' ++ Hr ++ F)) := by
   refine List.Perm.trans ?_ List.perm_append_comm
   simp only [List.append_assoc]
   exact .refl _
  exact e2
 ·rintro v Z₁ H₁ hz ⟨H',rfl,hq⟩
  exact h v Z₁ H' hz hq
theorem o_callV {g : FuncId} {t : Tmp} {xs : List Operand} {ats : Array TypeId} {fs cs args : List Value} {Q : Value → Fz → Hp → Prop} (Hc Hr : Hp) [Ent P g]
  (hg : okO n all ⟨l,D⟩ ⟨dst,.call ⟨.value (.tmp t),xs.toArray,ats⟩,ty,pos,af,gd⟩ = true) (hf : ev ⟨l,D⟩ (.tmp t) = .func (.func g) fs.toArray cs.toArray) (ht : Tr P g args.toArray Z Hc Q) (ha : fs ++ xs.map (ev ⟨l,D⟩) ++ cs = args) (hp : H.Perm (Hc ++ Hr))
  (h : ∀ v Z' H',Fz.le Z Z' → Q v Z' H' → Rg P n all dr Pin K rest (put ⟨l,D⟩ dst v) Z' (H' ++ Hr)) : Rg P n all dr Pin K (⟨dst,.call ⟨.value (.tmp t),xs.toArray,ats⟩,ty,pos,af,gd⟩ :: rest) ⟨l,D⟩ Z H := by
 refine o_enter Hc Hr hg rfl (fun w F hs => ?_) ht hp h
 show Sem.run P (do let d ← resolve (ev ⟨l,D⟩) ⟨.value (.tmp t),xs.toArray,ats⟩ ty; invoke d.target d.args) w = _
 have e : (fs.toArray ++ xs.toArray.map (ev ⟨l,D⟩)) ++ cs.toArray = args.toArray := by rw [← ha]; simp
 simp only [resolve,hf,Deferred.ofValue,invoke,Sem.run_bind,Sem.run_pure,Result.andThen_ok,e,Ent.run]
theorem o_inv {g : FuncId} {name : String} {t : Nat} {xs : List Operand} {ats : Array TypeId} {args : List Value} {Q : Value → Fz → Hp → Prop} (Hc Hr : Hp) [Ent P g] [Mth P t name g]
  (hg : okO n all ⟨l,D⟩ ⟨dst,.call ⟨.invoke x name,xs.toArray,ats⟩,ty,pos,af,gd⟩ = true) (hx : ev ⟨l,D⟩ x = .iface t v) (ht : Tr P g args.toArray Z Hc Q) (ha : v :: xs.map (ev ⟨l,D⟩) = args) (hp : H.Perm (Hc ++ Hr))
  (h : ∀ v Z' H',Fz.le Z Z' → Q v Z' H' → Rg P n all dr Pin K rest (put ⟨l,D⟩ dst v) Z' (H' ++ Hr)) : Rg P n all dr Pin K (⟨dst,.call ⟨.invoke x name,xs.toArray,ats⟩,ty,pos,af,gd⟩ :: rest) ⟨l,D⟩ Z H := by
 refine o_enter Hc Hr hg rfl (fun w F hs => ?_) ht hp h
 show Sem.run P (do let d ← resolve (ev ⟨l,D⟩) ⟨.invoke x name,xs.toArray,ats⟩ ty; invoke d.target d.args) w = _
 have e0 : (#[Value.iface t v] ++ xs.toArray.map (ev ⟨l,D⟩)) = (Value.iface t v :: xs.map (ev ⟨l,D⟩)).toArray := by simp
 have e1 : ((Value.iface t v :: xs.map (ev ⟨l,D⟩)).toArray).extract 1 ((Value.iface t v :: xs.map (ev ⟨l,D⟩)).toArray).size = (xs.map (ev ⟨l,D⟩)).toArray := by
  simp only [List.extract_toArray,List.size_toArray,List.length_cons,List.extract_eq_take_drop,Nat.add_sub_cancel,List.drop_succ_cons,List.drop_zero]
  rw [List.take_length]
 have e2 : (#[v] ++ (xs.map (ev ⟨l,D⟩)).toArray) = args.toArray := by rw [← ha]; simp
 simp only [resolve,hx,invoke,callMethod,Sem.run_bind,Sem.run_pure,Result.andThen_ok,e0,e1,List.getElem?_toArray,List.getElem?_cons_zero,run_program,Mth.run (P := P) (T := t) (name := name),e2,Ent.run]
theorem o_invL {g : FuncId} {name : String} {t e k : Nat} {ob : List Value} {U : Nat} {vs : List Value} {xs : List Operand} {ats : Array TypeId} {args : List Value} {Q : Value → Fz → Hp → Prop} (Hc Hr : Hp) [Ent P g] [MthL P t name g e] [Ty P e k true] [hm : Mem false Z Pin H b (cl ob U)]
  (hg : okO n all ⟨l,D⟩ ⟨dst,.call ⟨.invoke x name,xs.toArray,ats⟩,ty,pos,af,gd⟩ = true) (hx : ev ⟨l,D⟩ x = .iface t (.pointer (some ⟨b,off,none⟩))) (hv : (ob.drop off).take k = vs) (hl : vs.length = k)
  (ht : Tr P g args.toArray Z Hc Q) (ha : .agg vs.toArray :: xs.map (ev ⟨l,D⟩) = args) (hp : H.Perm (Hc ++ Hr))
  (h : ∀ v Z' H',Fz.le Z Z' → Q v Z' H' → Rg P n all dr Pin K rest (put ⟨l,D⟩ dst v) Z' (H' ++ Hr)) : Rg P n all dr Pin K (⟨dst,.call ⟨.invoke x name,xs.toArray,ats⟩,ty,pos,af,gd⟩ :: rest) ⟨l,D⟩ Z H := by
 refine o_enter Hc Hr hg rfl (fun w F hs => ?_) ht hp h
 have hw : Seen w b (cl ob U) := hm.heap (w := w) (by
  have hs1 : Sat w Z (F ++ (Pin ++ H)) := hs.perm (by rw [← List.append_assoc]; exact List.perm_append_comm)
  exact hs1.drop)
 show Sem.run P (do let d ← resolve (ev ⟨l,D⟩) ⟨.invoke x name,xs.toArray,ats⟩ ty; invoke d.target d.args) w = _
 have e0 : (#[Value.iface t (.pointer (some ⟨b,off,none⟩))] ++ xs.toArray.map (ev ⟨l,D⟩)) = (Value.iface t (.pointer (some ⟨b,off,none⟩)) :: xs.map (ev ⟨l,D⟩)).toArray := by simp
 have e1 : ((Value.iface t (.pointer (some ⟨b,off,none⟩)) :: xs.map (ev ⟨l,D⟩)).toArray).extract 1 ((Value.iface t (.pointer (some ⟨b,off,none⟩)) :: xs.map (ev ⟨l,D⟩)).toArray).size = (xs.map (ev ⟨l,D⟩)).toArray := by
  simp only [List.extract_toArray,List.size_toArray,List.length_cons,List.extract_eq_take_drop,Nat.add_sub_cancel,List.drop_succ_cons,List.drop_zero]
  rw [List.take_length]
 have e2 : (#[Value.agg vs.toArray] ++ (xs.map (ev ⟨l,D⟩)).toArray) = args.toArray := by rw [← ha]; simp
 simp only [resolve,hx,invoke,callMethod,Sem.run_bind,Sem.run_pure,Result.andThen_ok,e0,e1,List.getElem?_toArray,List.getElem?_cons_zero,run_program,MthL.run (P := P) (T := t) (name := name),loadVar_agg hw hv hl,e2,Ent.run]
theorem o_invL1 {g : FuncId} {name : String} {t e : Nat} {u : Value} {ob : List Value} {U : Nat} {xs : List Operand} {ats : Array TypeId} {args : List Value} {Q : Value → Fz → Hp → Prop} (Hc Hr : Hp) [Ent P g] [MthL P t name g e] [Ty P e 1 false] [hm : Mem false Z Pin H b (cl ob U)]
  (hg : okO n all ⟨l,D⟩ ⟨dst,.call ⟨.invoke x name,xs.toArray,ats⟩,ty,pos,af,gd⟩ = true) (hx : ev ⟨l,D⟩ x = .iface t (.pointer (some ⟨b,off,none⟩))) (hv : ob[off]? = some u)
  (ht : Tr P g args.toArray Z Hc Q) (ha : u :: xs.map (ev ⟨l,D⟩) = args) (hp : H.Perm (Hc ++ Hr))
  (h : ∀ v Z' H',Fz.le Z Z' → Q v Z' H' → Rg P n all dr Pin K rest (put ⟨l,D⟩ dst v) Z' (H' ++ Hr)) : Rg P n all dr Pin K (⟨dst,.call ⟨.invoke x name,xs.toArray,ats⟩,ty,pos,af,gd⟩ :: rest) ⟨l,D⟩ Z H := by
 refine o_enter Hc Hr hg rfl (fun w F hs => ?_) ht hp h
 have hw : Seen w b (cl ob U) := hm.heap (w := w) (by
  have hs1 : Sat w Z (F ++ (Pin ++ H)) := hs.perm (by rw [← List.append_assoc]; exact List.perm_append_comm)
  exact hs1.drop)
 show Sem.run P (do let d ← resolve (ev ⟨l,D⟩) ⟨.invoke x name,xs.toArray,ats⟩ ty; invoke d.target d.args) w = _
 have e0 : (#[Value.iface t (.pointer (some ⟨b,off,none⟩))] ++ xs.toArray.map (ev ⟨l,D⟩)) = (Value.iface t (.pointer (some ⟨b,off,none⟩)) :: xs.map (ev ⟨l,D⟩)).toArray := by simp
 have e1 : ((Value.iface t (.pointer (some ⟨b,off,none⟩)) :: xs.map (ev ⟨l,D⟩)).toArray).extract 1 ((Value.iface t (.pointer (some ⟨b,off,none⟩)) :: xs.map (ev ⟨l,D⟩)).toArray).size = (xs.map (ev ⟨l,D⟩)).toArray := by
  simp only [List.extract_toArray,List.size_toArray,List.length_cons,List.extract_eq_take_drop,Nat.add_sub_cancel,List.drop_succ_cons,List.drop_zero]
  rw [List.take_length]
 have e2 : (#[u] ++ (xs.map (ev ⟨l,D⟩)).toArray) = args.toArray := by rw [← ha]; simp
 simp only [resolve,hx,invoke,callMethod,Sem.run_bind,Sem.run_pure,Result.andThen_ok,e0,e1,List.getElem?_toArray,List.getElem?_cons_zero,run_program,MthL.run (P := P) (T := t) (name := name),loadVar_one hw hv,e2,Ent.run]
theorem o_range {ke el m c : Nat} {es : List En} [Und P T (.map ke el)] [hm : Mem false Z Pin H m (mp es c)] (hg : okO n all ⟨l,D⟩ ⟨some d,.range T x,ty,pos,af,gd⟩ = true) (hx : ev ⟨l,D⟩ x = .map (some m))
  (h : ∀ b,Rg P n all dr Pin K rest ⟨.s d (.pointer (some ⟨b,0,none⟩)) :: l,D⟩ Z ((b,.mapIter (some m) c #[] c) :: H)) : Rg P n all dr Pin K (⟨some d,.range T x,ty,pos,af,gd⟩ :: rest) ⟨l,D⟩ Z H := by
 refine o_e (fun v Z₁ H₁ => ∃ b,v = .pointer (some ⟨b,0,none⟩) ∧ Z₁ = Z ∧ H₁ = (b,.mapIter (some m) c #[] c) :: H) hg rfl (fun w F hs => ?_) ?_
 ·have hw : w.heap[m]? = some (mp es c) := (hm.heap (w := w) (by
   have hs1 : Sat w Z (F ++ (Pin ++ H)) := hs.perm (by rw [← List.append_assoc]; exact List.perm_append_comm)
   exact hs1.drop)).lit (by intro _ _ _ h; cases h)
  have : (execOp (ev ⟨l,D⟩) ⟨some d,.range T x,ty,pos,af,gd⟩).run P w = .ok (.value (.pointer (some ⟨w.heap.size,0,none⟩))) (World.pushed w (.mapIter (some m) c #[] c)) := by
   show Sem.run P (do pure (Next.value (← Instr.range T (ev ⟨l,D⟩ x)))) w = _
   rw [hx]
   simp only [Instr.range,Sem.run_bind,Und.run (P := P) (T := T),Result.andThen_ok,getObj_map hw,Sem.run_pure,run_newObj]
   rfl
  unfold RunO
  rw [this]
  refine ⟨Z,(w.heap.size,.mapIter (some m) c #[] c) :: H,.refl Z,?_,⟨rfl,rfl,rfl,by simp [World.pushed]⟩,w.heap.size,rfl,rfl,rfl⟩
  exact (Sat.push hs (.mapIter (some m) c #[] c)).perm List.perm_middle.symm
 ·rintro v Z₁ H₁ _ ⟨b,rfl,rfl,rfl⟩
  exact h b
theorem o_next {bi m c : Nat} {seen : Array Nat} {es : List En} {R : Obj → Hp} [ha : Pk bi H (.mapIter (some m) c seen c) R] [hm : Mem false Z Pin H m (mp es c)] (hg : okO n all ⟨l,D⟩ ⟨some d,.next x false,ty,pos,af,gd⟩ = true)
  (hx : ev ⟨l,D⟩ x = .pointer (some ⟨bi,0,none⟩)) (hb : ∀ e ∈ es,e.t < c)
  (h0 : (∀ e ∈ es,e.t ∈ seen.toList) → Rg P n all dr Pin K rest ⟨.s d (.tuple #[.bool false]) :: l,D⟩ Z H)
  (h1 : ∀ e ∈ es,e.t ∉ seen.toList → Rg P n all dr Pin K rest ⟨.s d (.tuple #[.bool true,.string e.k,e.v]) :: l,D⟩ Z (R (.mapIter (some m) c (seen.push e.t) c))) :
  Rg P n all dr Pin K (⟨some d,.next x false,ty,pos,af,gd⟩ :: rest) ⟨l,D⟩ Z H := by
 obtain ⟨F0,p1,p2⟩ := ha.h
 refine o_e (fun v Z₁ H₁ => Z₁ = Z ∧ ((v = .tuple #[.bool false] ∧ H₁ = H ∧ ∀ e ∈ es,e.t ∈ seen.toList) ∨ ∃ e ∈ es,e.t ∉ seen.toList ∧ v = .tuple #[.bool true,.string e.k,e.v] ∧ H₁ = R (.mapIter (some m) c (seen.push e.t) c))) hg rfl (fun w F hs => ?_) ?_
 ·have hw : w.heap[m]? = some (mp es c) := (hm.heap (w := w) (by
   have hs1 : Sat w Z (F ++ (Pin ++ H)) := hs.perm (by rw [← List.append_assoc]; exact List.perm_append_comm)
   exact hs1.drop)).lit (by intro _ _ _ h; cases h)
  have hs1 : Sat w Z ((bi,.mapIter (some m) c seen c) :: (Pin ++ (F0 ++ F))) := hs.perm (((p1.append_right F).append_left Pin).trans List.perm_middle)
  have hi := hs1.own (bi,_) (List.mem_cons_self ..)
  rcases run_next (P := P) (ty := ty) hi hw hb with ⟨q1,q2⟩ | ⟨e,he,hns,w',q1,q2,q3,q4⟩
  ·have : (execOp (ev ⟨l,D⟩) ⟨some d,.next x false,ty,pos,af,gd⟩).run P w = .ok (.value (.tuple #[.bool false])) w := by
    show Sem.run P (do pure (Next.value (← Instr.next (ev ⟨l,D⟩ x) false ty))) w = _
    rw [hx]
    simp only [Sem.run_bind,q2,Result.andThen_ok,Sem.run_pure]
   unfold RunO
   rw [this]
   exact ⟨Z,H,.refl Z,hs,.refl w,rfl,.inl ⟨rfl,rfl,q1⟩⟩
  ·have : (execOp (ev ⟨l,D⟩) ⟨some d,.next x false,ty,pos,af,gd⟩).run P w = .ok (.value (.tuple #[.bool true,.string e.k,e.v])) w' := by
    show Sem.run P (do pure (Next.value (← Instr.next (ev ⟨l,D⟩ x) false ty))) w = _
    rw [hx]
    simp only [Sem.run_bind,q1,Result.andThen_ok,Sem.run_pure]
   unfold RunO
   rw [this]
   have hs2 : Sat w' Z ((bi,.mapIter (some m) c (seen.push e.t) c) :: (Pin ++ (F0 ++ F))) := Sat.set hs1 q2 q3
   refine ⟨Z,_,.refl Z,hs2.perm ?_,q4,rfl,.inr ⟨e,he,hns,rfl,rfl⟩⟩
   exact ((((p2 _).append_right F).append_left Pin).trans List.perm_middle).symm
 ·rintro v Z₁ H₁ _ ⟨rfl,(⟨rfl,rfl,q⟩ | ⟨e,he,hns,rfl,rfl⟩)⟩
  ·exact h0 q
  ·exact h1 e he hns
theorem o_entry {bi m c : Nat} {seen : Array Nat} {es : List En} {e : En} {R : Obj → Hp} [ha : Pk bi H (.mapIter (some m) c (seen.push e.t) c) R] [hm : Mem false Z Pin H m (mp es c)] (hg : okO n all ⟨l,D⟩ ⟨some d,.entry x,ty,pos,af,gd⟩ = true)
  (hx : ev ⟨l,D⟩ x = .pointer (some ⟨bi,0,none⟩)) (he : e ∈ es) (hn : (es.map En.t).Nodup) (h : Rg P n all dr Pin K rest ⟨.s d (.tuple #[.string e.k,e.v]) :: l,D⟩ Z H) :
  Rg P n all dr Pin K (⟨some d,.entry x,ty,pos,af,gd⟩ :: rest) ⟨l,D⟩ Z H := by
 refine o_e (fun v Z₁ H₁ => v = .tuple #[.string e.k,e.v] ∧ Z₁ = Z ∧ H₁ = H) hg rfl (fun w F hs => ?_) ?_
 ·have hs1 : Sat w Z (Pin ++ H) := by
   have hs1 : Sat w Z (F ++ (Pin ++ H)) := hs.perm (by rw [← List.append_assoc]; exact List.perm_append_comm)
   exact hs1.drop
  have hw : w.heap[m]? = some (mp es c) := (hm.heap (w := w) hs1).lit (by intro _ _ _ h; cases h)
  have hi : w.heap[bi]? = some (.mapIter (some m) c (seen.push e.t) c) := hs1.own (bi,_) (List.mem_append_right _ ha.mem)
  have : (execOp (ev ⟨l,D⟩) ⟨some d,.entry x,ty,pos,af,gd⟩).run P w = .ok (.value (.tuple #[.string e.k,e.v])) w := by
   show Sem.run P (do pure (Next.value (← Instr.entry (ev ⟨l,D⟩ x)))) w = _
   rw [hx]
   simp only [Sem.run_bind,run_entry hi hw he hn,Result.andThen_ok,Sem.run_pure]
  unfold RunO
  rw [this]
  exact ⟨Z,H,.refl Z,hs,.refl w,rfl,rfl,rfl⟩
 ·rintro v Z₁ H₁ _ ⟨rfl,rfl,rfl⟩
  exact h
theorem o_lenM {ke el m c : Nat} {es : List En} [Und P T (.map ke el)] [hm : Mem dr Z Pin H m (mp es c)] (hg : okO n all ⟨l,D⟩ ⟨some d,.call ⟨.builtin .len,#[x],#[T]⟩,ty,pos,af,gd⟩ = true) (hx : ev ⟨l,D⟩ x = .map (some m))
  (h : Rg P n all dr Pin K rest ⟨.s d (.int .i64 (Int.ofNat es.length)) :: l,D⟩ Z H) : Rg P n all dr Pin K (⟨some d,.call ⟨.builtin .len,#[x],#[T]⟩,ty,pos,af,gd⟩ :: rest) ⟨l,D⟩ Z H := by
 refine o_p hg rfl (fun w hs => ?_) h
 show Sem.run P (do let d ← resolve (ev ⟨l,D⟩) ⟨.builtin .len,#[x],#[T]⟩ ty; invoke d.target d.args) w = _
 simp only [resolve,invoke,builtin,Builtin.len_,Sem.run_bind,Sem.run_pure,Result.andThen_ok,hx,List.map_toArray,List.map_cons,List.map_nil]
 simp [Und.run (P := P) (T := T),goInt,getObj_map ((hm.heap hs).lit (by intro _ _ _ h; cases h)),ents]
theorem o_lenM0 {ke el : Nat} [Und P T (.map ke el)] (hg : okO n all ⟨l,D⟩ ⟨some d,.call ⟨.builtin .len,#[x],#[T]⟩,ty,pos,af,gd⟩ = true) (hx : ev ⟨l,D⟩ x = .map none)
  (h : Rg P n all dr Pin K rest ⟨.s d (.int .i64 0) :: l,D⟩ Z H) : Rg P n all dr Pin K (⟨some d,.call ⟨.builtin .len,#[x],#[T]⟩,ty,pos,af,gd⟩ :: rest) ⟨l,D⟩ Z H := by
 refine o_p hg rfl (fun w hs => ?_) h
 show Sem.run P (do let d ← resolve (ev ⟨l,D⟩) ⟨.builtin .len,#[x],#[T]⟩ ty; invoke d.target d.args) w = _
 simp only [resolve,invoke,builtin,Builtin.len_,Sem.run_bind,Sem.run_pure,Result.andThen_ok,hx,List.map_toArray,List.map_cons,List.map_nil]
 simp [Und.run (P := P) (T := T),goInt]
theorem o_lenStr {s : ByteArray} [Und P T .string] (hg : okO n all ⟨l,D⟩ ⟨some d,.call ⟨.builtin .len,#[x],#[T]⟩,ty,pos,af,gd⟩ = true) (hx : ev ⟨l,D⟩ x = .string s)
  (h : Rg P n all dr Pin K rest ⟨.s d (.int .i64 (Int.ofNat s.size)) :: l,D⟩ Z H) : Rg P n all dr Pin K (⟨some d,.call ⟨.builtin .len,#[x],#[T]⟩,ty,pos,af,gd⟩ :: rest) ⟨l,D⟩ Z H := by
 refine o_p hg rfl (fun w hs => ?_) h
 show Sem.run P (do let d ← resolve (ev ⟨l,D⟩) ⟨.builtin .len,#[x],#[T]⟩ ty; invoke d.target d.args) w = _
 simp only [resolve,invoke,builtin,Builtin.len_,Sem.run_bind,Sem.run_pure,Result.andThen_ok,hx,List.map_toArray,List.map_cons,List.map_nil]
 simp [Und.run (P := P) (T := T),goInt]
theorem o_cap {a : Option Addr} {k c : Nat} {e : TypeId} [Und P T (.slice e)] (hg : okO n all ⟨l,D⟩ ⟨some d,.call ⟨.builtin .cap,#[x],#[T]⟩,ty,pos,af,gd⟩ = true) (hx : ev ⟨l,D⟩ x = .slice a k c)
  (h : Rg P n all dr Pin K rest ⟨.s d (.int .i64 (Int.ofNat c)) :: l,D⟩ Z H) : Rg P n all dr Pin K (⟨some d,.call ⟨.builtin .cap,#[x],#[T]⟩,ty,pos,af,gd⟩ :: rest) ⟨l,D⟩ Z H := by
 refine o_p hg rfl (fun w _ => ?_) h
 show Sem.run P (do let d ← resolve (ev ⟨l,D⟩) ⟨.builtin .cap,#[x],#[T]⟩ ty; invoke d.target d.args) w = _
 simp only [resolve,invoke,builtin,Builtin.cap_,Sem.run_bind,Sem.run_pure,Result.andThen_ok,hx,List.map_toArray,List.map_cons,List.map_nil]
 simp [Und.run (P := P) (T := T),goInt]
theorem o_makeSlice0 {e k c : Nat} {ik : IntKind} [El P e k] [Sty P T e] (hg : okO n all ⟨l,D⟩ ⟨some d,.makeSlice T (.const (.int .i64 0)) y,ty,pos,af,gd⟩ = true) (hy : ev ⟨l,D⟩ y = .int ik (Int.ofNat c)) (hc : c ≤ 137438953472)
  (h : ∀ v H',Sl e k v [] H' → Rg P n all dr Pin K rest ⟨.s d v :: l,D⟩ Z (H' ++ H)) : Rg P n all dr Pin K (⟨some d,.makeSlice T (.const (.int .i64 0)) y,ty,pos,af,gd⟩ :: rest) ⟨l,D⟩ Z H := by
 obtain ⟨i,z,hi,hik,hib,hiz,hzc⟩ := El.i (P := P) (e := e) (k := k)
 refine o_e (fun v Z₁ H₁ => Z₁ = Z ∧ ∃ H',H₁ = H' ++ H ∧ Sl e k v [] H') hg rfl (fun w F hs => ?_) ?_
 ·have hr := run_make (P := P) w T e i z Sty.u hi hiz .i64 ik 0 (Int.ofNat c) (Int.le_refl _) (by simp) (by
   have : i.bytes * c ≤ 1024 * 137438953472 := Nat.mul_le_mul hib hc
   have h2 : ((i.bytes * c : Nat) : Int) ≤ 281474976710656 := by omega
   simpa using h2) (by simp; omega)
  have : (execOp (ev ⟨l,D⟩) ⟨some d,.makeSlice T (.const (.int .i64 0)) y,ty,pos,af,gd⟩).run P w = .ok (.value (.slice (some ⟨w.heap.size,0,none⟩) 0 c)) (w.alloc (.cells (madeCells z.cells (c * i.size)) e)) := by
   show Sem.run P (do pure (Next.value (← Instr.makeSlice T (.int .i64 0) (ev ⟨l,D⟩ y)))) w = _
   rw [hy]
   simp only [Sem.run_bind,hr,Result.andThen_ok,Sem.run_pure]
   rfl
  unfold RunO
  rw [this]
  have ho : Obj.cells (madeCells z.cells (c * i.size)) e (0,0) = cl ([] ++ (madeCells z.cells (c * i.size)).toList) e := by simp
  refine ⟨Z,(w.heap.size,Obj.cells (madeCells z.cells (c * i.size)) e) :: H,.refl Z,?_,⟨rfl,rfl,rfl,by show w.heap.size ≤ (w.heap.push _).size; simp⟩,rfl,[(w.heap.size,Obj.cells (madeCells z.cells (c * i.size)) e)],rfl,?_⟩
  ·exact (Sat.push hs _).perm List.perm_middle.symm
  ·rw [ho]
   exact .row w.heap.size 0 c [] _ (by simp) (by simp [size_madeCells,hik]) (by omega)
 ·rintro v Z₁ H₁ _ ⟨rfl,H',rfl,hq⟩
  exact h v H' hq
theorem o_defer {c : Call} {dd : Deferred} (hg : okO n all ⟨l,D⟩ ⟨none,.defer c,ty,pos,af,gd⟩ = true) (hr : ∀ w,(resolve (ev ⟨l,D⟩) c ty).run P w = .ok dd w)
  (h : Rg P n all dr Pin K rest ⟨l,dd :: D⟩ Z H) : Rg P n all dr Pin K (⟨none,.defer c,ty,pos,af,gd⟩ :: rest) ⟨l,D⟩ Z H := by
 simp only [okO,Bool.and_eq_true] at hg
 refine .dfr dd hg.1 hg.2 (fun _ => rfl) (fun w F hs => ?_) h
 show Sem.run P (do pure (Next.defer (← resolve (ev ⟨l,D⟩) c ty))) w = _
 simp only [Sem.run_bind,hr,Result.andThen_ok,Sem.run_pure]
end
end Go.Ux
namespace Go.Ux
open Go Go.Proofs
theorem mo : Tryz.prog.follows .mixedOrders = true := by kernel_rfl
instance : Ty Tryz.prog 2 1 false := ⟨fun w => by kernel_rfl,fun w => by kernel_rfl⟩
instance : Ty Tryz.prog 3 1 false := ⟨fun w => by kernel_rfl,fun w => by kernel_rfl⟩
instance : Ty Tryz.prog 4 1 false := ⟨fun w => by kernel_rfl,fun w => by kernel_rfl⟩
instance : Ty Tryz.prog 9 1 false := ⟨fun w => by kernel_rfl,fun w => by kernel_rfl⟩
instance : Ty Tryz.prog 20 1 false := ⟨fun w => by kernel_rfl,fun w => by kernel_rfl⟩
instance : Ty Tryz.prog 24 1 false := ⟨fun w => by kernel_rfl,fun w => by kernel_rfl⟩
instance : Ty Tryz.prog 26 1 true := ⟨fun w => by kernel_rfl,fun w => by kernel_rfl⟩
instance : Ty Tryz.prog 27 1 false := ⟨fun w => by kernel_rfl,fun w => by kernel_rfl⟩
instance : Ty Tryz.prog 28 1 false := ⟨fun w => by kernel_rfl,fun w => by kernel_rfl⟩
instance : Ty Tryz.prog 30 3 true := ⟨fun w => by kernel_rfl,fun w => by kernel_rfl⟩
instance : Ty Tryz.prog 32 6 true := ⟨fun w => by kernel_rfl,fun w => by kernel_rfl⟩
instance : Ty Tryz.prog 33 1 false := ⟨fun w => by kernel_rfl,fun w => by kernel_rfl⟩
instance : Ty Tryz.prog 34 1 false := ⟨fun w => by kernel_rfl,fun w => by kernel_rfl⟩
instance : Ty Tryz.prog 35 1 false := ⟨fun w => by kernel_rfl,fun w => by kernel_rfl⟩
instance : Ty Tryz.prog 37 6 true := ⟨fun w => by kernel_rfl,fun w => by kernel_rfl⟩
instance : Ty Tryz.prog 38 1 false := ⟨fun w => by kernel_rfl,fun w => by kernel_rfl⟩
instance : Ty Tryz.prog 39 1 false := ⟨fun w => by kernel_rfl,fun w => by kernel_rfl⟩
instance : Ty Tryz.prog 40 1 false := ⟨fun w => by kernel_rfl,fun w => by kernel_rfl⟩
instance : Ty Tryz.prog 41 1 false := ⟨fun w => by kernel_rfl,fun w => by kernel_rfl⟩
instance : Ty Tryz.prog 43 22 true := ⟨fun w => by kernel_rfl,fun w => by kernel_rfl⟩
instance : Ty Tryz.prog 49 10 true := ⟨fun w => by kernel_rfl,fun w => by kernel_rfl⟩
instance : Ty Tryz.prog 51 1 false := ⟨fun w => by kernel_rfl,fun w => by kernel_rfl⟩
instance : Ty Tryz.prog 57 1 false := ⟨fun w => by kernel_rfl,fun w => by kernel_rfl⟩
instance : Ty Tryz.prog 61 10 true := ⟨fun w => by kernel_rfl,fun w => by kernel_rfl⟩
instance : Ty Tryz.prog 76 11 true := ⟨fun w => by kernel_rfl,fun w => by kernel_rfl⟩
instance : Ty Tryz.prog 79 4 true := ⟨fun w => by kernel_rfl,fun w => by kernel_rfl⟩
instance : Ty Tryz.prog 85 8 true := ⟨fun w => by kernel_rfl,fun w => by kernel_rfl⟩
instance : Ty Tryz.prog 86 1 false := ⟨fun w => by kernel_rfl,fun w => by kernel_rfl⟩
instance : Ty Tryz.prog 88 8 true := ⟨fun w => by kernel_rfl,fun w => by kernel_rfl⟩
instance : Ty Tryz.prog 90 4 true := ⟨fun w => by kernel_rfl,fun w => by kernel_rfl⟩
instance : Ty Tryz.prog 91 1 false := ⟨fun w => by kernel_rfl,fun w => by kernel_rfl⟩
instance : Ty Tryz.prog 92 1 false := ⟨fun w => by kernel_rfl,fun w => by kernel_rfl⟩
instance : Ty Tryz.prog 93 1 false := ⟨fun w => by kernel_rfl,fun w => by kernel_rfl⟩
instance : Ty Tryz.prog 94 1 false := ⟨fun w => by kernel_rfl,fun w => by kernel_rfl⟩
instance : Ty Tryz.prog 95 1 false := ⟨fun w => by kernel_rfl,fun w => by kernel_rfl⟩
instance : Ty Tryz.prog 97 3 true := ⟨fun w => by kernel_rfl,fun w => by kernel_rfl⟩
instance : Ty Tryz.prog 98 1 false := ⟨fun w => by kernel_rfl,fun w => by kernel_rfl⟩
instance : Ty Tryz.prog 100 6 true := ⟨fun w => by kernel_rfl,fun w => by kernel_rfl⟩
instance : Ty Tryz.prog 101 1 false := ⟨fun w => by kernel_rfl,fun w => by kernel_rfl⟩
instance : Ty Tryz.prog 102 1 false := ⟨fun w => by kernel_rfl,fun w => by kernel_rfl⟩
instance : Ty Tryz.prog 104 10 true := ⟨fun w => by kernel_rfl,fun w => by kernel_rfl⟩
instance : Ty Tryz.prog 106 1 false := ⟨fun w => by kernel_rfl,fun w => by kernel_rfl⟩
instance : Ty Tryz.prog 119 1 false := ⟨fun w => by kernel_rfl,fun w => by kernel_rfl⟩
instance : Ty Tryz.prog 131 7 true := ⟨fun w => by kernel_rfl,fun w => by kernel_rfl⟩
instance : Ty Tryz.prog 137 1 false := ⟨fun w => by kernel_rfl,fun w => by kernel_rfl⟩
instance : Ty Tryz.prog 138 1 false := ⟨fun w => by kernel_rfl,fun w => by kernel_rfl⟩
instance : Ty Tryz.prog 139 1 false := ⟨fun w => by kernel_rfl,fun w => by kernel_rfl⟩
instance : Ty Tryz.prog 141 4 true := ⟨fun w => by kernel_rfl,fun w => by kernel_rfl⟩
instance : Ty Tryz.prog 143 2 true := ⟨fun w => by kernel_rfl,fun w => by kernel_rfl⟩
instance : Ty Tryz.prog 144 1 false := ⟨fun w => by kernel_rfl,fun w => by kernel_rfl⟩
instance : Ty Tryz.prog 158 4 true := ⟨fun w => by kernel_rfl,fun w => by kernel_rfl⟩
instance : Ty Tryz.prog 165 1 false := ⟨fun w => by kernel_rfl,fun w => by kernel_rfl⟩
instance : Ty Tryz.prog 170 1 false := ⟨fun w => by kernel_rfl,fun w => by kernel_rfl⟩
instance : Ty Tryz.prog 173 1 false := ⟨fun w => by kernel_rfl,fun w => by kernel_rfl⟩
instance : Ty Tryz.prog 175 1 false := ⟨fun w => by kernel_rfl,fun w => by kernel_rfl⟩
instance : Ty Tryz.prog 185 3 true := ⟨fun w => by kernel_rfl,fun w => by kernel_rfl⟩
instance : Ty Tryz.prog 190 1 false := ⟨fun w => by kernel_rfl,fun w => by kernel_rfl⟩
instance : Ty Tryz.prog 192 1 true := ⟨fun w => by kernel_rfl,fun w => by kernel_rfl⟩
instance : Ty Tryz.prog 195 4 true := ⟨fun w => by kernel_rfl,fun w => by kernel_rfl⟩
instance : Ty Tryz.prog 196 1 false := ⟨fun w => by kernel_rfl,fun w => by kernel_rfl⟩
instance : Ty Tryz.prog 198 1 false := ⟨fun w => by kernel_rfl,fun w => by kernel_rfl⟩
instance : Ty Tryz.prog 205 1 false := ⟨fun w => by kernel_rfl,fun w => by kernel_rfl⟩
instance : Ty Tryz.prog 208 1 false := ⟨fun w => by kernel_rfl,fun w => by kernel_rfl⟩
instance : Ty Tryz.prog 210 1 false := ⟨fun w => by kernel_rfl,fun w => by kernel_rfl⟩
instance : Ty Tryz.prog 220 8 true := ⟨fun w => by kernel_rfl,fun w => by kernel_rfl⟩
instance : Ty Tryz.prog 226 1 false := ⟨fun w => by kernel_rfl,fun w => by kernel_rfl⟩
instance : Ty Tryz.prog 229 1 false := ⟨fun w => by kernel_rfl,fun w => by kernel_rfl⟩
instance : Ty Tryz.prog 231 1 false := ⟨fun w => by kernel_rfl,fun w => by kernel_rfl⟩
instance : Ty Tryz.prog 233 12 true := ⟨fun w => by kernel_rfl,fun w => by kernel_rfl⟩
instance : Ty Tryz.prog 235 3 true := ⟨fun w => by kernel_rfl,fun w => by kernel_rfl⟩
instance : Ty Tryz.prog 258 1 false := ⟨fun w => by kernel_rfl,fun w => by kernel_rfl⟩
instance : Ty Tryz.prog 263 0 true := ⟨fun w => by kernel_rfl,fun w => by kernel_rfl⟩
instance : Ty Tryz.prog 265 2 true := ⟨fun w => by kernel_rfl,fun w => by kernel_rfl⟩
instance : Ty Tryz.prog 268 2 true := ⟨fun w => by kernel_rfl,fun w => by kernel_rfl⟩
instance : Ty Tryz.prog 273 1 false := ⟨fun w => by kernel_rfl,fun w => by kernel_rfl⟩
instance : Ty Tryz.prog 275 1 true := ⟨fun w => by kernel_rfl,fun w => by kernel_rfl⟩
instance : Ty Tryz.prog 277 1 false := ⟨fun w => by kernel_rfl,fun w => by kernel_rfl⟩
instance : Ty Tryz.prog 279 1 true := ⟨fun w => by kernel_rfl,fun w => by kernel_rfl⟩
instance : Ty Tryz.prog 281 2 true := ⟨fun w => by kernel_rfl,fun w => by kernel_rfl⟩
instance : Ty Tryz.prog 291 1 false := ⟨fun w => by kernel_rfl,fun w => by kernel_rfl⟩
instance : Ty Tryz.prog 293 8 true := ⟨fun w => by kernel_rfl,fun w => by kernel_rfl⟩
instance : Ty Tryz.prog 295 1 false := ⟨fun w => by kernel_rfl,fun w => by kernel_rfl⟩
instance : Ty Tryz.prog 296 1 false := ⟨fun w => by kernel_rfl,fun w => by kernel_rfl⟩
instance : Ty Tryz.prog 298 9 true := ⟨fun w => by kernel_rfl,fun w => by kernel_rfl⟩
instance : Ty Tryz.prog 301 1 false := ⟨fun w => by kernel_rfl,fun w => by kernel_rfl⟩
instance : Ty Tryz.prog 304 1 false := ⟨fun w => by kernel_rfl,fun w => by kernel_rfl⟩
instance : Ty Tryz.prog 305 1 false := ⟨fun w => by kernel_rfl,fun w => by kernel_rfl⟩
instance : Ty Tryz.prog 306 1 false := ⟨fun w => by kernel_rfl,fun w => by kernel_rfl⟩
instance : Ty Tryz.prog 308 4 true := ⟨fun w => by kernel_rfl,fun w => by kernel_rfl⟩
instance : Ty Tryz.prog 314 14 true := ⟨fun w => by kernel_rfl,fun w => by kernel_rfl⟩
instance : Ty Tryz.prog 315 1 false := ⟨fun w => by kernel_rfl,fun w => by kernel_rfl⟩
instance : Ty Tryz.prog 319 1 false := ⟨fun w => by kernel_rfl,fun w => by kernel_rfl⟩
instance : Ty Tryz.prog 320 1 false := ⟨fun w => by kernel_rfl,fun w => by kernel_rfl⟩
instance : Ty Tryz.prog 321 1 false := ⟨fun w => by kernel_rfl,fun w => by kernel_rfl⟩
instance : Ty Tryz.prog 323 16 true := ⟨fun w => by kernel_rfl,fun w => by kernel_rfl⟩
instance : Ty Tryz.prog 331 5 true := ⟨fun w => by kernel_rfl,fun w => by kernel_rfl⟩
instance : Ty Tryz.prog 333 8 true := ⟨fun w => by kernel_rfl,fun w => by kernel_rfl⟩
instance : Ty Tryz.prog 340 1 false := ⟨fun w => by kernel_rfl,fun w => by kernel_rfl⟩
instance : Ty Tryz.prog 341 1 false := ⟨fun w => by kernel_rfl,fun w => by kernel_rfl⟩
instance : Ty Tryz.prog 343 14 true := ⟨fun w => by kernel_rfl,fun w => by kernel_rfl⟩
instance : Ty Tryz.prog 350 8 true := ⟨fun w => by kernel_rfl,fun w => by kernel_rfl⟩
instance : Ty Tryz.prog 352 1 false := ⟨fun w => by kernel_rfl,fun w => by kernel_rfl⟩
instance : Ty Tryz.prog 354 1 false := ⟨fun w => by kernel_rfl,fun w => by kernel_rfl⟩
instance : Ty Tryz.prog 356 11 true := ⟨fun w => by kernel_rfl,fun w => by kernel_rfl⟩
instance : Ty Tryz.prog 358 1 true := ⟨fun w => by kernel_rfl,fun w => by kernel_rfl⟩
instance : Ty Tryz.prog 367 1 false := ⟨fun w => by kernel_rfl,fun w => by kernel_rfl⟩
instance : Ty Tryz.prog 378 1 false := ⟨fun w => by kernel_rfl,fun w => by kernel_rfl⟩
instance : Ty Tryz.prog 380 6 true := ⟨fun w => by kernel_rfl,fun w => by kernel_rfl⟩
instance : Ty Tryz.prog 384 2 true := ⟨fun w => by kernel_rfl,fun w => by kernel_rfl⟩
instance : Ty Tryz.prog 428 1 false := ⟨fun w => by kernel_rfl,fun w => by kernel_rfl⟩
instance : Ty Tryz.prog 451 0 true := ⟨fun w => by kernel_rfl,fun w => by kernel_rfl⟩
instance : Ty Tryz.prog 475 1 false := ⟨fun w => by kernel_rfl,fun w => by kernel_rfl⟩
instance : Ty Tryz.prog 504 1 false := ⟨fun w => by kernel_rfl,fun w => by kernel_rfl⟩
instance : Ty Tryz.prog 505 1 false := ⟨fun w => by kernel_rfl,fun w => by kernel_rfl⟩
instance : Ty Tryz.prog 553 1 false := ⟨fun w => by kernel_rfl,fun w => by kernel_rfl⟩
instance : Ty Tryz.prog 560 1 false := ⟨fun w => by kernel_rfl,fun w => by kernel_rfl⟩
instance : Ty Tryz.prog 563 1 false := ⟨fun w => by kernel_rfl,fun w => by kernel_rfl⟩
instance : Ty Tryz.prog 572 0 true := ⟨fun w => by kernel_rfl,fun w => by kernel_rfl⟩
instance : Ty Tryz.prog 574 3 true := ⟨fun w => by kernel_rfl,fun w => by kernel_rfl⟩
instance : FOff Tryz.prog 26 0 0 := ⟨fun w b off => by kernel_rfl⟩
instance : FOff Tryz.prog 30 0 0 := ⟨fun w b off => by kernel_rfl⟩
instance : FOff Tryz.prog 30 1 1 := ⟨fun w b off => by kernel_rfl⟩
instance : FOff Tryz.prog 30 2 2 := ⟨fun w b off => by kernel_rfl⟩
instance : FOff Tryz.prog 32 0 0 := ⟨fun w b off => by kernel_rfl⟩
instance : FOff Tryz.prog 32 1 1 := ⟨fun w b off => by kernel_rfl⟩
instance : FOff Tryz.prog 32 2 2 := ⟨fun w b off => by kernel_rfl⟩
instance : FOff Tryz.prog 32 3 5 := ⟨fun w b off => by kernel_rfl⟩
instance : FOff Tryz.prog 37 0 0 := ⟨fun w b off => by kernel_rfl⟩
instance : FOff Tryz.prog 37 1 1 := ⟨fun w b off => by kernel_rfl⟩
instance : FOff Tryz.prog 37 2 2 := ⟨fun w b off => by kernel_rfl⟩
instance : FOff Tryz.prog 37 3 3 := ⟨fun w b off => by kernel_rfl⟩
instance : FOff Tryz.prog 37 4 4 := ⟨fun w b off => by kernel_rfl⟩
instance : FOff Tryz.prog 37 5 5 := ⟨fun w b off => by kernel_rfl⟩
instance : FOff Tryz.prog 43 0 0 := ⟨fun w b off => by kernel_rfl⟩
instance : FOff Tryz.prog 43 1 1 := ⟨fun w b off => by kernel_rfl⟩
instance : FOff Tryz.prog 43 2 7 := ⟨fun w b off => by kernel_rfl⟩
instance : FOff Tryz.prog 43 3 13 := ⟨fun w b off => by kernel_rfl⟩
instance : FOff Tryz.prog 43 4 14 := ⟨fun w b off => by kernel_rfl⟩
instance : FOff Tryz.prog 43 5 15 := ⟨fun w b off => by kernel_rfl⟩
instance : FOff Tryz.prog 43 6 16 := ⟨fun w b off => by kernel_rfl⟩
instance : FOff Tryz.prog 43 7 17 := ⟨fun w b off => by kernel_rfl⟩
instance : FOff Tryz.prog 43 8 18 := ⟨fun w b off => by kernel_rfl⟩
instance : FOff Tryz.prog 43 9 19 := ⟨fun w b off => by kernel_rfl⟩
instance : FOff Tryz.prog 43 10 20 := ⟨fun w b off => by kernel_rfl⟩
instance : FOff Tryz.prog 43 11 21 := ⟨fun w b off => by kernel_rfl⟩
instance : FOff Tryz.prog 49 0 0 := ⟨fun w b off => by kernel_rfl⟩
instance : FOff Tryz.prog 49 2 2 := ⟨fun w b off => by kernel_rfl⟩
instance : FOff Tryz.prog 49 3 3 := ⟨fun w b off => by kernel_rfl⟩
instance : FOff Tryz.prog 49 4 9 := ⟨fun w b off => by kernel_rfl⟩
instance : FOff Tryz.prog 61 0 0 := ⟨fun w b off => by kernel_rfl⟩
instance : FOff Tryz.prog 61 1 1 := ⟨fun w b off => by kernel_rfl⟩
instance : FOff Tryz.prog 61 2 2 := ⟨fun w b off => by kernel_rfl⟩
instance : FOff Tryz.prog 61 3 3 := ⟨fun w b off => by kernel_rfl⟩
instance : FOff Tryz.prog 61 4 4 := ⟨fun w b off => by kernel_rfl⟩
instance : FOff Tryz.prog 76 0 0 := ⟨fun w b off => by kernel_rfl⟩
instance : FOff Tryz.prog 76 1 1 := ⟨fun w b off => by kernel_rfl⟩
instance : FOff Tryz.prog 76 2 2 := ⟨fun w b off => by kernel_rfl⟩
instance : FOff Tryz.prog 76 3 3 := ⟨fun w b off => by kernel_rfl⟩
instance : FOff Tryz.prog 76 4 4 := ⟨fun w b off => by kernel_rfl⟩
instance : FOff Tryz.prog 76 5 10 := ⟨fun w b off => by kernel_rfl⟩
instance : FOff Tryz.prog 79 0 0 := ⟨fun w b off => by kernel_rfl⟩
instance : FOff Tryz.prog 79 1 1 := ⟨fun w b off => by kernel_rfl⟩
instance : FOff Tryz.prog 79 2 2 := ⟨fun w b off => by kernel_rfl⟩
instance : FOff Tryz.prog 79 3 3 := ⟨fun w b off => by kernel_rfl⟩
instance : FOff Tryz.prog 85 0 0 := ⟨fun w b off => by kernel_rfl⟩
instance : FOff Tryz.prog 85 1 6 := ⟨fun w b off => by kernel_rfl⟩
instance : FOff Tryz.prog 85 2 7 := ⟨fun w b off => by kernel_rfl⟩
instance : FOff Tryz.prog 88 0 0 := ⟨fun w b off => by kernel_rfl⟩
instance : FOff Tryz.prog 88 1 1 := ⟨fun w b off => by kernel_rfl⟩
instance : FOff Tryz.prog 88 2 7 := ⟨fun w b off => by kernel_rfl⟩
instance : FOff Tryz.prog 90 0 0 := ⟨fun w b off => by kernel_rfl⟩
instance : FOff Tryz.prog 90 1 1 := ⟨fun w b off => by kernel_rfl⟩
instance : FOff Tryz.prog 97 0 0 := ⟨fun w b off => by kernel_rfl⟩
instance : FOff Tryz.prog 97 1 1 := ⟨fun w b off => by kernel_rfl⟩
instance : FOff Tryz.prog 97 2 2 := ⟨fun w b off => by kernel_rfl⟩
instance : FOff Tryz.prog 100 0 0 := ⟨fun w b off => by kernel_rfl⟩
instance : FOff Tryz.prog 100 1 1 := ⟨fun w b off => by kernel_rfl⟩
instance : FOff Tryz.prog 100 2 4 := ⟨fun w b off => by kernel_rfl⟩
instance : FOff Tryz.prog 100 3 5 := ⟨fun w b off => by kernel_rfl⟩
instance : FOff Tryz.prog 104 0 0 := ⟨fun w b off => by kernel_rfl⟩
instance : FOff Tryz.prog 104 1 1 := ⟨fun w b off => by kernel_rfl⟩
instance : FOff Tryz.prog 104 2 2 := ⟨fun w b off => by kernel_rfl⟩
instance : FOff Tryz.prog 104 3 8 := ⟨fun w b off => by kernel_rfl⟩
instance : FOff Tryz.prog 104 4 9 := ⟨fun w b off => by kernel_rfl⟩
instance : FOff Tryz.prog 131 0 0 := ⟨fun w b off => by kernel_rfl⟩
instance : FOff Tryz.prog 131 1 1 := ⟨fun w b off => by kernel_rfl⟩
instance : FOff Tryz.prog 141 0 0 := ⟨fun w b off => by kernel_rfl⟩
instance : FOff Tryz.prog 141 1 1 := ⟨fun w b off => by kernel_rfl⟩
instance : FOff Tryz.prog 141 2 2 := ⟨fun w b off => by kernel_rfl⟩
instance : FOff Tryz.prog 141 3 3 := ⟨fun w b off => by kernel_rfl⟩
instance : FOff Tryz.prog 143 0 0 := ⟨fun w b off => by kernel_rfl⟩
instance : FOff Tryz.prog 143 1 1 := ⟨fun w b off => by kernel_rfl⟩
instance : FOff Tryz.prog 158 0 0 := ⟨fun w b off => by kernel_rfl⟩
instance : FOff Tryz.prog 158 1 1 := ⟨fun w b off => by kernel_rfl⟩
instance : FOff Tryz.prog 158 2 2 := ⟨fun w b off => by kernel_rfl⟩
instance : FOff Tryz.prog 158 3 3 := ⟨fun w b off => by kernel_rfl⟩
instance : FOff Tryz.prog 185 0 0 := ⟨fun w b off => by kernel_rfl⟩
instance : FOff Tryz.prog 185 1 1 := ⟨fun w b off => by kernel_rfl⟩
instance : FOff Tryz.prog 185 2 2 := ⟨fun w b off => by kernel_rfl⟩
instance : FOff Tryz.prog 192 0 0 := ⟨fun w b off => by kernel_rfl⟩
instance : FOff Tryz.prog 195 0 0 := ⟨fun w b off => by kernel_rfl⟩
instance : FOff Tryz.prog 195 1 1 := ⟨fun w b off => by kernel_rfl⟩
instance : FOff Tryz.prog 220 0 0 := ⟨fun w b off => by kernel_rfl⟩
instance : FOff Tryz.prog 220 1 1 := ⟨fun w b off => by kernel_rfl⟩
instance : FOff Tryz.prog 220 2 7 := ⟨fun w b off => by kernel_rfl⟩
instance : FOff Tryz.prog 233 0 0 := ⟨fun w b off => by kernel_rfl⟩
instance : FOff Tryz.prog 233 1 1 := ⟨fun w b off => by kernel_rfl⟩
instance : FOff Tryz.prog 233 2 2 := ⟨fun w b off => by kernel_rfl⟩
instance : FOff Tryz.prog 233 3 8 := ⟨fun w b off => by kernel_rfl⟩
instance : FOff Tryz.prog 233 4 9 := ⟨fun w b off => by kernel_rfl⟩
instance : FOff Tryz.prog 233 5 10 := ⟨fun w b off => by kernel_rfl⟩
instance : FOff Tryz.prog 233 6 11 := ⟨fun w b off => by kernel_rfl⟩
instance : FOff Tryz.prog 235 0 0 := ⟨fun w b off => by kernel_rfl⟩
instance : FOff Tryz.prog 235 1 1 := ⟨fun w b off => by kernel_rfl⟩
instance : FOff Tryz.prog 235 2 2 := ⟨fun w b off => by kernel_rfl⟩
instance : FOff Tryz.prog 265 0 0 := ⟨fun w b off => by kernel_rfl⟩
instance : FOff Tryz.prog 265 1 1 := ⟨fun w b off => by kernel_rfl⟩
instance : FOff Tryz.prog 268 0 0 := ⟨fun w b off => by kernel_rfl⟩
instance : FOff Tryz.prog 275 0 0 := ⟨fun w b off => by kernel_rfl⟩
instance : FOff Tryz.prog 279 0 0 := ⟨fun w b off => by kernel_rfl⟩
instance : FOff Tryz.prog 281 0 0 := ⟨fun w b off => by kernel_rfl⟩
instance : FOff Tryz.prog 281 1 1 := ⟨fun w b off => by kernel_rfl⟩
instance : FOff Tryz.prog 293 0 0 := ⟨fun w b off => by kernel_rfl⟩
instance : FOff Tryz.prog 293 1 6 := ⟨fun w b off => by kernel_rfl⟩
instance : FOff Tryz.prog 293 2 7 := ⟨fun w b off => by kernel_rfl⟩
instance : FOff Tryz.prog 298 0 0 := ⟨fun w b off => by kernel_rfl⟩
instance : FOff Tryz.prog 298 1 1 := ⟨fun w b off => by kernel_rfl⟩
instance : FOff Tryz.prog 298 2 2 := ⟨fun w b off => by kernel_rfl⟩
instance : FOff Tryz.prog 298 3 8 := ⟨fun w b off => by kernel_rfl⟩
instance : FOff Tryz.prog 308 0 0 := ⟨fun w b off => by kernel_rfl⟩
instance : FOff Tryz.prog 308 1 1 := ⟨fun w b off => by kernel_rfl⟩
instance : FOff Tryz.prog 308 2 2 := ⟨fun w b off => by kernel_rfl⟩
instance : FOff Tryz.prog 308 3 3 := ⟨fun w b off => by kernel_rfl⟩
instance : FOff Tryz.prog 314 0 0 := ⟨fun w b off => by kernel_rfl⟩
instance : FOff Tryz.prog 314 1 1 := ⟨fun w b off => by kernel_rfl⟩
instance : FOff Tryz.prog 314 2 2 := ⟨fun w b off => by kernel_rfl⟩
instance : FOff Tryz.prog 314 3 3 := ⟨fun w b off => by kernel_rfl⟩
instance : FOff Tryz.prog 314 4 9 := ⟨fun w b off => by kernel_rfl⟩
instance : FOff Tryz.prog 314 5 10 := ⟨fun w b off => by kernel_rfl⟩
instance : FOff Tryz.prog 314 6 11 := ⟨fun w b off => by kernel_rfl⟩
instance : FOff Tryz.prog 314 7 12 := ⟨fun w b off => by kernel_rfl⟩
instance : FOff Tryz.prog 323 0 0 := ⟨fun w b off => by kernel_rfl⟩
instance : FOff Tryz.prog 323 1 1 := ⟨fun w b off => by kernel_rfl⟩
instance : FOff Tryz.prog 323 2 2 := ⟨fun w b off => by kernel_rfl⟩
instance : FOff Tryz.prog 323 3 3 := ⟨fun w b off => by kernel_rfl⟩
instance : FOff Tryz.prog 323 4 9 := ⟨fun w b off => by kernel_rfl⟩
instance : FOff Tryz.prog 323 5 10 := ⟨fun w b off => by kernel_rfl⟩
instance : FOff Tryz.prog 323 6 11 := ⟨fun w b off => by kernel_rfl⟩
instance : FOff Tryz.prog 323 7 12 := ⟨fun w b off => by kernel_rfl⟩
instance : FOff Tryz.prog 323 8 13 := ⟨fun w b off => by kernel_rfl⟩
instance : FOff Tryz.prog 323 9 14 := ⟨fun w b off => by kernel_rfl⟩
instance : FOff Tryz.prog 323 10 15 := ⟨fun w b off => by kernel_rfl⟩
instance : FOff Tryz.prog 331 0 0 := ⟨fun w b off => by kernel_rfl⟩
instance : FOff Tryz.prog 331 1 4 := ⟨fun w b off => by kernel_rfl⟩
instance : FOff Tryz.prog 333 0 0 := ⟨fun w b off => by kernel_rfl⟩
instance : FOff Tryz.prog 333 1 1 := ⟨fun w b off => by kernel_rfl⟩
instance : FOff Tryz.prog 343 0 0 := ⟨fun w b off => by kernel_rfl⟩
instance : FOff Tryz.prog 343 1 1 := ⟨fun w b off => by kernel_rfl⟩
instance : FOff Tryz.prog 343 2 2 := ⟨fun w b off => by kernel_rfl⟩
instance : FOff Tryz.prog 343 3 3 := ⟨fun w b off => by kernel_rfl⟩
instance : FOff Tryz.prog 343 4 9 := ⟨fun w b off => by kernel_rfl⟩
instance : FOff Tryz.prog 343 5 10 := ⟨fun w b off => by kernel_rfl⟩
instance : FOff Tryz.prog 343 6 11 := ⟨fun w b off => by kernel_rfl⟩
instance : FOff Tryz.prog 343 7 12 := ⟨fun w b off => by kernel_rfl⟩
instance : FOff Tryz.prog 343 8 13 := ⟨fun w b off => by kernel_rfl⟩
instance : FOff Tryz.prog 356 0 0 := ⟨fun w b off => by kernel_rfl⟩
instance : FOff Tryz.prog 356 1 1 := ⟨fun w b off => by kernel_rfl⟩
instance : FOff Tryz.prog 356 2 2 := ⟨fun w b off => by kernel_rfl⟩
instance : FOff Tryz.prog 356 3 8 := ⟨fun w b off => by kernel_rfl⟩
instance : FOff Tryz.prog 356 4 9 := ⟨fun w b off => by kernel_rfl⟩
instance : FOff Tryz.prog 356 5 10 := ⟨fun w b off => by kernel_rfl⟩
instance : FOff Tryz.prog 358 0 0 := ⟨fun w b off => by kernel_rfl⟩
instance : FOff Tryz.prog 372 0 0 := ⟨fun w b off => by kernel_rfl⟩
instance : FOff Tryz.prog 380 0 0 := ⟨fun w b off => by kernel_rfl⟩
instance : FOff Tryz.prog 380 1 1 := ⟨fun w b off => by kernel_rfl⟩
instance : FOff Tryz.prog 380 2 2 := ⟨fun w b off => by kernel_rfl⟩
instance : FOff Tryz.prog 380 3 3 := ⟨fun w b off => by kernel_rfl⟩
instance : FOff Tryz.prog 380 4 4 := ⟨fun w b off => by kernel_rfl⟩
instance : FOff Tryz.prog 380 5 5 := ⟨fun w b off => by kernel_rfl⟩
instance : FOff Tryz.prog 384 0 0 := ⟨fun w b off => by kernel_rfl⟩
instance : FOff Tryz.prog 384 1 1 := ⟨fun w b off => by kernel_rfl⟩
instance : FOff Tryz.prog 574 0 0 := ⟨fun w b off => by kernel_rfl⟩
instance : FOff Tryz.prog 574 1 1 := ⟨fun w b off => by kernel_rfl⟩
instance : FOff Tryz.prog 574 2 2 := ⟨fun w b off => by kernel_rfl⟩
instance : Zero Tryz.prog 3 [.int .i64 0] := ⟨fun w => ⟨.int .i64 0,by kernel_rfl,rfl⟩⟩
instance : Zero Tryz.prog 9 [.string ⟨#[]⟩] := ⟨fun w => ⟨.string ⟨#[]⟩,by kernel_rfl,rfl⟩⟩
instance : Zero Tryz.prog 20 [.nilIface] := ⟨fun w => ⟨.nilIface,by kernel_rfl,rfl⟩⟩
instance : Zero Tryz.prog 26 [.slice none 0 0] := ⟨fun w => ⟨.agg #[.slice none 0 0],by kernel_rfl,rfl⟩⟩
instance : Zero Tryz.prog 32 [.bool false,.string ⟨#[]⟩,.string ⟨#[]⟩,.slice none 0 0,.slice none 0 0,.string ⟨#[]⟩] := ⟨fun w => ⟨.agg #[.bool false,.string ⟨#[]⟩,.string ⟨#[]⟩,.slice none 0 0,.slice none 0 0,.string ⟨#[]⟩],by kernel_rfl,rfl⟩⟩
instance : Zero Tryz.prog 37 [.int .i64 0,.int .i64 0,.float .f64 0,.string ⟨#[]⟩,.slice none 0 0,.slice none 0 0] := ⟨fun w => ⟨.agg #[.int .i64 0,.int .i64 0,.float .f64 0,.string ⟨#[]⟩,.slice none 0 0,.slice none 0 0],by kernel_rfl,rfl⟩⟩
instance : Zero Tryz.prog 43 [.slice none 0 0,.bool false,.string ⟨#[]⟩,.string ⟨#[]⟩,.slice none 0 0,.slice none 0 0,.string ⟨#[]⟩,.int .i64 0,.int .i64 0,.float .f64 0,.string ⟨#[]⟩,.slice none 0 0,.slice none 0 0,.slice none 0 0,.slice none 0 0,.slice none 0 0,.slice none 0 0,.bool false,.bool false,.slice none 0 0,.string ⟨#[]⟩,.bool false] := ⟨fun w => ⟨.agg #[.slice none 0 0,.bool false,.string ⟨#[]⟩,.string ⟨#[]⟩,.slice none 0 0,.slice none 0 0,.string ⟨#[]⟩,.int .i64 0,.int .i64 0,.float .f64 0,.string ⟨#[]⟩,.slice none 0 0,.slice none 0 0,.slice none 0 0,.slice none 0 0,.slice none 0 0,.slice none 0 0,.bool false,.bool false,.slice none 0 0,.string ⟨#[]⟩,.bool false],by kernel_rfl,rfl⟩⟩
instance : Zero Tryz.prog 49 [.bool false,.slice none 0 0,.bool false,.int .i64 0,.int .i64 0,.float .f64 0,.string ⟨#[]⟩,.slice none 0 0,.slice none 0 0,.slice none 0 0] := ⟨fun w => ⟨.agg #[.bool false,.slice none 0 0,.bool false,.int .i64 0,.int .i64 0,.float .f64 0,.string ⟨#[]⟩,.slice none 0 0,.slice none 0 0,.slice none 0 0],by kernel_rfl,rfl⟩⟩
instance : Zero Tryz.prog 51 [.slice none 0 0] := ⟨fun w => ⟨.slice none 0 0,by kernel_rfl,rfl⟩⟩
instance : Zero Tryz.prog 61 [.bool false,.bool false,.string ⟨#[]⟩,.string ⟨#[]⟩,.int .i64 0,.int .i64 0,.float .f64 0,.string ⟨#[]⟩,.slice none 0 0,.slice none 0 0] := ⟨fun w => ⟨.agg #[.bool false,.bool false,.string ⟨#[]⟩,.string ⟨#[]⟩,.int .i64 0,.int .i64 0,.float .f64 0,.string ⟨#[]⟩,.slice none 0 0,.slice none 0 0],by kernel_rfl,rfl⟩⟩
instance : Zero Tryz.prog 76 [.int .i64 0,.string ⟨#[]⟩,.slice none 0 0,.slice none 0 0,.int .i64 0,.int .i64 0,.float .f64 0,.string ⟨#[]⟩,.slice none 0 0,.slice none 0 0,.int .i64 0] := ⟨fun w => ⟨.agg #[.int .i64 0,.string ⟨#[]⟩,.slice none 0 0,.slice none 0 0,.int .i64 0,.int .i64 0,.float .f64 0,.string ⟨#[]⟩,.slice none 0 0,.slice none 0 0,.int .i64 0],by kernel_rfl,rfl⟩⟩
instance : Zero Tryz.prog 79 [.string ⟨#[]⟩,.string ⟨#[]⟩,.bool false,.slice none 0 0] := ⟨fun w => ⟨.agg #[.string ⟨#[]⟩,.string ⟨#[]⟩,.bool false,.slice none 0 0],by kernel_rfl,rfl⟩⟩
instance : Zero Tryz.prog 90 [.string ⟨#[]⟩,.string ⟨#[]⟩,.slice none 0 0,.slice none 0 0] := ⟨fun w => ⟨.agg #[.string ⟨#[]⟩,.string ⟨#[]⟩,.slice none 0 0,.slice none 0 0],by kernel_rfl,rfl⟩⟩
instance : Zero Tryz.prog 97 [.pointer none,.pointer none,.pointer none] := ⟨fun w => ⟨.agg #[.pointer none,.pointer none,.pointer none],by kernel_rfl,rfl⟩⟩
instance : Zero Tryz.prog 100 [.pointer none,.pointer none,.pointer none,.pointer none,.pointer none,.bool false] := ⟨fun w => ⟨.agg #[.pointer none,.pointer none,.pointer none,.pointer none,.pointer none,.bool false],by kernel_rfl,rfl⟩⟩
instance : Zero Tryz.prog 101 [.map none] := ⟨fun w => ⟨.map none,by kernel_rfl,rfl⟩⟩
instance : Zero Tryz.prog 104 [.slice none 0 0,.pointer none,.pointer none,.pointer none,.pointer none,.pointer none,.pointer none,.bool false,.map none,.map none] := ⟨fun w => ⟨.agg #[.slice none 0 0,.pointer none,.pointer none,.pointer none,.pointer none,.pointer none,.pointer none,.bool false,.map none,.map none],by kernel_rfl,rfl⟩⟩
instance : Zero Tryz.prog 131 [.string ⟨#[]⟩,.bool false,.string ⟨#[]⟩,.string ⟨#[]⟩,.slice none 0 0,.slice none 0 0,.string ⟨#[]⟩] := ⟨fun w => ⟨.agg #[.string ⟨#[]⟩,.bool false,.string ⟨#[]⟩,.string ⟨#[]⟩,.slice none 0 0,.slice none 0 0,.string ⟨#[]⟩],by kernel_rfl,rfl⟩⟩
instance : Zero Tryz.prog 141 [.nilIface,.map none,.map none,.bool false] := ⟨fun w => ⟨.agg #[.nilIface,.map none,.map none,.bool false],by kernel_rfl,rfl⟩⟩
instance : Zero Tryz.prog 143 [.string ⟨#[]⟩,.slice none 0 0] := ⟨fun w => ⟨.agg #[.string ⟨#[]⟩,.slice none 0 0],by kernel_rfl,rfl⟩⟩
instance : Zero Tryz.prog 173 [.nilIface] := ⟨fun w => ⟨.nilIface,by kernel_rfl,rfl⟩⟩
instance : Zero Tryz.prog 175 [.slice none 0 0] := ⟨fun w => ⟨.slice none 0 0,by kernel_rfl,rfl⟩⟩
instance : Zero Tryz.prog 195 [.string ⟨#[]⟩,.pointer none,.pointer none,.pointer none] := ⟨fun w => ⟨.agg #[.string ⟨#[]⟩,.pointer none,.pointer none,.pointer none],by kernel_rfl,rfl⟩⟩
instance : Zero Tryz.prog 196 [.string ⟨#[]⟩] := ⟨fun w => ⟨.string ⟨#[]⟩,by kernel_rfl,rfl⟩⟩
instance : Zero Tryz.prog 198 [.map none] := ⟨fun w => ⟨.map none,by kernel_rfl,rfl⟩⟩
instance : Zero Tryz.prog 220 [.nilIface,.pointer none,.pointer none,.pointer none,.pointer none,.pointer none,.bool false,.pointer none] := ⟨fun w => ⟨.agg #[.nilIface,.pointer none,.pointer none,.pointer none,.pointer none,.pointer none,.bool false,.pointer none],by kernel_rfl,rfl⟩⟩
instance : Zero Tryz.prog 229 [.slice none 0 0] := ⟨fun w => ⟨.slice none 0 0,by kernel_rfl,rfl⟩⟩
instance : Zero Tryz.prog 265 [.string ⟨#[]⟩,.slice none 0 0] := ⟨fun w => ⟨.agg #[.string ⟨#[]⟩,.slice none 0 0],by kernel_rfl,rfl⟩⟩
instance : Zero Tryz.prog 275 [.slice none 0 0] := ⟨fun w => ⟨.agg #[.slice none 0 0],by kernel_rfl,rfl⟩⟩
instance : Zero Tryz.prog 291 [.string ⟨#[]⟩] := ⟨fun w => ⟨.string ⟨#[]⟩,by kernel_rfl,rfl⟩⟩
instance : Zero Tryz.prog 293 [.pointer none,.pointer none,.pointer none,.pointer none,.pointer none,.bool false,.string ⟨#[]⟩,.slice none 0 0] := ⟨fun w => ⟨.agg #[.pointer none,.pointer none,.pointer none,.pointer none,.pointer none,.bool false,.string ⟨#[]⟩,.slice none 0 0],by kernel_rfl,rfl⟩⟩
instance : Zero Tryz.prog 298 [.slice none 0 0,.slice none 0 0,.pointer none,.pointer none,.pointer none,.pointer none,.pointer none,.bool false,.string ⟨#[]⟩] := ⟨fun w => ⟨.agg #[.slice none 0 0,.slice none 0 0,.pointer none,.pointer none,.pointer none,.pointer none,.pointer none,.bool false,.string ⟨#[]⟩],by kernel_rfl,rfl⟩⟩
instance : Zero Tryz.prog 301 [.pointer none] := ⟨fun w => ⟨.pointer none,by kernel_rfl,rfl⟩⟩
instance : Zero Tryz.prog 308 [.pointer none,.pointer none,.pointer none,.pointer none] := ⟨fun w => ⟨.agg #[.pointer none,.pointer none,.pointer none,.pointer none],by kernel_rfl,rfl⟩⟩
instance : Zero Tryz.prog 323 [.nilIface,.nilIface,.pointer none,.pointer none,.pointer none,.pointer none,.pointer none,.pointer none,.bool false,.slice none 0 0,.nilFunc,.nilFunc,.pointer none,.bool false,.pointer none,.nilIface] := ⟨fun w => ⟨.agg #[.nilIface,.nilIface,.pointer none,.pointer none,.pointer none,.pointer none,.pointer none,.pointer none,.bool false,.slice none 0 0,.nilFunc,.nilFunc,.pointer none,.bool false,.pointer none,.nilIface],by kernel_rfl,rfl⟩⟩
instance : Zero Tryz.prog 331 [.pointer none,.pointer none,.pointer none,.pointer none,.pointer none] := ⟨fun w => ⟨.agg #[.pointer none,.pointer none,.pointer none,.pointer none,.pointer none],by kernel_rfl,rfl⟩⟩
instance : Zero Tryz.prog 333 [.string ⟨#[]⟩,.pointer none,.pointer none,.pointer none,.pointer none,.pointer none,.bool false,.nilIface] := ⟨fun w => ⟨.agg #[.string ⟨#[]⟩,.pointer none,.pointer none,.pointer none,.pointer none,.pointer none,.bool false,.nilIface],by kernel_rfl,rfl⟩⟩
instance : Zero Tryz.prog 343 [.nilIface,.nilIface,.pointer none,.pointer none,.pointer none,.pointer none,.pointer none,.pointer none,.bool false,.slice none 0 0,.pointer none,.bool false,.pointer none,.nilIface] := ⟨fun w => ⟨.agg #[.nilIface,.nilIface,.pointer none,.pointer none,.pointer none,.pointer none,.pointer none,.pointer none,.bool false,.slice none 0 0,.pointer none,.bool false,.pointer none,.nilIface],by kernel_rfl,rfl⟩⟩
instance : Zero Tryz.prog 350 [.string ⟨#[]⟩,.bool false,.string ⟨#[]⟩,.string ⟨#[]⟩,.slice none 0 0,.slice none 0 0,.string ⟨#[]⟩,.slice none 0 0] := ⟨fun w => ⟨.agg #[.string ⟨#[]⟩,.bool false,.string ⟨#[]⟩,.string ⟨#[]⟩,.slice none 0 0,.slice none 0 0,.string ⟨#[]⟩,.slice none 0 0],by kernel_rfl,rfl⟩⟩
instance : Zero Tryz.prog 367 [.slice none 0 0] := ⟨fun w => ⟨.slice none 0 0,by kernel_rfl,rfl⟩⟩
instance : Zero Tryz.prog 384 [.string ⟨#[]⟩,.nilIface] := ⟨fun w => ⟨.agg #[.string ⟨#[]⟩,.nilIface],by kernel_rfl,rfl⟩⟩
instance : Zero Tryz.prog 451 [] := ⟨fun w => ⟨.agg #[],by kernel_rfl,rfl⟩⟩
instance : Conc Tryz.prog 2 := ⟨fun x w => by kernel_rfl⟩
instance : Conc Tryz.prog 4 := ⟨fun x w => by kernel_rfl⟩
instance : Conc Tryz.prog 9 := ⟨fun x w => by kernel_rfl⟩
instance : Conc Tryz.prog 33 := ⟨fun x w => by kernel_rfl⟩
instance : Conc Tryz.prog 104 := ⟨fun x w => by kernel_rfl⟩
instance : Conc Tryz.prog 176 := ⟨fun x w => by kernel_rfl⟩
instance : Conc Tryz.prog 197 := ⟨fun x w => by kernel_rfl⟩
instance : Conc Tryz.prog 198 := ⟨fun x w => by kernel_rfl⟩
instance : Conc Tryz.prog 226 := ⟨fun x w => by kernel_rfl⟩
instance : Conc Tryz.prog 229 := ⟨fun x w => by kernel_rfl⟩
instance : Conc Tryz.prog 235 := ⟨fun x w => by kernel_rfl⟩
instance : Conc Tryz.prog 261 := ⟨fun x w => by kernel_rfl⟩
instance : Conc Tryz.prog 301 := ⟨fun x w => by kernel_rfl⟩
instance : Conc Tryz.prog 308 := ⟨fun x w => by kernel_rfl⟩
instance : Conc Tryz.prog 311 := ⟨fun x w => by kernel_rfl⟩
instance : Conc Tryz.prog 319 := ⟨fun x w => by kernel_rfl⟩
instance : Conc Tryz.prog 340 := ⟨fun x w => by kernel_rfl⟩
instance : Conc Tryz.prog 352 := ⟨fun x w => by kernel_rfl⟩
instance : Conc Tryz.prog 378 := ⟨fun x w => by kernel_rfl⟩
instance : Conc Tryz.prog 451 := ⟨fun x w => by kernel_rfl⟩
instance : Conc Tryz.prog 504 := ⟨fun x w => by kernel_rfl⟩
instance : Conc Tryz.prog 505 := ⟨fun x w => by kernel_rfl⟩
instance : Conc Tryz.prog 568 := ⟨fun x w => by kernel_rfl⟩
instance : Conc Tryz.prog 570 := ⟨fun x w => by kernel_rfl⟩
instance : Conc Tryz.prog 571 := ⟨fun x w => by kernel_rfl⟩
instance : Ent Tryz.prog 4 := ⟨fun a w => by kernel_rfl⟩
instance : Ent Tryz.prog 5 := ⟨fun a w => by kernel_rfl⟩
instance : Ent Tryz.prog 6 := ⟨fun a w => by kernel_rfl⟩
instance : Ent Tryz.prog 7 := ⟨fun a w => by kernel_rfl⟩
instance : Ent Tryz.prog 8 := ⟨fun a w => by kernel_rfl⟩
instance : Ent Tryz.prog 9 := ⟨fun a w => by kernel_rfl⟩
instance : Ent Tryz.prog 10 := ⟨fun a w => by kernel_rfl⟩
instance : Ent Tryz.prog 11 := ⟨fun a w => by kernel_rfl⟩
instance : Ent Tryz.prog 12 := ⟨fun a w => by kernel_rfl⟩
instance : Ent Tryz.prog 13 := ⟨fun a w => by kernel_rfl⟩
instance : Ent Tryz.prog 14 := ⟨fun a w => by kernel_rfl⟩
instance : Ent Tryz.prog 15 := ⟨fun a w => by kernel_rfl⟩
instance : Ent Tryz.prog 16 := ⟨fun a w => by kernel_rfl⟩
instance : Ent Tryz.prog 17 := ⟨fun a w => by kernel_rfl⟩
instance : Ent Tryz.prog 18 := ⟨fun a w => by kernel_rfl⟩
instance : Ent Tryz.prog 19 := ⟨fun a w => by kernel_rfl⟩
instance : Ent Tryz.prog 20 := ⟨fun a w => by kernel_rfl⟩
instance : Ent Tryz.prog 21 := ⟨fun a w => by kernel_rfl⟩
instance : Ent Tryz.prog 22 := ⟨fun a w => by kernel_rfl⟩
instance : Ent Tryz.prog 23 := ⟨fun a w => by kernel_rfl⟩
instance : Ent Tryz.prog 24 := ⟨fun a w => by kernel_rfl⟩
instance : Ent Tryz.prog 25 := ⟨fun a w => by kernel_rfl⟩
instance : Ent Tryz.prog 26 := ⟨fun a w => by kernel_rfl⟩
instance : Ent Tryz.prog 28 := ⟨fun a w => by kernel_rfl⟩
instance : Ent Tryz.prog 29 := ⟨fun a w => by kernel_rfl⟩
instance : Ent Tryz.prog 30 := ⟨fun a w => by kernel_rfl⟩
instance : Ent Tryz.prog 31 := ⟨fun a w => by kernel_rfl⟩
instance : Ent Tryz.prog 32 := ⟨fun a w => by kernel_rfl⟩
instance : Ent Tryz.prog 33 := ⟨fun a w => by kernel_rfl⟩
instance : Ent Tryz.prog 34 := ⟨fun a w => by kernel_rfl⟩
instance : Ent Tryz.prog 35 := ⟨fun a w => by kernel_rfl⟩
instance : Ent Tryz.prog 36 := ⟨fun a w => by kernel_rfl⟩
instance : Ent Tryz.prog 37 := ⟨fun a w => by kernel_rfl⟩
instance : Ent Tryz.prog 38 := ⟨fun a w => by kernel_rfl⟩
instance : Ent Tryz.prog 39 := ⟨fun a w => by kernel_rfl⟩
instance : Ent Tryz.prog 40 := ⟨fun a w => by kernel_rfl⟩
instance : Ent Tryz.prog 41 := ⟨fun a w => by kernel_rfl⟩
instance : Ent Tryz.prog 42 := ⟨fun a w => by kernel_rfl⟩
instance : Ent Tryz.prog 43 := ⟨fun a w => by kernel_rfl⟩
instance : Ent Tryz.prog 44 := ⟨fun a w => by kernel_rfl⟩
instance : Ent Tryz.prog 45 := ⟨fun a w => by kernel_rfl⟩
instance : Ent Tryz.prog 46 := ⟨fun a w => by kernel_rfl⟩
instance : Ent Tryz.prog 47 := ⟨fun a w => by kernel_rfl⟩
instance : Ent Tryz.prog 48 := ⟨fun a w => by kernel_rfl⟩
instance : Ent Tryz.prog 49 := ⟨fun a w => by kernel_rfl⟩
instance : Ent Tryz.prog 50 := ⟨fun a w => by kernel_rfl⟩
instance : Ent Tryz.prog 51 := ⟨fun a w => by kernel_rfl⟩
instance : Ent Tryz.prog 52 := ⟨fun a w => by kernel_rfl⟩
instance : Ent Tryz.prog 53 := ⟨fun a w => by kernel_rfl⟩
instance : Ent Tryz.prog 54 := ⟨fun a w => by kernel_rfl⟩
instance : Ent Tryz.prog 55 := ⟨fun a w => by kernel_rfl⟩
instance : Ent Tryz.prog 56 := ⟨fun a w => by kernel_rfl⟩
instance : Ent Tryz.prog 57 := ⟨fun a w => by kernel_rfl⟩
instance : Ent Tryz.prog 58 := ⟨fun a w => by kernel_rfl⟩
instance : Ent Tryz.prog 59 := ⟨fun a w => by kernel_rfl⟩
instance : Ent Tryz.prog 60 := ⟨fun a w => by kernel_rfl⟩
instance : Ent Tryz.prog 61 := ⟨fun a w => by kernel_rfl⟩
instance : Ent Tryz.prog 62 := ⟨fun a w => by kernel_rfl⟩
instance : Ent Tryz.prog 63 := ⟨fun a w => by kernel_rfl⟩
instance : Ent Tryz.prog 64 := ⟨fun a w => by kernel_rfl⟩
instance : Ent Tryz.prog 65 := ⟨fun a w => by kernel_rfl⟩
instance : Ent Tryz.prog 66 := ⟨fun a w => by kernel_rfl⟩
instance : Ent Tryz.prog 67 := ⟨fun a w => by kernel_rfl⟩
instance : Ent Tryz.prog 68 := ⟨fun a w => by kernel_rfl⟩
instance : Ent Tryz.prog 69 := ⟨fun a w => by kernel_rfl⟩
instance : Ent Tryz.prog 70 := ⟨fun a w => by kernel_rfl⟩
instance : Ent Tryz.prog 71 := ⟨fun a w => by kernel_rfl⟩
instance : Ent Tryz.prog 72 := ⟨fun a w => by kernel_rfl⟩
instance : Ent Tryz.prog 73 := ⟨fun a w => by kernel_rfl⟩
instance : Ent Tryz.prog 74 := ⟨fun a w => by kernel_rfl⟩
instance : Ent Tryz.prog 75 := ⟨fun a w => by kernel_rfl⟩
instance : Ent Tryz.prog 76 := ⟨fun a w => by kernel_rfl⟩
instance : Ent Tryz.prog 77 := ⟨fun a w => by kernel_rfl⟩
instance : Ent Tryz.prog 78 := ⟨fun a w => by kernel_rfl⟩
instance : Ent Tryz.prog 79 := ⟨fun a w => by kernel_rfl⟩
instance : Ent Tryz.prog 80 := ⟨fun a w => by kernel_rfl⟩
instance : Ent Tryz.prog 81 := ⟨fun a w => by kernel_rfl⟩
instance : Ent Tryz.prog 82 := ⟨fun a w => by kernel_rfl⟩
instance : Ent Tryz.prog 83 := ⟨fun a w => by kernel_rfl⟩
instance : Ent Tryz.prog 84 := ⟨fun a w => by kernel_rfl⟩
instance : Ent Tryz.prog 85 := ⟨fun a w => by kernel_rfl⟩
instance : Ent Tryz.prog 87 := ⟨fun a w => by kernel_rfl⟩
instance : Ent Tryz.prog 89 := ⟨fun a w => by kernel_rfl⟩
instance : Ent Tryz.prog 90 := ⟨fun a w => by kernel_rfl⟩
instance : Ent Tryz.prog 91 := ⟨fun a w => by kernel_rfl⟩
instance : Ent Tryz.prog 92 := ⟨fun a w => by kernel_rfl⟩
instance : Ent Tryz.prog 93 := ⟨fun a w => by kernel_rfl⟩
instance : Ent Tryz.prog 94 := ⟨fun a w => by kernel_rfl⟩
instance : Ent Tryz.prog 95 := ⟨fun a w => by kernel_rfl⟩
instance : Ent Tryz.prog 96 := ⟨fun a w => by kernel_rfl⟩
instance : Ent Tryz.prog 97 := ⟨fun a w => by kernel_rfl⟩
instance : Ent Tryz.prog 98 := ⟨fun a w => by kernel_rfl⟩
instance : Ent Tryz.prog 99 := ⟨fun a w => by kernel_rfl⟩
instance : Ent Tryz.prog 100 := ⟨fun a w => by kernel_rfl⟩
instance : Ent Tryz.prog 101 := ⟨fun a w => by kernel_rfl⟩
instance : Ent Tryz.prog 102 := ⟨fun a w => by kernel_rfl⟩
instance : Ent Tryz.prog 103 := ⟨fun a w => by kernel_rfl⟩
instance : Ent Tryz.prog 104 := ⟨fun a w => by kernel_rfl⟩
instance : Ent Tryz.prog 105 := ⟨fun a w => by kernel_rfl⟩
instance : Ent Tryz.prog 106 := ⟨fun a w => by kernel_rfl⟩
instance : Ent Tryz.prog 107 := ⟨fun a w => by kernel_rfl⟩
instance : Ent Tryz.prog 108 := ⟨fun a w => by kernel_rfl⟩
instance : Ent Tryz.prog 109 := ⟨fun a w => by kernel_rfl⟩
instance : Ent Tryz.prog 110 := ⟨fun a w => by kernel_rfl⟩
instance : Ent Tryz.prog 111 := ⟨fun a w => by kernel_rfl⟩
instance : Ent Tryz.prog 112 := ⟨fun a w => by kernel_rfl⟩
instance : Ent Tryz.prog 113 := ⟨fun a w => by kernel_rfl⟩
instance : Ent Tryz.prog 114 := ⟨fun a w => by kernel_rfl⟩
instance : Ent Tryz.prog 115 := ⟨fun a w => by kernel_rfl⟩
instance : Ent Tryz.prog 116 := ⟨fun a w => by kernel_rfl⟩
instance : Ent Tryz.prog 117 := ⟨fun a w => by kernel_rfl⟩
instance : Ent Tryz.prog 118 := ⟨fun a w => by kernel_rfl⟩
instance : Ent Tryz.prog 119 := ⟨fun a w => by kernel_rfl⟩
instance : Ent Tryz.prog 120 := ⟨fun a w => by kernel_rfl⟩
instance : Ent Tryz.prog 121 := ⟨fun a w => by kernel_rfl⟩
instance : Ent Tryz.prog 122 := ⟨fun a w => by kernel_rfl⟩
instance : Ent Tryz.prog 124 := ⟨fun a w => by kernel_rfl⟩
instance : Ent Tryz.prog 125 := ⟨fun a w => by kernel_rfl⟩
instance : Ent Tryz.prog 126 := ⟨fun a w => by kernel_rfl⟩
instance : Ent Tryz.prog 127 := ⟨fun a w => by kernel_rfl⟩
instance : Ent Tryz.prog 128 := ⟨fun a w => by kernel_rfl⟩
instance : Ent Tryz.prog 129 := ⟨fun a w => by kernel_rfl⟩
instance : Ent Tryz.prog 130 := ⟨fun a w => by kernel_rfl⟩
instance : Ent Tryz.prog 131 := ⟨fun a w => by kernel_rfl⟩
instance : Ent Tryz.prog 132 := ⟨fun a w => by kernel_rfl⟩
instance : Ent Tryz.prog 133 := ⟨fun a w => by kernel_rfl⟩
instance : Ent Tryz.prog 134 := ⟨fun a w => by kernel_rfl⟩
instance : Ent Tryz.prog 135 := ⟨fun a w => by kernel_rfl⟩
instance : Ent Tryz.prog 136 := ⟨fun a w => by kernel_rfl⟩
instance : Ent Tryz.prog 137 := ⟨fun a w => by kernel_rfl⟩
instance : Ent Tryz.prog 138 := ⟨fun a w => by kernel_rfl⟩
instance : Ent Tryz.prog 140 := ⟨fun a w => by kernel_rfl⟩
instance : Ent Tryz.prog 141 := ⟨fun a w => by kernel_rfl⟩
instance : Ent Tryz.prog 142 := ⟨fun a w => by kernel_rfl⟩
instance : Ent Tryz.prog 144 := ⟨fun a w => by kernel_rfl⟩
instance : Ent Tryz.prog 146 := ⟨fun a w => by kernel_rfl⟩
instance : Ent Tryz.prog 147 := ⟨fun a w => by kernel_rfl⟩
instance : Ent Tryz.prog 149 := ⟨fun a w => by kernel_rfl⟩
instance : Ent Tryz.prog 150 := ⟨fun a w => by kernel_rfl⟩
instance : Ent Tryz.prog 152 := ⟨fun a w => by kernel_rfl⟩
instance : Ent Tryz.prog 153 := ⟨fun a w => by kernel_rfl⟩
instance : Ent Tryz.prog 154 := ⟨fun a w => by kernel_rfl⟩
instance : Ent Tryz.prog 156 := ⟨fun a w => by kernel_rfl⟩
instance : Ent Tryz.prog 157 := ⟨fun a w => by kernel_rfl⟩
instance : Ent Tryz.prog 158 := ⟨fun a w => by kernel_rfl⟩
instance : Ent Tryz.prog 159 := ⟨fun a w => by kernel_rfl⟩
instance : Ent Tryz.prog 161 := ⟨fun a w => by kernel_rfl⟩
instance : Ent Tryz.prog 162 := ⟨fun a w => by kernel_rfl⟩
instance : Ent Tryz.prog 163 := ⟨fun a w => by kernel_rfl⟩
instance : Ent Tryz.prog 164 := ⟨fun a w => by kernel_rfl⟩
instance : Ent Tryz.prog 165 := ⟨fun a w => by kernel_rfl⟩
instance : Ent Tryz.prog 166 := ⟨fun a w => by kernel_rfl⟩
instance : Ent Tryz.prog 167 := ⟨fun a w => by kernel_rfl⟩
instance : Ent Tryz.prog 173 := ⟨fun a w => by kernel_rfl⟩
instance : Ent Tryz.prog 174 := ⟨fun a w => by kernel_rfl⟩
instance : Ent Tryz.prog 175 := ⟨fun a w => by kernel_rfl⟩
instance : Ent Tryz.prog 177 := ⟨fun a w => by kernel_rfl⟩
instance : Ent Tryz.prog 179 := ⟨fun a w => by kernel_rfl⟩
instance : Ent Tryz.prog 180 := ⟨fun a w => by kernel_rfl⟩
instance : Ent Tryz.prog 181 := ⟨fun a w => by kernel_rfl⟩
instance : Ent Tryz.prog 182 := ⟨fun a w => by kernel_rfl⟩
instance : Ent Tryz.prog 183 := ⟨fun a w => by kernel_rfl⟩
instance : Ent Tryz.prog 184 := ⟨fun a w => by kernel_rfl⟩
instance : Ent Tryz.prog 185 := ⟨fun a w => by kernel_rfl⟩
instance : Ent Tryz.prog 187 := ⟨fun a w => by kernel_rfl⟩
instance : Ent Tryz.prog 188 := ⟨fun a w => by kernel_rfl⟩
instance : Ent Tryz.prog 193 := ⟨fun a w => by kernel_rfl⟩
instance : Ent Tryz.prog 194 := ⟨fun a w => by kernel_rfl⟩
instance : Ent Tryz.prog 205 := ⟨fun a w => by kernel_rfl⟩
instance : Ent Tryz.prog 226 := ⟨fun a w => by kernel_rfl⟩
instance : Ent Tryz.prog 227 := ⟨fun a w => by kernel_rfl⟩
instance : Ent Tryz.prog 237 := ⟨fun a w => by kernel_rfl⟩
instance : Ent Tryz.prog 238 := ⟨fun a w => by kernel_rfl⟩
instance : Ent Tryz.prog 239 := ⟨fun a w => by kernel_rfl⟩
instance : Ent Tryz.prog 240 := ⟨fun a w => by kernel_rfl⟩
instance : Ent Tryz.prog 241 := ⟨fun a w => by kernel_rfl⟩
instance : Ent Tryz.prog 242 := ⟨fun a w => by kernel_rfl⟩
instance : Ent Tryz.prog 243 := ⟨fun a w => by kernel_rfl⟩
instance : Ent Tryz.prog 244 := ⟨fun a w => by kernel_rfl⟩
instance : Ent Tryz.prog 260 := ⟨fun a w => by kernel_rfl⟩
instance : Ent Tryz.prog 284 := ⟨fun a w => by kernel_rfl⟩
instance : Ent Tryz.prog 285 := ⟨fun a w => by kernel_rfl⟩
instance : Ent Tryz.prog 291 := ⟨fun a w => by kernel_rfl⟩
instance : Ent Tryz.prog 296 := ⟨fun a w => by kernel_rfl⟩
instance : Ent Tryz.prog 300 := ⟨fun a w => by kernel_rfl⟩
instance : Ent Tryz.prog 301 := ⟨fun a w => by kernel_rfl⟩
instance : Ent Tryz.prog 302 := ⟨fun a w => by kernel_rfl⟩
instance : Ent Tryz.prog 303 := ⟨fun a w => by kernel_rfl⟩
instance : Ent Tryz.prog 304 := ⟨fun a w => by kernel_rfl⟩
instance : Ent Tryz.prog 313 := ⟨fun a w => by kernel_rfl⟩
instance : Ent Tryz.prog 321 := ⟨fun a w => by kernel_rfl⟩
instance : Ent Tryz.prog 322 := ⟨fun a w => by kernel_rfl⟩
instance : Ent Tryz.prog 328 := ⟨fun a w => by kernel_rfl⟩
instance : Ent Tryz.prog 332 := ⟨fun a w => by kernel_rfl⟩
instance : Ent Tryz.prog 333 := ⟨fun a w => by kernel_rfl⟩
instance : Ent Tryz.prog 334 := ⟨fun a w => by kernel_rfl⟩
instance : Ent Tryz.prog 335 := ⟨fun a w => by kernel_rfl⟩
instance : Ent Tryz.prog 339 := ⟨fun a w => by kernel_rfl⟩
instance : Ent Tryz.prog 340 := ⟨fun a w => by kernel_rfl⟩
instance : Ent Tryz.prog 341 := ⟨fun a w => by kernel_rfl⟩
instance : Ent Tryz.prog 345 := ⟨fun a w => by kernel_rfl⟩
instance : Ent Tryz.prog 346 := ⟨fun a w => by kernel_rfl⟩
instance : Ent Tryz.prog 347 := ⟨fun a w => by kernel_rfl⟩
instance : Ent Tryz.prog 348 := ⟨fun a w => by kernel_rfl⟩
instance : Ent Tryz.prog 354 := ⟨fun a w => by kernel_rfl⟩
instance : Ent Tryz.prog 355 := ⟨fun a w => by kernel_rfl⟩
instance : Ent Tryz.prog 356 := ⟨fun a w => by kernel_rfl⟩
instance : Ent Tryz.prog 367 := ⟨fun a w => by kernel_rfl⟩
instance : Ent Tryz.prog 376 := ⟨fun a w => by kernel_rfl⟩
instance : Ent Tryz.prog 377 := ⟨fun a w => by kernel_rfl⟩
instance : Ent Tryz.prog 382 := ⟨fun a w => by kernel_rfl⟩
instance : Ent Tryz.prog 383 := ⟨fun a w => by kernel_rfl⟩
instance : Ent Tryz.prog 384 := ⟨fun a w => by kernel_rfl⟩
instance : Und Tryz.prog 9 (.string) := ⟨fun w => by kernel_rfl⟩
instance : Und Tryz.prog 22 (.slice 61) := ⟨fun w => by kernel_rfl⟩
instance : Und Tryz.prog 24 (.slice 90) := ⟨fun w => by kernel_rfl⟩
instance : Und Tryz.prog 27 (.slice 85) := ⟨fun w => by kernel_rfl⟩
instance : Und Tryz.prog 28 (.slice 88) := ⟨fun w => by kernel_rfl⟩
instance : Und Tryz.prog 34 (.slice 9) := ⟨fun w => by kernel_rfl⟩
instance : Und Tryz.prog 35 (.slice 37) := ⟨fun w => by kernel_rfl⟩
instance : Und Tryz.prog 38 (.slice 79) := ⟨fun w => by kernel_rfl⟩
instance : Und Tryz.prog 39 (.slice 131) := ⟨fun w => by kernel_rfl⟩
instance : Und Tryz.prog 40 (.slice 143) := ⟨fun w => by kernel_rfl⟩
instance : Und Tryz.prog 41 (.slice 203) := ⟨fun w => by kernel_rfl⟩
instance : Und Tryz.prog 45 (.slice 49) := ⟨fun w => by kernel_rfl⟩
instance : Und Tryz.prog 47 (.slice 268) := ⟨fun w => by kernel_rfl⟩
instance : Und Tryz.prog 51 (.slice 57) := ⟨fun w => by kernel_rfl⟩
instance : Und Tryz.prog 57 (.slice 76) := ⟨fun w => by kernel_rfl⟩
instance : Und Tryz.prog 86 (.slice 350) := ⟨fun w => by kernel_rfl⟩
instance : Und Tryz.prog 101 (.map 9 100) := ⟨fun w => by kernel_rfl⟩
instance : Und Tryz.prog 102 (.map 9 4) := ⟨fun w => by kernel_rfl⟩
instance : Und Tryz.prog 111 (.map 9 154) := ⟨fun w => by kernel_rfl⟩
instance : Und Tryz.prog 112 (.map 9 154) := ⟨fun w => by kernel_rfl⟩
instance : Und Tryz.prog 119 (.string) := ⟨fun w => by kernel_rfl⟩
instance : Und Tryz.prog 138 (.map 119 160) := ⟨fun w => by kernel_rfl⟩
instance : Und Tryz.prog 139 (.map 119 144) := ⟨fun w => by kernel_rfl⟩
instance : Und Tryz.prog 175 (.slice 265) := ⟨fun w => by kernel_rfl⟩
instance : Und Tryz.prog 176 (.slice 265) := ⟨fun w => by kernel_rfl⟩
instance : Und Tryz.prog 190 (.slice 195) := ⟨fun w => by kernel_rfl⟩
instance : Und Tryz.prog 197 (.slice 20) := ⟨fun w => by kernel_rfl⟩
instance : Und Tryz.prog 198 (.map 9 20) := ⟨fun w => by kernel_rfl⟩
instance : Und Tryz.prog 204 (.slice 205) := ⟨fun w => by kernel_rfl⟩
instance : Und Tryz.prog 209 (.slice 308) := ⟨fun w => by kernel_rfl⟩
instance : Und Tryz.prog 210 (.slice 308) := ⟨fun w => by kernel_rfl⟩
instance : Und Tryz.prog 229 (.slice 372) := ⟨fun w => by kernel_rfl⟩
instance : Und Tryz.prog 244 (.map 119 165) := ⟨fun w => by kernel_rfl⟩
instance : Und Tryz.prog 272 (.slice 210) := ⟨fun w => by kernel_rfl⟩
instance : Und Tryz.prog 273 (.slice 308) := ⟨fun w => by kernel_rfl⟩
instance : Und Tryz.prog 276 (.slice 331) := ⟨fun w => by kernel_rfl⟩
instance : Und Tryz.prog 277 (.slice 331) := ⟨fun w => by kernel_rfl⟩
instance : Und Tryz.prog 295 (.slice 333) := ⟨fun w => by kernel_rfl⟩
instance : Und Tryz.prog 296 (.slice 408) := ⟨fun w => by kernel_rfl⟩
instance : Und Tryz.prog 367 (.slice 384) := ⟨fun w => by kernel_rfl⟩
instance : Und Tryz.prog 475 (.slice 226) := ⟨fun w => by kernel_rfl⟩
instance : Und Tryz.prog 504 (.slice 20) := ⟨fun w => by kernel_rfl⟩
instance : Und Tryz.prog 505 (.map 9 20) := ⟨fun w => by kernel_rfl⟩
instance : Und Tryz.prog 553 (.slice 319) := ⟨fun w => by kernel_rfl⟩
instance : Und Tryz.prog 560 (.slice 340) := ⟨fun w => by kernel_rfl⟩
instance : Und Tryz.prog 563 (.slice 352) := ⟨fun w => by kernel_rfl⟩
instance : NilP Tryz.prog 92 := ⟨fun a t w => by kernel_rfl,fun t w => by kernel_rfl,fun a t w => by kernel_rfl,fun t w => by kernel_rfl⟩
instance : NilP Tryz.prog 93 := ⟨fun a t w => by kernel_rfl,fun t w => by kernel_rfl,fun a t w => by kernel_rfl,fun t w => by kernel_rfl⟩
instance : NilP Tryz.prog 94 := ⟨fun a t w => by kernel_rfl,fun t w => by kernel_rfl,fun a t w => by kernel_rfl,fun t w => by kernel_rfl⟩
instance : NilP Tryz.prog 95 := ⟨fun a t w => by kernel_rfl,fun t w => by kernel_rfl,fun a t w => by kernel_rfl,fun t w => by kernel_rfl⟩
instance : NilP Tryz.prog 98 := ⟨fun a t w => by kernel_rfl,fun t w => by kernel_rfl,fun a t w => by kernel_rfl,fun t w => by kernel_rfl⟩
instance : NilP Tryz.prog 106 := ⟨fun a t w => by kernel_rfl,fun t w => by kernel_rfl,fun a t w => by kernel_rfl,fun t w => by kernel_rfl⟩
instance : NilP Tryz.prog 144 := ⟨fun a t w => by kernel_rfl,fun t w => by kernel_rfl,fun a t w => by kernel_rfl,fun t w => by kernel_rfl⟩
instance : NilP Tryz.prog 231 := ⟨fun a t w => by kernel_rfl,fun t w => by kernel_rfl,fun a t w => by kernel_rfl,fun t w => by kernel_rfl⟩
instance : NilP Tryz.prog 304 := ⟨fun a t w => by kernel_rfl,fun t w => by kernel_rfl,fun a t w => by kernel_rfl,fun t w => by kernel_rfl⟩
instance : NilP Tryz.prog 305 := ⟨fun a t w => by kernel_rfl,fun t w => by kernel_rfl,fun a t w => by kernel_rfl,fun t w => by kernel_rfl⟩
instance : NilP Tryz.prog 306 := ⟨fun a t w => by kernel_rfl,fun t w => by kernel_rfl,fun a t w => by kernel_rfl,fun t w => by kernel_rfl⟩
instance : NilP Tryz.prog 318 := ⟨fun a t w => by kernel_rfl,fun t w => by kernel_rfl,fun a t w => by kernel_rfl,fun t w => by kernel_rfl⟩
instance : NilP Tryz.prog 320 := ⟨fun a t w => by kernel_rfl,fun t w => by kernel_rfl,fun a t w => by kernel_rfl,fun t w => by kernel_rfl⟩
instance : NilP Tryz.prog 321 := ⟨fun a t w => by kernel_rfl,fun t w => by kernel_rfl,fun a t w => by kernel_rfl,fun t w => by kernel_rfl⟩
instance : NilP Tryz.prog 341 := ⟨fun a t w => by kernel_rfl,fun t w => by kernel_rfl,fun a t w => by kernel_rfl,fun t w => by kernel_rfl⟩
instance : NilP Tryz.prog 354 := ⟨fun a t w => by kernel_rfl,fun t w => by kernel_rfl,fun a t w => by kernel_rfl,fun t w => by kernel_rfl⟩
instance : NilP Tryz.prog 374 := ⟨fun a t w => by kernel_rfl,fun t w => by kernel_rfl,fun a t w => by kernel_rfl,fun t w => by kernel_rfl⟩
instance : NilM Tryz.prog 138 := ⟨fun a t w => by kernel_rfl,fun t w => by kernel_rfl,fun a t w => by kernel_rfl,fun t w => by kernel_rfl⟩
instance : NilM Tryz.prog 139 := ⟨fun a t w => by kernel_rfl,fun t w => by kernel_rfl,fun a t w => by kernel_rfl,fun t w => by kernel_rfl⟩
instance : NilS Tryz.prog 295 := ⟨fun a k c t w => by kernel_rfl,fun t w => by kernel_rfl,fun a k c t w => by kernel_rfl,fun t w => by kernel_rfl⟩
instance : NilI Tryz.prog 20 := ⟨fun a v t w => by kernel_rfl,fun t w => by kernel_rfl,fun a v t w => by kernel_rfl,fun t w => by kernel_rfl⟩
instance : NilI Tryz.prog 114 := ⟨fun a v t w => by kernel_rfl,fun t w => by kernel_rfl,fun a v t w => by kernel_rfl,fun t w => by kernel_rfl⟩
instance : NilI Tryz.prog 154 := ⟨fun a v t w => by kernel_rfl,fun t w => by kernel_rfl,fun a v t w => by kernel_rfl,fun t w => by kernel_rfl⟩
instance : NilI Tryz.prog 160 := ⟨fun a v t w => by kernel_rfl,fun t w => by kernel_rfl,fun a v t w => by kernel_rfl,fun t w => by kernel_rfl⟩
instance : NilI Tryz.prog 170 := ⟨fun a v t w => by kernel_rfl,fun t w => by kernel_rfl,fun a v t w => by kernel_rfl,fun t w => by kernel_rfl⟩
instance : NilI Tryz.prog 173 := ⟨fun a v t w => by kernel_rfl,fun t w => by kernel_rfl,fun a v t w => by kernel_rfl,fun t w => by kernel_rfl⟩
instance : NilI Tryz.prog 253 := ⟨fun a v t w => by kernel_rfl,fun t w => by kernel_rfl,fun a v t w => by kernel_rfl,fun t w => by kernel_rfl⟩
instance : NilI Tryz.prog 258 := ⟨fun a v t w => by kernel_rfl,fun t w => by kernel_rfl,fun a v t w => by kernel_rfl,fun t w => by kernel_rfl⟩
instance : Bld Tryz.prog 26 [(0,1)] [.slice none 0 0] := ⟨fun w => by kernel_rfl,fun w => by kernel_rfl,fun w => ⟨.agg #[.slice none 0 0],by kernel_rfl,rfl⟩⟩
instance : Bld Tryz.prog 30 [(0,1),(1,1),(2,1)] [.string ⟨#[]⟩,.slice none 0 0,.slice none 0 0] := ⟨fun w => by kernel_rfl,fun w => by kernel_rfl,fun w => ⟨.agg #[.string ⟨#[]⟩,.slice none 0 0,.slice none 0 0],by kernel_rfl,rfl⟩⟩
instance : Bld Tryz.prog 32 [(0,1),(1,1),(2,3),(5,1)] [.bool false,.string ⟨#[]⟩,.string ⟨#[]⟩,.slice none 0 0,.slice none 0 0,.string ⟨#[]⟩] := ⟨fun w => by kernel_rfl,fun w => by kernel_rfl,fun w => ⟨.agg #[.bool false,.string ⟨#[]⟩,.string ⟨#[]⟩,.slice none 0 0,.slice none 0 0,.string ⟨#[]⟩],by kernel_rfl,rfl⟩⟩
instance : Bld Tryz.prog 37 [(0,1),(1,1),(2,1),(3,1),(4,1),(5,1)] [.int .i64 0,.int .i64 0,.float .f64 0,.string ⟨#[]⟩,.slice none 0 0,.slice none 0 0] := ⟨fun w => by kernel_rfl,fun w => by kernel_rfl,fun w => ⟨.agg #[.int .i64 0,.int .i64 0,.float .f64 0,.string ⟨#[]⟩,.slice none 0 0,.slice none 0 0],by kernel_rfl,rfl⟩⟩
instance : Bld Tryz.prog 43 [(0,1),(1,6),(7,6),(13,1),(14,1),(15,1),(16,1),(17,1),(18,1),(19,1),(20,1),(21,1)] [.slice none 0 0,.bool false,.string ⟨#[]⟩,.string ⟨#[]⟩,.slice none 0 0,.slice none 0 0,.string ⟨#[]⟩,.int .i64 0,.int .i64 0,.float .f64 0,.string ⟨#[]⟩,.slice none 0 0,.slice none 0 0,.slice none 0 0,.slice none 0 0,.slice none 0 0,.slice none 0 0,.bool false,.bool false,.slice none 0 0,.string ⟨#[]⟩,.bool false] := ⟨fun w => by kernel_rfl,fun w => by kernel_rfl,fun w => ⟨.agg #[.slice none 0 0,.bool false,.string ⟨#[]⟩,.string ⟨#[]⟩,.slice none 0 0,.slice none 0 0,.string ⟨#[]⟩,.int .i64 0,.int .i64 0,.float .f64 0,.string ⟨#[]⟩,.slice none 0 0,.slice none 0 0,.slice none 0 0,.slice none 0 0,.slice none 0 0,.slice none 0 0,.bool false,.bool false,.slice none 0 0,.string ⟨#[]⟩,.bool false],by kernel_rfl,rfl⟩⟩
instance : Bld Tryz.prog 49 [(0,1),(1,1),(2,1),(3,6),(9,1)] [.bool false,.slice none 0 0,.bool false,.int .i64 0,.int .i64 0,.float .f64 0,.string ⟨#[]⟩,.slice none 0 0,.slice none 0 0,.slice none 0 0] := ⟨fun w => by kernel_rfl,fun w => by kernel_rfl,fun w => ⟨.agg #[.bool false,.slice none 0 0,.bool false,.int .i64 0,.int .i64 0,.float .f64 0,.string ⟨#[]⟩,.slice none 0 0,.slice none 0 0,.slice none 0 0],by kernel_rfl,rfl⟩⟩
instance : Bld Tryz.prog 76 [(0,1),(1,1),(2,1),(3,1),(4,6),(10,1)] [.int .i64 0,.string ⟨#[]⟩,.slice none 0 0,.slice none 0 0,.int .i64 0,.int .i64 0,.float .f64 0,.string ⟨#[]⟩,.slice none 0 0,.slice none 0 0,.int .i64 0] := ⟨fun w => by kernel_rfl,fun w => by kernel_rfl,fun w => ⟨.agg #[.int .i64 0,.string ⟨#[]⟩,.slice none 0 0,.slice none 0 0,.int .i64 0,.int .i64 0,.float .f64 0,.string ⟨#[]⟩,.slice none 0 0,.slice none 0 0,.int .i64 0],by kernel_rfl,rfl⟩⟩
instance : Bld Tryz.prog 79 [(0,1),(1,1),(2,1),(3,1)] [.string ⟨#[]⟩,.string ⟨#[]⟩,.bool false,.slice none 0 0] := ⟨fun w => by kernel_rfl,fun w => by kernel_rfl,fun w => ⟨.agg #[.string ⟨#[]⟩,.string ⟨#[]⟩,.bool false,.slice none 0 0],by kernel_rfl,rfl⟩⟩
instance : Bld Tryz.prog 85 [(0,6),(6,1),(7,1)] [.bool false,.string ⟨#[]⟩,.string ⟨#[]⟩,.slice none 0 0,.slice none 0 0,.string ⟨#[]⟩,.string ⟨#[]⟩,.slice none 0 0] := ⟨fun w => by kernel_rfl,fun w => by kernel_rfl,fun w => ⟨.agg #[.bool false,.string ⟨#[]⟩,.string ⟨#[]⟩,.slice none 0 0,.slice none 0 0,.string ⟨#[]⟩,.string ⟨#[]⟩,.slice none 0 0],by kernel_rfl,rfl⟩⟩
instance : Bld Tryz.prog 88 [(0,1),(1,6),(7,1)] [.slice none 0 0,.bool false,.string ⟨#[]⟩,.string ⟨#[]⟩,.slice none 0 0,.slice none 0 0,.string ⟨#[]⟩,.string ⟨#[]⟩] := ⟨fun w => by kernel_rfl,fun w => by kernel_rfl,fun w => ⟨.agg #[.slice none 0 0,.bool false,.string ⟨#[]⟩,.string ⟨#[]⟩,.slice none 0 0,.slice none 0 0,.string ⟨#[]⟩,.string ⟨#[]⟩],by kernel_rfl,rfl⟩⟩
instance : Bld Tryz.prog 90 [(0,1),(1,3)] [.string ⟨#[]⟩,.string ⟨#[]⟩,.slice none 0 0,.slice none 0 0] := ⟨fun w => by kernel_rfl,fun w => by kernel_rfl,fun w => ⟨.agg #[.string ⟨#[]⟩,.string ⟨#[]⟩,.slice none 0 0,.slice none 0 0],by kernel_rfl,rfl⟩⟩
instance : Bld Tryz.prog 97 [(0,1),(1,1),(2,1)] [.pointer none,.pointer none,.pointer none] := ⟨fun w => by kernel_rfl,fun w => by kernel_rfl,fun w => ⟨.agg #[.pointer none,.pointer none,.pointer none],by kernel_rfl,rfl⟩⟩
instance : Bld Tryz.prog 100 [(0,1),(1,3),(4,1),(5,1)] [.pointer none,.pointer none,.pointer none,.pointer none,.pointer none,.bool false] := ⟨fun w => by kernel_rfl,fun w => by kernel_rfl,fun w => ⟨.agg #[.pointer none,.pointer none,.pointer none,.pointer none,.pointer none,.bool false],by kernel_rfl,rfl⟩⟩
instance : Bld Tryz.prog 104 [(0,1),(1,1),(2,6),(8,1),(9,1)] [.slice none 0 0,.pointer none,.pointer none,.pointer none,.pointer none,.pointer none,.pointer none,.bool false,.map none,.map none] := ⟨fun w => by kernel_rfl,fun w => by kernel_rfl,fun w => ⟨.agg #[.slice none 0 0,.pointer none,.pointer none,.pointer none,.pointer none,.pointer none,.pointer none,.bool false,.map none,.map none],by kernel_rfl,rfl⟩⟩
instance : Bld Tryz.prog 141 [(0,1),(1,1),(2,1),(3,1)] [.nilIface,.map none,.map none,.bool false] := ⟨fun w => by kernel_rfl,fun w => by kernel_rfl,fun w => ⟨.agg #[.nilIface,.map none,.map none,.bool false],by kernel_rfl,rfl⟩⟩
instance : Bld Tryz.prog 158 [(0,1),(1,1),(2,1),(3,1)] [.nilIface,.map none,.map none,.bool false] := ⟨fun w => by kernel_rfl,fun w => by kernel_rfl,fun w => ⟨.agg #[.nilIface,.map none,.map none,.bool false],by kernel_rfl,rfl⟩⟩
instance : Bld Tryz.prog 185 [(0,1),(1,1),(2,1)] [.pointer none,.pointer none,.pointer none] := ⟨fun w => by kernel_rfl,fun w => by kernel_rfl,fun w => ⟨.agg #[.pointer none,.pointer none,.pointer none],by kernel_rfl,rfl⟩⟩
instance : Bld Tryz.prog 192 [(0,1)] [.slice none 0 0] := ⟨fun w => by kernel_rfl,fun w => by kernel_rfl,fun w => ⟨.agg #[.slice none 0 0],by kernel_rfl,rfl⟩⟩
instance : Bld Tryz.prog 195 [(0,1),(1,3)] [.string ⟨#[]⟩,.pointer none,.pointer none,.pointer none] := ⟨fun w => by kernel_rfl,fun w => by kernel_rfl,fun w => ⟨.agg #[.string ⟨#[]⟩,.pointer none,.pointer none,.pointer none],by kernel_rfl,rfl⟩⟩
instance : Bld Tryz.prog 220 [(0,1),(1,6),(7,1)] [.nilIface,.pointer none,.pointer none,.pointer none,.pointer none,.pointer none,.bool false,.pointer none] := ⟨fun w => by kernel_rfl,fun w => by kernel_rfl,fun w => ⟨.agg #[.nilIface,.pointer none,.pointer none,.pointer none,.pointer none,.pointer none,.bool false,.pointer none],by kernel_rfl,rfl⟩⟩
instance : Bld Tryz.prog 233 [(0,1),(1,1),(2,6),(8,1),(9,1),(10,1),(11,1)] [.nilIface,.pointer none,.pointer none,.pointer none,.pointer none,.pointer none,.pointer none,.bool false,.pointer none,.slice none 0 0,.pointer none,.nilIface] := ⟨fun w => by kernel_rfl,fun w => by kernel_rfl,fun w => ⟨.agg #[.nilIface,.pointer none,.pointer none,.pointer none,.pointer none,.pointer none,.pointer none,.bool false,.pointer none,.slice none 0 0,.pointer none,.nilIface],by kernel_rfl,rfl⟩⟩
instance : Bld Tryz.prog 235 [(0,1),(1,1),(2,1)] [.pointer none,.string ⟨#[]⟩,.bool false] := ⟨fun w => by kernel_rfl,fun w => by kernel_rfl,fun w => ⟨.agg #[.pointer none,.string ⟨#[]⟩,.bool false],by kernel_rfl,rfl⟩⟩
instance : Bld Tryz.prog 263 [] [] := ⟨fun w => by kernel_rfl,fun w => by kernel_rfl,fun w => ⟨.agg #[],by kernel_rfl,rfl⟩⟩
instance : Bld Tryz.prog 265 [(0,1),(1,1)] [.string ⟨#[]⟩,.slice none 0 0] := ⟨fun w => by kernel_rfl,fun w => by kernel_rfl,fun w => ⟨.agg #[.string ⟨#[]⟩,.slice none 0 0],by kernel_rfl,rfl⟩⟩
instance : Bld Tryz.prog 268 [(0,1),(1,1)] [.string ⟨#[]⟩,.slice none 0 0] := ⟨fun w => by kernel_rfl,fun w => by kernel_rfl,fun w => ⟨.agg #[.string ⟨#[]⟩,.slice none 0 0],by kernel_rfl,rfl⟩⟩
instance : Bld Tryz.prog 275 [(0,1)] [.slice none 0 0] := ⟨fun w => by kernel_rfl,fun w => by kernel_rfl,fun w => ⟨.agg #[.slice none 0 0],by kernel_rfl,rfl⟩⟩
instance : Bld Tryz.prog 279 [(0,1)] [.slice none 0 0] := ⟨fun w => by kernel_rfl,fun w => by kernel_rfl,fun w => ⟨.agg #[.slice none 0 0],by kernel_rfl,rfl⟩⟩
instance : Bld Tryz.prog 281 [(0,1),(1,1)] [.slice none 0 0,.slice none 0 0] := ⟨fun w => by kernel_rfl,fun w => by kernel_rfl,fun w => ⟨.agg #[.slice none 0 0,.slice none 0 0],by kernel_rfl,rfl⟩⟩
instance : Bld Tryz.prog 293 [(0,6),(6,1),(7,1)] [.pointer none,.pointer none,.pointer none,.pointer none,.pointer none,.bool false,.string ⟨#[]⟩,.slice none 0 0] := ⟨fun w => by kernel_rfl,fun w => by kernel_rfl,fun w => ⟨.agg #[.pointer none,.pointer none,.pointer none,.pointer none,.pointer none,.bool false,.string ⟨#[]⟩,.slice none 0 0],by kernel_rfl,rfl⟩⟩
instance : Bld Tryz.prog 298 [(0,1),(1,1),(2,6),(8,1)] [.slice none 0 0,.slice none 0 0,.pointer none,.pointer none,.pointer none,.pointer none,.pointer none,.bool false,.string ⟨#[]⟩] := ⟨fun w => by kernel_rfl,fun w => by kernel_rfl,fun w => ⟨.agg #[.slice none 0 0,.slice none 0 0,.pointer none,.pointer none,.pointer none,.pointer none,.pointer none,.bool false,.string ⟨#[]⟩],by kernel_rfl,rfl⟩⟩
instance : Bld Tryz.prog 308 [(0,1),(1,1),(2,1),(3,1)] [.pointer none,.pointer none,.pointer none,.pointer none] := ⟨fun w => by kernel_rfl,fun w => by kernel_rfl,fun w => ⟨.agg #[.pointer none,.pointer none,.pointer none,.pointer none],by kernel_rfl,rfl⟩⟩
instance : Bld Tryz.prog 314 [(0,1),(1,1),(2,1),(3,6),(9,1),(10,1),(11,1),(12,1),(13,1)] [.pointer none,.pointer none,.pointer none,.pointer none,.pointer none,.pointer none,.pointer none,.pointer none,.bool false,.slice none 0 0,.bool false,.pointer none,.pointer none,.pointer none] := ⟨fun w => by kernel_rfl,fun w => by kernel_rfl,fun w => ⟨.agg #[.pointer none,.pointer none,.pointer none,.pointer none,.pointer none,.pointer none,.pointer none,.pointer none,.bool false,.slice none 0 0,.bool false,.pointer none,.pointer none,.pointer none],by kernel_rfl,rfl⟩⟩
instance : Bld Tryz.prog 323 [(0,1),(1,1),(2,1),(3,6),(9,1),(10,1),(11,1),(12,1),(13,1),(14,1),(15,1)] [.nilIface,.nilIface,.pointer none,.pointer none,.pointer none,.pointer none,.pointer none,.pointer none,.bool false,.slice none 0 0,.nilFunc,.nilFunc,.pointer none,.bool false,.pointer none,.nilIface] := ⟨fun w => by kernel_rfl,fun w => by kernel_rfl,fun w => ⟨.agg #[.nilIface,.nilIface,.pointer none,.pointer none,.pointer none,.pointer none,.pointer none,.pointer none,.bool false,.slice none 0 0,.nilFunc,.nilFunc,.pointer none,.bool false,.pointer none,.nilIface],by kernel_rfl,rfl⟩⟩
instance : Bld Tryz.prog 331 [(0,4),(4,1)] [.pointer none,.pointer none,.pointer none,.pointer none,.pointer none] := ⟨fun w => by kernel_rfl,fun w => by kernel_rfl,fun w => ⟨.agg #[.pointer none,.pointer none,.pointer none,.pointer none,.pointer none],by kernel_rfl,rfl⟩⟩
instance : Bld Tryz.prog 333 [(0,1),(1,6),(7,1)] [.string ⟨#[]⟩,.pointer none,.pointer none,.pointer none,.pointer none,.pointer none,.bool false,.nilIface] := ⟨fun w => by kernel_rfl,fun w => by kernel_rfl,fun w => ⟨.agg #[.string ⟨#[]⟩,.pointer none,.pointer none,.pointer none,.pointer none,.pointer none,.bool false,.nilIface],by kernel_rfl,rfl⟩⟩
instance : Bld Tryz.prog 343 [(0,1),(1,1),(2,1),(3,6),(9,1),(10,1),(11,1),(12,1),(13,1)] [.nilIface,.nilIface,.pointer none,.pointer none,.pointer none,.pointer none,.pointer none,.pointer none,.bool false,.slice none 0 0,.pointer none,.bool false,.pointer none,.nilIface] := ⟨fun w => by kernel_rfl,fun w => by kernel_rfl,fun w => ⟨.agg #[.nilIface,.nilIface,.pointer none,.pointer none,.pointer none,.pointer none,.pointer none,.pointer none,.bool false,.slice none 0 0,.pointer none,.bool false,.pointer none,.nilIface],by kernel_rfl,rfl⟩⟩
instance : Bld Tryz.prog 356 [(0,1),(1,1),(2,6),(8,1),(9,1),(10,1)] [.nilIface,.pointer none,.pointer none,.pointer none,.pointer none,.pointer none,.pointer none,.bool false,.bool false,.pointer none,.nilIface] := ⟨fun w => by kernel_rfl,fun w => by kernel_rfl,fun w => ⟨.agg #[.nilIface,.pointer none,.pointer none,.pointer none,.pointer none,.pointer none,.pointer none,.bool false,.bool false,.pointer none,.nilIface],by kernel_rfl,rfl⟩⟩
instance : Bld Tryz.prog 358 [(0,1)] [.nilIface] := ⟨fun w => by kernel_rfl,fun w => by kernel_rfl,fun w => ⟨.agg #[.nilIface],by kernel_rfl,rfl⟩⟩
instance : Bld Tryz.prog 380 [(0,1),(1,1),(2,1),(3,1),(4,1),(5,1)] [.nilIface,.nilIface,.pointer none,.pointer none,.nilIface,.bool false] := ⟨fun w => by kernel_rfl,fun w => by kernel_rfl,fun w => ⟨.agg #[.nilIface,.nilIface,.pointer none,.pointer none,.nilIface,.bool false],by kernel_rfl,rfl⟩⟩
instance : Bld Tryz.prog 451 [] [] := ⟨fun w => by kernel_rfl,fun w => by kernel_rfl,fun w => ⟨.agg #[],by kernel_rfl,rfl⟩⟩
instance : Bld Tryz.prog 572 [] [] := ⟨fun w => by kernel_rfl,fun w => by kernel_rfl,fun w => ⟨.agg #[],by kernel_rfl,rfl⟩⟩
instance : Bld Tryz.prog 574 [(0,1),(1,1),(2,1)] [.slice none 0 0,.pointer none,.int .i64 0] := ⟨fun w => by kernel_rfl,fun w => by kernel_rfl,fun w => ⟨.agg #[.slice none 0 0,.pointer none,.int .i64 0],by kernel_rfl,rfl⟩⟩
instance : Sty Tryz.prog 22 61 := ⟨by kernel_rfl⟩
instance : Sty Tryz.prog 24 90 := ⟨by kernel_rfl⟩
instance : Sty Tryz.prog 27 85 := ⟨by kernel_rfl⟩
instance : Sty Tryz.prog 28 88 := ⟨by kernel_rfl⟩
instance : Sty Tryz.prog 34 9 := ⟨by kernel_rfl⟩
instance : Sty Tryz.prog 35 37 := ⟨by kernel_rfl⟩
instance : Sty Tryz.prog 38 79 := ⟨by kernel_rfl⟩
instance : Sty Tryz.prog 39 131 := ⟨by kernel_rfl⟩
instance : Sty Tryz.prog 40 143 := ⟨by kernel_rfl⟩
instance : Sty Tryz.prog 41 203 := ⟨by kernel_rfl⟩
instance : Sty Tryz.prog 45 49 := ⟨by kernel_rfl⟩
instance : Sty Tryz.prog 47 268 := ⟨by kernel_rfl⟩
instance : Sty Tryz.prog 51 57 := ⟨by kernel_rfl⟩
instance : Sty Tryz.prog 57 76 := ⟨by kernel_rfl⟩
instance : Sty Tryz.prog 86 350 := ⟨by kernel_rfl⟩
instance : Sty Tryz.prog 175 265 := ⟨by kernel_rfl⟩
instance : Sty Tryz.prog 176 265 := ⟨by kernel_rfl⟩
instance : Sty Tryz.prog 190 195 := ⟨by kernel_rfl⟩
instance : Sty Tryz.prog 197 20 := ⟨by kernel_rfl⟩
instance : Sty Tryz.prog 204 205 := ⟨by kernel_rfl⟩
instance : Sty Tryz.prog 209 308 := ⟨by kernel_rfl⟩
instance : Sty Tryz.prog 210 308 := ⟨by kernel_rfl⟩
instance : Sty Tryz.prog 229 372 := ⟨by kernel_rfl⟩
instance : Sty Tryz.prog 272 210 := ⟨by kernel_rfl⟩
instance : Sty Tryz.prog 273 308 := ⟨by kernel_rfl⟩
instance : Sty Tryz.prog 276 331 := ⟨by kernel_rfl⟩
instance : Sty Tryz.prog 277 331 := ⟨by kernel_rfl⟩
instance : Sty Tryz.prog 295 333 := ⟨by kernel_rfl⟩
instance : Sty Tryz.prog 296 408 := ⟨by kernel_rfl⟩
instance : Sty Tryz.prog 367 384 := ⟨by kernel_rfl⟩
instance : Sty Tryz.prog 475 226 := ⟨by kernel_rfl⟩
instance : Sty Tryz.prog 504 20 := ⟨by kernel_rfl⟩
instance : Sty Tryz.prog 553 319 := ⟨by kernel_rfl⟩
instance : Sty Tryz.prog 560 340 := ⟨by kernel_rfl⟩
instance : Sty Tryz.prog 563 352 := ⟨by kernel_rfl⟩
instance : El Tryz.prog 9 1 := El.ofB (by kernel_rfl)
instance : El Tryz.prog 20 1 := El.ofB (by kernel_rfl)
instance : El Tryz.prog 37 6 := El.ofB (by kernel_rfl)
instance : El Tryz.prog 49 10 := El.ofB (by kernel_rfl)
instance : El Tryz.prog 57 1 := El.ofB (by kernel_rfl)
instance : Zero Tryz.prog 57 [.slice none 0 0] := ⟨fun w => ⟨.slice none 0 0,by kernel_rfl,rfl⟩⟩
instance : El Tryz.prog 61 10 := El.ofB (by kernel_rfl)
instance : El Tryz.prog 76 11 := El.ofB (by kernel_rfl)
instance : El Tryz.prog 79 4 := El.ofB (by kernel_rfl)
instance : El Tryz.prog 85 8 := El.ofB (by kernel_rfl)
instance : Zero Tryz.prog 85 [.bool false,.string ⟨#[]⟩,.string ⟨#[]⟩,.slice none 0 0,.slice none 0 0,.string ⟨#[]⟩,.string ⟨#[]⟩,.slice none 0 0] := ⟨fun w => ⟨.agg #[.bool false,.string ⟨#[]⟩,.string ⟨#[]⟩,.slice none 0 0,.slice none 0 0,.string ⟨#[]⟩,.string ⟨#[]⟩,.slice none 0 0],by kernel_rfl,rfl⟩⟩
instance : El Tryz.prog 88 8 := El.ofB (by kernel_rfl)
instance : Zero Tryz.prog 88 [.slice none 0 0,.bool false,.string ⟨#[]⟩,.string ⟨#[]⟩,.slice none 0 0,.slice none 0 0,.string ⟨#[]⟩,.string ⟨#[]⟩] := ⟨fun w => ⟨.agg #[.slice none 0 0,.bool false,.string ⟨#[]⟩,.string ⟨#[]⟩,.slice none 0 0,.slice none 0 0,.string ⟨#[]⟩,.string ⟨#[]⟩],by kernel_rfl,rfl⟩⟩
instance : El Tryz.prog 90 4 := El.ofB (by kernel_rfl)
instance : El Tryz.prog 131 7 := El.ofB (by kernel_rfl)
instance : El Tryz.prog 143 2 := El.ofB (by kernel_rfl)
instance : El Tryz.prog 195 4 := El.ofB (by kernel_rfl)
instance : El Tryz.prog 203 3 := El.ofB (by kernel_rfl)
instance : Ty Tryz.prog 203 3 true := ⟨fun w => by kernel_rfl,fun w => by kernel_rfl⟩
instance : Zero Tryz.prog 203 [.string ⟨#[]⟩,.string ⟨#[]⟩,.string ⟨#[]⟩] := ⟨fun w => ⟨.agg #[.string ⟨#[]⟩,.string ⟨#[]⟩,.string ⟨#[]⟩],by kernel_rfl,rfl⟩⟩
instance : El Tryz.prog 205 1 := El.ofB (by kernel_rfl)
instance : Zero Tryz.prog 205 [.int .i64 0] := ⟨fun w => ⟨.int .i64 0,by kernel_rfl,rfl⟩⟩
instance : El Tryz.prog 210 1 := El.ofB (by kernel_rfl)
instance : Zero Tryz.prog 210 [.slice none 0 0] := ⟨fun w => ⟨.slice none 0 0,by kernel_rfl,rfl⟩⟩
instance : El Tryz.prog 226 1 := El.ofB (by kernel_rfl)
instance : Zero Tryz.prog 226 [.pointer none] := ⟨fun w => ⟨.pointer none,by kernel_rfl,rfl⟩⟩
instance : El Tryz.prog 265 2 := El.ofB (by kernel_rfl)
instance : El Tryz.prog 268 2 := El.ofB (by kernel_rfl)
instance : Zero Tryz.prog 268 [.string ⟨#[]⟩,.slice none 0 0] := ⟨fun w => ⟨.agg #[.string ⟨#[]⟩,.slice none 0 0],by kernel_rfl,rfl⟩⟩
instance : El Tryz.prog 308 4 := El.ofB (by kernel_rfl)
instance : El Tryz.prog 319 1 := El.ofB (by kernel_rfl)
instance : Zero Tryz.prog 319 [.pointer none] := ⟨fun w => ⟨.pointer none,by kernel_rfl,rfl⟩⟩
instance : El Tryz.prog 331 5 := El.ofB (by kernel_rfl)
instance : El Tryz.prog 333 8 := El.ofB (by kernel_rfl)
instance : El Tryz.prog 340 1 := El.ofB (by kernel_rfl)
instance : Zero Tryz.prog 340 [.pointer none] := ⟨fun w => ⟨.pointer none,by kernel_rfl,rfl⟩⟩
instance : El Tryz.prog 350 8 := El.ofB (by kernel_rfl)
instance : El Tryz.prog 352 1 := El.ofB (by kernel_rfl)
instance : Zero Tryz.prog 352 [.pointer none] := ⟨fun w => ⟨.pointer none,by kernel_rfl,rfl⟩⟩
instance : El Tryz.prog 372 2 := El.ofB (by kernel_rfl)
instance : Ty Tryz.prog 372 2 true := ⟨fun w => by kernel_rfl,fun w => by kernel_rfl⟩
instance : Zero Tryz.prog 372 [.string ⟨#[]⟩,.string ⟨#[]⟩] := ⟨fun w => ⟨.agg #[.string ⟨#[]⟩,.string ⟨#[]⟩],by kernel_rfl,rfl⟩⟩
instance : El Tryz.prog 384 2 := El.ofB (by kernel_rfl)
instance : El Tryz.prog 408 3 := El.ofB (by kernel_rfl)
instance : Ty Tryz.prog 408 3 true := ⟨fun w => by kernel_rfl,fun w => by kernel_rfl⟩
instance : Zero Tryz.prog 408 [.pointer none,.bool false,.slice none 0 0] := ⟨fun w => ⟨.agg #[.pointer none,.bool false,.slice none 0 0],by kernel_rfl,rfl⟩⟩
instance : Kst Tryz.prog 101 100 := ⟨⟨9,fun w => by kernel_rfl,fun w => by kernel_rfl⟩⟩
instance : Kst Tryz.prog 102 4 := ⟨⟨9,fun w => by kernel_rfl,fun w => by kernel_rfl⟩⟩
instance : Kst Tryz.prog 111 154 := ⟨⟨9,fun w => by kernel_rfl,fun w => by kernel_rfl⟩⟩
instance : Kst Tryz.prog 112 154 := ⟨⟨9,fun w => by kernel_rfl,fun w => by kernel_rfl⟩⟩
instance : Kst Tryz.prog 138 160 := ⟨⟨119,fun w => by kernel_rfl,fun w => by kernel_rfl⟩⟩
instance : Kst Tryz.prog 139 144 := ⟨⟨119,fun w => by kernel_rfl,fun w => by kernel_rfl⟩⟩
instance : Kst Tryz.prog 198 20 := ⟨⟨9,fun w => by kernel_rfl,fun w => by kernel_rfl⟩⟩
instance : Kst Tryz.prog 244 165 := ⟨⟨119,fun w => by kernel_rfl,fun w => by kernel_rfl⟩⟩
instance : Kst Tryz.prog 505 20 := ⟨⟨9,fun w => by kernel_rfl,fun w => by kernel_rfl⟩⟩
theorem zv2 : ∀ w,(zeroValue 2).run Tryz.prog w = .ok (.int .i64 0) w := fun w => by kernel_rfl
instance : Tac Tryz.prog 2 (.int .i64 0) := ⟨fun ok v xT w => by cases ok <;> kernel_rfl,(tac (d := .int .i64) (fun m h => by cases h) (fun w => by kernel_rfl) zv2).miss,fun xT w => by kernel_rfl⟩
theorem zv3 : ∀ w,(zeroValue 3).run Tryz.prog w = .ok (.int .i64 0) w := fun w => by kernel_rfl
instance : Tac Tryz.prog 3 (.int .i64 0) := ⟨fun ok v xT w => by cases ok <;> kernel_rfl,(tac (d := .int .i64) (fun m h => by cases h) (fun w => by kernel_rfl) zv3).miss,fun xT w => by kernel_rfl⟩
theorem zv4 : ∀ w,(zeroValue 4).run Tryz.prog w = .ok (.bool false) w := fun w => by kernel_rfl
instance : Zv Tryz.prog 4 (.bool false) := ⟨zv4⟩
instance : Tac Tryz.prog 4 (.bool false) := ⟨fun ok v xT w => by cases ok <;> kernel_rfl,(tac (d := .bool) (fun m h => by cases h) (fun w => by kernel_rfl) zv4).miss,fun xT w => by kernel_rfl⟩
theorem zv5 : ∀ w,(zeroValue 5).run Tryz.prog w = .ok (.int .u8 0) w := fun w => by kernel_rfl
instance : Tac Tryz.prog 5 (.int .u8 0) := ⟨fun ok v xT w => by cases ok <;> kernel_rfl,(tac (d := .int .u8) (fun m h => by cases h) (fun w => by kernel_rfl) zv5).miss,fun xT w => by kernel_rfl⟩
theorem zv9 : ∀ w,(zeroValue 9).run Tryz.prog w = .ok (.string ⟨#[]⟩) w := fun w => by kernel_rfl
instance : Tac Tryz.prog 9 (.string ⟨#[]⟩) := ⟨fun ok v xT w => by cases ok <;> kernel_rfl,(tac (d := .string) (fun m h => by cases h) (fun w => by kernel_rfl) zv9).miss,fun xT w => by kernel_rfl⟩
theorem zv20 : ∀ w,(zeroValue 20).run Tryz.prog w = .ok (.nilIface) w := fun w => by kernel_rfl
instance : Zv Tryz.prog 20 (.nilIface) := ⟨zv20⟩
theorem zv21 : ∀ w,(zeroValue 21).run Tryz.prog w = .ok (.int .i32 0) w := fun w => by kernel_rfl
instance : Tac Tryz.prog 21 (.int .i32 0) := ⟨fun ok v xT w => by cases ok <;> kernel_rfl,(tac (d := .int .i32) (fun m h => by cases h) (fun w => by kernel_rfl) zv21).miss,fun xT w => by kernel_rfl⟩
theorem zv33 : ∀ w,(zeroValue 33).run Tryz.prog w = .ok (.float .f64 0) w := fun w => by kernel_rfl
instance : Tac Tryz.prog 33 (.float .f64 0) := ⟨fun ok v xT w => by cases ok <;> kernel_rfl,(tac (d := .float .f64) (fun m h => by cases h) (fun w => by kernel_rfl) zv33).miss,fun xT w => by kernel_rfl⟩
theorem zv100 : ∀ w,(zeroValue 100).run Tryz.prog w = .ok (.agg #[.pointer none,.pointer none,.pointer none,.pointer none,.pointer none,.bool false]) w := fun w => by kernel_rfl
instance : Zv Tryz.prog 100 (.agg #[.pointer none,.pointer none,.pointer none,.pointer none,.pointer none,.bool false]) := ⟨zv100⟩
theorem zv144 : ∀ w,(zeroValue 144).run Tryz.prog w = .ok (.pointer none) w := fun w => by kernel_rfl
instance : Zv Tryz.prog 144 (.pointer none) := ⟨zv144⟩
theorem zv154 : ∀ w,(zeroValue 154).run Tryz.prog w = .ok (.nilIface) w := fun w => by kernel_rfl
instance : Zv Tryz.prog 154 (.nilIface) := ⟨zv154⟩
theorem zv160 : ∀ w,(zeroValue 160).run Tryz.prog w = .ok (.nilIface) w := fun w => by kernel_rfl
instance : Zv Tryz.prog 160 (.nilIface) := ⟨zv160⟩
theorem zv165 : ∀ w,(zeroValue 165).run Tryz.prog w = .ok (.pointer none) w := fun w => by kernel_rfl
instance : Zv Tryz.prog 165 (.pointer none) := ⟨zv165⟩
theorem zv173 : ∀ w,(zeroValue 173).run Tryz.prog w = .ok (.nilIface) w := fun w => by kernel_rfl
theorem zv176 : ∀ w,(zeroValue 176).run Tryz.prog w = .ok (.slice none 0 0) w := fun w => by kernel_rfl
instance : Tac Tryz.prog 176 (.slice none 0 0) := ⟨fun ok v xT w => by cases ok <;> kernel_rfl,(tac (d := .slice 265) (fun m h => by cases h) (fun w => by kernel_rfl) zv176).miss,fun xT w => by kernel_rfl⟩
theorem zv197 : ∀ w,(zeroValue 197).run Tryz.prog w = .ok (.slice none 0 0) w := fun w => by kernel_rfl
instance : Tac Tryz.prog 197 (.slice none 0 0) := ⟨fun ok v xT w => by cases ok <;> kernel_rfl,(tac (d := .slice 20) (fun m h => by cases h) (fun w => by kernel_rfl) zv197).miss,fun xT w => by kernel_rfl⟩
theorem zv198 : ∀ w,(zeroValue 198).run Tryz.prog w = .ok (.map none) w := fun w => by kernel_rfl
instance : Tac Tryz.prog 198 (.map none) := ⟨fun ok v xT w => by cases ok <;> kernel_rfl,(tac (d := .map 9 20) (fun m h => by cases h) (fun w => by kernel_rfl) zv198).miss,fun xT w => by kernel_rfl⟩
theorem zv304 : ∀ w,(zeroValue 304).run Tryz.prog w = .ok (.pointer none) w := fun w => by kernel_rfl
instance : Tac Tryz.prog 304 (.pointer none) := ⟨fun ok v xT w => by cases ok <;> kernel_rfl,(tac (d := .pointer 367) (fun m h => by cases h) (fun w => by kernel_rfl) zv304).miss,fun xT w => by kernel_rfl⟩
theorem zv308 : ∀ w,(zeroValue 308).run Tryz.prog w = .ok (.agg #[.pointer none,.pointer none,.pointer none,.pointer none]) w := fun w => by kernel_rfl
instance : Tac Tryz.prog 308 (.agg #[.pointer none,.pointer none,.pointer none,.pointer none]) := ⟨fun ok v xT w => by cases ok <;> kernel_rfl,(tac (d := .struct (flds Tryz.prog 308).toArray) (fun m h => by cases h) (fun w => Bld.u w) zv308).miss,fun xT w => by kernel_rfl⟩
theorem zv388 : ∀ w,(zeroValue 388).run Tryz.prog w = .ok (.int .u64 0) w := fun w => by kernel_rfl
instance : Tac Tryz.prog 388 (.int .u64 0) := ⟨fun ok v xT w => by cases ok <;> kernel_rfl,(tac (d := .int .u64) (fun m h => by cases h) (fun w => by kernel_rfl) zv388).miss,fun xT w => by kernel_rfl⟩
theorem zv441 : ∀ w,(zeroValue 441).run Tryz.prog w = .ok (.int .u32 0) w := fun w => by kernel_rfl
instance : Tac Tryz.prog 441 (.int .u32 0) := ⟨fun ok v xT w => by cases ok <;> kernel_rfl,(tac (d := .int .u32) (fun m h => by cases h) (fun w => by kernel_rfl) zv441).miss,fun xT w => by kernel_rfl⟩
theorem zv451 : ∀ w,(zeroValue 451).run Tryz.prog w = .ok (.agg #[]) w := fun w => by kernel_rfl
instance : Tac Tryz.prog 451 (.agg #[]) := ⟨fun ok v xT w => by cases ok <;> kernel_rfl,(tac (d := .struct (flds Tryz.prog 451).toArray) (fun m h => by cases h) (fun w => Bld.u w) zv451).miss,fun xT w => by kernel_rfl⟩
theorem zv492 : ∀ w,(zeroValue 492).run Tryz.prog w = .ok (.float .f32 0) w := fun w => by kernel_rfl
instance : Tac Tryz.prog 492 (.float .f32 0) := ⟨fun ok v xT w => by cases ok <;> kernel_rfl,(tac (d := .float .f32) (fun m h => by cases h) (fun w => by kernel_rfl) zv492).miss,fun xT w => by kernel_rfl⟩
theorem zv494 : ∀ w,(zeroValue 494).run Tryz.prog w = .ok (.int .i8 0) w := fun w => by kernel_rfl
instance : Tac Tryz.prog 494 (.int .i8 0) := ⟨fun ok v xT w => by cases ok <;> kernel_rfl,(tac (d := .int .i8) (fun m h => by cases h) (fun w => by kernel_rfl) zv494).miss,fun xT w => by kernel_rfl⟩
theorem zv496 : ∀ w,(zeroValue 496).run Tryz.prog w = .ok (.int .i16 0) w := fun w => by kernel_rfl
instance : Tac Tryz.prog 496 (.int .i16 0) := ⟨fun ok v xT w => by cases ok <;> kernel_rfl,(tac (d := .int .i16) (fun m h => by cases h) (fun w => by kernel_rfl) zv496).miss,fun xT w => by kernel_rfl⟩
theorem zv501 : ∀ w,(zeroValue 501).run Tryz.prog w = .ok (.int .u16 0) w := fun w => by kernel_rfl
instance : Tac Tryz.prog 501 (.int .u16 0) := ⟨fun ok v xT w => by cases ok <;> kernel_rfl,(tac (d := .int .u16) (fun m h => by cases h) (fun w => by kernel_rfl) zv501).miss,fun xT w => by kernel_rfl⟩
end Go.Ux
