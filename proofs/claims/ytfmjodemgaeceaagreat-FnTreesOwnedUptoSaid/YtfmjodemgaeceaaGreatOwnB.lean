/- The proof that FnTreesOwned is true for each history, part 2: E6b E7 E8 E9 E10 E11 E12 R1 L1 R2 G1 G2 G3 G4 G5 G6 G7 G8 G9 G10 G11 G12 G13 E13 R3 G14 G15 F1. No condition beyond the given one on bulk. -/
import Derived.Test.YtfmjodemgaeceaaGreatOwnA
import Derived.Lib.Bytealg
import Derived.Lib.Overlaps
namespace Go.Ux
open Go Go.Proofs
instance : Mth Tryz.prog 504 "AtUsing" 361 := ⟨fun v w => by kernel_rfl⟩
instance : Ent Tryz.prog 361 := ⟨fun a w => by kernel_rfl⟩
instance : Mth Tryz.prog 504 "EqualsUsing" 363 := ⟨fun v w => by kernel_rfl⟩
instance : Ent Tryz.prog 363 := ⟨fun a w => by kernel_rfl⟩
instance : Mth Tryz.prog 504 "Length" 364 := ⟨fun v w => by kernel_rfl⟩
instance : Ent Tryz.prog 364 := ⟨fun a w => by kernel_rfl⟩
instance : Mth Tryz.prog 504 "RangeUsing" 366 := ⟨fun v w => by kernel_rfl⟩
instance : Ent Tryz.prog 366 := ⟨fun a w => by kernel_rfl⟩
instance : Mth Tryz.prog 505 "Empty" 369 := ⟨fun v w => by kernel_rfl⟩
instance : Ent Tryz.prog 369 := ⟨fun a w => by kernel_rfl⟩
instance : Mth Tryz.prog 505 "EqualsUsing" 371 := ⟨fun v w => by kernel_rfl⟩
instance : Ent Tryz.prog 371 := ⟨fun a w => by kernel_rfl⟩
instance : Mth Tryz.prog 505 "GetUsing" 373 := ⟨fun v w => by kernel_rfl⟩
instance : Ent Tryz.prog 373 := ⟨fun a w => by kernel_rfl⟩
instance : Mth Tryz.prog 505 "Has" 374 := ⟨fun v w => by kernel_rfl⟩
instance : Ent Tryz.prog 374 := ⟨fun a w => by kernel_rfl⟩
instance : Mth Tryz.prog 505 "Iterate" 375 := ⟨fun v w => by kernel_rfl⟩
instance : Ent Tryz.prog 375 := ⟨fun a w => by kernel_rfl⟩
instance : Mth Tryz.prog 505 "IterateUsing" 376 := ⟨fun v w => by kernel_rfl⟩
instance : Ent Tryz.prog 376 := ⟨fun a w => by kernel_rfl⟩
instance : Mth Tryz.prog 505 "Length" 377 := ⟨fun v w => by kernel_rfl⟩
instance : Ent Tryz.prog 377 := ⟨fun a w => by kernel_rfl⟩
instance : Mth Tryz.prog 505 "ZipUsing" 380 := ⟨fun v w => by kernel_rfl⟩
instance : Ent Tryz.prog 380 := ⟨fun a w => by kernel_rfl⟩
instance : Mth Tryz.prog 261 "Free" 254 := ⟨fun v w => by kernel_rfl⟩
instance : Ent Tryz.prog 254 := ⟨fun a w => by kernel_rfl⟩
instance : Mth Tryz.prog 261 "pub-coparcener/pub/structuredmerge/value.allocListUnstructuredRange" 255 := ⟨fun v w => by kernel_rfl⟩
instance : Ent Tryz.prog 255 := ⟨fun a w => by kernel_rfl⟩
instance : Mth Tryz.prog 261 "pub-coparcener/pub/structuredmerge/value.allocValueUnstructured" 118 := ⟨fun v w => by kernel_rfl⟩
instance : Ent Tryz.prog 118 := ⟨fun a w => by kernel_rfl⟩
instance : Mth Tryz.prog 568 "Item" 390 := ⟨fun v w => by kernel_rfl⟩
instance : Ent Tryz.prog 390 := ⟨fun a w => by kernel_rfl⟩
instance : Mth Tryz.prog 568 "Next" 391 := ⟨fun v w => by kernel_rfl⟩
instance : Ent Tryz.prog 391 := ⟨fun a w => by kernel_rfl⟩
instance : Mth Tryz.prog 571 "Item" 392 := ⟨fun v w => by kernel_rfl⟩
instance : Ent Tryz.prog 392 := ⟨fun a w => by kernel_rfl⟩
instance : Mth Tryz.prog 571 "Next" 393 := ⟨fun v w => by kernel_rfl⟩
instance : Ent Tryz.prog 393 := ⟨fun a w => by kernel_rfl⟩
instance : Mth Tryz.prog 104 "Convert" 224 := ⟨fun v w => by kernel_rfl⟩
instance : Ent Tryz.prog 224 := ⟨fun a w => by kernel_rfl⟩
instance : Mth Tryz.prog 104 "IsMissingVersionError" 225 := ⟨fun v w => by kernel_rfl⟩
instance : Ent Tryz.prog 225 := ⟨fun a w => by kernel_rfl⟩
instance : Mth Tryz.prog 104 "pub-coparcener/impl.live" 32 := ⟨fun v w => by kernel_rfl⟩
instance : Ent Tryz.prog 32 := ⟨fun a w => by kernel_rfl⟩
instance : Mth Tryz.prog 104 "pub-coparcener/impl.typeIn" 34 := ⟨fun v w => by kernel_rfl⟩
instance : Ent Tryz.prog 34 := ⟨fun a w => by kernel_rfl⟩
instance : Mth Tryz.prog 235 "APIVersion" 251 := ⟨fun v w => by kernel_rfl⟩
instance : Ent Tryz.prog 251 := ⟨fun a w => by kernel_rfl⟩
instance : Mth Tryz.prog 235 "Applied" 252 := ⟨fun v w => by kernel_rfl⟩
instance : Ent Tryz.prog 252 := ⟨fun a w => by kernel_rfl⟩
instance : Mth Tryz.prog 235 "Set" 253 := ⟨fun v w => by kernel_rfl⟩
instance : Ent Tryz.prog 253 := ⟨fun a w => by kernel_rfl⟩
instance : MthL Tryz.prog 301 "AsBool" 263 358 := ⟨fun a w => by kernel_rfl⟩
instance : Ent Tryz.prog 263 := ⟨fun a w => by kernel_rfl⟩
instance : MthL Tryz.prog 301 "AsFloat" 264 358 := ⟨fun a w => by kernel_rfl⟩
instance : Ent Tryz.prog 264 := ⟨fun a w => by kernel_rfl⟩
instance : MthL Tryz.prog 301 "AsInt" 265 358 := ⟨fun a w => by kernel_rfl⟩
instance : Ent Tryz.prog 265 := ⟨fun a w => by kernel_rfl⟩
instance : MthL Tryz.prog 301 "AsListUsing" 267 358 := ⟨fun a w => by kernel_rfl⟩
instance : Ent Tryz.prog 267 := ⟨fun a w => by kernel_rfl⟩
instance : MthL Tryz.prog 301 "AsMapUsing" 269 358 := ⟨fun a w => by kernel_rfl⟩
instance : Ent Tryz.prog 269 := ⟨fun a w => by kernel_rfl⟩
instance : MthL Tryz.prog 301 "AsString" 270 358 := ⟨fun a w => by kernel_rfl⟩
instance : Ent Tryz.prog 270 := ⟨fun a w => by kernel_rfl⟩
instance : MthL Tryz.prog 301 "IsBool" 271 358 := ⟨fun a w => by kernel_rfl⟩
instance : Ent Tryz.prog 271 := ⟨fun a w => by kernel_rfl⟩
instance : MthL Tryz.prog 301 "IsFloat" 272 358 := ⟨fun a w => by kernel_rfl⟩
instance : Ent Tryz.prog 272 := ⟨fun a w => by kernel_rfl⟩
instance : MthL Tryz.prog 301 "IsInt" 273 358 := ⟨fun a w => by kernel_rfl⟩
instance : Ent Tryz.prog 273 := ⟨fun a w => by kernel_rfl⟩
instance : MthL Tryz.prog 301 "IsList" 274 358 := ⟨fun a w => by kernel_rfl⟩
instance : Ent Tryz.prog 274 := ⟨fun a w => by kernel_rfl⟩
instance : MthL Tryz.prog 301 "IsMap" 275 358 := ⟨fun a w => by kernel_rfl⟩
instance : Ent Tryz.prog 275 := ⟨fun a w => by kernel_rfl⟩
instance : MthL Tryz.prog 301 "IsNull" 276 358 := ⟨fun a w => by kernel_rfl⟩
instance : Ent Tryz.prog 276 := ⟨fun a w => by kernel_rfl⟩
instance : MthL Tryz.prog 301 "IsString" 277 358 := ⟨fun a w => by kernel_rfl⟩
instance : Ent Tryz.prog 277 := ⟨fun a w => by kernel_rfl⟩
instance : MthL Tryz.prog 301 "Unstructured" 278 358 := ⟨fun a w => by kernel_rfl⟩
instance : Ent Tryz.prog 278 := ⟨fun a w => by kernel_rfl⟩
instance : Ent Tryz.prog 119 := ⟨fun a w => by kernel_rfl⟩
instance : Ent Tryz.prog 3 := ⟨fun a w => by kernel_rfl⟩
instance : Ent Tryz.prog 27 := ⟨fun a w => by kernel_rfl⟩
instance : Ent Tryz.prog 86 := ⟨fun a w => by kernel_rfl⟩
instance : Ent Tryz.prog 88 := ⟨fun a w => by kernel_rfl⟩
instance : Ent Tryz.prog 123 := ⟨fun a w => by kernel_rfl⟩
instance : Ent Tryz.prog 139 := ⟨fun a w => by kernel_rfl⟩
instance : Ent Tryz.prog 143 := ⟨fun a w => by kernel_rfl⟩
instance : Ent Tryz.prog 148 := ⟨fun a w => by kernel_rfl⟩
instance : Ent Tryz.prog 151 := ⟨fun a w => by kernel_rfl⟩
instance : Ent Tryz.prog 155 := ⟨fun a w => by kernel_rfl⟩
instance : Ent Tryz.prog 186 := ⟨fun a w => by kernel_rfl⟩
instance : Ent Tryz.prog 192 := ⟨fun a w => by kernel_rfl⟩
instance : Ent Tryz.prog 207 := ⟨fun a w => by kernel_rfl⟩
instance : Ent Tryz.prog 234 := ⟨fun a w => by kernel_rfl⟩
instance : Ent Tryz.prog 235 := ⟨fun a w => by kernel_rfl⟩
instance : Ent Tryz.prog 236 := ⟨fun a w => by kernel_rfl⟩
instance : Ent Tryz.prog 245 := ⟨fun a w => by kernel_rfl⟩
instance : Ent Tryz.prog 262 := ⟨fun a w => by kernel_rfl⟩
instance : Ent Tryz.prog 281 := ⟨fun a w => by kernel_rfl⟩
instance : Ent Tryz.prog 297 := ⟨fun a w => by kernel_rfl⟩
instance : Ent Tryz.prog 298 := ⟨fun a w => by kernel_rfl⟩
instance : Ent Tryz.prog 299 := ⟨fun a w => by kernel_rfl⟩
instance : Ent Tryz.prog 312 := ⟨fun a w => by kernel_rfl⟩
instance : Ent Tryz.prog 329 := ⟨fun a w => by kernel_rfl⟩
instance : Ent Tryz.prog 330 := ⟨fun a w => by kernel_rfl⟩
instance : Ent Tryz.prog 331 := ⟨fun a w => by kernel_rfl⟩
instance : Ent Tryz.prog 338 := ⟨fun a w => by kernel_rfl⟩
instance : Ent Tryz.prog 342 := ⟨fun a w => by kernel_rfl⟩
instance : Ent Tryz.prog 343 := ⟨fun a w => by kernel_rfl⟩
instance : Ent Tryz.prog 344 := ⟨fun a w => by kernel_rfl⟩
instance : Ent Tryz.prog 349 := ⟨fun a w => by kernel_rfl⟩
instance : Ent Tryz.prog 352 := ⟨fun a w => by kernel_rfl⟩
instance : Ent Tryz.prog 353 := ⟨fun a w => by kernel_rfl⟩
instance : Ent Tryz.prog 357 := ⟨fun a w => by kernel_rfl⟩
instance : Ent Tryz.prog 381 := ⟨fun a w => by kernel_rfl⟩
instance : Ent Tryz.prog 385 := ⟨fun a w => by kernel_rfl⟩
instance : Ent Tryz.prog 386 := ⟨fun a w => by kernel_rfl⟩
instance : MthL Tryz.prog 570 "Length" 364 504 := ⟨fun a w => by kernel_rfl⟩
instance : MthL Tryz.prog 570 "RangeUsing" 366 504 := ⟨fun a w => by kernel_rfl⟩
end Go.Ux
namespace Go.Ux
open Go Go.Proofs
variable {P : Program}
section
variable {n : Nat} {Q : Post} {K : Fr → Fz → Hp → Prop} {f : Fr} {Z : Fz} {H : Hp} {id id' : Nat}
theorem q_n (h : K f Z H) : thenQ K Q .normal f Z H := h
theorem q_ret (h : Q .ret f Z H) : thenQ K Q .ret f Z H := h
theorem q_exit (h : Q (.exit id) f Z H) : thenQ K Q (.exit id) f Z H := h
theorem q_bn (h : Q .normal f Z H) : blockQ id Q .normal f Z H := h
theorem q_bret (h : Q .ret f Z H) : blockQ id Q .ret f Z H := h
theorem q_bexit (e : Nat.beq id' id = true) (h : Q .normal f Z H) : blockQ id Q (.exit id') f Z H := by simp only [blockQ,e,cond_true]; exact h
theorem q_bother (e : Nat.beq id' id = false) (h : Q (.exit id') f Z H) : blockQ id Q (.exit id') f Z H := by simp only [blockQ,e,cond_false]; exact h
theorem q_dn {rs : List ResultVar} {R : Value → Fz → Hp → Prop} (h : Fin P rs R f.D f Z H) : doneQ P rs R .normal f Z H := h
theorem q_dret {rs : List ResultVar} {R : Value → Fz → Hp → Prop} (h : Fin P rs R f.D f Z H) : doneQ P rs R .ret f Z H := h
theorem fin_nil {rs : List ResultVar} {R : Value → Fz → Hp → Prop} {vs : List Value} {l : List Lay} {D : List Deferred} (h1 : ResL P ⟨l,D⟩ Z H rs vs) (h2 : R (oneOf vs) Z H) : Fin P rs R [] ⟨l,D⟩ Z H := ⟨vs,h1,h2⟩
theorem r_end {all : Array Oper} {dr : Bool} {Pin : Hp} (h : K f Z H) : Rg P n all dr Pin K [] f Z H := .nil (Same.refl f) (.refl H) h
theorem res_tmp {rs : List ResultVar} {vs : List Value} {l : List Lay} {D : List Deferred} {t : Tmp} {v : Value} (hv : look l t = v) (h : ResL P ⟨l,D⟩ Z H rs vs) : ResL P ⟨l,D⟩ Z H (.tmp t :: rs) (v :: vs) := by
 subst hv; exact .tmp h
end
theorem lt_go {a c : Int} {r : Bool} (s : decide (a < c) = r := by first | exact decide_eq_true (by omega) | exact decide_eq_false (by omega)) : decide (a < c) = r := s
theorem le_go {a c : Int} {r : Bool} (s : decide (a ≤ c) = r := by first | exact decide_eq_true (by omega) | exact decide_eq_false (by omega)) : decide (a ≤ c) = r := s
theorem eq_go {a c : Int} {r : Bool} (s : decide (a = c) = r := by first | exact decide_eq_true (by omega) | exact decide_eq_false (by omega)) : decide (a = c) = r := s
theorem ne_go {a c : Int} {r : Bool} (s : decide (a ≠ c) = r := by first | exact decide_eq_true (by omega) | exact decide_eq_false (by omega)) : decide (a ≠ c) = r := s
theorem eqs_go {a c : ByteArray} {r : Bool} (s : decide (a = c) = r := by first | exact decide_eq_true rfl | exact decide_eq_true (by assumption) | exact decide_eq_false (by assumption)) : decide (a = c) = r := s
theorem nes_go {a c : ByteArray} {r : Bool} (s : decide (a ≠ c) = r := by first | exact decide_eq_false (fun h => h rfl) | exact decide_eq_true (by assumption) | exact decide_eq_false (fun h => h (by assumption))) : decide (a ≠ c) = r := s
theorem get_go {xs : List Value} {i : Nat} {v : Value} (s : xs[i]? = some v := by first | rfl | assumption) : xs[i]? = some v := s
section
variable {n : Nat} {all : Array Oper} {dr : Bool} {Pin : Hp} {K : Fr → Fz → Hp → Prop} {rest : List Oper} {f : Fr} {Z : Fz} {H : Hp} {Q : Post}
variable {dst : Option Tmp} {d : Tmp} {ty : TypeId} {pos : String} {af : Array Edge} {gd : Option (Nat × Bool)} {x y z : Operand} {T T' : TypeId} {i : Nat} {ps : Array (Nat × Operand)} {xs xs' : Array Operand} {ts : Array TypeId} {bo : BinOp} {uo : UnOp} {ok : Bool} {fn : Fn} {o : Oper} {c : Code}
theorem g_rg (h : Rg P n all dr Pin K (o :: rest) f Z H) : Rg P n all dr Pin K (o :: rest) f Z H := h
theorem g_wp (h : WP P n c Q f Z H) : WP P n c Q f Z H := h
theorem g_move (h : Rg P n all dr Pin K (⟨some d,.move x,ty,pos,af,gd⟩ :: rest) f Z H) : Rg P n all dr Pin K (⟨some d,.move x,ty,pos,af,gd⟩ :: rest) f Z H := h
theorem g_assign (h : Rg P n all dr Pin K (⟨some d,.assign x,ty,pos,af,gd⟩ :: rest) f Z H) : Rg P n all dr Pin K (⟨some d,.assign x,ty,pos,af,gd⟩ :: rest) f Z H := h
theorem g_load (h : Rg P n all dr Pin K (⟨some d,.load T x,ty,pos,af,gd⟩ :: rest) f Z H) : Rg P n all dr Pin K (⟨some d,.load T x,ty,pos,af,gd⟩ :: rest) f Z H := h
theorem g_fieldAddr (h : Rg P n all dr Pin K (⟨some d,.fieldAddr T x i,ty,pos,af,gd⟩ :: rest) f Z H) : Rg P n all dr Pin K (⟨some d,.fieldAddr T x i,ty,pos,af,gd⟩ :: rest) f Z H := h
theorem g_nilCheck (h : Rg P n all dr Pin K (⟨some d,.nilCheck x,ty,pos,af,gd⟩ :: rest) f Z H) : Rg P n all dr Pin K (⟨some d,.nilCheck x,ty,pos,af,gd⟩ :: rest) f Z H := h
theorem g_extract (h : Rg P n all dr Pin K (⟨some d,.extract x i,ty,pos,af,gd⟩ :: rest) f Z H) : Rg P n all dr Pin K (⟨some d,.extract x i,ty,pos,af,gd⟩ :: rest) f Z H := h
theorem g_store (h : Rg P n all dr Pin K (⟨none,.store T x y,ty,pos,af,gd⟩ :: rest) f Z H) : Rg P n all dr Pin K (⟨none,.store T x y,ty,pos,af,gd⟩ :: rest) f Z H := h
theorem g_box (h : Rg P n all dr Pin K (⟨some d,.box T x,ty,pos,af,gd⟩ :: rest) f Z H) : Rg P n all dr Pin K (⟨some d,.box T x,ty,pos,af,gd⟩ :: rest) f Z H := h
theorem g_alloc (h : Rg P n all dr Pin K (⟨some d,.alloc T,ty,pos,af,gd⟩ :: rest) f Z H) : Rg P n all dr Pin K (⟨some d,.alloc T,ty,pos,af,gd⟩ :: rest) f Z H := h
theorem g_build (h : Rg P n all dr Pin K (⟨some d,.build T ps,ty,pos,af,gd⟩ :: rest) f Z H) : Rg P n all dr Pin K (⟨some d,.build T ps,ty,pos,af,gd⟩ :: rest) f Z H := h
theorem g_buildSlice (h : Rg P n all dr Pin K (⟨some d,.buildSlice T i ps,ty,pos,af,gd⟩ :: rest) f Z H) : Rg P n all dr Pin K (⟨some d,.buildSlice T i ps,ty,pos,af,gd⟩ :: rest) f Z H := h
theorem g_makeMap (h : Rg P n all dr Pin K (⟨some d,.makeMap T none,ty,pos,af,gd⟩ :: rest) f Z H) : Rg P n all dr Pin K (⟨some d,.makeMap T none,ty,pos,af,gd⟩ :: rest) f Z H := h
theorem g_bin (h : Rg P n all dr Pin K (⟨some d,.binOp bo T x y T',ty,pos,af,gd⟩ :: rest) f Z H) : Rg P n all dr Pin K (⟨some d,.binOp bo T x y T',ty,pos,af,gd⟩ :: rest) f Z H := h
theorem g_un (h : Rg P n all dr Pin K (⟨some d,.unOp uo T x,ty,pos,af,gd⟩ :: rest) f Z H) : Rg P n all dr Pin K (⟨some d,.unOp uo T x,ty,pos,af,gd⟩ :: rest) f Z H := h
theorem g_len (h : Rg P n all dr Pin K (⟨some d,.call ⟨.builtin .len,xs,ts⟩,ty,pos,af,gd⟩ :: rest) f Z H) : Rg P n all dr Pin K (⟨some d,.call ⟨.builtin .len,xs,ts⟩,ty,pos,af,gd⟩ :: rest) f Z H := h
theorem g_type (h : Rg P n all dr Pin K (⟨some d,.typeAssert x T T' ok,ty,pos,af,gd⟩ :: rest) f Z H) : Rg P n all dr Pin K (⟨some d,.typeAssert x T T' ok,ty,pos,af,gd⟩ :: rest) f Z H := h
theorem g_mkI (h : Rg P n all dr Pin K (⟨some d,.makeInterface T x,ty,pos,af,gd⟩ :: rest) f Z H) : Rg P n all dr Pin K (⟨some d,.makeInterface T x,ty,pos,af,gd⟩ :: rest) f Z H := h
theorem g_mkF (h : Rg P n all dr Pin K (⟨some d,.makeFunc fn xs xs',ty,pos,af,gd⟩ :: rest) f Z H) : Rg P n all dr Pin K (⟨some d,.makeFunc fn xs xs',ty,pos,af,gd⟩ :: rest) f Z H := h
theorem g_pick (h : Rg P n all dr Pin K (⟨some d,.pick x y z,ty,pos,af,gd⟩ :: rest) f Z H) : Rg P n all dr Pin K (⟨some d,.pick x y z,ty,pos,af,gd⟩ :: rest) f Z H := h
theorem g_lss (h : Rg P n all dr Pin K (⟨some d,.binOp .lss T x y T',ty,pos,af,gd⟩ :: rest) f Z H) : Rg P n all dr Pin K (⟨some d,.binOp .lss T x y T',ty,pos,af,gd⟩ :: rest) f Z H := h
theorem g_add (h : Rg P n all dr Pin K (⟨some d,.binOp .add T x y T',ty,pos,af,gd⟩ :: rest) f Z H) : Rg P n all dr Pin K (⟨some d,.binOp .add T x y T',ty,pos,af,gd⟩ :: rest) f Z H := h
theorem g_sub (h : Rg P n all dr Pin K (⟨some d,.binOp .sub T x y T',ty,pos,af,gd⟩ :: rest) f Z H) : Rg P n all dr Pin K (⟨some d,.binOp .sub T x y T',ty,pos,af,gd⟩ :: rest) f Z H := h
theorem g_eql (h : Rg P n all dr Pin K (⟨some d,.binOp .eql T x y T',ty,pos,af,gd⟩ :: rest) f Z H) : Rg P n all dr Pin K (⟨some d,.binOp .eql T x y T',ty,pos,af,gd⟩ :: rest) f Z H := h
theorem g_neq (h : Rg P n all dr Pin K (⟨some d,.binOp .neq T x y T',ty,pos,af,gd⟩ :: rest) f Z H) : Rg P n all dr Pin K (⟨some d,.binOp .neq T x y T',ty,pos,af,gd⟩ :: rest) f Z H := h
theorem g_gtr (h : Rg P n all dr Pin K (⟨some d,.binOp .gtr T x y T',ty,pos,af,gd⟩ :: rest) f Z H) : Rg P n all dr Pin K (⟨some d,.binOp .gtr T x y T',ty,pos,af,gd⟩ :: rest) f Z H := h
theorem g_leq (h : Rg P n all dr Pin K (⟨some d,.binOp .leq T x y T',ty,pos,af,gd⟩ :: rest) f Z H) : Rg P n all dr Pin K (⟨some d,.binOp .leq T x y T',ty,pos,af,gd⟩ :: rest) f Z H := h
theorem g_geq (h : Rg P n all dr Pin K (⟨some d,.binOp .geq T x y T',ty,pos,af,gd⟩ :: rest) f Z H) : Rg P n all dr Pin K (⟨some d,.binOp .geq T x y T',ty,pos,af,gd⟩ :: rest) f Z H := h
end
structure Hide (p : Prop) : Prop where
 h : p
theorem go {g g' : Prop} (h : g')
  (s : Hide g' → g := by
   intro hh
   (first
    | (refine g_rg ?_; first
     | (refine g_move ?_; first | refine o_move rfl ?_)
     | (refine g_assign ?_; first | refine o_assign rfl ?_)
     | (refine g_load ?_; first | refine o_load1 rfl rfl get_go ?_ | refine o_loadS rfl rfl ?_ | refine o_loadN rfl rfl rfl rfl ?_)
     | (refine g_fieldAddr ?_; first | refine o_fieldAddr0 rfl rfl ?_ | refine o_fieldAddrZ rfl rfl ?_ | refine o_fieldAddr rfl rfl ?_)
     | (refine g_nilCheck ?_; first | refine o_nilCheck rfl rfl ?_ | refine o_nilCheckI rfl rfl ?_)
     | (refine g_extract ?_; first | refine o_extract rfl rfl rfl ?_)
     | (refine g_store ?_; first | refine o_storeA rfl rfl rfl rfl rfl ?_ | refine o_store1 rfl rfl ev_go ?_)
     | (refine g_eql ?_; first | refine o_eqlP rfl rfl ?_ | refine o_eqlP0 rfl rfl ?_ | refine o_eqlI rfl rfl ?_ | refine o_eqlI0 rfl rfl ?_ | refine o_eqi rfl rfl rfl eq_go ?_ | refine o_eqs rfl rfl rfl eqs_go ?_ | refine o_eqlS rfl rfl ?_ | refine o_eqlS0 rfl rfl ?_ | refine o_eqlM rfl rfl ?_ | refine o_eqlM0 rfl rfl ?_)
     | (refine g_neq ?_; first | refine o_neqP rfl rfl ?_ | refine o_neqP0 rfl rfl ?_ | refine o_neqI rfl rfl ?_ | refine o_neqI0 rfl rfl ?_ | refine o_neqM rfl rfl ?_ | refine o_neqM0 rfl rfl ?_ | refine o_nei rfl rfl rfl ne_go ?_ | refine o_nes rfl rfl rfl nes_go ?_ | refine o_neqS rfl rfl ?_ | refine o_neqS0 rfl rfl ?_)
     | (refine g_lss ?_; first | refine o_lss rfl rfl rfl lt_go ?_)
     | (refine g_add ?_; first | refine o_add rfl rfl rfl (by omega) (by omega) ?_)
     | (refine g_sub ?_; first | refine o_sub rfl rfl rfl (by omega) (by omega) ?_)
     | (refine g_gtr ?_; first | refine o_gtr rfl rfl rfl lt_go ?_)
     | (refine g_leq ?_; first | refine o_leq rfl rfl rfl le_go ?_)
     | (refine g_geq ?_; first | refine o_geq rfl rfl rfl le_go ?_)
     | (refine g_len ?_; first | refine o_lenS rfl rfl ?_ | refine o_lenM rfl rfl ?_ | refine o_lenM0 rfl rfl ?_)
     | (refine g_box ?_; first | refine o_boxA rfl rfl ?_ | refine o_box1 rfl ev_go ?_)
     | (refine g_alloc ?_; first | refine o_alloc rfl ?_)
     | (refine g_build ?_; first | refine o_buildR rfl fill_go ?_)
     | (refine g_buildSlice ?_; first | refine o_bSliceA rfl rfl rfl ?_ | refine o_bSlice1 rfl ev_go ?_ | refine o_buildSlice0 rfl ?_)
     | (refine g_mkI ?_; first | refine o_makeInterface rfl ev_go ?_)
     | (refine g_type ?_; first | refine o_typeHit rfl rfl ?_ | refine o_typeMiss rfl rfl rfl ?_ | refine o_typeNil rfl rfl ?_)
     | (refine g_pick ?_; first | refine o_pickT rfl rfl ?_ | refine o_pickF rfl rfl ?_)
     | (refine g_un ?_; first | refine o_not rfl rfl ?_)
     | (refine g_mkF ?_; first | refine o_makeFuncL rfl evl_go evl_go ?_)
     | (refine g_makeMap ?_; first | refine o_makeMap rfl ?_)
     | refine o_sk rfl ?_)
    | refine r_end ?_ | refine q_n ?_
    | (refine g_wp ?_; first | refine WP.seq ?_ | refine WP.region ?_ | refine WP.yes rfl ?_ | refine WP.no rfl ?_ | refine WP.skip ?_ | refine WP.ret ?_ | refine WP.exit ?_ | refine WP.block ?_ | refine WP.drawA mo (by decide +kernel) ?_)
    | refine q_dret ?_ | refine q_ret ?_ | refine q_exit ?_ | refine q_bn ?_ | refine q_bret ?_ | refine q_bexit rfl ?_ | refine q_bother rfl ?_ | refine q_dn ?_)
   repeat (first
    | (refine g_rg ?_; first
     | (refine g_move ?_; first | refine o_move rfl ?_)
     | (refine g_assign ?_; first | refine o_assign rfl ?_)
     | (refine g_load ?_; first | refine o_load1 rfl rfl get_go ?_ | refine o_loadS rfl rfl ?_ | refine o_loadN rfl rfl rfl rfl ?_)
     | (refine g_fieldAddr ?_; first | refine o_fieldAddr0 rfl rfl ?_ | refine o_fieldAddrZ rfl rfl ?_ | refine o_fieldAddr rfl rfl ?_)
     | (refine g_nilCheck ?_; first | refine o_nilCheck rfl rfl ?_ | refine o_nilCheckI rfl rfl ?_)
     | (refine g_extract ?_; first | refine o_extract rfl rfl rfl ?_)
     | (refine g_store ?_; first | refine o_storeA rfl rfl rfl rfl rfl ?_ | refine o_store1 rfl rfl ev_go ?_)
     | (refine g_eql ?_; first | refine o_eqlP rfl rfl ?_ | refine o_eqlP0 rfl rfl ?_ | refine o_eqlI rfl rfl ?_ | refine o_eqlI0 rfl rfl ?_ | refine o_eqi rfl rfl rfl eq_go ?_ | refine o_eqs rfl rfl rfl eqs_go ?_ | refine o_eqlS rfl rfl ?_ | refine o_eqlS0 rfl rfl ?_ | refine o_eqlM rfl rfl ?_ | refine o_eqlM0 rfl rfl ?_)
     | (refine g_neq ?_; first | refine o_neqP rfl rfl ?_ | refine o_neqP0 rfl rfl ?_ | refine o_neqI rfl rfl ?_ | refine o_neqI0 rfl rfl ?_ | refine o_neqM rfl rfl ?_ | refine o_neqM0 rfl rfl ?_ | refine o_nei rfl rfl rfl ne_go ?_ | refine o_nes rfl rfl rfl nes_go ?_ | refine o_neqS rfl rfl ?_ | refine o_neqS0 rfl rfl ?_)
     | (refine g_lss ?_; first | refine o_lss rfl rfl rfl lt_go ?_)
     | (refine g_add ?_; first | refine o_add rfl rfl rfl (by omega) (by omega) ?_)
     | (refine g_sub ?_; first | refine o_sub rfl rfl rfl (by omega) (by omega) ?_)
     | (refine g_gtr ?_; first | refine o_gtr rfl rfl rfl lt_go ?_)
     | (refine g_leq ?_; first | refine o_leq rfl rfl rfl le_go ?_)
     | (refine g_geq ?_; first | refine o_geq rfl rfl rfl le_go ?_)
     | (refine g_len ?_; first | refine o_lenS rfl rfl ?_ | refine o_lenM rfl rfl ?_ | refine o_lenM0 rfl rfl ?_)
     | (refine g_box ?_; first | refine o_boxA rfl rfl ?_ | refine o_box1 rfl ev_go ?_)
     | (refine g_alloc ?_; first | refine o_alloc rfl ?_)
     | (refine g_build ?_; first | refine o_buildR rfl fill_go ?_)
     | (refine g_buildSlice ?_; first | refine o_bSliceA rfl rfl rfl ?_ | refine o_bSlice1 rfl ev_go ?_ | refine o_buildSlice0 rfl ?_)
     | (refine g_mkI ?_; first | refine o_makeInterface rfl ev_go ?_)
     | (refine g_type ?_; first | refine o_typeHit rfl rfl ?_ | refine o_typeMiss rfl rfl rfl ?_ | refine o_typeNil rfl rfl ?_)
     | (refine g_pick ?_; first | refine o_pickT rfl rfl ?_ | refine o_pickF rfl rfl ?_)
     | (refine g_un ?_; first | refine o_not rfl rfl ?_)
     | (refine g_mkF ?_; first | refine o_makeFuncL rfl evl_go evl_go ?_)
     | (refine g_makeMap ?_; first | refine o_makeMap rfl ?_)
     | refine o_sk rfl ?_)
    | refine r_end ?_ | refine q_n ?_
    | (refine g_wp ?_; first | refine WP.seq ?_ | refine WP.region ?_ | refine WP.yes rfl ?_ | refine WP.no rfl ?_ | refine WP.skip ?_ | refine WP.ret ?_ | refine WP.exit ?_ | refine WP.block ?_ | refine WP.drawA mo (by decide +kernel) ?_)
    | refine q_dret ?_ | refine q_ret ?_ | refine q_exit ?_ | refine q_bn ?_ | refine q_bret ?_ | refine q_bexit rfl ?_ | refine q_bother rfl ?_ | refine q_dn ?_)
   exact hh.h) : g := s ⟨h⟩
theorem gn {g g' : Prop} (h : g')
  (s : Hide g' → g := by
   intro hh
   (first
    | (refine g_rg ?_; first
     | (refine g_move ?_; first | refine o_move rfl ?_)
     | (refine g_assign ?_; first | refine o_assign rfl ?_)
     | (refine g_load ?_; first | refine o_load1 rfl rfl get_go ?_ | refine o_loadS rfl rfl ?_ | refine o_loadN rfl rfl rfl rfl ?_)
     | (refine g_fieldAddr ?_; first | refine o_fieldAddr0 rfl rfl ?_ | refine o_fieldAddrZ rfl rfl ?_ | refine o_fieldAddr rfl rfl ?_)
     | (refine g_nilCheck ?_; first | refine o_nilCheck rfl rfl ?_ | refine o_nilCheckI rfl rfl ?_)
     | (refine g_extract ?_; first | refine o_extract rfl rfl rfl ?_)
     | (refine g_store ?_; first | refine o_storeA rfl rfl rfl rfl rfl ?_ | refine o_store1 rfl rfl ev_go ?_)
     | (refine g_eql ?_; first | refine o_eqlP rfl rfl ?_ | refine o_eqlP0 rfl rfl ?_ | refine o_eqlI rfl rfl ?_ | refine o_eqlI0 rfl rfl ?_ | refine o_eqi rfl rfl rfl eq_go ?_ | refine o_eqs rfl rfl rfl eqs_go ?_ | refine o_eqlS rfl rfl ?_ | refine o_eqlS0 rfl rfl ?_ | refine o_eqlM rfl rfl ?_ | refine o_eqlM0 rfl rfl ?_)
     | (refine g_neq ?_; first | refine o_neqP rfl rfl ?_ | refine o_neqP0 rfl rfl ?_ | refine o_neqI rfl rfl ?_ | refine o_neqI0 rfl rfl ?_ | refine o_neqM rfl rfl ?_ | refine o_neqM0 rfl rfl ?_ | refine o_nei rfl rfl rfl ne_go ?_ | refine o_nes rfl rfl rfl nes_go ?_ | refine o_neqS rfl rfl ?_ | refine o_neqS0 rfl rfl ?_)
     | (refine g_lss ?_; first | refine o_lss rfl rfl rfl lt_go ?_)
     | (refine g_add ?_; first | refine o_add rfl rfl rfl (by omega) (by omega) ?_)
     | (refine g_sub ?_; first | refine o_sub rfl rfl rfl (by omega) (by omega) ?_)
     | (refine g_gtr ?_; first | refine o_gtr rfl rfl rfl lt_go ?_)
     | (refine g_leq ?_; first | refine o_leq rfl rfl rfl le_go ?_)
     | (refine g_geq ?_; first | refine o_geq rfl rfl rfl le_go ?_)
     | (refine g_len ?_; first | refine o_lenS rfl rfl ?_ | refine o_lenM rfl rfl ?_ | refine o_lenM0 rfl rfl ?_)
     | (refine g_box ?_; first | refine o_boxA rfl rfl ?_ | refine o_box1 rfl ev_go ?_)
     | (refine g_alloc ?_; first | refine o_alloc rfl ?_)
     | (refine g_build ?_; first | refine o_buildR rfl fill_go ?_)
     | (refine g_buildSlice ?_; first | refine o_bSliceA rfl rfl rfl ?_ | refine o_bSlice1 rfl ev_go ?_ | refine o_buildSlice0 rfl ?_)
     | (refine g_mkI ?_; first | refine o_makeInterface rfl ev_go ?_)
     | (refine g_type ?_; first | refine o_typeHit rfl rfl ?_ | refine o_typeMiss rfl rfl rfl ?_ | refine o_typeNil rfl rfl ?_)
     | (refine g_pick ?_; first | refine o_pickT rfl rfl ?_ | refine o_pickF rfl rfl ?_)
     | (refine g_un ?_; first | refine o_not rfl rfl ?_)
     | (refine g_mkF ?_; first | refine o_makeFuncL rfl evl_go evl_go ?_)
     | (refine g_makeMap ?_; first | refine o_makeMap rfl ?_)
     | refine o_sk rfl ?_)
    | refine r_end ?_ | refine q_n ?_
    | (refine g_wp ?_; first | refine WP.seq ?_ | refine WP.region ?_ | refine WP.yes rfl ?_ | refine WP.no rfl ?_ | refine WP.skip ?_ | refine WP.ret ?_ | refine WP.exit ?_ | refine WP.block ?_)
    | refine q_dret ?_ | refine q_ret ?_ | refine q_exit ?_ | refine q_bn ?_ | refine q_bret ?_ | refine q_bexit rfl ?_ | refine q_bother rfl ?_ | refine q_dn ?_)
   repeat (first
    | (refine g_rg ?_; first
     | (refine g_move ?_; first | refine o_move rfl ?_)
     | (refine g_assign ?_; first | refine o_assign rfl ?_)
     | (refine g_load ?_; first | refine o_load1 rfl rfl get_go ?_ | refine o_loadS rfl rfl ?_ | refine o_loadN rfl rfl rfl rfl ?_)
     | (refine g_fieldAddr ?_; first | refine o_fieldAddr0 rfl rfl ?_ | refine o_fieldAddrZ rfl rfl ?_ | refine o_fieldAddr rfl rfl ?_)
     | (refine g_nilCheck ?_; first | refine o_nilCheck rfl rfl ?_ | refine o_nilCheckI rfl rfl ?_)
     | (refine g_extract ?_; first | refine o_extract rfl rfl rfl ?_)
     | (refine g_store ?_; first | refine o_storeA rfl rfl rfl rfl rfl ?_ | refine o_store1 rfl rfl ev_go ?_)
     | (refine g_eql ?_; first | refine o_eqlP rfl rfl ?_ | refine o_eqlP0 rfl rfl ?_ | refine o_eqlI rfl rfl ?_ | refine o_eqlI0 rfl rfl ?_ | refine o_eqi rfl rfl rfl eq_go ?_ | refine o_eqs rfl rfl rfl eqs_go ?_ | refine o_eqlS rfl rfl ?_ | refine o_eqlS0 rfl rfl ?_ | refine o_eqlM rfl rfl ?_ | refine o_eqlM0 rfl rfl ?_)
     | (refine g_neq ?_; first | refine o_neqP rfl rfl ?_ | refine o_neqP0 rfl rfl ?_ | refine o_neqI rfl rfl ?_ | refine o_neqI0 rfl rfl ?_ | refine o_neqM rfl rfl ?_ | refine o_neqM0 rfl rfl ?_ | refine o_nei rfl rfl rfl ne_go ?_ | refine o_nes rfl rfl rfl nes_go ?_ | refine o_neqS rfl rfl ?_ | refine o_neqS0 rfl rfl ?_)
     | (refine g_lss ?_; first | refine o_lss rfl rfl rfl lt_go ?_)
     | (refine g_add ?_; first | refine o_add rfl rfl rfl (by omega) (by omega) ?_)
     | (refine g_sub ?_; first | refine o_sub rfl rfl rfl (by omega) (by omega) ?_)
     | (refine g_gtr ?_; first | refine o_gtr rfl rfl rfl lt_go ?_)
     | (refine g_leq ?_; first | refine o_leq rfl rfl rfl le_go ?_)
     | (refine g_geq ?_; first | refine o_geq rfl rfl rfl le_go ?_)
     | (refine g_len ?_; first | refine o_lenS rfl rfl ?_ | refine o_lenM rfl rfl ?_ | refine o_lenM0 rfl rfl ?_)
     | (refine g_box ?_; first | refine o_boxA rfl rfl ?_ | refine o_box1 rfl ev_go ?_)
     | (refine g_alloc ?_; first | refine o_alloc rfl ?_)
     | (refine g_build ?_; first | refine o_buildR rfl fill_go ?_)
     | (refine g_buildSlice ?_; first | refine o_bSliceA rfl rfl rfl ?_ | refine o_bSlice1 rfl ev_go ?_ | refine o_buildSlice0 rfl ?_)
     | (refine g_mkI ?_; first | refine o_makeInterface rfl ev_go ?_)
     | (refine g_type ?_; first | refine o_typeHit rfl rfl ?_ | refine o_typeMiss rfl rfl rfl ?_ | refine o_typeNil rfl rfl ?_)
     | (refine g_pick ?_; first | refine o_pickT rfl rfl ?_ | refine o_pickF rfl rfl ?_)
     | (refine g_un ?_; first | refine o_not rfl rfl ?_)
     | (refine g_mkF ?_; first | refine o_makeFuncL rfl evl_go evl_go ?_)
     | (refine g_makeMap ?_; first | refine o_makeMap rfl ?_)
     | refine o_sk rfl ?_)
    | refine r_end ?_ | refine q_n ?_
    | (refine g_wp ?_; first | refine WP.seq ?_ | refine WP.region ?_ | refine WP.yes rfl ?_ | refine WP.no rfl ?_ | refine WP.skip ?_ | refine WP.ret ?_ | refine WP.exit ?_ | refine WP.block ?_)
    | refine q_dret ?_ | refine q_ret ?_ | refine q_exit ?_ | refine q_bn ?_ | refine q_bret ?_ | refine q_bexit rfl ?_ | refine q_bother rfl ?_ | refine q_dn ?_)
   exact hh.h) : g := s ⟨h⟩
theorem ent195 (s t : ByteArray) (w : World) : (callFunc 195 #[.string s,.string t]).run Tryz.prog w = .ok (.value (.int .i64 (Lib.compareBytes s.data.toList t.data.toList))) w := by
 have h : (callFunc 195 #[.string s,.string t]).run Tryz.prog w = (do mark (.extern 195); pure (Next.value (← Extern.BytealgCompare.compare #[.string s,.string t])) : Sem Next).run Tryz.prog w := by kernel_rfl
 rw [h]
 simp only [Sem.run_bind,run_mark,Result.andThen_ok,Lib.run_compareString,Sem.run_pure]
set_option maxRecDepth 20000 in
theorem f188 (s t : ByteArray) (Z : Fz) : Tr Tryz.prog 188 #[.string s,.string t] Z [] fun v Z' H' => v = .int .i64 (Lib.compareBytes s.data.toList t.data.toList) ∧ Z' = Z ∧ H' = [] := by
 refine Tr.intro Tryz.func188 rfl Tryz.ntmps188 Tryz.results188 rfl ?_
 refine go ?_
 refine o_ext rfl (ent195 s t) rfl ?_
 refine go ?_
 exact fin_nil (.tmp .nil) ⟨rfl,rfl,rfl⟩
set_option maxRecDepth 20000 in
theorem f173 (s t : ByteArray) (Z : Fz) : Tr Tryz.prog 173 #[.string s,.string t] Z [] fun v Z' H' => v = .int .i64 (Lib.compareBytes s.data.toList t.data.toList) ∧ Z' = Z ∧ H' = [] := by
 refine Tr.intro Tryz.func173 rfl Tryz.ntmps173 Tryz.results173 rfl ?_
 refine go ?_
 refine o_call [] [] rfl (f188 s t Z) rfl (.refl _) ?_
 rintro _ _ _ _ ⟨rfl,rfl,rfl⟩
 refine go ?_
 exact fin_nil (.tmp .nil) ⟨rfl,rfl,rfl⟩
end Go.Ux
namespace Go.Ux
open Go
variable {P : Program}
theorem Sat.freezeAll : ∀ {A H : Hp} {w : World} {Z : Fz},Sat w Z (A ++ H) → ∃ Z',Fz.le Z Z' ∧ (∀ p ∈ A,Z' p.1 = some p.2) ∧ Sat w Z' H
 | [],_,_,Z,h => ⟨Z,.refl Z,fun _ hp => by simp at hp,h⟩
 | (b,o) :: A,H,w,Z,h => by
  obtain ⟨h1,h2,h3⟩ := Sat.freeze (H := A ++ H) h
  obtain ⟨Z',q1,q2,q3⟩ := Sat.freezeAll h1
  refine ⟨Z',h2.trans q1,fun p hp => ?_,q3⟩
  rcases List.mem_cons.1 hp with rfl | hp
  ·exact q1 _ _ h3
  ·exact q2 p hp
def Pu (P : Program) (g : FuncId) (args : Array Value) (Z : Fz) (Q : Value → Prop) : Prop := Tr P g args Z [] fun v Z' H' => Q v ∧ Z' = Z ∧ H' = []
def Gr (P : Program) (g : FuncId) (args : Array Value) (Z : Fz) (Q : Value → Fz → Prop) : Prop := Tr P g args Z [] fun v Z' H' => Q v Z' ∧ H' = []
theorem Tr.pu {g : FuncId} {args : Array Value} {Z : Fz} {Q : Value → Prop} (h : Tr P g args Z [] fun v Z' _ => Q v ∧ Z' = Z) : Pu P g args Z Q :=
 fun w F hs => Calls.mono (h w F hs) fun _ _ ⟨v,he,Z',_H',a,b,c,d⟩ => ⟨v,he,Z',[],a,b.drop,c,d.1,d.2,rfl⟩
theorem Tr.gr {g : FuncId} {args : Array Value} {Z : Fz} {H : Hp} {Q : Value → Fz → Hp → Prop} {Q' : Value → Fz → Prop} (h : Tr P g args Z H Q)
  (k : ∀ v Z' H' Z'',Q v Z' H' → Fz.le Z Z' → Fz.le Z' Z'' → (∀ p ∈ H',Z'' p.1 = some p.2) → Q' v Z'') : Tr P g args Z H fun v Z' H' => Q' v Z' ∧ H' = [] :=
 fun w F hs => Calls.mono (h w F hs) fun _ _ ⟨v,he,Z',H',a,b,c,d⟩ =>
  let ⟨Z'',q1,q2,q3⟩ := b.freezeAll
  ⟨v,he,Z'',[],a.trans q1,q3,c,k v Z' H' Z'' d a q1 q2,rfl⟩
theorem Pu.intro {g : FuncId} {fn : Func} {c : Code} {args : Array Value} {n : Nat} {rs : List ResultVar} {Z : Fz} {Q : Value → Prop} (hf : P.funcs[g]? = some fn) (hb : fn.body = some c) (hn : fn.ntmps = n)
  (hrs : fn.results = rs.toArray) (ha : Nat.ble args.size n = true) (h : WP P n c (doneQ P rs fun v Z' _ => Q v ∧ Z' = Z) ⟨argL 0 args.toList,[]⟩ Z []) : Pu P g args Z Q :=
 (Tr.intro hf hb hn hrs ha h).pu
theorem Tr.keep {g : FuncId} {args : Array Value} {Z : Fz} {H : Hp} {Q Q' : Value → Fz → Hp → Prop} (h : Tr P g args Z H Q) (k : ∀ v Z' H',Q v Z' H' → ∃ A B,H'.Perm (A ++ B) ∧ Q' v Z' B) : Tr P g args Z H Q' :=
 fun w F hs => Calls.mono (h w F hs) fun _ _ ⟨v,he,Z',H',a,b,c,d⟩ =>
  let ⟨A,B,q1,q2⟩ := k v Z' H' d
  ⟨v,he,Z',B,a,by
   have := b.perm (q1.append_right F)
   rw [List.append_assoc] at this
   exact this.drop,c,q2⟩
def Fz.del (Z : Fz) (b : Nat) : Fz := fun k => if k = b then none else Z k
theorem Fz.del_ne {Z : Fz} {b k : Nat} (h : k ≠ b) : Z.del b k = Z k := by simp [Fz.del,h]
theorem Sat.thaw {w : World} {Z : Fz} {H : Hp} {b : Nat} {o : Obj} (h : Sat w Z H) (hb : Z b = some o) : Sat w (Z.del b) ((b,o) :: H) := by
 refine ⟨fun k x hk => ?_,fun p hp => ?_,?_,fun p hp => ?_⟩
 ·unfold Fz.del at hk
  split at hk
  ·cases hk
  ·exact h.fz k x hk
 ·rcases List.mem_cons.1 hp with rfl | hp
  ·exact h.fz _ _ hb
  ·exact h.own p hp
 ·simp only [List.map_cons,List.nodup_cons]
  refine ⟨fun hm => ?_,h.nd⟩
  obtain ⟨p,hp,e⟩ := List.mem_map.1 hm
  have := h.apart p hp
  rw [e,hb] at this
  cases this
 ·rcases List.mem_cons.1 hp with rfl | hp
  ·simp [Fz.del]
  ·unfold Fz.del
   split
   ·rfl
   ·exact h.apart p hp
theorem Fz.add_at {Z : Fz} {b : Nat} {o : Obj} : Z.add b o b = some o := by simp [Fz.add]
theorem Fz.le_add {Z : Fz} {b : Nat} {o : Obj} (h : Z b = none) : Fz.le Z (Z.add b o) := by
 intro k x hk
 unfold Fz.add
 split
 ·next e => subst e; rw [h] at hk; cases hk
 ·exact hk
theorem Fz.add_del {Z : Fz} {b : Nat} {o : Obj} (h : Z b = none) : (Z.add b o).del b = Z := by
 funext k
 unfold Fz.del Fz.add
 split
 ·next e => rw [e,h]
 ·rfl
theorem Tr.lend {g : FuncId} {args : Array Value} {Z : Fz} {H : Hp} {b : Nat} {o : Obj} {Q : Value → Fz → Hp → Prop} (h : Z b = none → Tr P g args (Z.add b o) H Q) :
  Tr P g args Z ((b,o) :: H) fun v Z' H' => Z b = none ∧ ∃ Z₁ H₁,Q v Z₁ H₁ ∧ Z₁ b = some o ∧ Z' = Z₁.del b ∧ H' = (b,o) :: H₁ := by
 intro w F hs
 have hz : Z b = none := hs.apart (b,o) (List.mem_cons_self ..)
 obtain ⟨h1,h2,h3⟩ := Sat.freeze (H := H ++ F) hs
 refine Calls.mono (h hz w F h1) ?_
 rintro e w' ⟨v,he,Z',H',a,s,c,q⟩
 have hb : Z' b = some o := a _ _ h3
 refine ⟨v,he,Z'.del b,(b,o) :: H',fun k x hk => ?_,s.thaw hb,c,hz,Z',H',q,hb,rfl,rfl⟩
 have hne : k ≠ b := by rintro rfl; rw [hz] at hk; cases hk
 rw [Fz.del_ne hne]
 exact a _ _ (h2 _ _ hk)
section
variable {n : Nat} {all : Array Oper} {dr : Bool} {Pin : Hp} {K : Fr → Fz → Hp → Prop} {rest : List Oper} {l : List Lay} {D : List Deferred} {Z : Fz} {H : Hp}
variable {dst : Option Tmp} {d t : Tmp} {ty : TypeId} {pos : String} {af : Array Edge} {gd : Option (Nat × Bool)} {x y z : Operand} {T : TypeId} {b off : Nat} {v u : Value}
theorem c_pu {g : FuncId} {xs : List Operand} {ats : Array TypeId} {args : List Value} {Q : Value → Prop} [Ent P g]
  (hg : okO n all ⟨l,D⟩ ⟨some d,.call ⟨.value (.func g),xs.toArray,ats⟩,ty,pos,af,gd⟩ = true) (ht : Pu P g args.toArray Z Q) (ha : xs.map (ev ⟨l,D⟩) = args)
  (h : ∀ v,Q v → Rg P n all dr Pin K rest ⟨.s d v :: l,D⟩ Z H) : Rg P n all dr Pin K (⟨some d,.call ⟨.value (.func g),xs.toArray,ats⟩,ty,pos,af,gd⟩ :: rest) ⟨l,D⟩ Z H :=
 o_call [] H hg ht ha (.refl _) fun v Z' H' _ hq => by
  obtain ⟨q1,rfl,rfl⟩ := hq
  exact h v q1
theorem c_gr {g : FuncId} {xs : List Operand} {ats : Array TypeId} {args : List Value} {Q : Value → Fz → Prop} [Ent P g]
  (hg : okO n all ⟨l,D⟩ ⟨some d,.call ⟨.value (.func g),xs.toArray,ats⟩,ty,pos,af,gd⟩ = true) (ht : Gr P g args.toArray Z Q) (ha : xs.map (ev ⟨l,D⟩) = args)
  (h : ∀ v Z',Fz.le Z Z' → Q v Z' → Rg P n all dr Pin K rest ⟨.s d v :: l,D⟩ Z' H) : Rg P n all dr Pin K (⟨some d,.call ⟨.value (.func g),xs.toArray,ats⟩,ty,pos,af,gd⟩ :: rest) ⟨l,D⟩ Z H :=
 o_call [] H hg ht ha (.refl _) fun v Z' H' hz hq => by
  obtain ⟨q1,rfl⟩ := hq
  exact h v Z' hz q1
theorem i_pu {g : FuncId} {name : String} {t : Nat} {xs : List Operand} {ats : Array TypeId} {args : List Value} {Q : Value → Prop} [Ent P g] [Mth P t name g]
  (hg : okO n all ⟨l,D⟩ ⟨dst,.call ⟨.invoke x name,xs.toArray,ats⟩,ty,pos,af,gd⟩ = true) (hx : ev ⟨l,D⟩ x = .iface t v) (ht : Pu P g args.toArray Z Q) (ha : v :: xs.map (ev ⟨l,D⟩) = args)
  (h : ∀ v,Q v → Rg P n all dr Pin K rest (put ⟨l,D⟩ dst v) Z H) : Rg P n all dr Pin K (⟨dst,.call ⟨.invoke x name,xs.toArray,ats⟩,ty,pos,af,gd⟩ :: rest) ⟨l,D⟩ Z H :=
 o_inv [] H hg hx ht ha (.refl _) fun v Z' H' _ hq => by
  obtain ⟨q1,rfl,rfl⟩ := hq
  exact h v q1
theorem iL_pu {g : FuncId} {name : String} {t e k : Nat} {ob : List Value} {U : Nat} {vs : List Value} {xs : List Operand} {ats : Array TypeId} {args : List Value} {Q : Value → Prop} [Ent P g] [MthL P t name g e] [Ty P e k true] (hm : Mem false Z Pin H b (cl ob U))
  (hg : okO n all ⟨l,D⟩ ⟨dst,.call ⟨.invoke x name,xs.toArray,ats⟩,ty,pos,af,gd⟩ = true) (hx : ev ⟨l,D⟩ x = .iface t (.pointer (some ⟨b,off,none⟩))) (hv : (ob.drop off).take k = vs) (hl : vs.length = k)
  (ht : Pu P g args.toArray Z Q) (ha : .agg vs.toArray :: xs.map (ev ⟨l,D⟩) = args)
  (h : ∀ v,Q v → Rg P n all dr Pin K rest (put ⟨l,D⟩ dst v) Z H) : Rg P n all dr Pin K (⟨dst,.call ⟨.invoke x name,xs.toArray,ats⟩,ty,pos,af,gd⟩ :: rest) ⟨l,D⟩ Z H :=
 o_invL [] H hg hx hv hl ht ha (.refl _) fun v Z' H' _ hq => by
  obtain ⟨q1,rfl,rfl⟩ := hq
  exact h v q1
end
theorem fin1 {f : List Lay} {D : List Deferred} {Z : Fz} {H : Hp} {R : Value → Fz → Hp → Prop} {t : Tmp} (h : R (look f t) Z H) : Fin P [.tmp t] R [] ⟨f,D⟩ Z H := fin_nil (.tmp .nil) h
theorem fin0 {f : List Lay} {D : List Deferred} {Z : Fz} {H : Hp} {R : Value → Fz → Hp → Prop} (h : R (.tuple #[]) Z H) : Fin P [] R [] ⟨f,D⟩ Z H := fin_nil .nil h
theorem fin2 {f : List Lay} {D : List Deferred} {Z : Fz} {H : Hp} {R : Value → Fz → Hp → Prop} {t u : Tmp} (h : R (.tuple #[look f t,look f u]) Z H) : Fin P [.tmp t,.tmp u] R [] ⟨f,D⟩ Z H := fin_nil (.tmp (.tmp .nil)) h
end Go.Ux
namespace Go.Ux
open Go
variable {P : Program} {n : Nat} {Q : Post} {f : Fr} {Z : Fz} {H : Hp}
theorem WP.loopN {c : Code} (I : Nat → Fr → Fz → Hp → Prop) (k₀ : Nat) (h₀ : I k₀ f Z H)
  (round : ∀ k f' Z' H',Fz.le Z Z' → I k f' Z' H' → WP P n c (thenQ (fun f'' Z'' H'' => ∃ k',k' < k ∧ I k' f'' Z'' H'') Q) f' Z' H') : WP P n (.loop c) Q f Z H := by
 intro w F a hs hr b κ cs
 have key : ∀ k a w₁ f₁ Z₁ H₁,Fz.le Z Z₁ → Stay w w₁ → Sat w₁ Z₁ (H₁ ++ F) → Rel a n f₁ → I k f₁ Z₁ H₁ →
   ∃ e a' w',lift n Z F w Q e a' w' ∧ Arrives P (lone (b.at a (.code c :: .inLoop c :: κ)) cs w₁) b κ cs e a' w' := by
  intro k
  induction k using Nat.strongRecOn with
  | _ k ih =>
   intro a w₁ f₁ Z₁ H₁ hz ht hs₁ hr₁ hI
   obtain ⟨e,a₂,w₂,⟨f₂,Z₂,H₂,r₂,z₂,s₂,t₂,q₂⟩,harr⟩ := round k f₁ Z₁ H₁ hz hI w₁ F a hs₁ hr₁ b (.inLoop c :: κ) cs
   cases e with
   | normal =>
    obtain ⟨k',hlt,hI₂⟩ := q₂
    obtain ⟨e₃,a₃,w₃,hq₃,harr₃⟩ := ih k' hlt a₂ w₂ f₂ Z₂ H₂ (hz.trans z₂) (ht.trans t₂) s₂ r₂ hI₂
    exact ⟨e₃,a₃,w₃,hq₃,.of_steps (Steps.trans harr (.one step_inLoop)) harr₃⟩
   | exit id => exact ⟨_,a₂,w₂,⟨f₂,Z₂,H₂,r₂,hz.trans z₂,s₂,ht.trans t₂,q₂⟩,.pass (x := .inLoop c) rfl (fun _ _ => .inl (by simp)) harr⟩
   | goto l => exact ⟨_,a₂,w₂,⟨f₂,Z₂,H₂,r₂,hz.trans z₂,s₂,ht.trans t₂,q₂⟩,.pass (x := .inLoop c) rfl (fun _ _ => .inl (by simp)) harr⟩
   | ret => exact ⟨_,a₂,w₂,⟨f₂,Z₂,H₂,r₂,hz.trans z₂,s₂,ht.trans t₂,q₂⟩,.pass (x := .inLoop c) rfl (fun _ _ => .inl (by simp)) harr⟩
   | panic ch => exact ⟨_,a₂,w₂,⟨f₂,Z₂,H₂,r₂,hz.trans z₂,s₂,ht.trans t₂,q₂⟩,.pass (x := .inLoop c) rfl (fun _ _ => .inl (by simp)) harr⟩
   | outgrown => exact ⟨_,a₂,w₂,⟨f₂,Z₂,H₂,r₂,hz.trans z₂,s₂,ht.trans t₂,q₂⟩,.pass (x := .inLoop c) rfl (fun _ _ => .inl (by simp)) harr⟩
 obtain ⟨e,a',w',hq,harr⟩ := key _ a w f Z H (.refl Z) (.refl w) hs hr h₀
 exact ⟨e,a',w',hq,.of_steps (.one step_loop) harr⟩
def onlyIn (ds : List Nat) : Nat → List Lay → Bool
 | 0,_ => true
 | _ + 1,[] => false
 | k + 1,.s d _ :: l => ds.elem d && onlyIn ds k l
 | k + 1,.al d _ :: l => ds.elem d && onlyIn ds k l
 | k + 1,.ex d _ _ :: l => ds.elem d && onlyIn ds k l
 | k + 1,.m ms _ :: l => ms.all (ds.elem ·) && onlyIn ds k l
theorem elem_ne {ds : List Nat} {d t : Nat} (hd : ds.elem d = true) (ht : ds.elem t = false) : Nat.beq d t = false := by
 cases hb : Nat.beq d t with
 | false => rfl
 | true =>
  have := Nat.eq_of_beq_eq_true hb
  subst this
  rw [hd] at ht; cases ht
theorem look_onlyIn {ds : List Nat} {t : Nat} (ht : ds.elem t = false) : ∀ (k : Nat) (l : List Lay),onlyIn ds k l = true → look l t = look (l.drop k) t
 | 0,_,_ => rfl
 | k + 1,[],h => by simp [onlyIn] at h
 | k + 1,.s d v :: l,h => by
  simp only [onlyIn,Bool.and_eq_true] at h
  simp only [look,elem_ne h.1 ht,cond_false,List.drop_succ_cons]
  exact look_onlyIn ht k l h.2
 | k + 1,.al d x :: l,h => by
  simp only [onlyIn,Bool.and_eq_true] at h
  simp only [look,elem_ne h.1 ht,cond_false,List.drop_succ_cons]
  exact look_onlyIn ht k l h.2
 | k + 1,.ex d x i :: l,h => by
  simp only [onlyIn,Bool.and_eq_true] at h
  simp only [look,elem_ne h.1 ht,cond_false,List.drop_succ_cons]
  exact look_onlyIn ht k l h.2
 | k + 1,.m ms g :: l,h => by
  simp only [onlyIn,Bool.and_eq_true,List.all_eq_true] at h
  have hm : ms.elem t = false := by
   cases e : ms.elem t with
   | false => rfl
   | true =>
    have := h.1 t (by simpa using e)
    rw [this] at ht; cases ht
  simp only [look,hm,cond_false,List.drop_succ_cons]
  exact look_onlyIn ht k l h.2
structure Back (ds : List Nat) (l : List Lay) (D : List Deferred) (f : Fr) : Prop where
 D : f.D = D
 k : ∃ k,onlyIn ds k f.l = true ∧ f.l.drop k = l
theorem back_go {ds : List Nat} {l l' : List Lay} {D : List Deferred} (k : Nat) (h1 : onlyIn ds k l' = true) (h2 : l'.drop k = l) : Back ds l D ⟨l',D⟩ := ⟨rfl,k,h1,h2⟩
theorem Back.same {ds : List Nat} {l : List Lay} {D : List Deferred} {f : Fr} (h : Back ds l D f) : Same f ⟨.m ds (look f.l) :: l,D⟩ := by
 obtain ⟨hD,k,h1,h2⟩ := h
 refine ⟨fun t => ?_,hD⟩
 simp only [look]
 cases ht : ds.elem t with
 | true => rfl
 | false => rw [cond_false,look_onlyIn ht k f.l h1,h2]
theorem same_m {ds : List Nat} {l : List Lay} {D : List Deferred} : Same ⟨l,D⟩ ⟨.m ds (look l) :: l,D⟩ :=
 ⟨fun t => by simp only [look]; cases ds.elem t <;> rfl,rfl⟩
theorem WP.loopM {c : Code} {l : List Lay} {D : List Deferred} (ds : List Nat) (I : Nat → (Nat → Value) → Fz → Hp → Prop) (k₀ : Nat) (h₀ : I k₀ (look l) Z H)
  (round : ∀ k g Z' H',Fz.le Z Z' → I k g Z' H' → WP P n c (thenQ (fun f'' Z'' H'' => Back ds (.m ds g :: l) D f'' ∧ ∃ k',k' < k ∧ I k' (look f''.l) Z'' H'') Q) ⟨.m ds g :: l,D⟩ Z' H') : WP P n (.loop c) Q ⟨l,D⟩ Z H := by
 refine WP.loopN (fun k f Z H => ∃ g,Same f ⟨.m ds g :: l,D⟩ ∧ I k g Z H) k₀ ⟨look l,same_m,h₀⟩ ?_
 rintro k f' Z' H' hz ⟨g,hs,hI⟩
 refine WP.same hs (WP.mono (round k g Z' H' hz hI) ?_)
 intro e f'' Z'' H'' hq
 cases e with
 | normal =>
  obtain ⟨hb,k',hk,hI'⟩ := hq
  refine ⟨k',hk,look f''.l,?_,hI'⟩
  refine hb.same.trans ⟨fun t => ?_,rfl⟩
  simp only [look]
  cases ds.elem t <;> rfl
 | _ => exact hq
end Go.Ux
namespace Go.Ux
open Go
variable {P : Program}
class Tk (b : Nat) (H : Hp) (o : outParam Obj) (R : outParam Hp) : Prop where
 h : H.Perm ((b,o) :: R)
instance (priority := 1100) Tk.head {b : Nat} {o : Obj} {H : Hp} : Tk b ((b,o) :: H) o H := ⟨.refl _⟩
instance Tk.tail {b : Nat} {o : Obj} {p : Nat × Obj} {H R : Hp} [k : Tk b H o R] : Tk b (p :: H) o (p :: R) := ⟨(k.h.cons p).trans (.swap ..)⟩
instance Tk.inl {b : Nat} {o : Obj} {A B R : Hp} [k : Tk b A o R] : Tk b (A ++ B) o (R ++ B) := ⟨k.h.append_right B⟩
instance Tk.inr {b : Nat} {o : Obj} {A B R : Hp} [k : Tk b B o R] : Tk b (A ++ B) o (A ++ R) := ⟨(k.h.append_left A).trans List.perm_middle⟩
class Fd (A H : Hp) (R : outParam Hp) : Prop where
 h : H.Perm (A ++ R)
instance (priority := 1100) Fd.self {A : Hp} : Fd A A [] := ⟨by rw [List.append_nil]⟩
instance (priority := 1200) Fd.selfl {A B : Hp} : Fd A (A ++ B) B := ⟨.refl _⟩
instance Fd.tail {A H R : Hp} {p : Nat × Obj} [k : Fd A H R] : Fd A (p :: H) (p :: R) := ⟨(k.h.cons p).trans List.perm_middle.symm⟩
instance Fd.inl {A B C R : Hp} [k : Fd A B R] : Fd A (B ++ C) (R ++ C) := ⟨by rw [← List.append_assoc]; exact k.h.append_right C⟩
instance Fd.inr {A B C R : Hp} [k : Fd A C R] : Fd A (B ++ C) (B ++ R) := ⟨(k.h.append_left B).trans (by rw [← List.append_assoc,← List.append_assoc]; exact List.perm_append_comm.append_right R)⟩
class Spl (A H : Hp) (R : outParam Hp) : Prop where
 h : H.Perm (A ++ R)
instance (priority := 1100) Spl.nil {H : Hp} : Spl [] H H := ⟨.refl _⟩
instance Spl.cons {b : Nat} {o : Obj} {A H R R' : Hp} [k : Tk b H o R] [l : Spl A R R'] : Spl ((b,o) :: A) H R' := ⟨k.h.trans (l.h.cons _)⟩
instance Spl.app {A B H R R' : Hp} [k : Spl A H R] [l : Spl B R R'] : Spl (A ++ B) H R' := ⟨k.h.trans (by rw [List.append_assoc]; exact l.h.append_left A)⟩
instance (priority := 900) Spl.fd {A H R : Hp} [k : Fd A H R] : Spl A H R := ⟨k.h⟩
theorem prm {A H R : Hp} [k : Spl A H R] (h : R = []) : H.Perm A := by
 have := k.h
 rw [h,List.append_nil] at this
 exact this
section
variable {n : Nat} {Q : Post} {f : Fr} {Z : Fz} {H : Hp}
theorem WP.only (A : Hp) {c : Code} {R : Hp} [k : Spl A H R] (h : WP P n c Q f Z A) : WP P n c Q f Z H :=
 WP.perm (k.h.trans List.perm_append_comm) (WP.drop h)
theorem WP.fz (b : Nat) {o : Obj} {R : Hp} {c : Code} [k : Tk b H o R] (h : ∀ Z',Fz.le Z Z' → Z' b = some o → WP P n c Q f Z' R) : WP P n c Q f Z H :=
 WP.perm k.h (WP.freeze h)
end
theorem WP.pin {n : Nat} {c : Code} {Q : Post} {l : List Lay} {D : List Deferred} {Z : Fz} {H : Hp} (t : Nat) {v : Value} (hv : look l t = v) (h : WP P n c Q ⟨.s t v :: l,D⟩ Z H) : WP P n c Q ⟨l,D⟩ Z H := by
 refine WP.same (g := ⟨.s t v :: l,D⟩) ⟨fun u => ?_,rfl⟩ h
 simp only [look]
 cases e : Nat.beq t u with
 | true => rw [← Nat.eq_of_beq_eq_true e,hv]; rfl
 | false => rfl
def Kp (R : Value → Fz → Hp → Prop) (v : Value) (Z : Fz) (H : Hp) : Prop := ∃ A B,H.Perm (A ++ B) ∧ R v Z A
theorem Tr.introk {g : FuncId} {fn : Func} {c : Code} {args : Array Value} {n : Nat} {rs : List ResultVar} {Z : Fz} {H : Hp} {R : Value → Fz → Hp → Prop} (hf : P.funcs[g]? = some fn) (hb : fn.body = some c) (hn : fn.ntmps = n)
  (hrs : fn.results = rs.toArray) (ha : Nat.ble args.size n = true) (h : WP P n c (doneQ P rs (Kp R)) ⟨argL 0 args.toList,[]⟩ Z H) : Tr P g args Z H R :=
 Tr.keep (Tr.intro hf hb hn hrs ha h) fun _ _ _ ⟨A,B,p,q⟩ => ⟨B,A,p.trans List.perm_append_comm,q⟩
def Fzn (R : Value → Fz → Prop) (v : Value) (Z : Fz) (H : Hp) : Prop := ∀ Z',Fz.le Z Z' → (∀ p ∈ H,Z' p.1 = some p.2) → R v Z'
theorem Gr.intro {g : FuncId} {fn : Func} {c : Code} {args : Array Value} {n : Nat} {rs : List ResultVar} {Z : Fz} {R : Value → Fz → Prop} (hf : P.funcs[g]? = some fn) (hb : fn.body = some c) (hn : fn.ntmps = n)
  (hrs : fn.results = rs.toArray) (ha : Nat.ble args.size n = true) (h : WP P n c (doneQ P rs (Fzn R)) ⟨argL 0 args.toList,[]⟩ Z []) : Gr P g args Z R :=
 Tr.gr (Tr.intro hf hb hn hrs ha h) fun _ _ _ Z'' q _ hz hp => q Z'' hz hp
theorem fzat {Z' : Fz} {H R : Hp} (b : Nat) {o : Obj} [k : Tk b H o R] (hp : ∀ p ∈ H,Z' p.1 = some p.2) : Z' b = some o := hp (b,o) (k.h.mem_iff.2 (List.mem_cons_self ..))
section
variable {f : List Lay} {D : List Deferred} {Z : Fz} {H : Hp} {R : Value → Fz → Hp → Prop} {t u : Tmp}
theorem fk0 {A B : Hp} [k : Spl A H B] (h : R (.tuple #[]) Z A) : Fin P [] (Kp R) [] ⟨f,D⟩ Z H := fin0 ⟨A,B,k.h,h⟩
theorem fk1 {A B : Hp} [k : Spl A H B] (h : R (look f t) Z A) : Fin P [.tmp t] (Kp R) [] ⟨f,D⟩ Z H := fin1 ⟨A,B,k.h,h⟩
theorem fk2 {A B : Hp} [k : Spl A H B] (h : R (.tuple #[look f t,look f u]) Z A) : Fin P [.tmp t,.tmp u] (Kp R) [] ⟨f,D⟩ Z H := fin2 ⟨A,B,k.h,h⟩
end
section
variable {n : Nat} {all : Array Oper} {dr : Bool} {Pin : Hp} {K : Fr → Fz → Hp → Prop} {rest : List Oper} {l : List Lay} {D : List Deferred} {Z : Fz} {H : Hp}
variable {dst : Option Tmp} {d t : Tmp} {ty : TypeId} {pos : String} {af : Array Edge} {gd : Option (Nat × Bool)} {x y z : Operand} {T : TypeId} {b off : Nat} {v u : Value}
theorem ct {g : FuncId} {xs : List Operand} {ats : Array TypeId} {args : List Value} {Q : Value → Fz → Hp → Prop} {Hc Hr : Hp} [Ent P g]
  (ht : Tr P g args.toArray Z Hc Q) (h : ∀ v Z' H',Fz.le Z Z' → Q v Z' H' → Rg P n all dr Pin K rest ⟨.s d v :: l,D⟩ Z' (H' ++ Hr))
  (hg : okO n all ⟨l,D⟩ ⟨some d,.call ⟨.value (.func g),xs.toArray,ats⟩,ty,pos,af,gd⟩ = true := by rfl) (ha : EvL ⟨l,D⟩ xs args := by exact evl_go) [hs : Spl Hc H Hr] :
  Rg P n all dr Pin K (⟨some d,.call ⟨.value (.func g),xs.toArray,ats⟩,ty,pos,af,gd⟩ :: rest) ⟨l,D⟩ Z H :=
 o_call Hc Hr hg ht ha.map hs.h h
theorem ct0 {g : FuncId} {xs : List Operand} {ats : Array TypeId} {args : List Value} {Q : Value → Fz → Hp → Prop} {Hc Hr : Hp} [en : Ent P g]
  (ht : Tr P g args.toArray Z Hc Q) (h : ∀ v Z' H',Fz.le Z Z' → Q v Z' H' → Rg P n all dr Pin K rest ⟨l,D⟩ Z' (H' ++ Hr))
  (hg : okO n all ⟨l,D⟩ ⟨none,.call ⟨.value (.func g),xs.toArray,ats⟩,ty,pos,af,gd⟩ = true := by rfl) (ha : EvL ⟨l,D⟩ xs args := by exact evl_go) [hs : Spl Hc H Hr] :
  Rg P n all dr Pin K (⟨none,.call ⟨.value (.func g),xs.toArray,ats⟩,ty,pos,af,gd⟩ :: rest) ⟨l,D⟩ Z H := by
 refine o_enter Hc Hr hg rfl (fun w F hs => ?_) ht hs.h h
 show Sem.run P (do let d ← resolve (ev ⟨l,D⟩) ⟨.value (.func g),xs.toArray,ats⟩ ty; invoke d.target d.args) w = _
 simp only [resolve,ev,Deferred.ofValue,invoke,Sem.run_bind,Sem.run_pure,Result.andThen_ok,List.map_toArray,ha.map,Array.empty_append,Array.append_empty,en.run]
theorem ci {g : FuncId} {name : String} {t : Nat} {xs : List Operand} {ats : Array TypeId} {args : List Value} {Q : Value → Fz → Hp → Prop} {Hc Hr : Hp} [Ent P g] [Mth P t name g]
  (ht : Tr P g (v :: args).toArray Z Hc Q) (h : ∀ v Z' H',Fz.le Z Z' → Q v Z' H' → Rg P n all dr Pin K rest ⟨.s d v :: l,D⟩ Z' (H' ++ Hr))
  (hg : okO n all ⟨l,D⟩ ⟨some d,.call ⟨.invoke x name,xs.toArray,ats⟩,ty,pos,af,gd⟩ = true := by rfl) (hx : ev ⟨l,D⟩ x = .iface t v := by rfl) (ha : EvL ⟨l,D⟩ xs args := by exact evl_go) [hs : Spl Hc H Hr] :
  Rg P n all dr Pin K (⟨some d,.call ⟨.invoke x name,xs.toArray,ats⟩,ty,pos,af,gd⟩ :: rest) ⟨l,D⟩ Z H :=
 o_inv Hc Hr hg hx ht (by rw [ha.map]) hs.h h
theorem cv {g : FuncId} {t : Tmp} {xs : List Operand} {ats : Array TypeId} {fs cs ys args : List Value} {Q : Value → Fz → Hp → Prop} {Hc Hr : Hp} [Ent P g]
  (ht : Tr P g args.toArray Z Hc Q) (h : ∀ v Z' H',Fz.le Z Z' → Q v Z' H' → Rg P n all dr Pin K rest ⟨.s d v :: l,D⟩ Z' (H' ++ Hr))
  (hg : okO n all ⟨l,D⟩ ⟨some d,.call ⟨.value (.tmp t),xs.toArray,ats⟩,ty,pos,af,gd⟩ = true := by rfl) (hf : ev ⟨l,D⟩ (.tmp t) = .func (.func g) fs.toArray cs.toArray := by rfl) (ha : EvL ⟨l,D⟩ xs ys := by exact evl_go) (hc : fs ++ ys ++ cs = args := by rfl) [hs : Spl Hc H Hr] :
  Rg P n all dr Pin K (⟨some d,.call ⟨.value (.tmp t),xs.toArray,ats⟩,ty,pos,af,gd⟩ :: rest) ⟨l,D⟩ Z H :=
 o_callV Hc Hr hg hf ht (by rw [ha.map,hc]) hs.h h
theorem cv0 {g : FuncId} {t : Tmp} {xs : List Operand} {ats : Array TypeId} {fs cs ys args : List Value} {Q : Value → Fz → Hp → Prop} {Hc Hr : Hp} [Ent P g]
  (ht : Tr P g args.toArray Z Hc Q) (h : ∀ v Z' H',Fz.le Z Z' → Q v Z' H' → Rg P n all dr Pin K rest ⟨l,D⟩ Z' (H' ++ Hr))
  (hg : okO n all ⟨l,D⟩ ⟨none,.call ⟨.value (.tmp t),xs.toArray,ats⟩,ty,pos,af,gd⟩ = true := by rfl) (hf : ev ⟨l,D⟩ (.tmp t) = .func (.func g) fs.toArray cs.toArray := by rfl) (ha : EvL ⟨l,D⟩ xs ys := by exact evl_go) (hc : fs ++ ys ++ cs = args := by rfl) [hs : Spl Hc H Hr] :
  Rg P n all dr Pin K (⟨none,.call ⟨.value (.tmp t),xs.toArray,ats⟩,ty,pos,af,gd⟩ :: rest) ⟨l,D⟩ Z H :=
 o_callV Hc Hr hg hf ht (by rw [ha.map,hc]) hs.h h
theorem cp {g : FuncId} {xs : List Operand} {ats : Array TypeId} {args : List Value} {Q : Value → Prop} [Ent P g]
  (ht : Pu P g args.toArray Z Q) (h : ∀ v,Q v → Rg P n all dr Pin K rest ⟨.s d v :: l,D⟩ Z H)
  (hg : okO n all ⟨l,D⟩ ⟨some d,.call ⟨.value (.func g),xs.toArray,ats⟩,ty,pos,af,gd⟩ = true := by rfl) (ha : EvL ⟨l,D⟩ xs args := by exact evl_go) :
  Rg P n all dr Pin K (⟨some d,.call ⟨.value (.func g),xs.toArray,ats⟩,ty,pos,af,gd⟩ :: rest) ⟨l,D⟩ Z H := c_pu hg ht ha.map h
theorem cip {g : FuncId} {name : String} {t : Nat} {xs : List Operand} {ats : Array TypeId} {args : List Value} {Q : Value → Prop} [Ent P g] [Mth P t name g]
  (ht : Pu P g (v :: args).toArray Z Q) (h : ∀ v,Q v → Rg P n all dr Pin K rest ⟨.s d v :: l,D⟩ Z H)
  (hg : okO n all ⟨l,D⟩ ⟨some d,.call ⟨.invoke x name,xs.toArray,ats⟩,ty,pos,af,gd⟩ = true := by rfl) (hx : ev ⟨l,D⟩ x = .iface t v := by rfl) (ha : EvL ⟨l,D⟩ xs args := by exact evl_go) :
  Rg P n all dr Pin K (⟨some d,.call ⟨.invoke x name,xs.toArray,ats⟩,ty,pos,af,gd⟩ :: rest) ⟨l,D⟩ Z H := i_pu hg hx ht (by rw [ha.map]) h
theorem cvp {g : FuncId} {t : Tmp} {xs : List Operand} {ats : Array TypeId} {fs cs ys args : List Value} {Q : Value → Prop} [Ent P g]
  (ht : Pu P g args.toArray Z Q) (h : ∀ v,Q v → Rg P n all dr Pin K rest ⟨.s d v :: l,D⟩ Z H)
  (hg : okO n all ⟨l,D⟩ ⟨some d,.call ⟨.value (.tmp t),xs.toArray,ats⟩,ty,pos,af,gd⟩ = true := by rfl) (hf : ev ⟨l,D⟩ (.tmp t) = .func (.func g) fs.toArray cs.toArray := by rfl) (ha : EvL ⟨l,D⟩ xs ys := by exact evl_go) (hc : fs ++ ys ++ cs = args := by rfl) :
  Rg P n all dr Pin K (⟨some d,.call ⟨.value (.tmp t),xs.toArray,ats⟩,ty,pos,af,gd⟩ :: rest) ⟨l,D⟩ Z H :=
 o_callV [] H hg hf ht (by rw [ha.map,hc]) (.refl _) fun v Z' H' _ hq => by
  obtain ⟨q1,rfl,rfl⟩ := hq
  exact h v q1
theorem cg {g : FuncId} {xs : List Operand} {ats : Array TypeId} {args : List Value} {Q : Value → Fz → Prop} [Ent P g]
  (ht : Gr P g args.toArray Z Q) (h : ∀ v Z',Fz.le Z Z' → Q v Z' → Rg P n all dr Pin K rest ⟨.s d v :: l,D⟩ Z' H)
  (hg : okO n all ⟨l,D⟩ ⟨some d,.call ⟨.value (.func g),xs.toArray,ats⟩,ty,pos,af,gd⟩ = true := by rfl) (ha : EvL ⟨l,D⟩ xs args := by exact evl_go) :
  Rg P n all dr Pin K (⟨some d,.call ⟨.value (.func g),xs.toArray,ats⟩,ty,pos,af,gd⟩ :: rest) ⟨l,D⟩ Z H := c_gr hg ht ha.map h
theorem cig {g : FuncId} {name : String} {t : Nat} {xs : List Operand} {ats : Array TypeId} {args : List Value} {Q : Value → Fz → Prop} [Ent P g] [Mth P t name g]
  (ht : Gr P g (v :: args).toArray Z Q) (h : ∀ v Z',Fz.le Z Z' → Q v Z' → Rg P n all dr Pin K rest ⟨.s d v :: l,D⟩ Z' H)
  (hg : okO n all ⟨l,D⟩ ⟨some d,.call ⟨.invoke x name,xs.toArray,ats⟩,ty,pos,af,gd⟩ = true := by rfl) (hx : ev ⟨l,D⟩ x = .iface t v := by rfl) (ha : EvL ⟨l,D⟩ xs args := by exact evl_go) :
  Rg P n all dr Pin K (⟨some d,.call ⟨.invoke x name,xs.toArray,ats⟩,ty,pos,af,gd⟩ :: rest) ⟨l,D⟩ Z H :=
 o_inv [] H hg hx ht (by rw [ha.map]) (.refl _) fun v Z' H' hz hq => by
  obtain ⟨q1,rfl⟩ := hq
  exact h v Z' hz q1
end
theorem Back.self {ds : List Nat} {l : List Lay} {D : List Deferred} : Back ds l D ⟨l,D⟩ := ⟨rfl,0,rfl,rfl⟩
theorem Back.s {ds : List Nat} {l l' : List Lay} {D D' : List Deferred} {d : Nat} {v : Value} (hd : ds.elem d = true) (h : Back ds l D ⟨l',D'⟩) : Back ds l D ⟨.s d v :: l',D'⟩ := by
 obtain ⟨h1,k,h2,h3⟩ := h
 exact ⟨h1,k + 1,by simp only [onlyIn,hd,h2,Bool.and_self],h3⟩
theorem Back.al {ds : List Nat} {l l' : List Lay} {D D' : List Deferred} {d : Nat} {x : Operand} (hd : ds.elem d = true) (h : Back ds l D ⟨l',D'⟩) : Back ds l D ⟨.al d x :: l',D'⟩ := by
 obtain ⟨h1,k,h2,h3⟩ := h
 exact ⟨h1,k + 1,by simp only [onlyIn,hd,h2,Bool.and_self],h3⟩
theorem Back.ex {ds : List Nat} {l l' : List Lay} {D D' : List Deferred} {d i : Nat} {x : Operand} (hd : ds.elem d = true) (h : Back ds l D ⟨l',D'⟩) : Back ds l D ⟨.ex d x i :: l',D'⟩ := by
 obtain ⟨h1,k,h2,h3⟩ := h
 exact ⟨h1,k + 1,by simp only [onlyIn,hd,h2,Bool.and_self],h3⟩
theorem Back.mm {ds : List Nat} {l l' : List Lay} {D D' : List Deferred} {ms : List Nat} {g : Nat → Value} (hd : ms.all (ds.elem ·) = true) (h : Back ds l D ⟨l',D'⟩) : Back ds l D ⟨.m ms g :: l',D'⟩ := by
 obtain ⟨h1,k,h2,h3⟩ := h
 exact ⟨h1,k + 1,by simp only [onlyIn,hd,h2,Bool.and_self],h3⟩
theorem Back.put {ds : List Nat} {l l' : List Lay} {D D' : List Deferred} {d : Nat} {v : Value} (h : Back ds l D ⟨.s d v :: l',D'⟩) : Back ds l D (put ⟨l',D'⟩ (some d) v) := h
theorem bk {p : Prop} (s : p := by repeat (first | exact Back.self | refine Back.s rfl ?_ | refine Back.al rfl ?_ | refine Back.ex rfl ?_ | refine Back.mm rfl ?_ | refine Back.put ?_)) : p := s
end Go.Ux
namespace Go.Ux
open Go Go.Proofs
variable {P : Program}
theorem run_sizeEl {e k : Nat} [El P e k] (w : World) : (sizeOf e).run P w = .ok k w := by
 obtain ⟨i,z,hi,hik,_⟩ := El.i (P := P) (e := e) (k := k)
 simp [sizeOf,typeInfo,hi,hik]
section
variable {n : Nat} {all : Array Oper} {dr : Bool} {Pin : Hp} {K : Fr → Fz → Hp → Prop} {rest : List Oper} {l : List Lay} {D : List Deferred} {Z : Fz} {H : Hp}
variable {dst : Option Tmp} {d : Tmp} {ty : TypeId} {pos : String} {af : Array Edge} {gd : Option (Nat × Bool)} {x y z : Operand} {T T' : TypeId} {b off : Nat} {v u : Value}
theorem o_copy {e k b' off' dl dc sl sc U U' m : Nat} {xs xs' cs : List Value} {R : Obj → Hp} [El P e k] [Sty P T e] [ha : Pk b H (cl xs U) R] [hm : Mem false Z Pin H b' (cl xs' U')]
  (hg : okO n all ⟨l,D⟩ ⟨dst,.call ⟨.builtin .copy,#[x,y],#[T,T']⟩,ty,pos,af,gd⟩ = true) (hx : ev ⟨l,D⟩ x = .slice (some ⟨b,off,none⟩) dl dc) (hy : ev ⟨l,D⟩ y = .slice (some ⟨b',off',none⟩) sl sc)
  (hmn : Nat.min sl dl = m) (hcs : (xs'.drop off').take (m * k) = cs) (hl : cs.length = m * k) (hb : off + cs.length ≤ xs.length) (h1 : cs.all Value.oneCell' = true)
  (h : Rg P n all dr Pin K rest (put ⟨l,D⟩ dst (.int .i64 m)) Z (R (cl (setL xs off cs) U))) : Rg P n all dr Pin K (⟨dst,.call ⟨.builtin .copy,#[x,y],#[T,T']⟩,ty,pos,af,gd⟩ :: rest) ⟨l,D⟩ Z H := by
 obtain ⟨F0,p1,p2'⟩ := ha.h
 have p2 := p2' (cl (setL xs off cs) U)
 refine o_e (fun v Z₁ H₁ => v = .int .i64 m ∧ Z₁ = Z ∧ H₁ = R (cl (setL xs off cs) U)) hg rfl (fun w F hs => ?_) ?_
 ·have hs1 : Sat w Z ((b,cl xs U) :: (Pin ++ (F0 ++ F))) := hs.perm (((p1.append_right F).append_left Pin).trans List.perm_middle)
  have hw := hs1.own (b,cl xs U) (List.mem_cons_self ..)
  have hw' : Seen w b' (cl xs' U') := hm.heap (w := w) (by
   have hs1 : Sat w Z (F ++ (Pin ++ H)) := hs.perm (by rw [← List.append_assoc]; exact List.perm_append_comm)
   exact hs1.drop)
  have hld : (loadCells ⟨b',off',none⟩ (m * k)).run P w = .ok cs.toArray w := by
   have := run_loadCells_list (P := P) w ⟨b',off',none⟩ cs fun j u hj => by
    rw [addr_add]
    refine cell_of hw' ?_
    rw [← hcs,List.getElem?_take] at hj
    split at hj
    ·rwa [List.getElem?_drop] at hj
    ·cases hj
   rwa [hl] at this
  obtain ⟨w',q1,q2,q3,q4⟩ := store_cells (P := P) cs xs off 0 w hw (by simpa using hb) h1
  have hrun : (execOp (ev ⟨l,D⟩) ⟨dst,.call ⟨.builtin .copy,#[x,y],#[T,T']⟩,ty,pos,af,gd⟩).run P w = .ok (.value (.int .i64 m)) w' := by
   show Sem.run P (do let d ← resolve (ev ⟨l,D⟩) ⟨.builtin .copy,#[x,y],#[T,T']⟩ ty; invoke d.target d.args) w = _
   simp only [resolve,invoke,builtin,Builtin.copy_,Sem.run_bind,Sem.run_pure,Result.andThen_ok,hx,hy,List.map_toArray,List.map_cons,List.map_nil]
   simp [run_underlying (Sty.u (P := P) (T := T) (e := e)),Builtin.lenOf,Builtin.firstCells,run_sizeEl (P := P) (e := e) (k := k),hmn,hld,q1,goInt]
  unfold RunO
  rw [hrun]
  have hs2 : Sat w' Z ((b,cl (setL xs off cs) U) :: (Pin ++ (F0 ++ F))) := Sat.set hs1 (by simpa using q2) q3
  refine ⟨Z,_,.refl Z,hs2.perm ?_,q4,rfl,rfl,rfl⟩
  exact (((p2.append_right F).append_left Pin).trans List.perm_middle).symm
 ·rintro v Z₁ H₁ _ ⟨rfl,rfl,rfl⟩
  exact h
theorem o_growZ {e k i m c : Nat} {kn : IntKind} {xs cs : List Value} {U : Nat} [El P e k] [Sty P T e] (hT : ∀ w,(underlying T').run P w = .ok (.int kn) w) [hm : Mem false Z Pin H b (cl xs U)]
  (hg : okO n all ⟨l,D⟩ ⟨some d,.call ⟨.builtin .append,#[x,y],#[T,T']⟩,ty,pos,af,gd⟩ = true)
  (hx : ev ⟨l,D⟩ x = .slice (some ⟨b,0,none⟩) i c) (hy : ev ⟨l,D⟩ y = .int .i64 (Int.ofNat m)) (hcs : xs.take (i * k) = cs) (hl : cs.length = i * k) (hgr : c < i + m) (hk : 0 < k) (hm0 : 0 < m) (hsz : i + m ≤ 137438953472)
  (h : ∀ b' c' rest',rest'.length = (c' - i) * k → i + m ≤ c' → Rg P n all dr Pin K rest ⟨.s d (.slice (some ⟨b',0,none⟩) (i + m) c') :: l,D⟩ Z ((b',cl (cs ++ rest') e) :: H)) :
  Rg P n all dr Pin K (⟨some d,.call ⟨.builtin .append,#[x,y],#[T,T']⟩,ty,pos,af,gd⟩ :: rest) ⟨l,D⟩ Z H := by
 obtain ⟨ti,z,hi,hik,hib,hiz,hzc⟩ := El.i (P := P) (e := e) (k := k)
 refine o_e (fun v Z₁ H₁ => Z₁ = Z ∧ ∃ b' c' rest',v = .slice (some ⟨b',0,none⟩) (i + m) c' ∧ rest'.length = (c' - i) * k ∧ i + m ≤ c' ∧ H₁ = (b',cl (cs ++ rest') e) :: H) hg rfl (fun w F hs => ?_) ?_
 ·have hw : Seen w b (cl xs U) := hm.heap (w := w) (by
   have hs1 : Sat w Z (F ++ (Pin ++ H)) := hs.perm (by rw [← List.append_assoc]; exact List.perm_append_comm)
   exact hs1.drop)
  have hld : (loadCells ⟨b,0,none⟩ (i * k)).run P w.drew = .ok cs.toArray w.drew := by
   have := run_loadCells_list (P := P) w.drew ⟨b,0,none⟩ cs fun j u hj => by
    rw [addr_add,Nat.zero_add]
    refine cell_of (w := w.drew) hw ?_
    rw [← hcs,List.getElem?_take] at hj
    split at hj
    ·exact hj
    ·cases hj
   rwa [hl] at this
  have hwr : IntKind.i64.wrap (Int.ofNat m) = m := by rw [IntKind.wrap_i64]; simp only [Int.ofNat_eq_natCast]; omega
  have hneg : ¬ ((m : Int) < 0) := by omega
  have hbig : ¬ (281474976710656 < (m : Int) * (ti.bytes : Int)) := by
   have : m * ti.bytes ≤ 137438953472 * 1024 := Nat.mul_le_mul (by omega) hib
   have h2 : ((m * ti.bytes : Nat) : Int) ≤ 137438953472 * 1024 := by omega
   rw [Int.natCast_mul] at h2
   omega
  have hroom : ¬ (i + m ≤ c) := by omega
  have h63 : ¬ (9223372036854775807 < ((i : Int) + (m : Int))) := by omega
  have hfit : ¬ (281474976710656 < Builtin.nextslicecap (i + m) c * ti.bytes) := by
   have := growslice_fits (bytes := ti.bytes) hgr (Nat.le_trans (Nat.mul_le_mul hsz hib) (by decide))
   omega
  have hmk : ¬ (m * k = 0) := by
   intro h0
   rcases Nat.mul_eq_zero.1 h0 with h0 | h0 <;> omega
  have hcap : i + m ≤ grownCap w (i + m) c e := by
   unfold grownCap
   simp only [Question.cut]
   exact Nat.le_trans (Nat.le_refl _) (by first | omega | exact Nat.le_max_left _ _ | exact Nat.le_add_right _ _)
  have hm' : ¬ (m = 0 ∨ k = 0) := by
   rintro (h0 | h0) <;> simp [h0] at hmk
  have hrun : (execOp (ev ⟨l,D⟩) ⟨some d,.call ⟨.builtin .append,#[x,y],#[T,T']⟩,ty,pos,af,gd⟩).run P w = .ok (.value (.slice (some ⟨w.heap.size,0,none⟩) (i + m) (grownCap w (i + m) c e)))
    (w.drew.alloc (.cells ((cs.toArray ++ Builtin.zeroCells z.cells m) ++ Builtin.zeroCells z.cells (grownCap w (i + m) c e - (i + m))) e)) := by
   show Sem.run P (do let d ← resolve (ev ⟨l,D⟩) ⟨.builtin .append,#[x,y],#[T,T']⟩ ty; invoke d.target d.args) w = _
   simp only [resolve,invoke,builtin,Sem.run_bind,Sem.run_pure,Result.andThen_ok,hx,hy,List.map_toArray,List.map_cons,List.map_nil]
   simp only [Int.ofNat_eq_natCast] at hwr
   simp [Builtin.append_,run_underlying (Sty.u (P := P) (T := T) (e := e)),hT,sizeOf,typeInfo,zeroValue,hi,hiz,asInt,asIntOf,hwr,hneg,hbig,hroom,h63,hfit,hik,hmk,Question.forced,Builtin.firstCells,hld,newRow,grownCap]
  unfold RunO
  rw [hrun]
  have hobj : Obj.cells ((cs.toArray ++ Builtin.zeroCells z.cells m) ++ Builtin.zeroCells z.cells (grownCap w (i + m) c e - (i + m))) e (0,0)
    = cl (cs ++ ((Builtin.zeroCells z.cells m).toList ++ (Builtin.zeroCells z.cells (grownCap w (i + m) c e - (i + m))).toList)) e := by
   congr 1
   apply Array.toList_inj.1
   simp
  refine ⟨Z,(w.heap.size,cl (cs ++ ((Builtin.zeroCells z.cells m).toList ++ (Builtin.zeroCells z.cells (grownCap w (i + m) c e - (i + m))).toList)) e) :: H,.refl Z,?_,⟨rfl,rfl,rfl,by show w.heap.size ≤ (w.heap.push _).size; simp⟩,rfl,
   w.heap.size,grownCap w (i + m) c e,_,rfl,?_,hcap,rfl⟩
  ·rw [← hobj]
   have h0 : Sat w.drew Z (Pin ++ (H ++ F)) := ⟨hs.fz,hs.own,hs.nd,hs.apart⟩
   exact (Sat.push h0 _).perm List.perm_middle.symm
  ·simp only [List.length_append,Array.length_toList,Builtin.zeroCells,Array.size_map,Array.size_range,hzc,← Nat.add_mul]
   congr 1; omega
 ·rintro v Z₁ H₁ _ ⟨rfl,b',c',rest',rfl,h2,h3,rfl⟩
  exact h b' c' rest' h2 h3
end
section
variable {n : Nat} {all : Array Oper} {dr : Bool} {Pin : Hp} {K : Fr → Fz → Hp → Prop} {rest : List Oper} {l : List Lay} {D : List Deferred} {Z : Fz} {H : Hp}
variable {d : Tmp} {ty : TypeId} {pos : String} {af : Array Edge} {gd : Option (Nat × Bool)} {x y z : Operand}
theorem o_toU {a : Int} (hg : okO n all ⟨l,D⟩ ⟨some d,.convert 3 388 x,ty,pos,af,gd⟩ = true) (hx : ev ⟨l,D⟩ x = .int .i64 a) (h0 : 0 ≤ a) (h1 : a < 9223372036854775808)
  (h : Rg Tryz.prog n all dr Pin K rest ⟨.s d (.int .u64 a) :: l,D⟩ Z H) : Rg Tryz.prog n all dr Pin K (⟨some d,.convert 3 388 x,ty,pos,af,gd⟩ :: rest) ⟨l,D⟩ Z H := by
 refine o_p (v := .int .u64 a) hg rfl (fun w _ => ?_) h
 show Sem.run Tryz.prog (do pure (Next.value (← convert 3 388 (ev ⟨l,D⟩ x)))) w = _
 rw [hx]
 have e : (convert 3 388 (.int .i64 a)).run Tryz.prog w = .ok (.int .u64 (IntKind.u64.wrap a)) w := by kernel_rfl
 have e2 : IntKind.u64.wrap a = a := by
  rw [IntKind.wrap_u64]; omega
 simp only [Sem.run_bind,e,Result.andThen_ok,Sem.run_pure,e2]
theorem o_toI {a : Int} (hg : okO n all ⟨l,D⟩ ⟨some d,.convert 388 3 x,ty,pos,af,gd⟩ = true) (hx : ev ⟨l,D⟩ x = .int .u64 a) (h0 : 0 ≤ a) (h1 : a < 9223372036854775808)
  (h : Rg Tryz.prog n all dr Pin K rest ⟨.s d (.int .i64 a) :: l,D⟩ Z H) : Rg Tryz.prog n all dr Pin K (⟨some d,.convert 388 3 x,ty,pos,af,gd⟩ :: rest) ⟨l,D⟩ Z H := by
 refine o_p (v := .int .i64 a) hg rfl (fun w _ => ?_) h
 show Sem.run Tryz.prog (do pure (Next.value (← convert 388 3 (ev ⟨l,D⟩ x)))) w = _
 rw [hx]
 have e : (convert 388 3 (.int .u64 a)).run Tryz.prog w = .ok (.int .i64 (IntKind.i64.wrap a)) w := by kernel_rfl
 have e2 : IntKind.i64.wrap a = a := by
  rw [IntKind.wrap_i64]; omega
 simp only [Sem.run_bind,e,Result.andThen_ok,Sem.run_pure,e2]
theorem o_half {a : Nat} {k' : IntKind} (hg : okO n all ⟨l,D⟩ ⟨some d,.binOp .shr 388 x (.const (.int k' 1)) 388,ty,pos,af,gd⟩ = true) (hx : ev ⟨l,D⟩ x = .int .u64 ((a : Nat) : Int)) (_h1 : a < 9223372036854775808)
  (h : Rg Tryz.prog n all dr Pin K rest ⟨.s d (.int .u64 ((a / 2 : Nat) : Int)) :: l,D⟩ Z H) : Rg Tryz.prog n all dr Pin K (⟨some d,.binOp .shr 388 x (.const (.int k' 1)) 388,ty,pos,af,gd⟩ :: rest) ⟨l,D⟩ Z H := by
 refine o_bin hg (fun w _ => ?_) h
 rw [hx]
 have e : (a : Int).fdiv (2 ^ 1) = (a : Int) / 2 := by
  rw [Int.fdiv_eq_ediv_of_nonneg _ (by decide)]; rfl
 simp [eqGuard,binOp,ev,Op.shift,IntKind.bits]
 exact e
end
end Go.Ux
namespace Go.Ux
open Go
variable {P : Program} {n : Nat} {all : Array Oper}
def barrier (all : Array Oper) (c₁ c₂ : List Nat) : Bool := c₂.all fun i => c₁.all fun j => (dpF all 3 i).elem j
theorem Left.assoc {listed : Array Bool} {a b c : List Nat} (h : Left all listed ((a ++ b) ++ c)) : Left all listed (a ++ (b ++ c)) := by rwa [List.append_assoc] at h
theorem Rg.any2 {T : Exit → Act → World → Prop} {F : Hp} {Z₀ : Fz} {w₀ : World} {Pin : Hp} {K : Fr → Fz → Hp → Prop} {c₂ : List Nat}
  (hT : ∀ f Z H a w,Rel a n f → Fz.le Z₀ Z → Sat w Z (H ++ F) → Stay w₀ w → K f Z H → T .normal a w) :
  ∀ (m : Nat) (c₁ : List Nat) (listed : Array Bool) (f : Fr) (Z : Fz) (H : Hp) (w : World) (a : Act),(c₁ ++ c₂).length ≤ m → barrier all c₁ c₂ = true → Left all listed (c₁ ++ c₂) → Fz.le Z₀ Z → Stay w₀ w →
   Rg P n all true Pin (fun f Z H' => ∃ Pin₂ H₂,(H' ++ Pin).Perm (Pin₂ ++ H₂) ∧ Rg P n all true Pin₂ (fun f Z H => K f Z (H ++ Pin₂)) (c₂.map (opAt all)) f Z H₂) (c₁.map (opAt all)) f Z H →
   Sat w Z (Pin ++ (H ++ F)) → Rel a n f → wpAny P .any all T m listed a w := by
 have fin : ∀ (m : Nat) (listed : Array Bool) (f : Fr) (Z : Fz) (H : Hp) (w : World) (a : Act),c₂.length ≤ m → Left all listed c₂ → Fz.le Z₀ Z → Stay w₀ w →
   (∃ Pin₂ H₂,(H ++ Pin).Perm (Pin₂ ++ H₂) ∧ Rg P n all true Pin₂ (fun f Z H => K f Z (H ++ Pin₂)) (c₂.map (opAt all)) f Z H₂) → Sat w Z (Pin ++ (H ++ F)) → Rel a n f → wpAny P .any all T m listed a w := by
  rintro m listed f Z H w a hm hl hz ht ⟨Pin₂,H₂,hp,h⟩ hs hrel
  have hs' : Sat w Z (Pin₂ ++ (H₂ ++ F)) := by
   refine hs.perm ?_
   rw [← List.append_assoc,← List.append_assoc]
   exact (List.perm_append_comm.trans hp).append_right F
  exact Rg.any (Z₀ := Z₀) (w₀ := w₀) (F := F) (fun f' Z' H' a' w' r z s t q => hT f' Z' (H' ++ Pin₂) a' w' r z (s.perm (by rw [← List.append_assoc]; exact List.perm_append_comm.append_right F)) t q) m c₂ listed f Z H₂ w a hm hl hz ht h hs' hrel
 intro m
 induction m with
 | zero =>
  intro c₁ listed f Z H w a hm hbar hl hz ht h hs hrel
  have hc : c₁ = [] := List.length_eq_zero_iff.1 (by rw [List.length_append] at hm; omega)
  subst hc
  cases h with
  | nil s p h => exact fin 0 listed _ Z _ w a (by simpa using hm) hl hz ht h (hs.perm (List.Perm.append_left Pin (p.append_right F))) (hrel.same s)
 | succ m ih =>
  intro c₁ listed f Z H w a hm hbar hl hz ht h hs hrel
  cases c₁ with
  | nil =>
   cases h with
   | nil s p h => exact fin (m + 1) listed _ Z _ w a (by simpa using hm) hl hz ht h (hs.perm (List.Perm.append_left Pin (p.append_right F))) (hrel.same s)
  | cons x c₁ =>
   generalize hc : x :: c₁ = d at *
   have hx : x ∈ d := by rw [← hc]; exact List.mem_cons_self ..
   refine ⟨fun hr => ?_,fun i hi => ?_⟩
   ·exfalso
    obtain ⟨y,e,he⟩ : ∃ y e,d ++ c₂ = y :: e := ⟨x,c₁ ++ c₂,by rw [← hc]; rfl⟩
    have hy := (hl.mem y).1 (by rw [he]; exact List.mem_cons_self ..)
    obtain ⟨o,ho⟩ : ∃ o,all[y]? = some o := ⟨all[y],by simp [hy.1]⟩
    have : y ∈ Region.ready .any all listed := mem_ready.2 ⟨by rw [getD_bool (by rw [hl.size]; exact hy.1)]; exact hy.2,o,ho,fun e' he' hb => by
     rcases hl.topo [] y e he e'.on ((mem_direct ho).2 ⟨e',he',hb,rfl⟩) with h1 | h1
     ·exact h1
     ·cases h1⟩
    rw [hr] at this
    cases this
   ·obtain ⟨h1,o,ho,hdep⟩ := mem_ready.1 hi
    have hlt : i < all.size := (Array.getElem?_eq_some_iff.1 ho).1
    have hic : i ∈ d ++ c₂ := (hl.mem i).2 ⟨hlt,by rw [← getD_bool (by rw [hl.size]; exact hlt)]; exact h1⟩
    have hdir : ∀ k ∈ direct all i,listed.getD k false = true := fun k hk => by
     obtain ⟨e,he,hb,rfl⟩ := (mem_direct ho).1 hk
     exact hdep e he hb
    have hid : i ∈ d := by
     rcases List.mem_append.1 hic with h' | h'
     ·exact h'
     ·exfalso
      have hb : (dpF all 3 i).elem x = true := by
       simp only [barrier,List.all_eq_true] at hbar
       exact hbar i h' x hx
      have := dpF_listed hl.closed 3 i hdir x (by simpa using hb)
      have h2 := ((hl.mem x).1 (List.mem_append_left _ hx)).2
      rw [this] at h2; cases h2
    obtain ⟨a₁,a₂,rfl⟩ := List.append_of_mem hid
    have hop : opAt all i = o := by
     unfold opAt
     simp [Array.getD_eq_getD_getElem?,ho]
    have hsw : ∀ j ∈ a₁.map (opAt all),swapB all j o = true := by
     intro j hj
     obtain ⟨k,hk,rfl⟩ := List.mem_map.1 hj
     have hl' := hl.assoc
     have hp := (List.pairwise_append.1 hl'.pairs).2.2 k hk i (List.mem_cons_self ..)
     simp only [pairB,Bool.or_eq_true] at hp
     rcases hp with hp | hp
     ·have hkl := dpF_listed hl.closed 3 i hdir k (by simpa using hp)
      have := ((hl.mem k).1 (by simp [hk])).2
      rw [hkl] at this; cases this
     ·rw [hop] at hp; exact hp
    rw [List.map_append,List.map_cons,hop] at h
    have hreal : Real Z (Pin ++ H) := ⟨w,by
     have : (Pin ++ (H ++ F)).Perm (F ++ (Pin ++ H)) := by rw [← List.append_assoc]; exact List.perm_append_comm
     exact (hs.perm this).drop⟩
    refine wpOp_mono ?_ (Rg.step ho (Rg.front _ _ _ _ hsw hreal h) hs hrel)
    rintro a' w' ⟨f',Z',H',r',z',s',t',h'⟩
    rw [← List.map_append] at h'
    have hl2 : Left all (listed.setIfInBounds i true) ((a₁ ++ a₂) ++ c₂) := by
     have := hl.assoc.take (c₁ := a₁) (c₂ := a₂ ++ c₂) hdir
     rwa [← List.append_assoc] at this
    have hbar2 : barrier all (a₁ ++ a₂) c₂ = true := by
     simp only [barrier,List.all_eq_true] at hbar ⊢
     exact fun i' hi' j hj => hbar i' hi' j (by
      rcases List.mem_append.1 hj with h | h
      ·exact List.mem_append_left _ h
      ·exact List.mem_append_right _ (List.mem_cons_of_mem _ h))
    exact ih (a₁ ++ a₂) _ f' Z' H' w' a' (by simp at hm ⊢; omega) hbar2 hl2 (hz.trans z') (ht.trans t') h' s' r'
variable {Q : Post} {f : Fr} {Z : Fz} {H : Hp} {id : Nat} {l : List Oper}
theorem WP.draw2 (Pin H₁ : Hp) (c₁ c₂ : List Nat) (hm : P.follows .mixedOrders = true) (ho : (orderB l.toArray (c₁ ++ c₂) && barrier l.toArray c₁ c₂) = true) (hp : H.Perm (Pin ++ H₁))
  (h : Rg P n l.toArray true Pin (fun f Z H' => ∃ Pin₂ H₂,(H' ++ Pin).Perm (Pin₂ ++ H₂) ∧ Rg P n l.toArray true Pin₂ (fun f Z H => Q .normal f Z (H ++ Pin₂)) (c₂.map (opAt l.toArray)) f Z H₂) (c₁.map (opAt l.toArray)) f Z H₁) :
  WP P n (.region id l.toArray true) Q f Z H := by
 simp only [Bool.and_eq_true] at ho
 obtain ⟨ho,hbar⟩ := ho
 intro w F a hs hr
 refine wp_region_any hm ?_
 have hs' : Sat { w with drawn := w.drawn + 1 } Z (Pin ++ (H₁ ++ F)) := by
  have := hs.perm (hp.append_right F)
  rw [List.append_assoc] at this
  exact ⟨this.fz,this.own,this.nd,this.apart⟩
 refine Rg.any2 (K := fun f Z H => Q .normal f Z H) (Z₀ := Z) (w₀ := w) (F := F) (fun f' Z' H' a' w' r z s t q => ⟨f',Z',H',r,z,s,t,q⟩) l.toArray.size c₁ _ f Z H₁ _ a ?_ hbar (start_left ho) (.refl Z) ⟨rfl,rfl,rfl,Nat.le_refl _⟩ h hs' hr
 simp only [orderB,Bool.and_eq_true,beq_iff_eq] at ho
 have := ho.1.1.1.1
 omega
theorem WP.drawS (Pin H₁ : Hp) (m : Nat) (hm : P.follows .mixedOrders = true)
  (ho : (orderB l.toArray ((List.range l.length).take m ++ (List.range l.length).drop m) && barrier l.toArray ((List.range l.length).take m) ((List.range l.length).drop m)) = true) (hp : H.Perm (Pin ++ H₁))
  (h : Rg P n l.toArray true Pin (fun f Z H' => ∃ Pin₂ H₂,(H' ++ Pin).Perm (Pin₂ ++ H₂) ∧ Rg P n l.toArray true Pin₂ (fun f Z H => Q .normal f Z (H ++ Pin₂)) (l.drop m) f Z H₂) (l.take m) f Z H₁) :
  WP P n (.region id l.toArray true) Q f Z H := by
 refine WP.draw2 Pin H₁ _ _ hm ho hp ?_
 rw [List.map_take,List.map_drop,map_opAt]
 exact h
theorem r_two {dr : Bool} {Pin : Hp} {K : Fr → Fz → Hp → Prop} {l₂ : List Oper} (Pin₂ : Hp) {H₂ : Hp} [hs : Spl Pin₂ (H ++ Pin) H₂] (h : Rg P n all true Pin₂ (fun f Z H => K f Z (H ++ Pin₂)) l₂ f Z H₂) :
  Rg P n all dr Pin (fun f Z H' => ∃ Pin₂ H₂,(H' ++ Pin).Perm (Pin₂ ++ H₂) ∧ Rg P n all true Pin₂ (fun f Z H => K f Z (H ++ Pin₂)) l₂ f Z H₂) [] f Z H := .nil (Same.refl f) (.refl H) ⟨Pin₂,H₂,hs.h,h⟩
theorem WP.loopK {c : Code} {l : List Lay} {D : List Deferred} (ds : List Nat) (I : Nat → (Nat → Value) → Fz → Hp → Prop) (k₀ : Nat) (h₀ : I k₀ (look l) Z H)
  (round : ∀ k g Z' H',Fz.le Z Z' → I k g Z' H' → WP P n c (thenQ (fun f'' Z'' H'' => Back ds (.m ds g :: l) D f'' ∧ ∃ k' A B,k' < k ∧ H''.Perm (A ++ B) ∧ I k' (look f''.l) Z'' A) Q) ⟨.m ds g :: l,D⟩ Z' H') : WP P n (.loop c) Q ⟨l,D⟩ Z H := by
 refine WP.loopM ds (fun k g Z H => ∃ A B,H.Perm (A ++ B) ∧ I k g Z A) k₀ ⟨H,[],by simp,h₀⟩ ?_
 rintro k g Z' H' hz ⟨A,B,hp,hI⟩
 refine WP.perm (hp.trans List.perm_append_comm) (WP.drop (WP.mono (round k g Z' A hz hI) ?_))
 intro e f'' Z'' H'' hq
 cases e with
 | normal => obtain ⟨h1,k',A',B',h2,h3,h4⟩ := hq; exact ⟨h1,k',h2,A',B',h3,h4⟩
 | _ => exact hq
theorem spp {A H B : Hp} [s : Spl A H B] : H.Perm (A ++ B) := s.h
end Go.Ux
namespace Go.Ux
open Go
inductive Tv where
 | null
 | sc (u : Value)
 | li (u : Value) (l : List Tv)
 | mp (l : List (ByteArray × Tv))
structure Stm (es : List En) (c : Nat) : Prop where
 lt : ∀ e ∈ es,e.t < c
 nd : (es.map En.t).Nodup
 kd : (es.map En.k).Nodup
abbrev inZ (Z : Fz) : Nat → Obj → Prop := fun b o => Z b = some o
abbrev inT (Z : Fz) (T : Nat) : Nat → Obj → Prop := fun b o => Z b = some o ∧ ∃ xs,o = cl xs T
def Fz.lw (Z Z' : Fz) : Prop := ∀ b o,Z b = some o → (∀ xs,o ≠ cl xs 358) → Z' b = some o
theorem Fz.le.lw {Z Z' : Fz} (h : Fz.le Z Z') : Fz.lw Z Z' := fun b o k _ => h b o k
theorem Fz.lw.trans {A B C : Fz} (h : Fz.lw A B) (k : Fz.lw B C) : Fz.lw A C := fun b o x y => k b o (h b o x y) y
theorem Fz.lw_del {Z : Fz} {b : Nat} {xs : List Value} (h : Z b = some (cl xs 358)) : Fz.lw Z (Z.del b) := fun k o hk hn => by
 have hne : k ≠ b := by rintro rfl; rw [h] at hk; cases hk; exact hn xs rfl
 rw [Fz.del_ne hne]; exact hk
theorem Fz.lw.cl {Z Z' : Fz} (h : Fz.lw Z Z') {b T : Nat} {xs : List Value} (hT : Nat.beq T 358 = false) (k : Z b = some (cl xs T)) : Z' b = some (cl xs T) :=
 h _ _ k fun ys e => by
  simp only [Obj.cells.injEq] at e
  rw [e.2.1] at hT; simp at hT
theorem Fz.lw.mp {Z Z' : Fz} (h : Fz.lw Z Z') {b c : Nat} {es : List En} (k : Z b = some (Ux.mp es c)) : Z' b = some (Ux.mp es c) :=
 h _ _ k fun ys e => by cases e
def ScV (u : Value) : Prop := (∃ b,u = .iface 4 (.bool b)) ∨ (∃ n,u = .iface 2 (.int .i64 n)) ∨ (∃ f,u = .iface 33 (.float .f64 f) ∧ FloatKind.f64.format.order f f = some .eq) ∨ ∃ s,u = .iface 9 (.string s)
mutual
def AV (Z : Fz) : Tv → Value → Prop
 | .null,v => v = .nilIface
 | .sc u,v => v = u ∧ ScV u
 | .li u ts,v => v = u ∧ ∃ sv n vs,v = .iface 197 sv ∧ n ≤ 1099511627776 ∧ Rs (inT Z 20) 1 sv n vs ∧ AVs Z ts vs
 | .mp l,v => ∃ m es c es',v = .iface 198 (.map (some m)) ∧ Z m = some (mp es c) ∧ Stm es c ∧ es.Perm es' ∧ AVm Z l es'
def AVs (Z : Fz) : List Tv → List Value → Prop
 | [],vs => vs = []
 | t :: ts,vs => ∃ v vs',vs = v :: vs' ∧ AV Z t v ∧ AVs Z ts vs'
def AVm (Z : Fz) : List (ByteArray × Tv) → List En → Prop
 | [],es => es = []
 | (k,t) :: l,es => ∃ e es',es = e :: es' ∧ e.k = k ∧ AV Z t e.v ∧ AVm Z l es'
end
theorem Rs.mono {R R' : Nat → Obj → Prop} {k : Nat} {v : Value} {n : Nat} {ds : List Value} (h : Rs R k v n ds) (hz : ∀ b o,R b o → R' b o) : Rs R' k v n ds := by
 cases h with
 | nil c => exact .nil c
 | emp a => exact .emp a
 | row b off n c U xs ds h hd hl hn => exact .row b off n c U xs ds (hz _ _ h) hd hl hn
theorem inT.lw {Z Z' : Fz} (hz : Fz.lw Z Z') {T b : Nat} {o : Obj} (hT : Nat.beq T 358 = false) (h : inT Z T b o) : inT Z' T b o := by
 obtain ⟨h1,xs,rfl⟩ := h
 exact ⟨Fz.lw.cl hz hT h1,xs,rfl⟩
mutual
theorem AV.lw {Z Z' : Fz} (hz : Fz.lw Z Z') : ∀ {t : Tv} {v : Value},AV Z t v → AV Z' t v
 | .null,v,h => by simpa [AV] using h
 | .sc u,v,h => by simpa [AV] using h
 | .li u ts,v,h => by
  simp only [AV] at h ⊢
  obtain ⟨h0,sv,n,vs,h1,h2,h3,h4⟩ := h
  exact ⟨h0,sv,n,vs,h1,h2,h3.mono fun _ _ k => inT.lw hz rfl k,AVs.lw hz h4⟩
 | .mp l,v,h => by
  simp only [AV] at h ⊢
  obtain ⟨m,es,c,es',h1,h2,h3,h4,h5⟩ := h
  exact ⟨m,es,c,es',h1,Fz.lw.mp hz h2,h3,h4,AVm.lw hz h5⟩
theorem AVs.lw {Z Z' : Fz} (hz : Fz.lw Z Z') : ∀ {ts : List Tv} {vs : List Value},AVs Z ts vs → AVs Z' ts vs
 | [],vs,h => by simpa [AVs] using h
 | t :: ts,vs,h => by
  simp only [AVs] at h ⊢
  obtain ⟨v,vs',h1,h2,h3⟩ := h
  exact ⟨v,vs',h1,AV.lw hz h2,AVs.lw hz h3⟩
theorem AVm.lw {Z Z' : Fz} (hz : Fz.lw Z Z') : ∀ {l : List (ByteArray × Tv)} {es : List En},AVm Z l es → AVm Z' l es
 | [],es,h => by simpa [AVm] using h
 | (k,t) :: l,es,h => by
  simp only [AVm] at h ⊢
  obtain ⟨e,es',h1,h2,h3,h4⟩ := h
  exact ⟨e,es',h1,h2,AV.lw hz h3,AVm.lw hz h4⟩
end
theorem AV.mono {Z Z' : Fz} (hz : Fz.le Z Z') {t : Tv} {v : Value} (h : AV Z t v) : AV Z' t v := h.lw hz.lw
theorem AVs.mono {Z Z' : Fz} (hz : Fz.le Z Z') {ts : List Tv} {vs : List Value} (h : AVs Z ts vs) : AVs Z' ts vs := h.lw hz.lw
theorem AVm.mono {Z Z' : Fz} (hz : Fz.le Z Z') {l : List (ByteArray × Tv)} {es : List En} (h : AVm Z l es) : AVm Z' l es := h.lw hz.lw
theorem AV.one {Z : Fz} {t : Tv} {v : Value} (h : AV Z t v) : v = .nilIface ∨ ∃ T u,v = .iface T u := by
 cases t with
 | null => simp only [AV] at h; exact .inl h
 | sc u => simp only [AV] at h; obtain ⟨rfl,h⟩ := h; rcases h with ⟨_,rfl⟩ | ⟨_,rfl⟩ | ⟨_,rfl,_⟩ | ⟨_,rfl⟩ <;> exact .inr ⟨_,_,rfl⟩
 | li u ts => simp only [AV] at h; obtain ⟨_,_,_,_,e,_⟩ := h; exact .inr ⟨_,_,e⟩
 | mp l => simp only [AV] at h; obtain ⟨_,_,_,_,rfl,_⟩ := h; exact .inr ⟨_,_,rfl⟩
theorem AV.cells {Z : Fz} {t : Tv} {v : Value} (h : AV Z t v) : v.cells = #[v] := by rcases h.one with rfl | ⟨_,_,rfl⟩ <;> rfl
theorem AV.cell1 {Z : Fz} {t : Tv} {v : Value} (h : AV Z t v) : v.oneCell' = true := by rcases h.one with rfl | ⟨_,_,rfl⟩ <;> rfl
theorem AV.sh {Z : Fz} {t : Tv} {v : Value} (h : AV Z t v) : v = .nilIface ∨ (∃ b,v = .iface 4 (.bool b)) ∨ (∃ n,v = .iface 2 (.int .i64 n)) ∨ (∃ f,v = .iface 33 (.float .f64 f)) ∨ (∃ s,v = .iface 9 (.string s)) ∨ (∃ s,v = .iface 197 s) ∨ ∃ m,v = .iface 198 (.map (some m)) := by
 cases t with
 | null => simp only [AV] at h; exact .inl h
 | sc u => simp only [AV] at h; obtain ⟨rfl,h⟩ := h; rcases h with ⟨_,rfl⟩ | ⟨_,rfl⟩ | ⟨_,rfl,_⟩ | ⟨_,rfl⟩ <;> simp
 | li u ts => simp only [AV] at h; obtain ⟨_,sv,_,_,e,_⟩ := h; simp [e]
 | mp l => simp only [AV] at h; obtain ⟨_,_,_,_,rfl,_⟩ := h; simp
def Sh (v : Value) : Prop := v = .nilIface ∨ (∃ b,v = .iface 4 (.bool b)) ∨ (∃ n,v = .iface 2 (.int .i64 n)) ∨ (∃ f,v = .iface 33 (.float .f64 f)) ∨ (∃ s,v = .iface 9 (.string s)) ∨ (∃ s,v = .iface 197 s) ∨ ∃ m,v = .iface 198 (.map (some m))
def VV (Z : Fz) (t : Tv) (v : Value) : Prop := ∃ b u,v = .iface 301 (.pointer (some ⟨b,0,none⟩)) ∧ Z b = some (cl [u] 358) ∧ AV Z t u
theorem VV.mono {Z Z' : Fz} (hz : Fz.le Z Z') {t : Tv} {v : Value} (h : VV Z t v) : VV Z' t v := by
 obtain ⟨b,u,h1,h2,h3⟩ := h
 exact ⟨b,u,h1,hz _ _ h2,h3.mono hz⟩
end Go.Ux
namespace Go.Ux
open Go
abbrev Nm := ByteArray
def cmpN (a b : Nm) : Int := Lib.compareBytes a.data.toList b.data.toList
def ltN (a b : Nm) : Prop := cmpN a b < 0
theorem cb_refl : ∀ l : List UInt8,Lib.compareBytes l l = 0
 | [] => rfl
 | a :: l => by simp only [Lib.compareBytes,UInt8.lt_irrefl,if_false]; exact cb_refl l
theorem cb_zero : ∀ a b : List UInt8,Lib.compareBytes a b = 0 → a = b
 | [],[],_ => rfl
 | [],_ :: _,h => by simp [Lib.compareBytes] at h
 | _ :: _,[],h => by simp [Lib.compareBytes] at h
 | x :: a,y :: b,h => by
  simp only [Lib.compareBytes] at h
  split at h
  ·omega
  ·split at h
   ·omega
   ·next h1 h2 =>
    have : x = y := UInt8.le_antisymm (UInt8.not_lt.1 h2) (UInt8.not_lt.1 h1)
    rw [this,cb_zero a b h]
theorem cb_swap : ∀ a b : List UInt8,Lib.compareBytes b a = - Lib.compareBytes a b
 | [],[] => rfl
 | [],_ :: _ => rfl
 | _ :: _,[] => rfl
 | x :: a,y :: b => by
  simp only [Lib.compareBytes]
  by_cases h1 : x < y
  ·have h2 : ¬ y < x := UInt8.lt_asymm h1
   simp [h1,h2]
  ·by_cases h2 : y < x
   ·simp [h1,h2]
   ·simp [h1,h2,cb_swap a b]
theorem cb_trans : ∀ a b c : List UInt8,Lib.compareBytes a b < 0 → Lib.compareBytes b c < 0 → Lib.compareBytes a c < 0
 | [],[],_,h,_ => by simp [Lib.compareBytes] at h
 | [],_ :: _,[],_,h => by simp [Lib.compareBytes] at h
 | [],_ :: _,_ :: _,_,_ => by simp [Lib.compareBytes]
 | _ :: _,[],_,h,_ => by simp [Lib.compareBytes] at h
 | _ :: _,_ :: _,[],_,h => by simp [Lib.compareBytes] at h
 | x :: a,y :: b,z :: c,h1,h2 => by
  simp only [Lib.compareBytes] at h1 h2 ⊢
  by_cases xy : x < y
  ·by_cases yz : y < z
   ·have := UInt8.lt_trans xy yz; simp [this]
   ·rw [if_neg yz] at h2
    by_cases zy : z < y
    ·simp [zy] at h2
    ·have : y = z := UInt8.le_antisymm (UInt8.not_lt.1 zy) (UInt8.not_lt.1 yz)
     subst this; simp [xy]
  ·rw [if_neg xy] at h1
   by_cases yx : y < x
   ·simp [yx] at h1
   ·rw [if_neg yx] at h1
    have : x = y := UInt8.le_antisymm (UInt8.not_lt.1 yx) (UInt8.not_lt.1 xy)
    subst this
    by_cases yz : x < z
    ·simp [yz]
    ·rw [if_neg yz] at h2 ⊢
     by_cases zy : z < x
     ·simp [zy] at h2
     ·rw [if_neg zy] at h2 ⊢
      exact cb_trans a b c h1 h2
theorem cb_three : ∀ a b : List UInt8,Lib.compareBytes a b = -1 ∨ Lib.compareBytes a b = 0 ∨ Lib.compareBytes a b = 1
 | [],[] => by simp [Lib.compareBytes]
 | [],_ :: _ => by simp [Lib.compareBytes]
 | _ :: _,[] => by simp [Lib.compareBytes]
 | x :: a,y :: b => by
  simp only [Lib.compareBytes]
  split
  ·simp
  ·split
   ·simp
   ·exact cb_three a b
theorem cmpN_self (a : Nm) : cmpN a a = 0 := cb_refl _
theorem cmpN_zero {a b : Nm} (h : cmpN a b = 0) : a = b := ByteArray.ext (Array.toList_inj.1 (cb_zero _ _ h))
theorem cmpN_zero_iff {a b : Nm} : cmpN a b = 0 ↔ a = b := ⟨cmpN_zero,fun h => by subst h; exact cmpN_self a⟩
theorem cmpN_swap (a b : Nm) : cmpN b a = - cmpN a b := cb_swap _ _
theorem cmpN_three (a b : Nm) : cmpN a b = -1 ∨ cmpN a b = 0 ∨ cmpN a b = 1 := cb_three _ _
theorem ltN.trans {a b c : Nm} (h : ltN a b) (k : ltN b c) : ltN a c := cb_trans _ _ _ h k
theorem ltN.irrefl (a : Nm) : ¬ ltN a a := by unfold ltN; rw [cmpN_self]; omega
theorem ltN.ne {a b : Nm} (h : ltN a b) : a ≠ b := by rintro rfl; exact ltN.irrefl a h
theorem ltN.asymm {a b : Nm} (h : ltN a b) : ¬ ltN b a := fun k => ltN.irrefl a (h.trans k)
theorem ltN_tri (a b : Nm) : ltN a b ∨ a = b ∨ ltN b a := by
 unfold ltN
 rw [cmpN_swap a b]
 rcases cmpN_three a b with h | h | h
 ·exact .inl (by omega)
 ·exact .inr (.inl (cmpN_zero h))
 ·exact .inr (.inr (by omega))
theorem eq_of_nlt {a b : Nm} (h : ¬ ltN a b) (k : ¬ ltN b a) : a = b := by
 rcases ltN_tri a b with x | x | x
 ·exact absurd x h
 ·exact x
 ·exact absurd x k
instance (a b : Nm) : Decidable (ltN a b) := inferInstanceAs (Decidable (cmpN a b < 0))
abbrev Inc (l : List Nm) : Prop := l.Pairwise ltN
theorem Inc.nodup {l : List Nm} (h : Inc l) : l.Nodup := h.imp fun k => k.ne
instance : LawfulBEq ByteArray where
 eq_of_beq {a b} h := by
  have h' : (a.data == b.data) = true := h
  exact ByteArray.ext (eq_of_beq h')
 rfl {a} := by
  show (a.data == a.data) = true
  simp
theorem nodup_len : ∀ {l U : List Nm},l.Nodup → (∀ k ∈ l,k ∈ U) → l.length ≤ U.length
 | [],_,_,_ => by simp
 | x :: l,U,h,hs => by
  have h' := List.nodup_cons.1 h
  have hx := hs x (List.mem_cons_self ..)
  have := nodup_len (l := l) (U := U.erase x) h'.2 fun k hk => (List.mem_erase_of_ne fun e => h'.1 (by rw [← e]; exact hk)).2 (hs k (List.mem_cons_of_mem _ hk))
  rw [List.length_erase_of_mem hx] at this
  have hp : 0 < U.length := List.length_pos_of_mem hx
  simp only [List.length_cons]; omega
theorem Inc.length_le {l U : List Nm} (h : Inc l) (hs : ∀ k ∈ l,k ∈ U) : l.length ≤ U.length := nodup_len h.nodup hs
inductive FS where
 | mk (ms : List Nm) (cs : List (Nm × FS))
def FS.ms : FS → List Nm
 | .mk ms _ => ms
def FS.cs : FS → List (Nm × FS)
 | .mk _ cs => cs
def FS.hasP : List Nm → FS → Prop
 | [],_ => False
 | k :: q,s => (q = [] ∧ k ∈ s.ms) ∨ ∃ c,(k,c) ∈ s.cs ∧ FS.hasP q c
def FS.has (s : FS) (q : List Nm) : Prop := FS.hasP q s
theorem FS.has_nil (s : FS) : ¬ s.has [] := fun h => h
theorem FS.has_cons (s : FS) (k : Nm) (q : List Nm) : s.has (k :: q) ↔ (q = [] ∧ k ∈ s.ms) ∨ ∃ c,(k,c) ∈ s.cs ∧ c.has q := Iff.rfl
theorem FS.has_one (s : FS) (k : Nm) : s.has [k] ↔ k ∈ s.ms := by
 rw [has_cons]
 constructor
 ·rintro (⟨_,h⟩ | ⟨c,_,h⟩)
  ·exact h
  ·exact absurd h (has_nil c)
 ·exact fun h => .inl ⟨rfl,h⟩
theorem FS.has_two (s : FS) (k k' : Nm) (q : List Nm) : s.has (k :: k' :: q) ↔ ∃ c,(k,c) ∈ s.cs ∧ c.has (k' :: q) := by
 rw [has_cons]
 constructor
 ·rintro (⟨h,_⟩ | h)
  ·cases h
  ·exact h
 ·exact .inr
inductive FS.Wf (U : List Nm) : FS → Prop
 | mk {ms : List Nm} {cs : List (Nm × FS)} (h1 : Inc ms) (h2 : Inc (cs.map (·.1))) (h3 : ∀ k ∈ ms,k ∈ U) (h4 : ∀ k ∈ cs.map (·.1),k ∈ U) (h5 : ∀ p ∈ cs,FS.Wf U p.2) (h6 : ∀ p ∈ cs,∃ q,FS.has p.2 q) : FS.Wf U (.mk ms cs)
mutual
def FS.sz : FS → Nat
 | .mk _ cs => 1 + szC cs
def szC : List (Nm × FS) → Nat
 | [] => 0
 | (_,s) :: cs => s.sz + szC cs
end
theorem szC_mem : ∀ {cs : List (Nm × FS)} {k : Nm} {s : FS},(k,s) ∈ cs → s.sz ≤ szC cs
 | (k',s') :: cs,k,s,h => by
  simp only [szC]
  rcases List.mem_cons.1 h with h | h
  ·cases h; omega
  ·have := szC_mem h; omega
theorem key_uniq {β : Type} {cs : List (Nm × β)} (h : Inc (cs.map (·.1))) {k : Nm} {a b : β} (ha : (k,a) ∈ cs) (hb : (k,b) ∈ cs) : a = b := by
 induction cs with
 | nil => cases ha
 | cons x cs ih =>
  simp only [List.map_cons,List.pairwise_cons] at h
  rcases List.mem_cons.1 ha with ha' | ha' <;> rcases List.mem_cons.1 hb with hb' | hb'
  ·rw [← ha'] at hb'; cases hb'; rfl
  ·subst ha'; exact absurd rfl (h.1 _ (List.mem_map_of_mem (f := (·.1)) hb')).ne
  ·subst hb'; exact absurd rfl (h.1 _ (List.mem_map_of_mem (f := (·.1)) ha')).ne
  ·exact ih h.2 ha' hb'
inductive UniM : List Nm → List Nm → List Nm → Prop
 | lt {x y : Nm} {a b o : List Nm} (h : ltN x y) (t : UniM a (y :: b) o) : UniM (x :: a) (y :: b) (x :: o)
 | gt {x y : Nm} {a b o : List Nm} (h : ltN y x) (t : UniM (x :: a) b o) : UniM (x :: a) (y :: b) (y :: o)
 | eq {x : Nm} {a b o : List Nm} (t : UniM a b o) : UniM (x :: a) (x :: b) (x :: o)
 | nilL {b : List Nm} : UniM [] b b
 | nilR {a : List Nm} : UniM a [] a
theorem UniM.mem {a b o : List Nm} (h : UniM a b o) (k : Nm) : k ∈ o ↔ k ∈ a ∨ k ∈ b := by
 induction h with
 | lt _ _ ih => simp only [List.mem_cons,ih]; grind
 | gt _ _ ih => simp only [List.mem_cons,ih]; grind
 | eq _ ih => simp only [List.mem_cons,ih]; grind
 | nilL => simp
 | nilR => simp
theorem UniM.inc {a b o : List Nm} (h : UniM a b o) (ha : Inc a) (hb : Inc b) : Inc o := by
 induction h with
 | lt h t ih =>
  have ha' := List.pairwise_cons.1 ha
  have hb' := List.pairwise_cons.1 hb
  refine List.pairwise_cons.2 ⟨fun z hz => ?_,ih ha'.2 hb⟩
  rcases (t.mem z).1 hz with hz | hz
  ·exact ha'.1 z hz
  ·rcases List.mem_cons.1 hz with rfl | hz
   ·exact h
   ·exact h.trans (hb'.1 z hz)
 | gt h t ih =>
  have ha' := List.pairwise_cons.1 ha
  have hb' := List.pairwise_cons.1 hb
  refine List.pairwise_cons.2 ⟨fun z hz => ?_,ih ha hb'.2⟩
  rcases (t.mem z).1 hz with hz | hz
  ·rcases List.mem_cons.1 hz with rfl | hz
   ·exact h
   ·exact h.trans (ha'.1 z hz)
  ·exact hb'.1 z hz
 | eq t ih =>
  have ha' := List.pairwise_cons.1 ha
  have hb' := List.pairwise_cons.1 hb
  refine List.pairwise_cons.2 ⟨fun z hz => ?_,ih ha'.2 hb'.2⟩
  rcases (t.mem z).1 hz with hz | hz
  ·exact ha'.1 z hz
  ·exact hb'.1 z hz
 | nilL => exact hb
 | nilR => exact ha
inductive DifM : List Nm → List Nm → List Nm → Prop
 | lt {x y : Nm} {a b o : List Nm} (h : ltN x y) (t : DifM a (y :: b) o) : DifM (x :: a) (y :: b) (x :: o)
 | gt {x y : Nm} {a b o : List Nm} (h : ltN y x) (t : DifM (x :: a) b o) : DifM (x :: a) (y :: b) o
 | eq {x : Nm} {a b o : List Nm} (t : DifM a b o) : DifM (x :: a) (x :: b) o
 | nilL {b : List Nm} : DifM [] b []
 | nilR {a : List Nm} : DifM a [] a
theorem DifM.sub {a b o : List Nm} (h : DifM a b o) : List.Sublist o a := by
 induction h with
 | lt _ _ ih => exact ih.cons_cons _
 | gt _ _ ih => exact ih
 | eq _ ih => exact ih.cons _
 | nilL => exact .slnil
 | nilR => exact .refl _
theorem DifM.mem {a b o : List Nm} (h : DifM a b o) (ha : Inc a) (hb : Inc b) (k : Nm) : k ∈ o ↔ k ∈ a ∧ k ∉ b := by
 induction h with
 | @lt x y a b o h _ ih =>
  have ha' := List.pairwise_cons.1 ha
  have hb' := List.pairwise_cons.1 hb
  have hx : x ∉ y :: b := fun hm => by
   rcases List.mem_cons.1 hm with e | hm
   ·exact h.ne e
   ·exact ltN.irrefl _ (h.trans (hb'.1 x hm))
  rw [List.mem_cons,List.mem_cons,ih ha'.2 hb]
  constructor
  ·rintro (rfl | h)
   ·exact ⟨.inl rfl,hx⟩
   ·exact ⟨.inr h.1,h.2⟩
  ·rintro ⟨rfl | h1,h2⟩
   ·exact .inl rfl
   ·exact .inr ⟨h1,h2⟩
 | @gt x y a b o h _ ih =>
  have ha' := List.pairwise_cons.1 ha
  have hb' := List.pairwise_cons.1 hb
  have hy : y ∉ x :: a := fun hm => by
   rcases List.mem_cons.1 hm with e | hm
   ·exact h.ne e
   ·exact ltN.irrefl _ (h.trans (ha'.1 y hm))
  rw [ih ha hb'.2]
  constructor
  ·rintro ⟨h1,h2⟩
   exact ⟨h1,fun hm => by
    rcases List.mem_cons.1 hm with rfl | hm
    ·exact hy h1
    ·exact h2 hm⟩
  ·rintro ⟨h1,h2⟩
   exact ⟨h1,fun hm => h2 (List.mem_cons_of_mem _ hm)⟩
 | @eq x a b o _ ih =>
  have ha' := List.pairwise_cons.1 ha
  have hb' := List.pairwise_cons.1 hb
  rw [ih ha'.2 hb'.2]
  constructor
  ·rintro ⟨h1,h2⟩
   refine ⟨List.mem_cons_of_mem _ h1,fun hm => ?_⟩
   rcases List.mem_cons.1 hm with rfl | hm
   ·exact ltN.irrefl _ (ha'.1 _ h1)
   ·exact h2 hm
  ·rintro ⟨h1,h2⟩
   rcases List.mem_cons.1 h1 with rfl | h1
   ·exact absurd (List.mem_cons_self ..) h2
   ·exact ⟨h1,fun hm => h2 (List.mem_cons_of_mem _ hm)⟩
 | nilL => simp
 | nilR => simp
inductive MeeM : List Nm → List Nm → List Nm → Prop
 | lt {x y : Nm} {a b o : List Nm} (h : ltN x y) (t : MeeM a (y :: b) o) : MeeM (x :: a) (y :: b) o
 | gt {x y : Nm} {a b o : List Nm} (h : ltN y x) (t : MeeM (x :: a) b o) : MeeM (x :: a) (y :: b) o
 | eq {x : Nm} {a b o : List Nm} (t : MeeM a b o) : MeeM (x :: a) (x :: b) (x :: o)
 | nilL {b : List Nm} : MeeM [] b []
 | nilR {a : List Nm} : MeeM a [] []
theorem MeeM.sub {a b o : List Nm} (h : MeeM a b o) : List.Sublist o a := by
 induction h with
 | lt _ _ ih => exact ih.cons _
 | gt _ _ ih => exact ih
 | eq _ ih => exact ih.cons_cons _
 | nilL => exact .slnil
 | nilR => exact List.nil_sublist _
theorem MeeM.mem {a b o : List Nm} (h : MeeM a b o) (ha : Inc a) (hb : Inc b) (k : Nm) : k ∈ o ↔ k ∈ a ∧ k ∈ b := by
 induction h with
 | @lt x y a b o h _ ih =>
  have ha' := List.pairwise_cons.1 ha
  have hb' := List.pairwise_cons.1 hb
  have hx : x ∉ y :: b := fun hm => by
   rcases List.mem_cons.1 hm with e | hm
   ·exact h.ne e
   ·exact ltN.irrefl _ (h.trans (hb'.1 x hm))
  rw [ih ha'.2 hb]
  constructor
  ·rintro ⟨h1,h2⟩
   exact ⟨List.mem_cons_of_mem _ h1,h2⟩
  ·rintro ⟨h1,h2⟩
   rcases List.mem_cons.1 h1 with rfl | h1
   ·exact absurd h2 hx
   ·exact ⟨h1,h2⟩
 | @gt x y a b o h _ ih =>
  have ha' := List.pairwise_cons.1 ha
  have hb' := List.pairwise_cons.1 hb
  have hy : y ∉ x :: a := fun hm => by
   rcases List.mem_cons.1 hm with e | hm
   ·exact h.ne e
   ·exact ltN.irrefl _ (h.trans (ha'.1 y hm))
  rw [ih ha hb'.2]
  constructor
  ·rintro ⟨h1,h2⟩
   exact ⟨h1,List.mem_cons_of_mem _ h2⟩
  ·rintro ⟨h1,h2⟩
   refine ⟨h1,?_⟩
   rcases List.mem_cons.1 h2 with rfl | h2
   ·exact absurd h1 hy
   ·exact h2
 | @eq x a b o _ ih =>
  have ha' := List.pairwise_cons.1 ha
  have hb' := List.pairwise_cons.1 hb
  rw [List.mem_cons,ih ha'.2 hb'.2,List.mem_cons,List.mem_cons]
  grind
 | nilL => simp
 | nilR => simp
abbrev Ch := List (Nm × FS)
inductive UniC (R : FS → FS → FS → Prop) : Ch → Ch → Ch → Prop
 | lt {x y : Nm × FS} {a b o : Ch} (h : ltN x.1 y.1) (t : UniC R a (y :: b) o) : UniC R (x :: a) (y :: b) (x :: o)
 | gt {x y : Nm × FS} {a b o : Ch} (h : ltN y.1 x.1) (t : UniC R (x :: a) b o) : UniC R (x :: a) (y :: b) (y :: o)
 | eq {k : Nm} {s s' s'' : FS} {a b o : Ch} (r : R s s' s'') (t : UniC R a b o) : UniC R ((k,s) :: a) ((k,s') :: b) ((k,s'') :: o)
 | nilL {b : Ch} : UniC R [] b b
 | nilR {a : Ch} : UniC R a [] a
theorem UniC.keys {R : FS → FS → FS → Prop} {a b o : Ch} (h : UniC R a b o) : UniM (a.map (·.1)) (b.map (·.1)) (o.map (·.1)) := by
 induction h with
 | lt h _ ih => exact .lt h ih
 | gt h _ ih => exact .gt h ih
 | eq _ _ ih => exact .eq ih
 | nilL => exact .nilL
 | nilR => exact .nilR
inductive DifC (R : FS → FS → FS → Prop) : Ch → Ch → Ch → Prop
 | lt {x y : Nm × FS} {a b o : Ch} (h : ltN x.1 y.1) (t : DifC R a (y :: b) o) : DifC R (x :: a) (y :: b) (x :: o)
 | gt {x y : Nm × FS} {a b o : Ch} (h : ltN y.1 x.1) (t : DifC R (x :: a) b o) : DifC R (x :: a) (y :: b) o
 | eq {k : Nm} {s s' s'' : FS} {a b o : Ch} (r : R s s' s'') (e : ∃ q,s''.has q) (t : DifC R a b o) : DifC R ((k,s) :: a) ((k,s') :: b) ((k,s'') :: o)
 | eq0 {k : Nm} {s s' s'' : FS} {a b o : Ch} (r : R s s' s'') (e : ∀ q,¬ s''.has q) (t : DifC R a b o) : DifC R ((k,s) :: a) ((k,s') :: b) o
 | nilL {b : Ch} : DifC R [] b []
 | nilR {a : Ch} : DifC R a [] a
inductive MeeC (R : FS → FS → FS → Prop) : Ch → Ch → Ch → Prop
 | lt {x y : Nm × FS} {a b o : Ch} (h : ltN x.1 y.1) (t : MeeC R a (y :: b) o) : MeeC R (x :: a) (y :: b) o
 | gt {x y : Nm × FS} {a b o : Ch} (h : ltN y.1 x.1) (t : MeeC R (x :: a) b o) : MeeC R (x :: a) (y :: b) o
 | eq {k : Nm} {s s' s'' : FS} {a b o : Ch} (r : R s s' s'') (e : ∃ q,s''.has q) (t : MeeC R a b o) : MeeC R ((k,s) :: a) ((k,s') :: b) ((k,s'') :: o)
 | eq0 {k : Nm} {s s' s'' : FS} {a b o : Ch} (r : R s s' s'') (e : ∀ q,¬ s''.has q) (t : MeeC R a b o) : MeeC R ((k,s) :: a) ((k,s') :: b) o
 | nilL {b : Ch} : MeeC R [] b []
 | nilR {a : Ch} : MeeC R a [] []
def hasC (cs : Ch) (k : Nm) (q : List Nm) : Prop := ∃ c,(k,c) ∈ cs ∧ c.has q
theorem hasC_nil (k : Nm) (q : List Nm) : ¬ hasC [] k q := fun ⟨_,h,_⟩ => by cases h
theorem hasC_cons (p : Nm × FS) (cs : Ch) (k : Nm) (q : List Nm) : hasC (p :: cs) k q ↔ (p.1 = k ∧ p.2.has q) ∨ hasC cs k q := by
 obtain ⟨k',s⟩ := p
 constructor
 ·rintro ⟨c,hm,hh⟩
  rcases List.mem_cons.1 hm with e | hm
  ·cases e; exact .inl ⟨rfl,hh⟩
  ·exact .inr ⟨c,hm,hh⟩
 ·rintro (⟨rfl,hh⟩ | ⟨c,hm,hh⟩)
  ·exact ⟨s,List.mem_cons_self ..,hh⟩
  ·exact ⟨c,List.mem_cons_of_mem _ hm,hh⟩
theorem hasC_lt {cs : Ch} {k x : Nm} {q : List Nm} (h : ∀ y ∈ cs.map (·.1),ltN x y) (hk : hasC cs k q) : ltN x k := by
 obtain ⟨c,hm,_⟩ := hk
 exact h k (List.mem_map_of_mem (f := (·.1)) hm)
def RU (U : List Nm) (a b c : FS) : Prop := c.Wf U ∧ ∀ q,c.has q ↔ a.has q ∨ b.has q
def RD (U : List Nm) (a b c : FS) : Prop := c.Wf U ∧ ∀ q,c.has q ↔ a.has q ∧ ¬ b.has q
def RI (U : List Nm) (a b c : FS) : Prop := c.Wf U ∧ ∀ q,c.has q ↔ a.has q ∧ b.has q
theorem UniC.has {U : List Nm} {a b o : Ch} (h : UniC (RU U) a b o) (k : Nm) (q : List Nm) : hasC o k q ↔ hasC a k q ∨ hasC b k q := by
 induction h with
 | lt _ _ ih => simp only [hasC_cons,ih]; grind
 | gt _ _ ih => simp only [hasC_cons,ih]; grind
 | eq r _ ih => simp only [hasC_cons,ih,r.2]; grind
 | nilL => simp [hasC_nil]
 | nilR => simp [hasC_nil]
theorem UniC.wf {U : List Nm} {a b o : Ch} (h : UniC (RU U) a b o) (ha : ∀ p ∈ a,p.2.Wf U) (hb : ∀ p ∈ b,p.2.Wf U) : ∀ p ∈ o,p.2.Wf U := by
 induction h with
 | lt _ _ ih =>
  intro p hp
  rcases List.mem_cons.1 hp with rfl | hp
  ·exact ha _ (List.mem_cons_self ..)
  ·exact ih (fun p hp => ha p (List.mem_cons_of_mem _ hp)) hb p hp
 | gt _ _ ih =>
  intro p hp
  rcases List.mem_cons.1 hp with rfl | hp
  ·exact hb _ (List.mem_cons_self ..)
  ·exact ih ha (fun p hp => hb p (List.mem_cons_of_mem _ hp)) p hp
 | eq r _ ih =>
  intro p hp
  rcases List.mem_cons.1 hp with rfl | hp
  ·exact r.1
  ·exact ih (fun p hp => ha p (List.mem_cons_of_mem _ hp)) (fun p hp => hb p (List.mem_cons_of_mem _ hp)) p hp
 | nilL => exact hb
 | nilR => exact ha
theorem UniC.full {U : List Nm} {a b o : Ch} (h : UniC (RU U) a b o) (ha : ∀ p ∈ a,∃ q,p.2.has q) (hb : ∀ p ∈ b,∃ q,p.2.has q) : ∀ p ∈ o,∃ q,p.2.has q := by
 induction h with
 | lt _ _ ih =>
  intro p hp
  rcases List.mem_cons.1 hp with rfl | hp
  ·exact ha _ (List.mem_cons_self ..)
  ·exact ih (fun p hp => ha p (List.mem_cons_of_mem _ hp)) hb p hp
 | gt _ _ ih =>
  intro p hp
  rcases List.mem_cons.1 hp with rfl | hp
  ·exact hb _ (List.mem_cons_self ..)
  ·exact ih ha (fun p hp => hb p (List.mem_cons_of_mem _ hp)) p hp
 | eq r _ ih =>
  intro p hp
  rcases List.mem_cons.1 hp with rfl | hp
  ·obtain ⟨q,hq⟩ := ha _ (List.mem_cons_self ..)
   exact ⟨q,(r.2 q).2 (.inl hq)⟩
  ·exact ih (fun p hp => ha p (List.mem_cons_of_mem _ hp)) (fun p hp => hb p (List.mem_cons_of_mem _ hp)) p hp
 | nilL => exact hb
 | nilR => exact ha
theorem DifC.full {R : FS → FS → FS → Prop} {a b o : Ch} (h : DifC R a b o) (ha : ∀ p ∈ a,∃ q,p.2.has q) : ∀ p ∈ o,∃ q,p.2.has q := by
 induction h with
 | lt _ _ ih =>
  intro p hp
  rcases List.mem_cons.1 hp with rfl | hp
  ·exact ha _ (List.mem_cons_self ..)
  ·exact ih (fun p hp => ha p (List.mem_cons_of_mem _ hp)) p hp
 | gt _ _ ih => exact ih ha
 | eq r e _ ih =>
  intro p hp
  rcases List.mem_cons.1 hp with rfl | hp
  ·exact e
  ·exact ih (fun p hp => ha p (List.mem_cons_of_mem _ hp)) p hp
 | eq0 _ _ _ ih => exact ih (fun p hp => ha p (List.mem_cons_of_mem _ hp))
 | nilL => simp
 | nilR => exact ha
theorem MeeC.full {R : FS → FS → FS → Prop} {a b o : Ch} (h : MeeC R a b o) : ∀ p ∈ o,∃ q,p.2.has q := by
 induction h with
 | lt _ _ ih => exact ih
 | gt _ _ ih => exact ih
 | eq r e _ ih =>
  intro p hp
  rcases List.mem_cons.1 hp with rfl | hp
  ·exact e
  ·exact ih p hp
 | eq0 _ _ _ ih => exact ih
 | nilL => simp
 | nilR => simp
theorem ne_has {s : FS} (h : ¬ ∀ q,¬ s.has q) : ∃ q,s.has q := Classical.not_forall_not.1 h
theorem uni_all {U : List Nm} {ms ms' om : List Nm} {cs cs' oc : Ch} (ha : (FS.mk ms cs).Wf U) (hb : (FS.mk ms' cs').Wf U) (h1 : UniM ms ms' om) (h2 : UniC (RU U) cs cs' oc) : RU U (.mk ms cs) (.mk ms' cs') (.mk om oc) := by
 cases ha with | mk a1 a2 a3 a4 a5 a6 => cases hb with | mk b1 b2 b3 b4 b5 b6 =>
 have hk := h2.keys
 refine ⟨.mk (h1.inc a1 b1) (hk.inc a2 b2) (fun k hm => ?_) (fun k hm => ?_) (h2.wf a5 b5) (h2.full a6 b6),fun q => ?_⟩
 ·rcases (h1.mem k).1 hm with h | h
  ·exact a3 k h
  ·exact b3 k h
 ·rcases (hk.mem k).1 hm with h | h
  ·exact a4 k h
  ·exact b4 k h
 ·cases q with
  | nil => simp [FS.has_nil]
  | cons k q =>
   have := h2.has k q
   simp only [hasC] at this
   simp only [FS.has_cons,FS.ms,FS.cs,this,h1.mem]
   grind
theorem DifC.sub {R : FS → FS → FS → Prop} {a b o : Ch} (h : DifC R a b o) : List.Sublist (o.map (·.1)) (a.map (·.1)) := by
 induction h with
 | lt _ _ ih => exact ih.cons_cons _
 | gt _ _ ih => exact ih
 | eq _ _ _ ih => exact ih.cons_cons _
 | eq0 _ _ _ ih => exact ih.cons _
 | nilL => exact .slnil
 | nilR => exact .refl _
theorem MeeC.sub {R : FS → FS → FS → Prop} {a b o : Ch} (h : MeeC R a b o) : List.Sublist (o.map (·.1)) (a.map (·.1)) := by
 induction h with
 | lt _ _ ih => exact ih.cons _
 | gt _ _ ih => exact ih
 | eq _ _ _ ih => exact ih.cons_cons _
 | eq0 _ _ _ ih => exact ih.cons _
 | nilL => exact .slnil
 | nilR => exact List.nil_sublist _
theorem DifC.wf {U : List Nm} {a b o : Ch} (h : DifC (RD U) a b o) (ha : ∀ p ∈ a,p.2.Wf U) : ∀ p ∈ o,p.2.Wf U := by
 induction h with
 | lt _ _ ih =>
  intro p hp
  rcases List.mem_cons.1 hp with rfl | hp
  ·exact ha _ (List.mem_cons_self ..)
  ·exact ih (fun p hp => ha p (List.mem_cons_of_mem _ hp)) p hp
 | gt _ _ ih => exact ih ha
 | eq r _ _ ih =>
  intro p hp
  rcases List.mem_cons.1 hp with rfl | hp
  ·exact r.1
  ·exact ih (fun p hp => ha p (List.mem_cons_of_mem _ hp)) p hp
 | eq0 _ _ _ ih => exact ih (fun p hp => ha p (List.mem_cons_of_mem _ hp))
 | nilL => simp
 | nilR => exact ha
theorem MeeC.wf {U : List Nm} {a b o : Ch} (h : MeeC (RI U) a b o) : ∀ p ∈ o,p.2.Wf U := by
 induction h with
 | lt _ _ ih => exact ih
 | gt _ _ ih => exact ih
 | eq r _ _ ih =>
  intro p hp
  rcases List.mem_cons.1 hp with rfl | hp
  ·exact r.1
  ·exact ih p hp
 | eq0 _ _ _ ih => exact ih
 | nilL => simp
 | nilR => simp
theorem no_head {x : Nm} {cs : Ch} {q : List Nm} (h : ∀ y ∈ cs.map (·.1),ltN x y) : ¬ hasC cs x q := fun ⟨_,hm,_⟩ =>
 ltN.irrefl _ (h x (List.mem_map_of_mem (f := (·.1)) hm))
theorem DifC.has {U : List Nm} {a b o : Ch} (h : DifC (RD U) a b o) (ha : Inc (a.map (·.1))) (hb : Inc (b.map (·.1))) (k : Nm) (q : List Nm) : hasC o k q ↔ hasC a k q ∧ ¬ hasC b k q := by
 induction h with
 | @lt x y a b o h _ ih =>
  have ha' := List.pairwise_cons.1 ha
  have hb' := List.pairwise_cons.1 hb
  have hx : ¬ hasC (y :: b) x.1 q := no_head fun z hz => by
   rcases List.mem_cons.1 hz with rfl | hz
   ·exact h
   ·exact h.trans (hb'.1 z hz)
  rw [hasC_cons,hasC_cons x a,ih ha'.2 hb]
  constructor
  ·rintro (⟨rfl,h⟩ | h)
   ·exact ⟨.inl ⟨rfl,h⟩,hx⟩
   ·exact ⟨.inr h.1,h.2⟩
  ·rintro ⟨h1 | h1,h2⟩
   ·exact .inl h1
   ·exact .inr ⟨h1,h2⟩
 | @gt x y a b o h _ ih =>
  have ha' := List.pairwise_cons.1 ha
  have hb' := List.pairwise_cons.1 hb
  have hy : ¬ hasC (x :: a) y.1 q := no_head fun z hz => by
   rcases List.mem_cons.1 hz with rfl | hz
   ·exact h
   ·exact h.trans (ha'.1 z hz)
  rw [ih ha hb'.2,hasC_cons y b]
  constructor
  ·rintro ⟨h1,h2⟩
   exact ⟨h1,fun hm => hm.elim (fun e => hy (by rw [e.1]; exact h1)) h2⟩
  ·rintro ⟨h1,h2⟩
   exact ⟨h1,fun hm => h2 (.inr hm)⟩
 | @eq k' s s' s'' a b o r _ _ ih =>
  have ha' := List.pairwise_cons.1 ha
  have hb' := List.pairwise_cons.1 hb
  have h1 : ¬ hasC a k' q := no_head ha'.1
  have h2 : ¬ hasC b k' q := no_head hb'.1
  rw [hasC_cons,hasC_cons,hasC_cons,ih ha'.2 hb'.2,r.2]
  by_cases e : k' = k
  ·subst e; grind
  ·grind
 | @eq0 k' s s' s'' a b o r e0 _ ih =>
  have ha' := List.pairwise_cons.1 ha
  have hb' := List.pairwise_cons.1 hb
  have h1 : ¬ hasC a k' q := no_head ha'.1
  have h2 : ¬ hasC b k' q := no_head hb'.1
  have h3 := e0 q
  rw [r.2] at h3
  rw [hasC_cons,hasC_cons,ih ha'.2 hb'.2]
  by_cases e : k' = k
  ·subst e; grind
  ·grind
 | nilL => simp [hasC_nil]
 | nilR => simp [hasC_nil]
theorem MeeC.has {U : List Nm} {a b o : Ch} (h : MeeC (RI U) a b o) (ha : Inc (a.map (·.1))) (hb : Inc (b.map (·.1))) (k : Nm) (q : List Nm) : hasC o k q ↔ hasC a k q ∧ hasC b k q := by
 induction h with
 | @lt x y a b o h _ ih =>
  have ha' := List.pairwise_cons.1 ha
  have hb' := List.pairwise_cons.1 hb
  have hx : ¬ hasC (y :: b) x.1 q := no_head fun z hz => by
   rcases List.mem_cons.1 hz with rfl | hz
   ·exact h
   ·exact h.trans (hb'.1 z hz)
  rw [hasC_cons x a,ih ha'.2 hb]
  constructor
  ·rintro ⟨h1,h2⟩
   exact ⟨.inr h1,h2⟩
  ·rintro ⟨⟨rfl,h1⟩ | h1,h2⟩
   ·exact absurd h2 hx
   ·exact ⟨h1,h2⟩
 | @gt x y a b o h _ ih =>
  have ha' := List.pairwise_cons.1 ha
  have hb' := List.pairwise_cons.1 hb
  have hy : ¬ hasC (x :: a) y.1 q := no_head fun z hz => by
   rcases List.mem_cons.1 hz with rfl | hz
   ·exact h
   ·exact h.trans (ha'.1 z hz)
  rw [ih ha hb'.2,hasC_cons y b]
  constructor
  ·rintro ⟨h1,h2⟩
   exact ⟨h1,.inr h2⟩
  ·rintro ⟨h1,⟨rfl,h2⟩ | h2⟩
   ·exact absurd h1 hy
   ·exact ⟨h1,h2⟩
 | @eq k' s s' s'' a b o r _ _ ih =>
  have ha' := List.pairwise_cons.1 ha
  have hb' := List.pairwise_cons.1 hb
  have h1 : ¬ hasC a k' q := no_head ha'.1
  have h2 : ¬ hasC b k' q := no_head hb'.1
  rw [hasC_cons,hasC_cons,hasC_cons,ih ha'.2 hb'.2,r.2]
  by_cases e : k' = k
  ·subst e; grind
  ·grind
 | @eq0 k' s s' s'' a b o r e0 _ ih =>
  have ha' := List.pairwise_cons.1 ha
  have hb' := List.pairwise_cons.1 hb
  have h1 : ¬ hasC a k' q := no_head ha'.1
  have h2 : ¬ hasC b k' q := no_head hb'.1
  have h3 := e0 q
  rw [r.2] at h3
  rw [hasC_cons,hasC_cons,ih ha'.2 hb'.2]
  by_cases e : k' = k
  ·subst e; grind
  ·grind
 | nilL => simp [hasC_nil]
 | nilR => simp [hasC_nil]
theorem dif_all {U : List Nm} {ms ms' om : List Nm} {cs cs' oc : Ch} (ha : (FS.mk ms cs).Wf U) (hb : (FS.mk ms' cs').Wf U) (h1 : DifM ms ms' om) (h2 : DifC (RD U) cs cs' oc) : RD U (.mk ms cs) (.mk ms' cs') (.mk om oc) := by
 cases ha with | mk a1 a2 a3 a4 a5 a6 => cases hb with | mk b1 b2 b3 b4 b5 b6 =>
 refine ⟨.mk (a1.sublist h1.sub) (a2.sublist h2.sub) (fun k hm => a3 k (h1.sub.subset hm)) (fun k hm => a4 k (h2.sub.subset hm)) (h2.wf a5) (h2.full a6),fun q => ?_⟩
 cases q with
 | nil => simp [FS.has_nil]
 | cons k q =>
  have := h2.has a2 b2 k q
  simp only [hasC] at this
  simp only [FS.has_cons,FS.ms,FS.cs,this,h1.mem a1 b1]
  by_cases e : q = []
  ·subst e
   have hn : ∀ c : Ch,¬ ∃ s,(k,s) ∈ c ∧ s.has [] := fun c ⟨s,_,h⟩ => FS.has_nil s h
   grind
  ·grind
theorem mee_all {U : List Nm} {ms ms' om : List Nm} {cs cs' oc : Ch} (ha : (FS.mk ms cs).Wf U) (hb : (FS.mk ms' cs').Wf U) (h1 : MeeM ms ms' om) (h2 : MeeC (RI U) cs cs' oc) : RI U (.mk ms cs) (.mk ms' cs') (.mk om oc) := by
 cases ha with | mk a1 a2 a3 a4 a5 a6 => cases hb with | mk b1 b2 b3 b4 b5 b6 =>
 refine ⟨.mk (a1.sublist h1.sub) (a2.sublist h2.sub) (fun k hm => a3 k (h1.sub.subset hm)) (fun k hm => a4 k (h2.sub.subset hm)) h2.wf h2.full,fun q => ?_⟩
 cases q with
 | nil => simp [FS.has_nil]
 | cons k q =>
  have := h2.has a2 b2 k q
  simp only [hasC] at this
  simp only [FS.has_cons,FS.ms,FS.cs,this,h1.mem a1 b1]
  by_cases e : q = []
  ·subst e
   have hn : ∀ c : Ch,¬ ∃ s,(k,s) ∈ c ∧ s.has [] := fun c ⟨s,_,h⟩ => FS.has_nil s h
   grind
  ·grind
def FS.Emp (s : FS) : Prop := ∀ q,¬ s.has q
theorem FS.emp_iff (s : FS) : s.Emp ↔ s.ms = [] ∧ ∀ p ∈ s.cs,p.2.Emp := by
 constructor
 ·intro h
  refine ⟨List.eq_nil_iff_forall_not_mem.2 fun k hk => h [k] ((s.has_one k).2 hk),fun p hp q hq => ?_⟩
  exact h (p.1 :: q) (.inr ⟨p.2,hp,hq⟩)
 ·rintro ⟨h1,h2⟩ q hq
  cases q with
  | nil => exact hq
  | cons k q =>
   rcases hq with ⟨_,hk⟩ | ⟨c,hc,hh⟩
   ·rw [h1] at hk; cases hk
   ·exact h2 _ hc q hh
end Go.Ux
namespace Go.Ux
open Go
abbrev pe (b : Nat) : List Value := [.pointer (some ⟨b,0,none⟩),.pointer none,.pointer none,.pointer none]
abbrev nd (b b' : Nat) : List Value := [.pointer (some ⟨b,0,none⟩),.pointer none,.pointer none,.pointer none,.pointer (some ⟨b',0,none⟩)]
def PM (Z : Fz) : List Nm → List Value → Prop
 | [],cs => cs = []
 | k :: ks,cs => ∃ b r,cs = pe b ++ r ∧ Z b = some (cl [.string k] 9) ∧ PM Z ks r
mutual
def SR (Z : Fz) : FS → Nat → Prop
 | .mk ms ch,b => ∃ mv cv n n' cs cs',Z b = some (cl [mv,cv] 281) ∧ Rs (inT Z 308) 4 mv n cs ∧ PM Z ms cs ∧ Rs (inT Z 331) 5 cv n' cs' ∧ SC Z ch cs'
def SC (Z : Fz) : List (Nm × FS) → List Value → Prop
 | [],cs => cs = []
 | (k,s) :: ch,cs => ∃ b b' r,cs = pe b ++ .pointer (some ⟨b',0,none⟩) :: r ∧ Z b = some (cl [.string k] 9) ∧ SR Z s b' ∧ SC Z ch r
end
theorem PM.lw {Z Z' : Fz} (hz : Fz.lw Z Z') : ∀ {ks : List Nm} {cs : List Value},PM Z ks cs → PM Z' ks cs
 | [],_,h => h
 | k :: ks,cs,h => by
  obtain ⟨b,r,h1,h2,h3⟩ := h
  exact ⟨b,r,h1,Fz.lw.cl hz rfl h2,PM.lw hz h3⟩
mutual
theorem SR.lw {Z Z' : Fz} (hz : Fz.lw Z Z') : ∀ {s : FS} {b : Nat},SR Z s b → SR Z' s b
 | .mk ms ch,b,h => by
  simp only [SR] at h ⊢
  obtain ⟨mv,cv,n,n',cs,cs',h1,h2,h3,h4,h5⟩ := h
  exact ⟨mv,cv,n,n',cs,cs',Fz.lw.cl hz rfl h1,h2.mono fun _ _ k => inT.lw hz rfl k,h3.lw hz,h4.mono fun _ _ k => inT.lw hz rfl k,SC.lw hz h5⟩
theorem SC.lw {Z Z' : Fz} (hz : Fz.lw Z Z') : ∀ {ch : List (Nm × FS)} {cs : List Value},SC Z ch cs → SC Z' ch cs
 | [],cs,h => by simp only [SC] at h ⊢; exact h
 | (k,s) :: ch,cs,h => by
  simp only [SC] at h ⊢
  obtain ⟨b,b',r,h1,h2,h3,h4⟩ := h
  exact ⟨b,b',r,h1,Fz.lw.cl hz rfl h2,SR.lw hz h3,SC.lw hz h4⟩
end
theorem SR.mono {Z Z' : Fz} (hz : Fz.le Z Z') {s : FS} {b : Nat} (h : SR Z s b) : SR Z' s b := h.lw hz.lw
theorem SC.mono {Z Z' : Fz} (hz : Fz.le Z Z') {s : Ch} {b : List Value} (h : SC Z s b) : SC Z' s b := h.lw hz.lw
theorem PM.mono {Z Z' : Fz} (hz : Fz.le Z Z') {s : List Nm} {b : List Value} (h : PM Z s b) : PM Z' s b := h.lw hz.lw
theorem PM.len {Z : Fz} : ∀ {ks : List Nm} {cs : List Value},PM Z ks cs → cs.length = ks.length * 4
 | [],_,h => by simp only [PM] at h; subst h; rfl
 | k :: ks,cs,h => by
  obtain ⟨b,r,rfl,_,h3⟩ := h
  simp [h3.len,Nat.add_mul] <;> omega
theorem SC.len {Z : Fz} : ∀ {ch : Ch} {cs : List Value},SC Z ch cs → cs.length = ch.length * 5
 | [],_,h => by simp only [SC] at h; subst h; rfl
 | (k,s) :: ch,cs,h => by
  simp only [SC] at h
  obtain ⟨b,b',r,rfl,_,_,h4⟩ := h
  simp [h4.len,Nat.add_mul] <;> omega
theorem PM.one {Z : Fz} : ∀ {ks : List Nm} {cs : List Value},PM Z ks cs → ∀ u ∈ cs,u.oneCell' = true
 | [],_,h => by simp only [PM] at h; subst h; simp
 | k :: ks,cs,h => by
  obtain ⟨b,r,rfl,_,h3⟩ := h
  intro u hu
  rcases List.mem_append.1 hu with hu | hu
  ·simp only [pe,List.mem_cons,List.not_mem_nil,or_false] at hu
   rcases hu with rfl | rfl | rfl | rfl <;> rfl
  ·exact h3.one u hu
theorem SC.one {Z : Fz} : ∀ {ch : Ch} {cs : List Value},SC Z ch cs → ∀ u ∈ cs,u.oneCell' = true
 | [],_,h => by simp only [SC] at h; subst h; simp
 | (k,s) :: ch,cs,h => by
  simp only [SC] at h
  obtain ⟨b,b',r,rfl,_,_,h4⟩ := h
  intro u hu
  rcases List.mem_append.1 hu with hu | hu
  ·simp only [pe,List.mem_cons,List.not_mem_nil,or_false] at hu
   rcases hu with rfl | rfl | rfl | rfl <;> rfl
  ·rcases List.mem_cons.1 hu with rfl | hu
   ·rfl
   ·exact h4.one u hu
theorem PM.at {Z : Fz} : ∀ {ks : List Nm} {cs : List Value} {j : Nat} {k : Nm},PM Z ks cs → ks[j]? = some k → ∃ b,Z b = some (cl [.string k] 9) ∧ (cs.drop (j * 4)).take 4 = pe b
 | [],_,j,k,_,hj => by simp at hj
 | k' :: ks,cs,j,k,h,hj => by
  obtain ⟨b,r,rfl,h2,h3⟩ := h
  cases j with
  | zero => simp only [List.getElem?_cons_zero,Option.some.injEq] at hj; subst hj; exact ⟨b,h2,rfl⟩
  | succ j =>
   obtain ⟨b',h4,h5⟩ := h3.at (j := j) (by simpa using hj)
   refine ⟨b',h4,?_⟩
   rw [← h5,show (j + 1) * 4 = 4 + j * 4 by omega,← List.drop_drop]
   rfl
theorem SC.at {Z : Fz} : ∀ {ch : Ch} {cs : List Value} {j : Nat} {k : Nm} {s : FS},SC Z ch cs → ch[j]? = some (k,s) → ∃ b b',Z b = some (cl [.string k] 9) ∧ SR Z s b' ∧ (cs.drop (j * 5)).take 5 = pe b ++ [.pointer (some ⟨b',0,none⟩)]
 | [],_,j,k,_,_,hj => by simp at hj
 | (k',s') :: ch,cs,j,k,s,h,hj => by
  simp only [SC] at h
  obtain ⟨b,b',r,rfl,h2,h3,h4⟩ := h
  cases j with
  | zero => simp only [List.getElem?_cons_zero,Option.some.injEq,Prod.mk.injEq] at hj; obtain ⟨rfl,rfl⟩ := hj; exact ⟨b,b',h2,h3,rfl⟩
  | succ j =>
   obtain ⟨c,c',h5,h6,h7⟩ := h4.at (j := j) (by simpa using hj)
   refine ⟨c,c',h5,h6,?_⟩
   rw [← h7,show (j + 1) * 5 = 5 + j * 5 by omega,← List.drop_drop]
   rfl
theorem PM.app {Z : Fz} : ∀ {ks ks' : List Nm} {cs cs' : List Value},PM Z ks cs → PM Z ks' cs' → PM Z (ks ++ ks') (cs ++ cs')
 | [],_,_,_,h,h' => by simp only [PM] at h; subst h; exact h'
 | k :: ks,ks',cs,cs',h,h' => by
  obtain ⟨b,r,rfl,h2,h3⟩ := h
  exact ⟨b,r ++ cs',by simp,h2,h3.app h'⟩
theorem SC.app {Z : Fz} : ∀ {ch ch' : Ch} {cs cs' : List Value},SC Z ch cs → SC Z ch' cs' → SC Z (ch ++ ch') (cs ++ cs')
 | [],_,_,_,h,h' => by simp only [SC] at h; subst h; exact h'
 | (k,s) :: ch,ch',cs,cs',h,h' => by
  simp only [SC] at h
  obtain ⟨b,b',r,rfl,h2,h3,h4⟩ := h
  simp only [List.cons_append,SC]
  exact ⟨b,b',r ++ cs',by simp,h2,h3,h4.app h'⟩
theorem PM.drop {Z : Fz} : ∀ {ks : List Nm} {cs : List Value} (j : Nat),PM Z ks cs → PM Z (ks.drop j) (cs.drop (j * 4))
 | ks,cs,0,h => by simpa using h
 | [],cs,j + 1,h => by simp only [PM] at h; subst h; simp [PM]
 | k :: ks,cs,j + 1,h => by
  obtain ⟨b,r,rfl,h2,h3⟩ := h
  have e : (pe b ++ r).drop ((j + 1) * 4) = r.drop (j * 4) := by
   rw [show (j + 1) * 4 = 4 + j * 4 by omega,← List.drop_drop]; rfl
  rw [e]
  exact h3.drop j
theorem PM.take {Z : Fz} : ∀ {ks : List Nm} {cs : List Value} (j : Nat),PM Z ks cs → PM Z (ks.take j) (cs.take (j * 4))
 | ks,cs,0,h => by simp [PM]
 | [],cs,j + 1,h => by simp only [PM] at h; subst h; simp [PM]
 | k :: ks,cs,j + 1,h => by
  obtain ⟨b,r,rfl,h2,h3⟩ := h
  have := h3.take j
  refine ⟨b,r.take (j * 4),?_,h2,this⟩
  rw [show (j + 1) * 4 = 4 + j * 4 by omega,List.take_add]
  rfl
theorem SC.drop {Z : Fz} : ∀ {ch : Ch} {cs : List Value} (j : Nat),SC Z ch cs → SC Z (ch.drop j) (cs.drop (j * 5))
 | ch,cs,0,h => by simpa using h
 | [],cs,j + 1,h => by simp only [SC] at h; subst h; simp [SC]
 | (k,s) :: ch,cs,j + 1,h => by
  simp only [SC] at h
  obtain ⟨b,b',r,rfl,h2,h3,h4⟩ := h
  have e : (pe b ++ .pointer (some ⟨b',0,none⟩) :: r).drop ((j + 1) * 5) = r.drop (j * 5) := by
   rw [show (j + 1) * 5 = 5 + j * 5 by omega,← List.drop_drop]; rfl
  rw [e]
  exact h4.drop j
theorem SC.take {Z : Fz} : ∀ {ch : Ch} {cs : List Value} (j : Nat),SC Z ch cs → SC Z (ch.take j) (cs.take (j * 5))
 | ch,cs,0,h => by simp [SC]
 | [],cs,j + 1,h => by simp only [SC] at h; subst h; simp [SC]
 | (k,s) :: ch,cs,j + 1,h => by
  simp only [SC] at h
  obtain ⟨b,b',r,rfl,h2,h3,h4⟩ := h
  have := h4.take j
  simp only [List.take_succ_cons,SC]
  refine ⟨b,b',r.take (j * 5),?_,h2,h3,this⟩
  rw [show (j + 1) * 5 = 5 + j * 5 by omega,List.take_add]
  rfl
end Go.Ux
namespace Go.Ux
open Go Go.Proofs
set_option maxRecDepth 20000
attribute [local irreducible] WP Tr
set_option maxHeartbeats 1000000 in
theorem f152 (a b : Nat) (k₁ k₂ : Nm) (Z : Fz) [Zf Z a (cl [.string k₁] 9)] [Zf Z b (cl [.string k₂] 9)] : Pu Tryz.prog 152 #[.agg (pe a).toArray,.agg (pe b).toArray] Z fun v => v = .int .i64 (cmpN k₁ k₂) := by
 refine Pu.intro Tryz.func152 rfl Tryz.ntmps152 Tryz.results152 rfl ?_
 repeat (first | refine gn ?_ | intro _)
 refine WP.drawA mo (by decide +kernel) ?_
 refine gn ?_
 refine ct (f173 k₁ k₂ Z) ?_
 rintro _ _ _ _ ⟨rfl,rfl,rfl⟩
 refine gn ?_
 exact fin1 ⟨rfl,rfl⟩
theorem f144 (a b : Nat) (k₁ k₂ : Nm) (Z : Fz) [Zf Z a (cl [.string k₁] 9)] [Zf Z b (cl [.string k₂] 9)] : Pu Tryz.prog 144 #[.agg (pe a).toArray,.agg (pe b).toArray] Z fun v => v = .bool (decide (ltN k₁ k₂)) := by
 refine Pu.intro Tryz.func144 rfl Tryz.ntmps144 Tryz.results144 rfl ?_
 repeat (first | refine gn ?_ | intro _)
 refine cp (f152 a b k₁ k₂ Z) ?_
 rintro _ rfl
 refine o_lss rfl rfl rfl (r := decide (ltN k₁ k₂)) rfl ?_
 refine gn ?_
 exact fin1 ⟨rfl,rfl⟩
theorem f151 (a b : Nat) (k₁ k₂ : Nm) (Z : Fz) [Zf Z a (cl [.string k₁] 9)] [Zf Z b (cl [.string k₂] 9)] : Pu Tryz.prog 151 #[.agg (pe a).toArray,.agg (pe b).toArray] Z fun v => v = .int .i64 (cmpN k₁ k₂) := by
 refine Pu.intro Tryz.func151 rfl Tryz.ntmps151 Tryz.results151 rfl ?_
 repeat (first | refine gn ?_ | intro _)
 refine cp (f152 a b k₁ k₂ Z) ?_
 rintro _ rfl
 refine gn ?_
 exact fin1 ⟨rfl,rfl⟩
theorem f192 (a b : Nat) (k₁ k₂ : Nm) (Z : Fz) [Zf Z a (cl [.string k₁] 9)] [Zf Z b (cl [.string k₂] 9)] : Pu Tryz.prog 192 #[.agg (pe a).toArray,.agg (pe b).toArray] Z fun v => v = .int .i64 (cmpN k₁ k₂) := by
 refine Pu.intro Tryz.func192 rfl Tryz.ntmps192 Tryz.results192 rfl ?_
 repeat (first | refine gn ?_ | intro _)
 refine cp (f152 a b k₁ k₂ Z) ?_
 rintro _ rfl
 refine gn ?_
 exact fin1 ⟨rfl,rfl⟩
theorem f155 (a b : Nat) (k₁ k₂ : Nm) (u : Value) (_hu : u.oneCell' = true) (Z : Fz) [Zf Z a (cl [.string k₁] 9)] [Zf Z b (cl [.string k₂] 9)] : Pu Tryz.prog 155 #[.agg (pe a ++ [u]).toArray,.agg (pe b).toArray] Z fun v => v = .int .i64 (cmpN k₁ k₂) := by
 refine Pu.intro Tryz.func155 rfl Tryz.ntmps155 Tryz.results155 rfl ?_
 repeat (first | refine gn ?_ | intro _)
 refine cp (f152 a b k₁ k₂ Z) ?_
 rintro _ rfl
 refine gn ?_
 exact fin1 ⟨rfl,rfl⟩
theorem f262 (a b : Nat) (k₁ k₂ : Nm) (u : Value) (_hu : u.oneCell' = true) (Z : Fz) [Zf Z a (cl [.string k₁] 9)] [Zf Z b (cl [.string k₂] 9)] : Pu Tryz.prog 262 #[.agg (pe a ++ [u]).toArray,.agg (pe b).toArray] Z fun v => v = .int .i64 (cmpN k₁ k₂) := by
 refine Pu.intro Tryz.func262 rfl Tryz.ntmps262 Tryz.results262 rfl ?_
 repeat (first | refine gn ?_ | intro _)
 refine cp (f152 a b k₁ k₂ Z) ?_
 rintro _ rfl
 refine gn ?_
 exact fin1 ⟨rfl,rfl⟩
end Go.Ux
namespace Go.Ux
open Go Go.Proofs
set_option maxRecDepth 20000
attribute [local irreducible] WP Tr
theorem Pu.lend {P : Program} {g : FuncId} {args : Array Value} {Z : Fz} {b : Nat} {o : Obj} {Q : Value → Prop} (h : Z b = none → Pu P g args (Z.add b o) Q) : Tr P g args Z [(b,o)] fun v Z' H' => Q v ∧ Z = Z' ∧ H' = [(b,o)] := by
 refine Tr.mono (Tr.lend (H := []) (fun hz => (h hz : Tr _ _ _ _ _ _))) ?_
 rintro v Z' H' ⟨hz,Z₁,H₁,⟨q1,rfl,rfl⟩,_,rfl,rfl⟩
 exact ⟨q1,(Fz.add_del hz).symm,rfl⟩
theorem row_at {xs cs : List Value} {off n k j : Nat} (h : (xs.drop off).take (n * k) = cs) (hj : j < n) : (xs.drop (off + j * k)).take k = (cs.drop (j * k)).take k := by
 subst h
 rw [List.drop_take,List.take_take,List.drop_drop]
 congr 1
 have : j * k + k ≤ n * k := by
  have := Nat.mul_le_mul_right k (show j + 1 ≤ n from hj)
  rwa [Nat.add_mul,Nat.one_mul] at this
 rw [Nat.min_eq_left (by omega)]
def PK (Z : Fz) : List Nm → List Value → Prop
 | [],cs => cs = []
 | k :: ks,cs => ∃ b u r,cs = pe b ++ u :: r ∧ u.oneCell' = true ∧ Z b = some (cl [.string k] 9) ∧ PK Z ks r
theorem PK.lw {Z Z' : Fz} (hz : Fz.lw Z Z') : ∀ {ks : List Nm} {cs : List Value},PK Z ks cs → PK Z' ks cs
 | [],_,h => h
 | k :: ks,cs,h => by
  obtain ⟨b,u,r,h1,h2,h3,h4⟩ := h
  exact ⟨b,u,r,h1,h2,Fz.lw.cl hz rfl h3,PK.lw hz h4⟩
theorem PK.len {Z : Fz} : ∀ {ks : List Nm} {cs : List Value},PK Z ks cs → cs.length = ks.length * 5
 | [],_,h => by simp only [PK] at h; subst h; rfl
 | k :: ks,cs,h => by
  obtain ⟨b,u,r,rfl,_,_,h3⟩ := h
  simp [h3.len,Nat.add_mul] <;> omega
theorem PK.at {Z : Fz} : ∀ {ks : List Nm} {cs : List Value} {j : Nat} {k : Nm},PK Z ks cs → ks[j]? = some k → ∃ b u,Z b = some (cl [.string k] 9) ∧ u.oneCell' = true ∧ (cs.drop (j * 5)).take 5 = pe b ++ [u]
 | [],_,j,k,_,hj => by simp at hj
 | k' :: ks,cs,j,k,h,hj => by
  obtain ⟨b,u,r,rfl,h2,h3,h4⟩ := h
  cases j with
  | zero => simp only [List.getElem?_cons_zero,Option.some.injEq] at hj; subst hj; exact ⟨b,u,h3,h2,rfl⟩
  | succ j =>
   obtain ⟨b',u',h5,h6,h7⟩ := h4.at (j := j) (by simpa using hj)
   refine ⟨b',u',h5,h6,?_⟩
   rw [← h7,show (j + 1) * 5 = 5 + j * 5 by omega,← List.drop_drop]
   rfl
theorem SC.pk {Z : Fz} : ∀ {ch : Ch} {cs : List Value},SC Z ch cs → PK Z (ch.map (·.1)) cs
 | [],cs,h => by simp only [SC] at h; exact h
 | (k,s) :: ch,cs,h => by
  simp only [SC] at h
  obtain ⟨b,b',r,rfl,h2,h3,h4⟩ := h
  exact ⟨b,_,r,rfl,rfl,h2,h4.pk⟩
def Found (ks : List Nm) (k : Nm) (i : Nat) (f : Bool) : Prop := ∃ A B,ks = A ++ B ∧ A.length = i ∧ (∀ x ∈ A,ltN x k) ∧ ((f = true ∧ ∃ B',B = k :: B') ∨ (f = false ∧ ∀ x ∈ B,ltN k x))
theorem inc_below {ks : List Nm} (h : Inc ks) {m : Nat} {x k : Nm} (hm : ks[m]? = some x) (hx : ltN x k) : ∀ y ∈ ks.take (m + 1),ltN y k := by
 intro y hy
 obtain ⟨i,hi,rfl⟩ := List.mem_iff_getElem.1 hy
 rw [List.getElem_take]
 simp only [List.length_take] at hi
 have hm' : m < ks.length := (List.getElem?_eq_some_iff.1 hm).1
 have hxe : ks[m] = x := (List.getElem?_eq_some_iff.1 hm).2
 rcases Nat.lt_or_ge i m with h1 | h1
 ·exact (List.pairwise_iff_getElem.1 h i m (by omega) hm' h1).trans (hxe ▸ hx)
 ·have : i = m := by omega
  subst this; rw [hxe]; exact hx
theorem inc_above {ks : List Nm} (h : Inc ks) {m : Nat} {x k : Nm} (hm : ks[m]? = some x) (hx : ¬ ltN x k) : ∀ y ∈ ks.drop m,¬ ltN y k := by
 intro y hy hlt
 obtain ⟨i,hi,rfl⟩ := List.mem_iff_getElem.1 hy
 rw [List.getElem_drop] at hlt
 simp only [List.length_drop] at hi
 have hm' : m < ks.length := (List.getElem?_eq_some_iff.1 hm).1
 have hxe : ks[m] = x := (List.getElem?_eq_some_iff.1 hm).2
 rcases Nat.eq_zero_or_pos i with h0 | h0
 ·subst h0; exact hx (by rw [← hxe]; simpa using hlt)
 ·have := List.pairwise_iff_getElem.1 h m (m + i) hm' (by omega) (by omega)
  exact hx (hxe ▸ this.trans hlt)
theorem found_of {ks : List Nm} (h : Inc ks) {i : Nat} {k : Nm} (hi : i ≤ ks.length) (h1 : ∀ y ∈ ks.take i,ltN y k) (h2 : ∀ y ∈ ks.drop i,¬ ltN y k) (f : Bool) (hf : f = true ↔ ks[i]? = some k) : Found ks k i f := by
 refine ⟨ks.take i,ks.drop i,(List.take_append_drop i ks).symm,by simp [hi],h1,?_⟩
 have hd : ∀ x,(ks.drop i)[0]? = some x ↔ ks[i]? = some x := fun x => by rw [List.getElem?_drop]; simp
 cases f with
 | true =>
  refine .inl ⟨rfl,?_⟩
  have := (hd k).2 (hf.1 rfl)
  cases hB : ks.drop i with
  | nil => rw [hB] at this; simp at this
  | cons y B => rw [hB] at this; simp at this; subst this; exact ⟨B,rfl⟩
 | false =>
  refine .inr ⟨rfl,fun x hx => ?_⟩
  rcases ltN_tri k x with hh | rfl | hh
  ·exact hh
  ·exfalso
   have hk : ks[i]? ≠ some k := fun e => by have := hf.2 e; cases this
   obtain ⟨j,hj,e⟩ := List.mem_iff_getElem.1 hx
   rw [List.getElem_drop] at e
   simp only [List.length_drop] at hj
   rcases Nat.eq_zero_or_pos j with h0 | h0
   ·subst h0; exact hk (by rw [List.getElem?_eq_some_iff]; exact ⟨by omega,by simpa using e⟩)
   ·have := List.pairwise_iff_getElem.1 h i (i + j) (by omega) (by omega) (by omega)
    rw [e] at this
    refine h2 ks[i] ?_ this
    rw [List.mem_iff_getElem]
    exact ⟨0,by simp; omega,by simp⟩
  ·exact absurd hh (h2 x hx)
def CmpF (g : FuncId) : Prop := ∀ (a b : Nat) (k₁ k₂ : Nm) (Z : Fz),Z a = some (cl [.string k₁] 9) → Z b = some (cl [.string k₂] 9) → Pu Tryz.prog g #[.agg (pe a).toArray,.agg (pe b).toArray] Z fun v => v = .int .i64 (cmpN k₁ k₂)
def CmpG (g : FuncId) : Prop := ∀ (a b : Nat) (k₁ k₂ : Nm) (u : Value) (Z : Fz),u.oneCell' = true → Z a = some (cl [.string k₁] 9) → Z b = some (cl [.string k₂] 9) → Pu Tryz.prog g #[.agg (pe a ++ [u]).toArray,.agg (pe b).toArray] Z fun v => v = .int .i64 (cmpN k₁ k₂)
theorem cmp151 : CmpF 151 := fun a b k₁ k₂ Z ha hb => haveI : Zf Z a _ := ⟨.of (ha)⟩; haveI : Zf Z b _ := ⟨.of (hb)⟩; f151 a b k₁ k₂ Z
theorem cmp192 : CmpF 192 := fun a b k₁ k₂ Z ha hb => haveI : Zf Z a _ := ⟨.of (ha)⟩; haveI : Zf Z b _ := ⟨.of (hb)⟩; f192 a b k₁ k₂ Z
theorem cmp155 : CmpG 155 := fun a b k₁ k₂ u Z hu ha hb => haveI : Zf Z a _ := ⟨.of (ha)⟩; haveI : Zf Z b _ := ⟨.of (hb)⟩; f155 a b k₁ k₂ u hu Z
theorem cmp262 : CmpG 262 := fun a b k₁ k₂ u Z hu ha hb => haveI : Zf Z a _ := ⟨.of (ha)⟩; haveI : Zf Z b _ := ⟨.of (hb)⟩; f262 a b k₁ k₂ u hu Z
set_option maxHeartbeats 2000000 in
theorem f150 (g : FuncId) [Ent Tryz.prog g] (hg : CmpF g) (sv : Value) (n nb : Nat) (k : Nm) (ks : List Nm) (cs : List Value) (Z : Fz) (hs : Rs (inZ Z) 4 sv n cs) (hc : PM Z ks cs) (hi : Inc ks) (hn : n ≤ 1099511627776) (hb : Z nb = some (cl [.string k] 9)) :
  Pu Tryz.prog 150 #[sv,.agg (pe nb).toArray,.func (.func g) #[] #[]] Z fun v => ∃ (i : Nat) (f : Bool),v = .tuple #[.int .i64 i,.bool f] ∧ Found ks k i f := by
 have hlen : cs.length = n * 4 := by cases hs <;> first | rfl | assumption
 have hkn : ks.length = n := by have := hc.len; omega
 obtain ⟨oa,c,rfl⟩ : ∃ oa c,sv = .slice oa n c := by cases hs <;> exact ⟨_,_,rfl⟩
 haveI : Zf Z nb (cl [.string k] 9) := ⟨hb⟩
 refine Pu.intro Tryz.func150 rfl Tryz.ntmps150 Tryz.results150 rfl ?_
 repeat (first | refine gn ?_ | intro _)
 rename_i nbx
 refine WP.loopM [9,10,11,15,16,17,18,19,20,21,22,23,24,25,26,27,28,29,30,31,32,33,34]
  (fun m g' Z' H' => ∃ (i j : Nat),g' 9 = .int .i64 i ∧ g' 10 = .int .i64 j ∧ m = j - i ∧ i ≤ j ∧ j ≤ n ∧ (∀ y ∈ ks.take i,ltN y k) ∧ (∀ y ∈ ks.drop j,¬ ltN y k) ∧ Z = Z' ∧ H' = [(nbx,cl (pe nb) 308)]) n ?_ ?_
 ·exact ⟨0,n,rfl,rfl,by omega,by omega,by omega,by simp,by rw [← hkn]; simp,rfl,rfl⟩
 rintro m g' Z' H' _ ⟨i,j,h9,h10,rfl,hij,hjn,h1,h2,rfl,rfl⟩
 refine WP.pin 9 h9 ?_
 refine WP.pin 10 h10 ?_
 refine gn ?_
 by_cases hlt : i < j
 ·cases hs with
  | nil c => omega
  | emp => omega
  | row rb off n c U xs ds hr hd hl =>
  haveI : Zf Z rb (cl xs U) := ⟨hr⟩
  refine gn ?_
  refine o_toU rfl rfl (by omega) (by omega) ?_
  refine o_half (a := i + j) rfl rfl (by omega) ?_
  refine o_toI rfl rfl (by omega) (by omega) ?_
  refine gn ?_
  generalize hm : (i + j) / 2 = m
  have hm1 : i ≤ m ∧ m < j := by omega
  obtain ⟨x,hx⟩ : ∃ x,ks[m]? = some x := ⟨ks[m],by simp⟩
  obtain ⟨xb,hxb,hxc⟩ := hc.at hx
  haveI : Zf Z xb (cl [.string x] 9) := ⟨hxb⟩
  refine WP.drawA mo (by decide +kernel) ?_
  refine gn ?_
  refine o_indexAddr rfl rfl rfl (by omega) ?_
  refine o_loadN rfl rfl ((row_at hd (by omega)).trans hxc) rfl ?_
  refine gn ?_
  refine cvp (hg xb nb x k Z hxb hb) ?_
  rintro _ rfl
  refine o_lss rfl rfl rfl (r := decide (ltN x k)) rfl ?_
  by_cases hxk : ltN x k
  ·rw [decide_eq_true hxk]
   refine gn ?_
   refine ⟨bk,j - (m + 1),by omega,m + 1,j,rfl,rfl,rfl,by omega,hjn,inc_below hi hx hxk,h2,rfl,rfl⟩
  ·rw [decide_eq_false hxk]
   refine gn ?_
   refine ⟨bk,m - i,by omega,i,m,rfl,rfl,rfl,by omega,by omega,h1,inc_above hi hx hxk,rfl,rfl⟩
 ·have hij' : i = j := by omega
  subst hij'
  refine o_lss rfl rfl rfl (r := false) (decide_eq_false (by omega)) ?_
  refine gn ?_
  refine WP.drawA mo (by decide +kernel) ?_
  by_cases hin : i < n
  ·cases hs with
   | nil c => omega
   | emp => omega
   | row rb off n c U xs ds hr hd hl =>
   haveI : Zf Z rb (cl xs U) := ⟨hr⟩
   obtain ⟨x,hx⟩ : ∃ x,ks[i]? = some x := ⟨ks[i],by simp⟩
   obtain ⟨xb,hxb,hxc⟩ := hc.at hx
   haveI : Zf Z xb (cl [.string x] 9) := ⟨hxb⟩
   refine gn ?_
   refine o_indexAddr rfl rfl rfl hin ?_
   refine o_loadN rfl rfl ((row_at hd hin).trans hxc) rfl ?_
   refine gn ?_
   refine cvp (hg xb nb x k Z hxb hb) ?_
   rintro _ rfl
   refine o_eqi rfl rfl rfl (r := decide (cmpN x k = 0)) rfl ?_
   refine gn ?_
   refine fin2 ⟨⟨i,decide (cmpN x k = 0),rfl,found_of hi (by omega) h1 h2 _ ?_⟩,rfl⟩
   rw [decide_eq_true_iff,cmpN_zero_iff,hx,Option.some.injEq]
  ·refine gn ?_
   refine fin2 ⟨⟨i,false,rfl,found_of hi (by omega) h1 h2 _ ?_⟩,rfl⟩
   rw [List.getElem?_eq_none (by omega)]
   simp
set_option maxHeartbeats 2000000 in
theorem f154 (g : FuncId) [Ent Tryz.prog g] (hg : CmpG g) (sv : Value) (n nb : Nat) (k : Nm) (ks : List Nm) (cs : List Value) (Z : Fz) (hs : Rs (inZ Z) 5 sv n cs) (hc : PK Z ks cs) (hi : Inc ks) (hn : n ≤ 1099511627776) (hb : Z nb = some (cl [.string k] 9)) :
  Pu Tryz.prog 154 #[sv,.agg (pe nb).toArray,.func (.func g) #[] #[]] Z fun v => ∃ (i : Nat) (f : Bool),v = .tuple #[.int .i64 i,.bool f] ∧ Found ks k i f := by
 have hlen : cs.length = n * 5 := by cases hs <;> first | rfl | assumption
 have hkn : ks.length = n := by have := hc.len; omega
 obtain ⟨oa,c,rfl⟩ : ∃ oa c,sv = .slice oa n c := by cases hs <;> exact ⟨_,_,rfl⟩
 haveI : Zf Z nb (cl [.string k] 9) := ⟨hb⟩
 refine Pu.intro Tryz.func154 rfl Tryz.ntmps154 Tryz.results154 rfl ?_
 repeat (first | refine gn ?_ | intro _)
 rename_i nbx
 refine WP.loopM [9,10,11,15,16,17,18,19,20,21,22,23,24,25,26,27,28,29,30,31,32,33,34]
  (fun m g' Z' H' => ∃ (i j : Nat),g' 9 = .int .i64 i ∧ g' 10 = .int .i64 j ∧ m = j - i ∧ i ≤ j ∧ j ≤ n ∧ (∀ y ∈ ks.take i,ltN y k) ∧ (∀ y ∈ ks.drop j,¬ ltN y k) ∧ Z = Z' ∧ H' = [(nbx,cl (pe nb) 308)]) n ?_ ?_
 ·exact ⟨0,n,rfl,rfl,by omega,by omega,by omega,by simp,by rw [← hkn]; simp,rfl,rfl⟩
 rintro m g' Z' H' _ ⟨i,j,h9,h10,rfl,hij,hjn,h1,h2,rfl,rfl⟩
 refine WP.pin 9 h9 ?_
 refine WP.pin 10 h10 ?_
 refine gn ?_
 by_cases hlt : i < j
 ·cases hs with
  | nil c => omega
  | emp => omega
  | row rb off n c U xs ds hr hd hl =>
  haveI : Zf Z rb (cl xs U) := ⟨hr⟩
  refine gn ?_
  refine o_toU rfl rfl (by omega) (by omega) ?_
  refine o_half (a := i + j) rfl rfl (by omega) ?_
  refine o_toI rfl rfl (by omega) (by omega) ?_
  refine gn ?_
  generalize hm : (i + j) / 2 = m
  have hm1 : i ≤ m ∧ m < j := by omega
  obtain ⟨x,hx⟩ : ∃ x,ks[m]? = some x := ⟨ks[m],by simp⟩
  obtain ⟨xb,xu,hxb,hxu,hxc⟩ := hc.at hx
  haveI : Zf Z xb (cl [.string x] 9) := ⟨hxb⟩
  refine WP.drawA mo (by decide +kernel) ?_
  refine gn ?_
  refine o_indexAddr rfl rfl rfl (by omega) ?_
  refine o_loadN rfl rfl ((row_at hd (by omega)).trans hxc) rfl ?_
  refine gn ?_
  refine cvp (hg xb nb x k xu Z hxu hxb hb) ?_
  rintro _ rfl
  refine o_lss rfl rfl rfl (r := decide (ltN x k)) rfl ?_
  by_cases hxk : ltN x k
  ·rw [decide_eq_true hxk]
   refine gn ?_
   refine ⟨bk,j - (m + 1),by omega,m + 1,j,rfl,rfl,rfl,by omega,hjn,inc_below hi hx hxk,h2,rfl,rfl⟩
  ·rw [decide_eq_false hxk]
   refine gn ?_
   refine ⟨bk,m - i,by omega,i,m,rfl,rfl,rfl,by omega,by omega,h1,inc_above hi hx hxk,rfl,rfl⟩
 ·have hij' : i = j := by omega
  subst hij'
  refine o_lss rfl rfl rfl (r := false) (decide_eq_false (by omega)) ?_
  refine gn ?_
  refine WP.drawA mo (by decide +kernel) ?_
  by_cases hin : i < n
  ·cases hs with
   | nil c => omega
   | emp => omega
   | row rb off n c U xs ds hr hd hl =>
   haveI : Zf Z rb (cl xs U) := ⟨hr⟩
   obtain ⟨x,hx⟩ : ∃ x,ks[i]? = some x := ⟨ks[i],by simp⟩
   obtain ⟨xb,xu,hxb,hxu,hxc⟩ := hc.at hx
   haveI : Zf Z xb (cl [.string x] 9) := ⟨hxb⟩
   refine gn ?_
   refine o_indexAddr rfl rfl rfl hin ?_
   refine o_loadN rfl rfl ((row_at hd hin).trans hxc) rfl ?_
   refine gn ?_
   refine cvp (hg xb nb x k xu Z hxu hxb hb) ?_
   rintro _ rfl
   refine o_eqi rfl rfl rfl (r := decide (cmpN x k = 0)) rfl ?_
   refine gn ?_
   refine fin2 ⟨⟨i,decide (cmpN x k = 0),rfl,found_of hi (by omega) h1 h2 _ ?_⟩,rfl⟩
   rw [decide_eq_true_iff,cmpN_zero_iff,hx,Option.some.injEq]
  ·refine gn ?_
   refine fin2 ⟨⟨i,false,rfl,found_of hi (by omega) h1 h2 _ ?_⟩,rfl⟩
   rw [List.getElem?_eq_none (by omega)]
   simp
end Go.Ux
namespace Go.Ux
open Go Go.Proofs
set_option maxRecDepth 20000
section
variable {P : Program} {n : Nat} {all : Array Oper} {dr : Bool} {Pin : Hp} {K : Fr → Fz → Hp → Prop} {rest : List Oper} {l : List Lay} {D : List Deferred} {Z : Fz} {H : Hp}
variable {dst : Option Tmp} {d : Tmp} {ty : TypeId} {pos : String} {af : Array Edge} {gd : Option (Nat × Bool)} {x y z : Operand} {T T' : TypeId} {b off : Nat} {v u : Value}
theorem int_eq {k : IntKind} {a b : Int} (h : a = b) : Value.int k a = Value.int k b := by rw [h]
theorem oap {e k T' e' m : Nat} {xv yv : Value} {cs ds : List Value} {Hx Hr : Hp} [El P e k] [Sty P T e] [Sty P T' e'] (hsl : Sl e k xv cs Hx) (hg : okO n all ⟨l,D⟩ ⟨some d,.call ⟨.builtin .append,#[x,y],#[T,T']⟩,ty,pos,af,gd⟩ = true)
  (hx : ev ⟨l,D⟩ x = xv) (hy : ev ⟨l,D⟩ y = yv) [hp : Spl Hx H Hr] (hrs : Rs (fun b o => Mem false Z Pin Hr b o) k yv m ds) (h1 : ∀ u ∈ ds,u.oneCell' = true) (hk : 0 < k) (hsz : cs.length + ds.length ≤ 137438953472)
  (h : ∀ v H',Sl e k v (cs ++ ds) H' → Rg P n all dr Pin K rest ⟨.s d v :: l,D⟩ Z (H' ++ Hr)) : Rg P n all dr Pin K (⟨some d,.call ⟨.builtin .append,#[x,y],#[T,T']⟩,ty,pos,af,gd⟩ :: rest) ⟨l,D⟩ Z H :=
 o_append Hr hg hx hy hp.h hsl hrs h1 hk hsz h
theorem Rs.cells {R : Nat → Obj → Prop} {k b U : Nat} {ds : List Value} {n c : Nat} (h : R b (cl ds U)) (hl : ds.length = n * k) (hn : n ≤ c) : Rs R k (.slice (some ⟨b,0,none⟩) n c) n ds :=
 .row b 0 n c U ds ds h (by simp [← hl]) hl hn
theorem o_sliceLs {e k : Nat} {ag : Bool} {ik : IntKind} {len cap j : Nat} [Und P T (.slice e)] [Ty P e k ag] (hg : okO n all ⟨l,D⟩ ⟨some d,.slice T x (some y) none none,ty,pos,af,gd⟩ = true)
  (hx : ev ⟨l,D⟩ x = .slice (some ⟨b,off,none⟩) len cap) (hy : ev ⟨l,D⟩ y = .int ik (Int.ofNat j)) (hj : j ≤ len) (hc : j < cap) (h : Rg P n all dr Pin K rest ⟨.s d (.slice (some ⟨b,off + j * k,none⟩) (len - j) (cap - j)) :: l,D⟩ Z H) :
  Rg P n all dr Pin K (⟨some d,.slice T x (some y) none none,ty,pos,af,gd⟩ :: rest) ⟨l,D⟩ Z H := by
 refine o_sliceL hg hx hy hj ?_
 rw [if_neg (by omega)]
 simp only [Option.map_some,addr_add]
 exact h
theorem o_extW {g : FuncId} {xs : List Operand} {ats : Array TypeId} {args : List Value}
  (hg : okO n all ⟨l,D⟩ ⟨some d,.call ⟨.value (.func g),xs.toArray,ats⟩,ty,pos,af,gd⟩ = true) (hv : ∀ w,Sat w Z (Pin ++ H) → (callFunc g args.toArray).run P w = .ok (.value v) w) (ha : xs.map (ev ⟨l,D⟩) = args)
  (h : Rg P n all dr Pin K rest ⟨.s d v :: l,D⟩ Z H) : Rg P n all dr Pin K (⟨some d,.call ⟨.value (.func g),xs.toArray,ats⟩,ty,pos,af,gd⟩ :: rest) ⟨l,D⟩ Z H := by
 refine o_e (fun v' Z₁ H₁ => v' = v ∧ Z₁ = Z ∧ H₁ = H) hg rfl (fun w F hs => ?_) ?_
 ·have hs1 : Sat w Z (Pin ++ H) := by
   have hs1 : Sat w Z (F ++ (Pin ++ H)) := hs.perm (by rw [← List.append_assoc]; exact List.perm_append_comm)
   exact hs1.drop
  have hrun : (execOp (ev ⟨l,D⟩) ⟨some d,.call ⟨.value (.func g),xs.toArray,ats⟩,ty,pos,af,gd⟩).run P w = .ok (.value v) w := by
   show Sem.run P (do let d ← resolve (ev ⟨l,D⟩) ⟨.value (.func g),xs.toArray,ats⟩ ty; invoke d.target d.args) w = _
   simp only [resolve,ev,Deferred.ofValue,invoke,Sem.run_bind,Sem.run_pure,Result.andThen_ok,List.map_toArray,ha,Array.empty_append,Array.append_empty,hv w hs1]
  unfold RunO
  rw [hrun]
  exact ⟨Z,H,.refl Z,hs,.refl w,rfl,rfl,rfl⟩
 ·rintro v' Z₁ H₁ _ ⟨rfl,rfl,rfl⟩
  exact h
end
theorem setL_eq {xs vs : List Value} {off : Nat} (h : off + vs.length ≤ xs.length) : setL xs off vs = xs.take off ++ vs ++ xs.drop (off + vs.length) := by
 have := setL_mid vs (xs.take off) (xs.drop off) (by simp; omega)
 rw [List.take_append_drop,List.length_take,Nat.min_eq_left (by omega),List.drop_drop] at this
 exact this
theorem overlaps176 (w : World) (vb b o lb cb : Nat) (es xs : List Value) (U : Nat) (hne : vb ≠ b) (h1 : w.heap[vb]? = some (cl es 308)) (h2 : w.heap[b]? = some (cl xs U)) (hx : xs ≠ []) :
  (callFunc 176 #[.slice (some ⟨vb,0,none⟩) 1 1,.slice (some ⟨b,o,none⟩) lb cb]).run Tryz.prog w = .ok (.value (.bool false)) w := by
 have h : (callFunc 176 #[.slice (some ⟨vb,0,none⟩) 1 1,.slice (some ⟨b,o,none⟩) lb cb]).run Tryz.prog w =
   (do mark (.extern 176); pure (Next.value (← Extern.SlicesOverlaps.overlaps #[209,209] #[4] #[.slice (some ⟨vb,0,none⟩) 1 1,.slice (some ⟨b,o,none⟩) lb cb])) : Sem Next).run Tryz.prog w := by kernel_rfl
 rw [h]
 have e := Lib.run_overlaps_apart (P := Tryz.prog) w 209 4 308 (by kernel_rfl) 4 (fun w => by kernel_rfl) ⟨vb,0,none⟩ ⟨b,o,none⟩ 1 1 lb cb hne 308 U es.length xs.length (by simp [World.shape?,h1]) (by simp [World.shape?,h2])
  (by simpa using hx) (by simp [World.frozen?,h1]) (by simp [World.frozen?,h1])
 simp only [Sem.run_bind,run_mark,Result.andThen_ok,e,Sem.run_pure]
theorem overlaps178 (w : World) (vb b o lb cb : Nat) (es xs : List Value) (U : Nat) (hne : vb ≠ b) (h1 : w.heap[vb]? = some (cl es 331)) (h2 : w.heap[b]? = some (cl xs U)) (hx : xs ≠ []) :
  (callFunc 178 #[.slice (some ⟨vb,0,none⟩) 1 1,.slice (some ⟨b,o,none⟩) lb cb]).run Tryz.prog w = .ok (.value (.bool false)) w := by
 have h : (callFunc 178 #[.slice (some ⟨vb,0,none⟩) 1 1,.slice (some ⟨b,o,none⟩) lb cb]).run Tryz.prog w =
   (do mark (.extern 178); pure (Next.value (← Extern.SlicesOverlaps.overlaps #[276,276] #[4] #[.slice (some ⟨vb,0,none⟩) 1 1,.slice (some ⟨b,o,none⟩) lb cb])) : Sem Next).run Tryz.prog w := by kernel_rfl
 rw [h]
 have e := Lib.run_overlaps_apart (P := Tryz.prog) w 276 4 331 (by kernel_rfl) 5 (fun w => by kernel_rfl) ⟨vb,0,none⟩ ⟨b,o,none⟩ 1 1 lb cb hne 331 U es.length xs.length (by simp [World.shape?,h1]) (by simp [World.shape?,h2])
  (by simpa using hx) (by simp [World.frozen?,h1]) (by simp [World.frozen?,h1])
 simp only [Sem.run_bind,run_mark,Result.andThen_ok,e,Sem.run_pure]
attribute [local irreducible] WP Tr
theorem Sl.val {e k : Nat} {v : Value} {cs : List Value} {H : Hp} (h : Sl e k v cs H) : ∃ a n c,v = .slice a n c ∧ cs.length = n * k ∧ n ≤ c := by
 cases h with
 | nil => exact ⟨none,0,0,rfl,by simp,by omega⟩
 | row b n c cs rest h1 h2 hn => exact ⟨_,n,c,rfl,h1,hn⟩
theorem Sl.one {e k : Nat} {v : Value} {cs : List Value} {H : Hp} (h : Sl e k v cs H) : One v := by
 obtain ⟨_,_,_,rfl,_⟩ := h.val
 infer_instance
set_option maxHeartbeats 2000000 in
theorem f153 (sv : Value) (i vb : Nat) (cs es : List Value) (Hx : Hp) (Z : Fz) (hs : Sl 308 4 sv cs Hx) (hl : es.length = 4) (hi : i * 4 ≤ cs.length) (h1 : cs.all Value.oneCell' = true) (h2 : es.all Value.oneCell' = true) (hn : cs.length ≤ 68719476736) :
  Tr Tryz.prog 153 #[sv,.int .i64 i,.slice (some ⟨vb,0,none⟩) 1 1] Z (Hx ++ [(vb,cl es 308)]) fun v Z' H' => Z = Z' ∧ Sl 308 4 v (cs.take (i * 4) ++ es ++ cs.drop (i * 4)) H' := by
 obtain ⟨oa,n,c,rfl,hcl,hnc⟩ := hs.val
 refine Tr.introk Tryz.func153 rfl Tryz.ntmps153 Tryz.results153 rfl ?_
 refine gn ?_
 refine o_sliceL rfl rfl rfl (by omega) ?_
 refine gn ?_
 by_cases hin : i = n
 ·subst hin
  refine gn ?_
  refine oap hs rfl rfl rfl (Rs.cells (inferInstance : Mem false Z [] _ vb (cl es 308)) (by omega) (Nat.le_refl 1)) (by simpa using h2) (by omega) (by omega) ?_
  intro v H' hv
  refine gn ?_
  refine fk1 (A := H') ⟨rfl,?_⟩
  rw [List.take_of_length_le (by omega),List.drop_of_length_le (by omega),List.append_nil]
  exact hv
 ·refine gn ?_
  refine o_cap rfl rfl ?_
  cases hs with
  | nil => simp only [List.length_nil] at hi; omega
  | row b _ _ _ ro hr1 hr2 hr3 =>
  have hlen : (cs ++ ro).length = c * 4 := by
   rw [List.length_append,hr1,hr2,← Nat.add_mul]; congr 1; omega
  have hin' : i < n := by omega
  by_cases hroom : c < n + 1
  ·have hc : c = n := by omega
   subst hc
   refine o_gtr rfl rfl rfl (r := true) (decide_eq_true (by simp only [Int.ofNat_eq_natCast]; omega)) ?_
   refine gn ?_
   refine o_sliceH rfl rfl rfl (by omega) ?_
   refine gn ?_
   refine o_growZ (k := 4) (i := i) (m := c + 1 - i) (cs := cs.take (i * 4)) (kn := .i64) (fun w => by kernel_rfl) rfl rfl (int_eq (by simp only [Int.ofNat_eq_natCast]; omega)) ?_ ?_ (by omega) (by omega) (by omega) (by omega) ?_
   ·rw [List.take_append_of_le_length (by omega)]
   ·simp; omega
   intro b' c' ro' hro' hc'
   refine gn ?_
   refine o_sliceLs rfl rfl rfl (by omega) (by omega) ?_
   refine gn ?_
   refine o_copy (k := 4) (m := 1) (cs := es) rfl rfl rfl ?_ ?_ (by omega) ?_ h2 ?_
   ·simp only [Nat.min_def]; split <;> omega
   ·rw [List.drop_zero,List.take_of_length_le (by omega)]
   ·simp; omega
   refine gn ?_
   refine WP.drawT [(vb,cl es 308),(b,cl (cs ++ ro) 308)] [(b',cl (setL (cs.take (i * 4) ++ ro') (0 + i * 4) es) 308)] mo (by decide +kernel) (prm rfl) ?_
   refine gn ?_
   refine o_sliceLs (j := i + 1) rfl rfl (int_eq (by simp only [Int.ofNat_eq_natCast]; omega)) (by omega) (by omega) ?_
   refine gn ?_
   refine o_sliceLs (j := i) rfl rfl rfl (by omega) (by omega) ?_
   refine o_copy (k := 4) (m := c - i) (cs := cs.drop (i * 4)) rfl rfl rfl ?_ ?_ ?_ ?_ ?_ ?_
   ·simp only [Nat.min_def]; split <;> omega
   ·rw [Nat.zero_add,List.drop_append_of_le_length (by omega),List.take_append_of_le_length (by simp; omega),List.take_of_length_le (by simp; omega)]
   ·simp; omega
   ·simp [setL_length]; omega
   ·rw [List.all_eq_true] at h1 ⊢
    exact fun u hu => h1 u (List.mem_of_mem_drop hu)
   refine gn ?_
   refine fk1 (A := [(b',cl (setL (setL (cs.take (i * 4) ++ ro') (0 + i * 4) es) (0 + (i + 1) * 4) (cs.drop (i * 4))) 308)]) ⟨rfl,?_⟩
   have e1 : setL (cs.take (i * 4) ++ ro') (0 + i * 4) es = cs.take (i * 4) ++ es ++ ro'.drop 4 := by
    have := setL_mid es (cs.take (i * 4)) ro' (by omega)
    rw [List.length_take,Nat.min_eq_left (by omega),hl] at this
    rw [Nat.zero_add]; exact this
   have e2 : setL (cs.take (i * 4) ++ es ++ ro'.drop 4) (0 + (i + 1) * 4) (cs.drop (i * 4)) = cs.take (i * 4) ++ es ++ cs.drop (i * 4) ++ (ro'.drop 4).drop (cs.drop (i * 4)).length := by
    have := setL_mid (cs.drop (i * 4)) (cs.take (i * 4) ++ es) (ro'.drop 4) (by simp; omega)
    rw [List.length_append,List.length_take,Nat.min_eq_left (by omega),hl] at this
    rw [Nat.zero_add,Nat.add_mul,Nat.one_mul]; exact this
   rw [e1,e2]
   have e3 : (i + (c + 1 - i)) = c + 1 := by omega
   rw [e3]
   exact .row b' (c + 1) c' _ _ (by simp; omega) (by simp; omega) (by omega)
  ·refine o_gtr rfl rfl rfl (r := false) (decide_eq_false (by simp only [Int.ofNat_eq_natCast]; omega)) ?_
   refine gn ?_
   refine o_sliceH (j := n + 1) rfl rfl (int_eq (by simp only [Int.ofNat_eq_natCast]; omega)) (by omega) ?_
   refine gn ?_
   refine o_sliceLs (j := i + 1) rfl rfl (int_eq (by simp only [Int.ofNat_eq_natCast]; omega)) (by omega) (by omega) ?_
   refine o_extW rfl (fun w hw => overlaps176 w vb b _ _ _ es (cs ++ ro) 308 ?_ ?_ ?_ ?_) rfl ?_
   ·have := hw.nd
    simp at this
    exact fun e => this (e ▸ rfl)
   ·exact hw.own (vb,_) (by simp)
   ·exact hw.own (b,_) (by simp)
   ·intro e; rw [e] at hlen; simp at hlen; omega
   refine gn ?_
   refine WP.drawT [(vb,cl es 308)] [(b,cl (cs ++ ro) 308)] mo (by decide +kernel) (prm rfl) ?_
   refine gn ?_
   refine o_sliceLs (j := i + 1) rfl rfl (int_eq (by simp only [Int.ofNat_eq_natCast]; omega)) (by omega) (by omega) ?_
   refine gn ?_
   refine o_sliceLs (j := i) rfl rfl rfl (by omega) (by omega) ?_
   refine o_copy (k := 4) (m := n - i) (cs := cs.drop (i * 4)) rfl rfl rfl ?_ ?_ ?_ ?_ ?_ ?_
   ·simp only [Nat.min_def]; split <;> omega
   ·rw [Nat.zero_add,List.drop_append_of_le_length (by omega),List.take_append_of_le_length (by simp; omega),List.take_of_length_le (by simp; omega)]
   ·simp; omega
   ·rw [hlen]; simp; omega
   ·rw [List.all_eq_true] at h1 ⊢
    exact fun u hu => h1 u (List.mem_of_mem_drop hu)
   refine gn ?_
   refine o_sliceLs (j := i) rfl rfl rfl (by omega) (by omega) ?_
   refine gn ?_
   refine o_copy (k := 4) (m := 1) (cs := es) rfl rfl rfl ?_ ?_ (by omega) ?_ h2 ?_
   ·simp only [Nat.min_def]; split <;> omega
   ·rw [List.drop_zero,List.take_of_length_le (by omega)]
   ·rw [setL_length,hlen]; omega
   refine gn ?_
   refine fk1 (A := [(b,cl (setL (setL (cs ++ ro) (0 + (i + 1) * 4) (cs.drop (i * 4))) (0 + i * 4) es) 308)]) ⟨rfl,?_⟩
   have e1 : setL (setL (cs ++ ro) (0 + (i + 1) * 4) (cs.drop (i * 4))) (0 + i * 4) es = cs.take (i * 4) ++ es ++ cs.drop (i * 4) ++ ro.drop 4 := by
    have hq : (cs.drop (i * 4)).length = (n - i) * 4 := by rw [List.length_drop]; omega
    rw [Nat.zero_add,Nat.zero_add,setL_eq (xs := cs ++ ro) (by rw [hq,hlen]; omega),hq]
    have q1 : ((cs ++ ro).take ((i + 1) * 4)).length = (i + 1) * 4 := by rw [List.length_take,hlen]; omega
    have q2 : (cs ++ ro).take ((i + 1) * 4) = cs.take (i * 4) ++ ((cs ++ ro).drop (i * 4)).take 4 := by
     rw [Nat.add_mul,Nat.one_mul,List.take_add,List.take_append_of_le_length (by omega)]
    have q3 : (cs ++ ro).drop ((i + 1) * 4 + (n - i) * 4) = ro.drop 4 := by
     rw [show (i + 1) * 4 + (n - i) * 4 = cs.length + 4 by omega,List.drop_append]
     simp
    rw [q2,q3,List.append_assoc,List.append_assoc]
    have q4 : (((cs ++ ro).drop (i * 4)).take 4).length = 4 := by rw [List.length_take,List.length_drop,hlen]; omega
    generalize ((cs ++ ro).drop (i * 4)).take 4 = q at q4 ⊢
    have := setL_mid es (cs.take (i * 4)) (q ++ (cs.drop (i * 4) ++ ro.drop 4)) (by rw [List.length_append,q4]; omega)
    have q5 : (q ++ (cs.drop (i * 4) ++ ro.drop 4)).drop 4 = cs.drop (i * 4) ++ ro.drop 4 := by rw [← q4]; exact List.drop_left
    rw [List.length_take,Nat.min_eq_left (by omega),hl,q5] at this
    rw [this]
    simp [List.append_assoc]
   rw [e1]
   exact .row b (n + 1) c _ _ (by simp; omega) (by simp; omega) (by omega)
set_option maxHeartbeats 2000000 in
theorem f156 (sv : Value) (i vb : Nat) (cs es : List Value) (Hx : Hp) (Z : Fz) (hs : Sl 331 5 sv cs Hx) (hl : es.length = 5) (hi : i * 5 ≤ cs.length) (h1 : cs.all Value.oneCell' = true) (h2 : es.all Value.oneCell' = true) (hn : cs.length ≤ 68719476736) :
  Tr Tryz.prog 156 #[sv,.int .i64 i,.slice (some ⟨vb,0,none⟩) 1 1] Z (Hx ++ [(vb,cl es 331)]) fun v Z' H' => Z = Z' ∧ Sl 331 5 v (cs.take (i * 5) ++ es ++ cs.drop (i * 5)) H' := by
 obtain ⟨oa,n,c,rfl,hcl,hnc⟩ := hs.val
 refine Tr.introk Tryz.func156 rfl Tryz.ntmps156 Tryz.results156 rfl ?_
 refine gn ?_
 refine o_sliceL rfl rfl rfl (by omega) ?_
 refine gn ?_
 by_cases hin : i = n
 ·subst hin
  refine gn ?_
  refine oap hs rfl rfl rfl (Rs.cells (inferInstance : Mem false Z [] _ vb (cl es 331)) (by omega) (Nat.le_refl 1)) (by simpa using h2) (by omega) (by omega) ?_
  intro v H' hv
  refine gn ?_
  refine fk1 (A := H') ⟨rfl,?_⟩
  rw [List.take_of_length_le (by omega),List.drop_of_length_le (by omega),List.append_nil]
  exact hv
 ·refine gn ?_
  refine o_cap rfl rfl ?_
  cases hs with
  | nil => simp only [List.length_nil] at hi; omega
  | row b _ _ _ ro hr1 hr2 hr3 =>
  have hlen : (cs ++ ro).length = c * 5 := by
   rw [List.length_append,hr1,hr2,← Nat.add_mul]; congr 1; omega
  have hin' : i < n := by omega
  by_cases hroom : c < n + 1
  ·have hc : c = n := by omega
   subst hc
   refine o_gtr rfl rfl rfl (r := true) (decide_eq_true (by simp only [Int.ofNat_eq_natCast]; omega)) ?_
   refine gn ?_
   refine o_sliceH rfl rfl rfl (by omega) ?_
   refine gn ?_
   refine o_growZ (k := 5) (i := i) (m := c + 1 - i) (cs := cs.take (i * 5)) (kn := .i64) (fun w => by kernel_rfl) rfl rfl (int_eq (by simp only [Int.ofNat_eq_natCast]; omega)) ?_ ?_ (by omega) (by omega) (by omega) (by omega) ?_
   ·rw [List.take_append_of_le_length (by omega)]
   ·simp; omega
   intro b' c' ro' hro' hc'
   refine gn ?_
   refine o_sliceLs rfl rfl rfl (by omega) (by omega) ?_
   refine gn ?_
   refine o_copy (k := 5) (m := 1) (cs := es) rfl rfl rfl ?_ ?_ (by omega) ?_ h2 ?_
   ·simp only [Nat.min_def]; split <;> omega
   ·rw [List.drop_zero,List.take_of_length_le (by omega)]
   ·simp; omega
   refine gn ?_
   refine WP.drawT [(vb,cl es 331),(b,cl (cs ++ ro) 331)] [(b',cl (setL (cs.take (i * 5) ++ ro') (0 + i * 5) es) 331)] mo (by decide +kernel) (prm rfl) ?_
   refine gn ?_
   refine o_sliceLs (j := i + 1) rfl rfl (int_eq (by simp only [Int.ofNat_eq_natCast]; omega)) (by omega) (by omega) ?_
   refine gn ?_
   refine o_sliceLs (j := i) rfl rfl rfl (by omega) (by omega) ?_
   refine o_copy (k := 5) (m := c - i) (cs := cs.drop (i * 5)) rfl rfl rfl ?_ ?_ ?_ ?_ ?_ ?_
   ·simp only [Nat.min_def]; split <;> omega
   ·rw [Nat.zero_add,List.drop_append_of_le_length (by omega),List.take_append_of_le_length (by simp; omega),List.take_of_length_le (by simp; omega)]
   ·simp; omega
   ·simp [setL_length]; omega
   ·rw [List.all_eq_true] at h1 ⊢
    exact fun u hu => h1 u (List.mem_of_mem_drop hu)
   refine gn ?_
   refine fk1 (A := [(b',cl (setL (setL (cs.take (i * 5) ++ ro') (0 + i * 5) es) (0 + (i + 1) * 5) (cs.drop (i * 5))) 331)]) ⟨rfl,?_⟩
   have e1 : setL (cs.take (i * 5) ++ ro') (0 + i * 5) es = cs.take (i * 5) ++ es ++ ro'.drop 5 := by
    have := setL_mid es (cs.take (i * 5)) ro' (by omega)
    rw [List.length_take,Nat.min_eq_left (by omega),hl] at this
    rw [Nat.zero_add]; exact this
   have e2 : setL (cs.take (i * 5) ++ es ++ ro'.drop 5) (0 + (i + 1) * 5) (cs.drop (i * 5)) = cs.take (i * 5) ++ es ++ cs.drop (i * 5) ++ (ro'.drop 5).drop (cs.drop (i * 5)).length := by
    have := setL_mid (cs.drop (i * 5)) (cs.take (i * 5) ++ es) (ro'.drop 5) (by simp; omega)
    rw [List.length_append,List.length_take,Nat.min_eq_left (by omega),hl] at this
    rw [Nat.zero_add,Nat.add_mul,Nat.one_mul]; exact this
   rw [e1,e2]
   have e3 : (i + (c + 1 - i)) = c + 1 := by omega
   rw [e3]
   exact .row b' (c + 1) c' _ _ (by simp; omega) (by simp; omega) (by omega)
  ·refine o_gtr rfl rfl rfl (r := false) (decide_eq_false (by simp only [Int.ofNat_eq_natCast]; omega)) ?_
   refine gn ?_
   refine o_sliceH (j := n + 1) rfl rfl (int_eq (by simp only [Int.ofNat_eq_natCast]; omega)) (by omega) ?_
   refine gn ?_
   refine o_sliceLs (j := i + 1) rfl rfl (int_eq (by simp only [Int.ofNat_eq_natCast]; omega)) (by omega) (by omega) ?_
   refine o_extW rfl (fun w hw => overlaps178 w vb b _ _ _ es (cs ++ ro) 331 ?_ ?_ ?_ ?_) rfl ?_
   ·have := hw.nd
    simp at this
    exact fun e => this (e ▸ rfl)
   ·exact hw.own (vb,_) (by simp)
   ·exact hw.own (b,_) (by simp)
   ·intro e; rw [e] at hlen; simp at hlen; omega
   refine gn ?_
   refine WP.drawT [(vb,cl es 331)] [(b,cl (cs ++ ro) 331)] mo (by decide +kernel) (prm rfl) ?_
   refine gn ?_
   refine o_sliceLs (j := i + 1) rfl rfl (int_eq (by simp only [Int.ofNat_eq_natCast]; omega)) (by omega) (by omega) ?_
   refine gn ?_
   refine o_sliceLs (j := i) rfl rfl rfl (by omega) (by omega) ?_
   refine o_copy (k := 5) (m := n - i) (cs := cs.drop (i * 5)) rfl rfl rfl ?_ ?_ ?_ ?_ ?_ ?_
   ·simp only [Nat.min_def]; split <;> omega
   ·rw [Nat.zero_add,List.drop_append_of_le_length (by omega),List.take_append_of_le_length (by simp; omega),List.take_of_length_le (by simp; omega)]
   ·simp; omega
   ·rw [hlen]; simp; omega
   ·rw [List.all_eq_true] at h1 ⊢
    exact fun u hu => h1 u (List.mem_of_mem_drop hu)
   refine gn ?_
   refine o_sliceLs (j := i) rfl rfl rfl (by omega) (by omega) ?_
   refine gn ?_
   refine o_copy (k := 5) (m := 1) (cs := es) rfl rfl rfl ?_ ?_ (by omega) ?_ h2 ?_
   ·simp only [Nat.min_def]; split <;> omega
   ·rw [List.drop_zero,List.take_of_length_le (by omega)]
   ·rw [setL_length,hlen]; omega
   refine gn ?_
   refine fk1 (A := [(b,cl (setL (setL (cs ++ ro) (0 + (i + 1) * 5) (cs.drop (i * 5))) (0 + i * 5) es) 331)]) ⟨rfl,?_⟩
   have e1 : setL (setL (cs ++ ro) (0 + (i + 1) * 5) (cs.drop (i * 5))) (0 + i * 5) es = cs.take (i * 5) ++ es ++ cs.drop (i * 5) ++ ro.drop 5 := by
    have hq : (cs.drop (i * 5)).length = (n - i) * 5 := by rw [List.length_drop]; omega
    rw [Nat.zero_add,Nat.zero_add,setL_eq (xs := cs ++ ro) (by rw [hq,hlen]; omega),hq]
    have q1 : ((cs ++ ro).take ((i + 1) * 5)).length = (i + 1) * 5 := by rw [List.length_take,hlen]; omega
    have q2 : (cs ++ ro).take ((i + 1) * 5) = cs.take (i * 5) ++ ((cs ++ ro).drop (i * 5)).take 5 := by
     rw [Nat.add_mul,Nat.one_mul,List.take_add,List.take_append_of_le_length (by omega)]
    have q3 : (cs ++ ro).drop ((i + 1) * 5 + (n - i) * 5) = ro.drop 5 := by
     rw [show (i + 1) * 5 + (n - i) * 5 = cs.length + 5 by omega,List.drop_append]
     simp
    rw [q2,q3,List.append_assoc,List.append_assoc]
    have q4 : (((cs ++ ro).drop (i * 5)).take 5).length = 5 := by rw [List.length_take,List.length_drop,hlen]; omega
    generalize ((cs ++ ro).drop (i * 5)).take 5 = q at q4 ⊢
    have := setL_mid es (cs.take (i * 5)) (q ++ (cs.drop (i * 5) ++ ro.drop 5)) (by rw [List.length_append,q4]; omega)
    have q5 : (q ++ (cs.drop (i * 5) ++ ro.drop 5)).drop 5 = cs.drop (i * 5) ++ ro.drop 5 := by rw [← q4]; exact List.drop_left
    rw [List.length_take,Nat.min_eq_left (by omega),hl,q5] at this
    rw [this]
    simp [List.append_assoc]
   rw [e1]
   exact .row b (n + 1) c _ _ (by simp; omega) (by simp; omega) (by omega)
end Go.Ux
namespace Go.Ux
open Go Go.Proofs
set_option maxRecDepth 20000
attribute [local irreducible] WP Tr
theorem all1 {cs : List Value} (h : ∀ u ∈ cs,u.oneCell' = true) : cs.all Value.oneCell' = true := by rw [List.all_eq_true]; exact h
theorem f150o (g : FuncId) [Ent Tryz.prog g] (hg : CmpF g) (sv : Value) (nb : Nat) (k : Nm) (ks : List Nm) (cs : List Value) (Hx : Hp) (Z : Fz) (hs : Sl 308 4 sv cs Hx) (hc : PM Z ks cs) (hi : Inc ks) (hn : ks.length ≤ 1099511627776) (hb : Z nb = some (cl [.string k] 9)) :
  Tr Tryz.prog 150 #[sv,.agg (pe nb).toArray,.func (.func g) #[] #[]] Z Hx fun v Z' H' => (∃ (i : Nat) (f : Bool),v = .tuple #[.int .i64 i,.bool f] ∧ Found ks k i f) ∧ Z = Z' ∧ Hx = H' := by
 cases hs with
 | nil =>
  refine Tr.mono (f150 g hg _ 0 nb k ks [] Z (.nil 0) hc hi (by omega) hb) ?_
  rintro v Z' H' ⟨h1,h2,h3⟩
  exact ⟨h1,h2.symm,h3.symm⟩
 | row b n c cs ro h1 h2 hn' =>
  have hkn := hc.len
  refine Tr.mono (Pu.lend fun hz => f150 g hg _ n nb k ks cs _ (.row b 0 n c 308 (cs ++ ro) cs Fz.add_at (by simp [← h1]) h1 hn') (hc.mono (Fz.le_add hz)) hi (by omega) (Fz.le_add hz _ _ hb)) fun _ _ _ h => ⟨h.1,h.2.1,h.2.2.symm⟩
theorem f154o (g : FuncId) [Ent Tryz.prog g] (hg : CmpG g) (sv : Value) (nb : Nat) (k : Nm) (ks : List Nm) (cs : List Value) (Hx : Hp) (Z : Fz) (hs : Sl 331 5 sv cs Hx) (hc : PK Z ks cs) (hi : Inc ks) (hn : ks.length ≤ 1099511627776) (hb : Z nb = some (cl [.string k] 9)) :
  Tr Tryz.prog 154 #[sv,.agg (pe nb).toArray,.func (.func g) #[] #[]] Z Hx fun v Z' H' => (∃ (i : Nat) (f : Bool),v = .tuple #[.int .i64 i,.bool f] ∧ Found ks k i f) ∧ Z = Z' ∧ Hx = H' := by
 cases hs with
 | nil =>
  refine Tr.mono (f154 g hg _ 0 nb k ks [] Z (.nil 0) hc hi (by omega) hb) ?_
  rintro v Z' H' ⟨h1,h2,h3⟩
  exact ⟨h1,h2.symm,h3.symm⟩
 | row b n c cs ro h1 h2 hn' =>
  have hkn := hc.len
  refine Tr.mono (Pu.lend fun hz => f154 g hg _ n nb k ks cs _ (.row b 0 n c 331 (cs ++ ro) cs Fz.add_at (by simp [← h1]) h1 hn') (hc.lw (Fz.le_add hz).lw) hi (by omega) (Fz.le_add hz _ _ hb)) fun _ _ _ h => ⟨h.1,h.2.1,h.2.2.symm⟩
theorem found_mem {ks : List Nm} {k : Nm} {i : Nat} (h : Found ks k i true) : k ∈ ks := by
 obtain ⟨A,B,rfl,_,_,⟨_,B',rfl⟩ | ⟨h,_⟩⟩ := h
 ·simp
 ·cases h
theorem found_ins {ks : List Nm} {k : Nm} {i : Nat} (h : Found ks k i false) (hi : Inc ks) : i ≤ ks.length ∧ Inc (ks.take i ++ k :: ks.drop i) := by
 obtain ⟨A,B,rfl,rfl,h1,⟨h,_⟩ | ⟨_,h2⟩⟩ := h
 ·cases h
 ·rw [List.take_left,List.drop_left]
  refine ⟨by simp,?_⟩
  have hp := List.pairwise_append.1 hi
  refine List.pairwise_append.2 ⟨hp.1,List.pairwise_cons.2 ⟨h2,hp.2.1⟩,fun x hx y hy => ?_⟩
  rcases List.mem_cons.1 hy with rfl | hy
  ·exact h1 x hx
  ·exact hp.2.2 x hx y hy
structure OM (Z : Fz) (ms : List Nm) (mv : Value) (H : Hp) (cs : List Value) : Prop where
 sl : Sl 308 4 mv cs H
 pm : PM Z ms cs
 inc : Inc ms
set_option maxHeartbeats 2000000 in
theorem f120 (sb nb : Nat) (mv cv : Value) (k : Nm) (ms : List Nm) (cs : List Value) (Hm : Hp) (Z : Fz) (hm : OM Z ms mv Hm cs) (hn : ms.length ≤ 1073741824) (hb : Z nb = some (cl [.string k] 9)) :
  Tr Tryz.prog 120 #[.pointer (some ⟨sb,0,none⟩),.agg (pe nb).toArray] Z ((sb,cl [mv,cv] 281) :: Hm) fun v Z' H' => v = .tuple #[] ∧ Z = Z' ∧ ∃ mv' cs' Hm' ms',H' = (sb,cl [mv',cv] 281) :: Hm' ∧ OM Z ms' mv' Hm' cs' ∧ ∀ x,x ∈ ms' ↔ x ∈ ms ∨ x = k := by
 haveI : Zf Z nb (cl [.string k] 9) := ⟨hb⟩
 refine Tr.introk Tryz.func120 rfl Tryz.ntmps120 Tryz.results120 rfl ?_
 repeat (first | refine gn ?_ | intro _)
 rename_i b3
 refine WP.drawT [(sb,cl [mv,cv] 281),(b3,cl (pe nb) 308)] Hm mo (by decide +kernel) (prm rfl) ?_
 refine gn ?_
 refine ct (f150o 151 cmp151 mv nb k ms cs Hm Z hm.sl hm.pm hm.inc (by omega) hb) ?_
 rintro _ _ _ _ ⟨⟨i,f,rfl,hf⟩,rfl,rfl⟩
 refine gn ?_
 cases f with
 | true =>
  refine gn ?_
  refine fk0 (A := (sb,cl [mv,cv] 281) :: Hm) ⟨rfl,rfl,mv,cs,Hm,ms,rfl,hm,fun x => ⟨.inl,fun h => ?_⟩⟩
  rcases h with h | rfl
  ·exact h
  ·exact found_mem hf
 | false =>
  obtain ⟨hi,hinc⟩ := found_ins hf hm.inc
  have hlen := hm.pm.len
  refine gn ?_
  refine WP.drawS [(sb,cl [mv,cv] 281),(b3,cl (pe nb) 308)] Hm 9 mo (by decide +kernel) (prm rfl) ?_
  refine gn ?_; intro vb
  refine ct (f153 mv i vb cs (pe nb) Hm Z hm.sl rfl (by omega) (all1 hm.pm.one) rfl (by omega)) ?_
  rintro mv' _ H' _ ⟨rfl,hs⟩
  haveI := hs.one
  refine r_two [] ?_
  refine gn ?_
  refine fk0 (A := (sb,cl [mv',cv] 281) :: H') ⟨rfl,rfl,mv',_,H',ms.take i ++ k :: ms.drop i,rfl,⟨hs,?_,hinc⟩,fun x => ?_⟩
  ·rw [List.append_assoc]
   exact (hm.pm.take i).app ⟨nb,_,rfl,hb,hm.pm.drop i⟩
  ·conv => rhs; rw [← List.take_append_drop i ms]
   simp only [List.mem_append,List.mem_cons]
   grind
end Go.Ux
namespace Go.Ux
open Go Go.Proofs
set_option maxRecDepth 20000
attribute [local irreducible] WP Tr
mutual
def OS (Z : Fz) : FS → Nat → Hp → Prop
 | .mk ms ch,b,H => ∃ mv cv cs cs' Hm Hc Hs,H.Perm ((b,cl [mv,cv] 281) :: (Hm ++ (Hc ++ Hs))) ∧ OM Z ms mv Hm cs ∧ Sl 331 5 cv cs' Hc ∧ Inc (ch.map (·.1)) ∧ OC Z ch cs' Hs
def OC (Z : Fz) : List (Nm × FS) → List Value → Hp → Prop
 | [],cs,H => cs = [] ∧ H = []
 | (k,s) :: ch,cs,H => ∃ b b' r Ha Hb,cs = pe b ++ .pointer (some ⟨b',0,none⟩) :: r ∧ Z b = some (cl [.string k] 9) ∧ OS Z s b' Ha ∧ OC Z ch r Hb ∧ H.Perm (Ha ++ Hb)
end
theorem OS.perm {Z : Fz} {s : FS} {b : Nat} {H H' : Hp} (h : OS Z s b H) (p : H'.Perm H) : OS Z s b H' := by
 cases s with | mk ms ch =>
 simp only [OS] at h ⊢
 obtain ⟨mv,cv,cs,cs',Hm,Hc,Hs,h1,h2⟩ := h
 exact ⟨mv,cv,cs,cs',Hm,Hc,Hs,p.trans h1,h2⟩
theorem OC.perm {Z : Fz} {ch : Ch} {cs : List Value} {H H' : Hp} (h : OC Z ch cs H) (p : H'.Perm H) : OC Z ch cs H' := by
 cases ch with
 | nil => simp only [OC] at h ⊢; obtain ⟨rfl,rfl⟩ := h; exact ⟨rfl,List.Perm.eq_nil p⟩
 | cons x ch =>
  obtain ⟨k,s⟩ := x
  simp only [OC] at h ⊢
  obtain ⟨b,b',r,Ha,Hb,h1,h2,h3,h4,h5⟩ := h
  exact ⟨b,b',r,Ha,Hb,h1,h2,h3,h4,p.trans h5⟩
def Fz.st (Z Z' : Fz) : Prop := ∀ b k,Z b = some (cl [.string k] 9) → Z' b = some (cl [.string k] 9)
theorem Fz.lw.st {Z Z' : Fz} (h : Fz.lw Z Z') : Fz.st Z Z' := fun _ _ k => Fz.lw.cl h rfl k
theorem PM.st {Z Z' : Fz} (hz : Fz.st Z Z') : ∀ {ks : List Nm} {cs : List Value},PM Z ks cs → PM Z' ks cs
 | [],_,h => h
 | k :: ks,cs,h => by
  obtain ⟨b,r,h1,h2,h3⟩ := h
  exact ⟨b,r,h1,hz _ _ h2,PM.st hz h3⟩
theorem OM.st {Z Z' : Fz} (hz : Fz.st Z Z') {ms : List Nm} {mv : Value} {H : Hp} {cs : List Value} (h : OM Z ms mv H cs) : OM Z' ms mv H cs := ⟨h.sl,h.pm.st hz,h.inc⟩
mutual
theorem OS.st {Z Z' : Fz} (hz : Fz.st Z Z') : ∀ {s : FS} {b : Nat} {H : Hp},OS Z s b H → OS Z' s b H
 | .mk ms ch,b,H,h => by
  simp only [OS] at h ⊢
  obtain ⟨mv,cv,cs,cs',Hm,Hc,Hs,h1,h2,h3,h4,h5⟩ := h
  exact ⟨mv,cv,cs,cs',Hm,Hc,Hs,h1,h2.st hz,h3,h4,OC.st hz h5⟩
theorem OC.st {Z Z' : Fz} (hz : Fz.st Z Z') : ∀ {ch : Ch} {cs : List Value} {H : Hp},OC Z ch cs H → OC Z' ch cs H
 | [],cs,H,h => by simp only [OC] at h ⊢; exact h
 | (k,s) :: ch,cs,H,h => by
  simp only [OC] at h ⊢
  obtain ⟨b,b',r,Ha,Hb,h1,h2,h3,h4,h5⟩ := h
  exact ⟨b,b',r,Ha,Hb,h1,hz _ _ h2,OS.st hz h3,OC.st hz h4,h5⟩
end
theorem OS.lw {Z Z' : Fz} (hz : Fz.lw Z Z') {s : FS} {b : Nat} {H : Hp} (h : OS Z s b H) : OS Z' s b H := h.st hz.st
theorem OC.lw {Z Z' : Fz} (hz : Fz.lw Z Z') {ch : Ch} {cs : List Value} {H : Hp} (h : OC Z ch cs H) : OC Z' ch cs H := h.st hz.st
theorem OC.pk {Z : Fz} : ∀ {ch : Ch} {cs : List Value} {H : Hp},OC Z ch cs H → PK Z (ch.map (·.1)) cs
 | [],cs,H,h => by simp only [OC] at h; exact h.1
 | (k,s) :: ch,cs,H,h => by
  simp only [OC] at h
  obtain ⟨b,b',r,Ha,Hb,rfl,h2,h3,h4,_⟩ := h
  exact ⟨b,_,r,rfl,rfl,h2,h4.pk⟩
theorem OC.one {Z : Fz} : ∀ {ch : Ch} {cs : List Value} {H : Hp},OC Z ch cs H → ∀ u ∈ cs,u.oneCell' = true
 | [],cs,H,h => by simp only [OC] at h; obtain ⟨rfl,_⟩ := h; simp
 | (k,s) :: ch,cs,H,h => by
  simp only [OC] at h
  obtain ⟨b,b',r,Ha,Hb,rfl,h2,h3,h4,_⟩ := h
  intro u hu
  rcases List.mem_append.1 hu with hu | hu
  ·simp only [pe,List.mem_cons,List.not_mem_nil,or_false] at hu
   rcases hu with rfl | rfl | rfl | rfl <;> rfl
  ·rcases List.mem_cons.1 hu with rfl | hu
   ·rfl
   ·exact h4.one u hu
theorem OC.split {Z : Fz} : ∀ {A B : Ch} {k : Nm} {s : FS} {cs : List Value} {H : Hp},OC Z (A ++ (k,s) :: B) cs H →
  ∃ b b' Ha Hr,(cs.drop (A.length * 5)).take 5 = pe b ++ [.pointer (some ⟨b',0,none⟩)] ∧ OS Z s b' Ha ∧ H.Perm (Ha ++ Hr) ∧ ∀ Z' s' Ha',Fz.lw Z Z' → OS Z' s' b' Ha' → OC Z' (A ++ (k,s') :: B) cs (Ha' ++ Hr)
 | [],B,k,s,cs,H,h => by
  simp only [List.nil_append,OC] at h
  obtain ⟨b,b',r,Ha,Hb,rfl,h2,h3,h4,h5⟩ := h
  refine ⟨b,b',Ha,Hb,rfl,h3,h5,fun Z' s' Ha' hz hs => ?_⟩
  simp only [List.nil_append,OC]
  exact ⟨b,b',r,Ha',Hb,rfl,Fz.lw.cl hz rfl h2,hs,h4.lw hz,.refl _⟩
 | (k',t) :: A,B,k,s,cs,H,h => by
  simp only [List.cons_append,OC] at h
  obtain ⟨b₁,b₁',r,H₁,H₂,rfl,h2,h3,h4,h5⟩ := h
  obtain ⟨b,b',Ha,Hr,q1,q2,q3,q4⟩ := h4.split
  refine ⟨b,b',Ha,H₁ ++ Hr,?_,q2,?_,fun Z' s' Ha' hz hs => ?_⟩
  ·rw [← q1,List.length_cons,show (A.length + 1) * 5 = 5 + A.length * 5 by omega,← List.drop_drop]
   rfl
  ·refine h5.trans ((q3.append_left H₁).trans ?_)
   rw [← List.append_assoc,← List.append_assoc]
   exact List.perm_append_comm.append_right Hr
  ·simp only [List.cons_append,OC]
   refine ⟨b₁,b₁',r,H₁,Ha' ++ Hr,rfl,Fz.lw.cl hz rfl h2,h3.lw hz,q4 Z' s' Ha' hz hs,?_⟩
   rw [← List.append_assoc,← List.append_assoc]
   exact List.perm_append_comm.append_right Hr
theorem OC.ins {Z : Fz} {k : Nm} {s : FS} {nb b' : Nat} {Ha : Hp} (hb : Z nb = some (cl [.string k] 9)) (hs : OS Z s b' Ha) : ∀ {A B : Ch} {cs : List Value} {H : Hp},OC Z (A ++ B) cs H →
  OC Z (A ++ (k,s) :: B) (cs.take (A.length * 5) ++ (pe nb ++ [.pointer (some ⟨b',0,none⟩)]) ++ cs.drop (A.length * 5)) (Ha ++ H)
 | [],B,cs,H,h => by
  simp only [List.nil_append,OC,List.length_nil,Nat.zero_mul,List.take_zero,List.drop_zero]
  exact ⟨nb,b',cs,Ha,H,by simp,hb,hs,h,.refl _⟩
 | (k',t) :: A,B,cs,H,h => by
  have h : OC Z ((k',t) :: (A ++ B)) cs H := h
  show OC Z ((k',t) :: (A ++ (k,s) :: B)) _ _
  simp only [OC] at h ⊢
  obtain ⟨b₁,b₁',r,H₁,H₂,rfl,h2,h3,h4,h5⟩ := h
  have e1 : (pe b₁ ++ .pointer (some ⟨b₁',0,none⟩) :: r).take ((A.length + 1) * 5) = pe b₁ ++ .pointer (some ⟨b₁',0,none⟩) :: r.take (A.length * 5) := by
   rw [show (A.length + 1) * 5 = 5 + A.length * 5 by omega,List.take_add]; rfl
  have e2 : (pe b₁ ++ .pointer (some ⟨b₁',0,none⟩) :: r).drop ((A.length + 1) * 5) = r.drop (A.length * 5) := by
   rw [show (A.length + 1) * 5 = 5 + A.length * 5 by omega,← List.drop_drop]; rfl
  refine ⟨b₁,b₁',_,H₁,Ha ++ H₂,?_,h2,h3,OC.ins hb hs h4,?_⟩
  ·rw [List.length_cons,e1,e2]; simp [List.append_assoc]
  ·refine (h5.append_left Ha).trans ?_
   rw [← List.append_assoc,← List.append_assoc]
   exact List.perm_append_comm.append_right H₂
theorem OS.empty {Z : Fz} {b : Nat} : OS Z (.mk [] []) b [(b,cl [.slice none 0 0,.slice none 0 0] 281)] := by
 simp only [OS]
 exact ⟨_,_,[],[],[],[],[],.refl _,⟨.nil,rfl,.nil⟩,.nil,.nil,by simp [OC]⟩
theorem map_split {β : Type} : ∀ {ch : List (Nm × β)} {A' : List Nm} {k : Nm} {B' : List Nm},ch.map (·.1) = A' ++ k :: B' → ∃ A s B,ch = A ++ (k,s) :: B ∧ A.length = A'.length
 | [],A',k,B',h => by simp at h
 | (k₀,s₀) :: ch,[],k,B',h => by
  simp only [List.map_cons,List.nil_append,List.cons.injEq] at h
  exact ⟨[],s₀,ch,by rw [← h.1]; rfl,rfl⟩
 | (k₀,s₀) :: ch,a :: A',k,B',h => by
  simp only [List.map_cons,List.cons_append,List.cons.injEq] at h
  obtain ⟨A,s,B,rfl,h2⟩ := map_split h.2
  exact ⟨(k₀,s₀) :: A,s,B,rfl,by simp [h2]⟩
theorem found_child {ch : Ch} {k : Nm} {i : Nat} (h : Found (ch.map (·.1)) k i true) : ∃ A s B,ch = A ++ (k,s) :: B ∧ A.length = i := by
 obtain ⟨A',B',h1,h2,_,⟨_,B'',rfl⟩ | ⟨h,_⟩⟩ := h
 ·obtain ⟨A,s,B,h3,h4⟩ := map_split h1
  exact ⟨A,s,B,h3,h4.trans h2⟩
 ·cases h
theorem cell_at {cs : List Value} {j : Nat} {b b' : Nat} (h : (cs.drop (j * 5)).take 5 = pe b ++ [.pointer (some ⟨b',0,none⟩)]) : cs[j * 5 + 4]? = some (.pointer (some ⟨b',0,none⟩)) := by
 have := congrArg (fun l => l[4]?) h
 simp only [List.getElem?_take,List.getElem?_drop] at this
 simpa using this
def DescQ (Z : Fz) (k : Nm) (ch : Ch) (sb : Nat) (mv : Value) (v : Value) (H' : Hp) : Prop := ∃ A B s b' cv' cs' Hc' Ha Hr,(ch = A ++ (k,s) :: B ∨ (ch = A ++ B ∧ s = .mk [] [])) ∧ Inc ((A ++ (k,s) :: B).map (·.1)) ∧
 v = .pointer (some ⟨b',0,none⟩) ∧ H'.Perm ((sb,cl [mv,cv'] 281) :: (Hc' ++ (Ha ++ Hr))) ∧ Sl 331 5 cv' cs' Hc' ∧ OS Z s b' Ha ∧ ∀ Z'' s' Ha',Fz.lw Z Z'' → OS Z'' s' b' Ha' → OC Z'' (A ++ (k,s') :: B) cs' (Ha' ++ Hr)
set_option maxHeartbeats 2000000 in
theorem f121 (sb nb : Nat) (mv cv : Value) (k : Nm) (ch : Ch) (cs : List Value) (Hc Hs : Hp) (Z : Fz) (hsl : Sl 331 5 cv cs Hc) (hoc : OC Z ch cs Hs) (hinc : Inc (ch.map (·.1))) (hn : ch.length ≤ 1073741824) (hb : Z nb = some (cl [.string k] 9)) :
  Tr Tryz.prog 121 #[.pointer (some ⟨sb,1,none⟩),.agg (pe nb).toArray] Z ((sb,cl [mv,cv] 281) :: (Hc ++ Hs)) fun v Z' H' => Z = Z' ∧ DescQ Z k ch sb mv v H' := by
 haveI : Zf Z nb (cl [.string k] 9) := ⟨hb⟩
 have hlen := hoc.pk.len
 rw [List.length_map] at hlen
 refine Tr.introk Tryz.func121 rfl Tryz.ntmps121 Tryz.results121 rfl ?_
 repeat (first | refine gn ?_ | intro _)
 rename_i b3
 refine WP.drawT [(sb,cl [mv,cv] 281),(b3,cl (pe nb) 308)] (Hc ++ Hs) mo (by decide +kernel) (prm rfl) ?_
 refine gn ?_
 refine ct (f154o 155 cmp155 cv nb k (ch.map (·.1)) cs Hc Z hsl hoc.pk hinc (by simp; omega) hb) ?_
 rintro _ _ _ _ ⟨⟨i,f,rfl,hf⟩,rfl,rfl⟩
 refine gn ?_
 cases f with
 | true =>
  obtain ⟨A,s,B,rfl,rfl⟩ := found_child hf
  obtain ⟨b,b',Ha,Hr,q1,q2,q3,q4⟩ := hoc.split
  have hA : (A.length + 1) * 5 ≤ cs.length := by rw [hlen]; simp; omega
  cases hsl with
  | nil => simp at hA
  | row rb n c _ ro r1 r2 r3 =>
  refine gn ?_
  refine o_indexAddr rfl rfl rfl (by omega) ?_
  refine gn ?_
  refine o_load1 rfl rfl (v := .pointer (some ⟨b',0,none⟩)) ?_ ?_
  ·rw [Nat.zero_add,List.getElem?_append_left (by omega)]; exact cell_at q1
  refine gn ?_
  refine fk1 (A := (sb,cl [mv,.slice (some ⟨rb,0,none⟩) n c] 281) :: ([(rb,cl (cs ++ ro) 331)] ++ Hs)) ⟨rfl,A,B,s,b',_,cs,[(rb,cl (cs ++ ro) 331)],Ha,Hr,.inl rfl,hinc,rfl,?_,.row rb n c cs ro r1 r2 r3,q2,q4⟩
  exact (q3.append_left _).cons _
 | false =>
  obtain ⟨hi,hinc'⟩ := found_ins hf hinc
  rw [List.length_map] at hi
  refine gn ?_
  refine WP.drawS [(sb,cl [mv,cv] 281),(b3,cl (pe nb) 308)] (Hc ++ Hs) 12 mo (by decide +kernel) (prm rfl) ?_
  refine gn ?_; intro eb
  refine gn ?_; intro vb
  refine ct (f156 cv i vb cs (nd nb eb) Hc Z hsl rfl (by omega) (all1 hoc.one) rfl (by omega)) ?_
  rintro cv' _ Hc' _ ⟨rfl,hs⟩
  refine r_two [] ?_
  haveI := hs.one
  have hs : Sl 331 5 cv' (cs.take (i * 5) ++ (pe nb ++ [.pointer (some ⟨eb,0,none⟩)]) ++ cs.drop (i * 5)) Hc' := hs
  refine gn ?_
  have hAB : ch = ch.take i ++ ch.drop i := (List.take_append_drop i ch).symm
  have hAl : (ch.take i).length = i := by simp [hi]
  rw [hAB] at hoc
  have hnew := OC.ins (s := .mk [] []) (b' := eb) hb OS.empty hoc
  rw [hAl] at hnew
  obtain ⟨b,b',Ha,Hr,q1,q2,q3,q4⟩ := hnew.split
  rw [hAl] at q1
  generalize hcs : cs.take (i * 5) ++ (pe nb ++ [.pointer (some ⟨eb,0,none⟩)]) ++ cs.drop (i * 5) = cs' at *
  have hl' : cs'.length = cs.length + 5 := by rw [← hcs]; simp; omega
  cases hs with
  | nil => simp at hl'
  | row rb n c _ ro r1 r2 r3 =>
  have hin : i < n := by omega
  refine o_indexAddr rfl rfl rfl (by omega) ?_
  refine gn ?_
  refine o_load1 rfl rfl (v := .pointer (some ⟨b',0,none⟩)) ?_ ?_
  ·rw [Nat.zero_add,List.getElem?_append_left (by omega)]; exact cell_at q1
  refine gn ?_
  refine fk1 (A := (sb,cl [mv,.slice (some ⟨rb,0,none⟩) n c] 281) :: ([(rb,cl (cs' ++ ro) 331)] ++ ([(eb,cl [.slice none 0 0,.slice none 0 0] 281)] ++ Hs))) ⟨rfl,ch.take i,ch.drop i,.mk [] [],b',_,cs',[(rb,cl (cs' ++ ro) 331)],Ha,Hr,.inr ⟨hAB,rfl⟩,?_,rfl,?_,.row rb n c cs' ro r1 r2 r3,q2,q4⟩
  ·simpa using hinc'
  ·exact (q3.append_left _).cons _
end Go.Ux
namespace Go.Ux
open Go Go.Proofs
set_option maxRecDepth 20000
theorem has_upd {ms : List Nm} {ch A B : Ch} {k : Nm} {c c' : FS} {q : List Nm} (h : ch = A ++ (k,c) :: B ∨ (ch = A ++ B ∧ c = .mk [] [])) (hq : ∀ x,c'.has x ↔ c.has x ∨ x = q) (x : List Nm) :
  (FS.mk ms (A ++ (k,c') :: B)).has x ↔ (FS.mk ms ch).has x ∨ x = k :: q := by
 have e : ∀ x,¬ (FS.mk [] []).has x := fun x => by cases x <;> simp [FS.has_nil,FS.has_cons,FS.ms,FS.cs]
 cases x with
 | nil => simp [FS.has_nil]
 | cons k' x =>
  have h0 : ∀ (D : Ch),hasC (A ++ D) k' x ↔ hasC A k' x ∨ hasC D k' x := fun D => by
   unfold hasC
   constructor
   ·rintro ⟨c,hm,hh⟩
    rcases List.mem_append.1 hm with hm | hm
    ·exact .inl ⟨c,hm,hh⟩
    ·exact .inr ⟨c,hm,hh⟩
   ·rintro (⟨c,hm,hh⟩ | ⟨c,hm,hh⟩)
    ·exact ⟨c,List.mem_append_left _ hm,hh⟩
    ·exact ⟨c,List.mem_append_right _ hm,hh⟩
  have h1 : ∀ (cs : Ch),(FS.mk ms cs).has (k' :: x) ↔ (x = [] ∧ k' ∈ ms) ∨ hasC cs k' x := fun cs => FS.has_cons _ _ _
  rw [h1,h1,h0,hasC_cons,hq,List.cons.injEq]
  rcases h with rfl | ⟨rfl,rfl⟩
  ·rw [h0,hasC_cons]; grind
  ·rw [h0]
   have := e x
   grind
theorem wf_upd {U : List Nm} {ms : List Nm} {ch A B : Ch} {k : Nm} {c c' : FS} (h : ch = A ++ (k,c) :: B ∨ (ch = A ++ B ∧ c = .mk [] [])) (hw : (FS.mk ms ch).Wf U) (hk : k ∈ U) (hi : Inc ((A ++ (k,c) :: B).map (·.1))) (hc : c'.Wf U) (hq : ∃ q,c'.has q) : (FS.mk ms (A ++ (k,c') :: B)).Wf U := by
 cases hw with | mk h1 h2 h3 h4 h5 h6 =>
 refine .mk h1 (by simpa using hi) h3 (fun x hx => ?_) (fun p hp => ?_) (fun p hp => ?_)
 ·simp only [List.map_append,List.map_cons,List.mem_append,List.mem_cons] at hx
  rcases h with rfl | ⟨rfl,_⟩
  ·exact h4 x (by simp only [List.map_append,List.map_cons,List.mem_append,List.mem_cons]; exact hx)
  ·rcases hx with hx | rfl | hx
   ·exact h4 x (by simp only [List.map_append,List.mem_append]; exact .inl hx)
   ·exact hk
   ·exact h4 x (by simp only [List.map_append,List.mem_append]; exact .inr hx)
 ·simp only [List.mem_append,List.mem_cons] at hp
  rcases h with rfl | ⟨rfl,_⟩
  ·rcases hp with hp | rfl | hp
   ·exact h5 p (by simp [hp])
   ·exact hc
   ·exact h5 p (by simp [hp])
  ·rcases hp with hp | rfl | hp
   ·exact h5 p (by simp [hp])
   ·exact hc
   ·exact h5 p (by simp [hp])
 ·simp only [List.mem_append,List.mem_cons] at hp
  rcases h with rfl | ⟨rfl,_⟩
  ·rcases hp with hp | rfl | hp
   ·exact h6 p (by simp [hp])
   ·exact hq
   ·exact h6 p (by simp [hp])
  ·rcases hp with hp | rfl | hp
   ·exact h6 p (by simp [hp])
   ·exact hq
   ·exact h6 p (by simp [hp])
theorem has_mem {ms ms' : List Nm} {ch : Ch} {k : Nm} (h : ∀ x,x ∈ ms' ↔ x ∈ ms ∨ x = k) (x : List Nm) : (FS.mk ms' ch).has x ↔ (FS.mk ms ch).has x ∨ x = [k] := by
 cases x with
 | nil => simp [FS.has_nil]
 | cons k' x => simp only [FS.has_cons,FS.ms,FS.cs,h,List.cons.injEq]; grind
theorem wf_mem {U ms ms' : List Nm} {ch : Ch} {k : Nm} (h : ∀ x,x ∈ ms' ↔ x ∈ ms ∨ x = k) (hw : (FS.mk ms ch).Wf U) (hk : k ∈ U) (hi : Inc ms') : (FS.mk ms' ch).Wf U := by
 cases hw with | mk h1 h2 h3 h4 h5 h6 =>
 exact .mk hi h2 (fun x hx => ((h x).1 hx).elim (h3 x) fun e => e ▸ hk) h4 h5 h6
theorem FS.Wf.empty {U : List Nm} : (FS.mk [] []).Wf U := .mk .nil .nil (by simp) (by simp) (by simp) (by simp)
attribute [local irreducible] WP Tr
set_option maxHeartbeats 4000000 in
theorem f82 (b n : Nat) (pv : Value) (p : List Nm) (pcs : List Value) (s : FS) (HS : Hp) (U : List Nm) (Z : Fz) (hs : OS Z s b HS) (hw : s.Wf U) (hU : U.length ≤ 1073741824) (hp : Rs (inZ Z) 4 pv n pcs) (hm : PM Z p pcs) (hpU : ∀ k ∈ p,k ∈ U) :
  Tr Tryz.prog 82 #[.pointer (some ⟨b,0,none⟩),pv] Z HS fun v Z' H' => v = .tuple #[] ∧ Z = Z' ∧ ∃ s',OS Z s' b H' ∧ s'.Wf U ∧ ∀ x,s'.has x ↔ s.has x ∨ (x = p ∧ p ≠ []) := by
 have hpl := hm.len
 have hcl : pcs.length = n * 4 := by cases hp <;> first | rfl | assumption
 refine Tr.introk Tryz.func82 rfl Tryz.ntmps82 Tryz.results82 rfl ?_
 cases hp with
 | emp a =>
  have : p = [] := List.length_eq_zero_iff.1 (by simp at hpl; omega)
  subst this
  refine gn ?_
  exact fk0 (A := HS) ⟨rfl,rfl,s,hs,hw,fun x => by simp⟩
 | nil c =>
  have : p = [] := List.length_eq_zero_iff.1 (by simp at hpl; omega)
  subst this
  refine gn ?_
  exact fk0 (A := HS) ⟨rfl,rfl,s,hs,hw,fun x => by simp⟩
 | row pb off n c V xs _ hr hd hl hnc =>
 haveI : Zf Z pb (cl xs V) := ⟨hr⟩
 by_cases hn0 : n = 0
 ·have : p = [] := List.length_eq_zero_iff.1 (by omega)
  subst this hn0
  refine gn ?_
  exact fk0 (A := HS) ⟨rfl,rfl,s,hs,hw,fun x => by simp⟩
 refine gn ?_
 refine WP.loopM [0,1,7,8,9,10,11,12,13,14,15,16,17,18,19,20,21,22,23,24,25]
  (fun m g Z' H' => ∃ (j : Nat) (cb : Nat) (cur : FS) (q : List Nm) (Hc Hr : Hp),g 0 = .pointer (some ⟨cb,0,none⟩) ∧ g 1 = .slice (some ⟨pb,off + j * 4,none⟩) (n - j) (c - j) ∧ m = n - j ∧ j < n ∧ q = p.drop j ∧ OS Z cur cb Hc ∧ cur.Wf U ∧
   (∀ cur' Hc',OS Z cur' cb Hc' → cur'.Wf U → (∀ x,cur'.has x ↔ cur.has x ∨ x = q) → ∃ s',OS Z s' b (Hc' ++ Hr) ∧ s'.Wf U ∧ ∀ x,s'.has x ↔ s.has x ∨ x = p) ∧ Z = Z' ∧ H'.Perm (Hc ++ Hr)) n ?_ ?_
 ·exact ⟨0,b,s,p,HS,[],rfl,by (show Value.slice (some ⟨pb,off,none⟩) n c = _); simp,rfl,by omega,by simp,hs,hw,fun cur' Hc' h1 h2 h3 => ⟨cur',by rw [List.append_nil]; exact h1,h2,h3⟩,rfl,by simp⟩
 rintro m g Z' H' _ ⟨j,cb,cur,q,Hc,Hr,h0,h1,rfl,hj,rfl,hcur,hcw,hK,rfl,hP⟩
 refine WP.pin 0 h0 ?_
 refine WP.pin 1 h1 ?_
 obtain ⟨k,hk⟩ : ∃ k,p[j]? = some k := ⟨p[j]'(by omega),by simp⟩
 obtain ⟨kb,hkb,hkc⟩ := hm.at hk
 haveI : Zf Z kb (cl [.string k] 9) := ⟨hkb⟩
 have hpd : p.drop j = k :: p.drop (j + 1) := by
  rw [List.drop_eq_getElem_cons (by omega)]
  congr 1
  exact (List.getElem?_eq_some_iff.1 hk).2
 cases cur with | mk ms ch =>
 simp only [OS] at hcur
 obtain ⟨mv,cv,cs,cs',Hm,Hn,Hs,hperm,hom,hsl,hinc,hoc⟩ := hcur
 refine WP.perm (hP.trans (hperm.append_right Hr)) ?_
 have hkU : k ∈ U := hpU k (List.mem_of_getElem? hk)
 have hms : ms.length ≤ 1073741824 ∧ ch.length ≤ 1073741824 := by
  cases hcw with | mk w1 w2 w3 w4 w5 w6 =>
  have q1 := w1.length_le w3
  have q2 := w2.length_le w4
  rw [List.length_map] at q2
  omega
 by_cases h1 : n - j = 1
 ·refine gn ?_
  refine WP.drawT [] ((cb,cl [mv,cv] 281) :: (Hm ++ (Hn ++ Hs)) ++ Hr) mo (by decide +kernel) (.refl _) ?_
  refine gn ?_
  refine o_indexAddr (j := 0) rfl rfl rfl (by omega) ?_
  refine o_loadN rfl rfl ((row_at (j := j) hd hj).trans hkc) rfl ?_
  refine ct (f120 cb kb mv cv k ms cs Hm Z hom hms.1 hkb) ?_
  rintro _ _ _ _ ⟨rfl,rfl,mv',ks',Hm',ms',rfl,hom',hmem⟩
  refine gn ?_
  have hq : p.drop j = [k] := by rw [hpd,List.drop_of_length_le (by omega)]
  obtain ⟨s',h1,h2,h3⟩ := hK (.mk ms' ch) ((cb,cl [mv',cv] 281) :: (Hm' ++ (Hn ++ Hs))) (by simp only [OS]; exact ⟨mv',cv,ks',cs',Hm',Hn,Hs,.refl _,hom',hsl,hinc,hoc⟩) (wf_mem hmem hcw hkU hom'.inc) (by rw [hq]; exact has_mem hmem)
  refine fk0 (A := (cb,cl [mv',cv] 281) :: (Hm' ++ (Hn ++ Hs)) ++ Hr) ⟨rfl,rfl,s',h1,h2,fun x => ?_⟩
  rw [h3]
  have : p ≠ [] := fun e => by rw [e] at hk; simp at hk
  simp [this]
 ·refine gn ?_
  refine WP.drawT [] ((cb,cl [mv,cv] 281) :: (Hm ++ (Hn ++ Hs)) ++ Hr) mo (by decide +kernel) (.refl _) ?_
  refine gn ?_
  refine o_indexAddr (j := 0) rfl rfl rfl (by omega) ?_
  refine o_loadN rfl rfl ((row_at (j := j) hd hj).trans hkc) rfl ?_
  refine ct (f121 cb kb mv cv k ch cs' Hn Hs Z hsl hoc hinc hms.2 hkb) ?_
  rintro _ _ H' _ ⟨rfl,A,B,c₀,b',cv',ks',Hc',Ha,Hr',hch,hi',rfl,hp',hsl',hos,hcont⟩
  refine gn ?_
  refine o_sliceLs (j := 1) rfl rfl rfl (by omega) (by omega) ?_
  refine gn ?_
  refine ⟨bk,n - (j + 1),by omega,j + 1,b',c₀,p.drop (j + 1),Ha,(cb,cl [mv,cv'] 281) :: (Hm ++ (Hc' ++ Hr')) ++ Hr,rfl,?_,rfl,by omega,rfl,hos,?_,?_,rfl,?_⟩
  ·show Value.slice (some ⟨pb,off + j * 4 + 1 * 4,none⟩) (n - j - 1) (c - j - 1) = _
   rw [Nat.add_assoc,← Nat.add_mul,Nat.sub_sub,Nat.sub_sub]
  ·cases hcw with | mk w1 w2 w3 w4 w5 w6 =>
   rcases hch with rfl | ⟨_,rfl⟩
   ·exact w5 (k,c₀) (by simp)
   ·exact .empty
  ·intro cur' Hc₂ h2 h3 h4
   have hOS : OS Z (.mk ms (A ++ (k,cur') :: B)) cb ((cb,cl [mv,cv'] 281) :: (Hm ++ (Hc' ++ (Hc₂ ++ Hr')))) := by
    simp only [OS]
    exact ⟨mv,cv',cs,ks',Hm,Hc',Hc₂ ++ Hr',.refl _,hom,hsl',by simpa using hi',hcont Z cur' Hc₂ (Fz.le.refl Z).lw h2⟩
   obtain ⟨s',q1,q2,q3⟩ := hK _ _ hOS (wf_upd hch hcw hkU hi' h3 ⟨_,(h4 _).2 (.inr rfl)⟩) (by rw [hpd]; exact has_upd hch h4)
   refine ⟨s',q1.perm ?_,q2,q3⟩
   exact prm rfl
  ·refine ((hp'.append_right (Hm ++ [] ++ Hr)).append_right []).trans ?_
   exact prm rfl
theorem f82o (b : Nat) (pv : Value) (p : List Nm) (pcs : List Value) (s : FS) (HS Hp : Hp) (U : List Nm) (Z : Fz) (hs : OS Z s b HS) (hw : s.Wf U) (hU : U.length ≤ 1073741824) (hp : Sl 308 4 pv pcs Hp) (hm : PM Z p pcs) (hpU : ∀ k ∈ p,k ∈ U) :
  Tr Tryz.prog 82 #[.pointer (some ⟨b,0,none⟩),pv] Z (Hp ++ HS) fun v Z' H' => v = .tuple #[] ∧ Z = Z' ∧ ∃ s' HS',H' = Hp ++ HS' ∧ OS Z s' b HS' ∧ s'.Wf U ∧ ∀ x,s'.has x ↔ s.has x ∨ (x = p ∧ p ≠ []) := by
 cases hp with
 | nil =>
  refine Tr.mono (f82 b 0 _ p [] s HS U Z hs hw hU (.nil 0) hm hpU) ?_
  rintro v Z' H' ⟨rfl,rfl,s',h⟩
  exact ⟨rfl,rfl,s',H',rfl,h⟩
 | row pb n c _ ro h1 h2 hn =>
  refine Tr.mono (Tr.lend fun hz => f82 b n _ p pcs s HS U _ (hs.lw (Fz.le_add hz).lw) hw hU (.row pb 0 n c 308 (pcs ++ ro) pcs Fz.add_at (by simp [← h1]) h1 hn) (hm.mono (Fz.le_add hz)) hpU) ?_
  rintro v Z' H' ⟨hz,Z₁,H₁,⟨rfl,rfl,s',h3,h4,h5⟩,_,rfl,rfl⟩
  rw [Fz.add_del hz]
  refine ⟨rfl,rfl,s',H₁,rfl,h3.st (fun b' k hb => ?_),h4,h5⟩
  unfold Fz.add at hb
  split at hb
  ·simp only [Option.some.injEq,Obj.cells.injEq] at hb
   exact absurd hb.2.1 (by decide)
  ·exact hb
theorem Sl.frz {e k : Nat} {v : Value} {cs : List Value} {H : Hp} (h : Sl e k v cs H) {Z : Fz} (hp : ∀ p ∈ H,Z p.1 = some p.2) : ∃ n,Rs (inT Z e) k v n cs := by
 cases h with
 | nil => exact ⟨0,.nil 0⟩
 | row b n c cs ro h1 h2 hn => exact ⟨n,.row b 0 n c e (cs ++ ro) cs ⟨hp _ (List.mem_singleton.2 rfl),_,rfl⟩ (by simp [← h1]) h1 hn⟩
mutual
theorem OS.frz {Z Z' : Fz} (hz : Fz.le Z Z') : ∀ {s : FS} {b : Nat} {H : Hp},OS Z s b H → (∀ p ∈ H,Z' p.1 = some p.2) → SR Z' s b
 | .mk ms ch,b,H,h,hp => by
  simp only [OS] at h
  obtain ⟨mv,cv,cs,cs',Hm,Hc,Hs,h1,h2,h3,h4,h5⟩ := h
  have hp' : ∀ p ∈ (b,cl [mv,cv] 281) :: (Hm ++ (Hc ++ Hs)),Z' p.1 = some p.2 := fun p hm => hp p (h1.mem_iff.2 hm)
  obtain ⟨n,q1⟩ := h2.sl.frz (Z := Z') fun p hm => hp' p (by simp [hm])
  obtain ⟨n',q2⟩ := h3.frz (Z := Z') fun p hm => hp' p (by simp [hm])
  simp only [SR]
  exact ⟨mv,cv,n,n',cs,cs',hp' _ (List.mem_cons_self ..),q1,h2.pm.mono hz,q2,OC.frz hz h5 fun p hm => hp' p (by simp [hm])⟩
theorem OC.frz {Z Z' : Fz} (hz : Fz.le Z Z') : ∀ {ch : Ch} {cs : List Value} {H : Hp},OC Z ch cs H → (∀ p ∈ H,Z' p.1 = some p.2) → SC Z' ch cs
 | [],cs,H,h,_ => by simp only [OC] at h; simp only [SC]; exact h.1
 | (k,s) :: ch,cs,H,h,hp => by
  simp only [OC] at h
  obtain ⟨b,b',r,Ha,Hb,h1,h2,h3,h4,h5⟩ := h
  simp only [SC]
  exact ⟨b,b',r,h1,hz _ _ h2,OS.frz hz h3 fun p hm => hp p (h5.mem_iff.2 (by simp [hm])),OC.frz hz h4 fun p hm => hp p (h5.mem_iff.2 (by simp [hm]))⟩
end
theorem f70 (c : Nat) (Z : Fz) : Tr Tryz.prog 70 #[.slice none 0 c] Z [] fun v Z' H' => ∃ b,v = .pointer (some ⟨b,0,none⟩) ∧ Z = Z' ∧ OS Z (.mk [] []) b H' := by
 refine Tr.introk Tryz.func70 rfl Tryz.ntmps70 Tryz.results70 rfl ?_
 repeat (first | refine gn ?_ | intro _)
 rename_i b
 refine WP.loopM [5,10,11,12,13,14,15,16,17] (fun _ g Z' H' => g 10 = .int .i64 0 ∧ Z = Z' ∧ H' = [(b,cl [.slice none 0 0,.slice none 0 0] 281)]) 0 ⟨rfl,rfl,rfl⟩ ?_
 rintro k g Z' H' _ ⟨h10,rfl,rfl⟩
 refine WP.pin 10 h10 ?_
 refine gn ?_
 exact fk1 (A := [(b,_)]) ⟨b,rfl,rfl,OS.empty⟩
end Go.Ux
namespace Go.Ux
open Go Go.Proofs
set_option maxRecDepth 20000
attribute [local irreducible] WP Tr
theorem elt {Z : Fz} {a : Option Addr} {n c i : Nat} {cs : List Value} {ms : List Nm} (hr : Rs (inT Z 308) 4 (.slice a n c) n cs) (hm : PM Z ms cs) (hi : i < n) :
  ∃ b off xs kb k,a = some ⟨b,off,none⟩ ∧ Z b = some (cl xs 308) ∧ n ≤ c ∧ ms.drop i = k :: ms.drop (i + 1) ∧ Z kb = some (cl [.string k] 9) ∧ (xs.drop (off + i * 4)).take 4 = pe kb ∧ (xs.drop off).take (n * 4) = cs ∧ cs.length = n * 4 := by
 cases hr with
 | nil => omega
 | emp => omega
 | row b off n c U xs ds h hd hl hn =>
  obtain ⟨h,ys,e⟩ := h
  have hml := hm.len
  obtain ⟨k,hk⟩ : ∃ k,ms[i]? = some k := ⟨ms[i]'(by omega),by simp⟩
  obtain ⟨kb,h1,h2⟩ := hm.at hk
  simp only [Obj.cells.injEq] at e
  obtain ⟨_,rfl,_⟩ := e
  refine ⟨b,off,xs,kb,k,rfl,h,hn,?_,h1,(row_at hd hi).trans h2,hd,hl⟩
  rw [List.drop_eq_getElem_cons (by omega)]
  congr 1
  exact (List.getElem?_eq_some_iff.1 hk).2
theorem PM.n {Z : Fz} {ms : List Nm} {cs : List Value} {n : Nat} {mv : Value} (h : PM Z ms cs) (hr : Rs (inT Z 308) 4 mv n cs) : ms.length = n := by
 have h1 := h.len
 cases hr with
 | nil => simp at h1; omega
 | emp => simp at h1; omega
 | row => omega
theorem PM.one1 {Z : Fz} {k : Nm} {b : Nat} (h : Z b = some (cl [.string k] 9)) : PM Z [k] (pe b) := ⟨b,[],rfl,h,rfl⟩
set_option maxHeartbeats 4000000 in
theorem f105 (sb tb : Nat) (a₁ a₂ : Option Addr) (c₁ c₂ n₁ n₂ : Nat) (w₁ w₂ : Value) (m₁ m₂ : List Nm) (x₁ x₂ : List Value) (Z : Fz) [Zf Z sb (cl [.slice a₁ n₁ c₁,w₁] 281)] [Zf Z tb (cl [.slice a₂ n₂ c₂,w₂] 281)]
  (r₁ : Rs (inT Z 308) 4 (.slice a₁ n₁ c₁) n₁ x₁) (p₁ : PM Z m₁ x₁) (r₂ : Rs (inT Z 308) 4 (.slice a₂ n₂ c₂) n₂ x₂) (p₂ : PM Z m₂ x₂) (hn₁ : n₁ ≤ 1073741824) (hn₂ : n₂ ≤ 1073741824) :
  Gr Tryz.prog 105 #[.pointer (some ⟨sb,0,none⟩),.pointer (some ⟨tb,0,none⟩)] Z fun v Z' => ∃ ob mv n cs o,v = .pointer (some ⟨ob,0,none⟩) ∧ Z' ob = some (cl [mv] 275) ∧ Rs (inT Z' 308) 4 mv n cs ∧ PM Z' o cs ∧ DifM m₁ m₂ o := by
 refine Gr.intro Tryz.func105 rfl Tryz.ntmps105 Tryz.results105 rfl ?_
 have l₁ := p₁.n r₁
 have l₂ := p₂.n r₂
 repeat (first | refine gn ?_ | intro _)
 rename_i ob
 refine WP.loopK (6 :: 7 :: List.range' 10 69)
  (fun m g Z' H' => ∃ (i j : Nat) (o : List Nm) (ov : Value) (ocs : List Value) (Ho : Hp),g 6 = .int .i64 i ∧ g 7 = .int .i64 j ∧ m = (n₁ - i) + (n₂ - j) ∧ i ≤ n₁ ∧ j ≤ n₂ ∧ o.length ≤ i + j ∧ Sl 308 4 ov ocs Ho ∧ PM Z o ocs ∧
   (∀ r,DifM (m₁.drop i) (m₂.drop j) r → DifM m₁ m₂ (o ++ r)) ∧ Z = Z' ∧ H' = (ob,cl [ov] 275) :: Ho) (n₁ + n₂) ?_ ?_
 ·exact ⟨0,0,[],_,[],[],rfl,rfl,by omega,by omega,by omega,by simp,.nil,rfl,fun r h => h,rfl,rfl⟩
 rintro m g Z' H' _ ⟨i,j,o,ov,ocs,Ho,h6,h7,rfl,hi,hj,hol,hsl,hpo,hc,rfl,rfl⟩
 have hocs := hpo.len
 haveI := hsl.one
 refine WP.pin 6 h6 ?_
 refine WP.pin 7 h7 ?_
 by_cases hij : i < n₁ ∧ j < n₂
 ·obtain ⟨h1,h2⟩ := hij
  obtain ⟨b₁,o₁,y₁,kb₁,k₁,rfl,z₁,t₁,d₁,q₁,e₁,_⟩ := elt r₁ p₁ h1
  obtain ⟨b₂,o₂,y₂,kb₂,k₂,rfl,z₂,t₂,d₂,q₂,e₂,_⟩ := elt r₂ p₂ h2
  haveI : Zf Z b₁ (cl y₁ 308) := ⟨z₁⟩
  haveI : Zf Z b₂ (cl y₂ 308) := ⟨z₂⟩
  haveI : Zf Z kb₁ (cl [.string k₁] 9) := ⟨q₁⟩
  haveI : Zf Z kb₂ (cl [.string k₂] 9) := ⟨q₂⟩
  refine gn ?_
  refine WP.drawA mo (by decide +kernel) ?_
  refine gn ?_
  refine o_indexAddr rfl rfl rfl h1 ?_
  refine o_loadN rfl rfl e₁ rfl ?_
  refine gn ?_
  refine o_indexAddr rfl rfl rfl h2 ?_
  refine o_loadN rfl rfl e₂ rfl ?_
  refine cp (f144 kb₁ kb₂ k₁ k₂ Z) ?_
  rintro _ rfl
  by_cases hlt : ltN k₁ k₂
  ·rw [decide_eq_true hlt]
   refine gn ?_
   refine WP.drawS [(ob,cl [ov] 275)] Ho 14 mo (by decide +kernel) (prm rfl) ?_
   refine gn ?_
   refine o_indexAddr rfl rfl rfl h1 ?_
   refine o_loadN rfl rfl e₁ rfl ?_
   refine gn ?_; intro vb
   refine oap hsl rfl rfl rfl (Rs.cells (inferInstance : Mem false Z _ _ vb (cl (pe kb₁) 308)) rfl (Nat.le_refl 1)) (by simp [Value.oneCell']) (by omega) (by simp; omega) ?_
   intro ov' Ho' hsl'
   haveI := hsl'.one
   refine r_two [] ?_
   refine gn ?_
   refine ⟨bk,(n₁ - (i + 1)) + (n₂ - j),(ob,cl [ov'] 275) :: Ho',_,by omega,spp,i + 1,j,o ++ [k₁],ov',_,Ho',rfl,rfl,rfl,h1,hj,by simp; omega,hsl',hpo.app (PM.one1 q₁),fun r h => ?_,rfl,rfl⟩
   rw [List.append_assoc]
   refine hc _ ?_
   rw [d₁,d₂]
   rw [d₂] at h
   exact .lt hlt h
  ·rw [decide_eq_false hlt]
   refine gn ?_
   refine WP.drawA mo (by decide +kernel) ?_
   refine gn ?_
   refine o_indexAddr rfl rfl rfl h2 ?_
   refine o_loadN rfl rfl e₂ rfl ?_
   refine gn ?_
   refine o_indexAddr rfl rfl rfl h1 ?_
   refine o_loadN rfl rfl e₁ rfl ?_
   refine cp (f144 kb₂ kb₁ k₂ k₁ Z) ?_
   rintro _ rfl
   by_cases hgt : ltN k₂ k₁
   ·rw [decide_eq_true hgt]
    refine gn ?_
    refine ⟨bk,(n₁ - i) + (n₂ - (j + 1)),(ob,cl [ov] 275) :: Ho,_,by omega,spp,i,j + 1,o,ov,ocs,Ho,rfl,rfl,rfl,hi,h2,by omega,hsl,hpo,fun r h => ?_,rfl,rfl⟩
    refine hc _ ?_
    rw [d₁,d₂]
    rw [d₁] at h
    exact .gt hgt h
   ·rw [decide_eq_false hgt]
    have hk := eq_of_nlt hlt hgt
    subst hk
    refine gn ?_
    refine ⟨bk,(n₁ - (i + 1)) + (n₂ - (j + 1)),(ob,cl [ov] 275) :: Ho,_,by omega,spp,i + 1,j + 1,o,ov,ocs,Ho,rfl,rfl,rfl,h1,h2,by omega,hsl,hpo,fun r h => ?_,rfl,rfl⟩
    refine hc _ ?_
    rw [d₁,d₂]
    exact .eq h
 ·have key : ∀ {Q : Post},True := fun {_} => trivial
  by_cases h1 : i < n₁
  ·have h2 : j = n₂ := by omega
   subst h2
   obtain ⟨b₁,o₁,y₁,kb₁,k₁,rfl,z₁,t₁,d₁,q₁,e₁,f₁,g₁⟩ := elt r₁ p₁ h1
   haveI : Zf Z b₁ (cl y₁ 308) := ⟨z₁⟩
   refine gn ?_
   refine WP.drawS [(ob,cl [ov] 275)] Ho 12 mo (by decide +kernel) (prm rfl) ?_
   refine gn ?_
   refine o_sliceLs rfl rfl rfl (by omega) (by omega) ?_
   have hrow : Rs (fun b o => Mem false Z [(ob,cl [ov] 275)] [] b o) 4 (.slice (some ⟨b₁,o₁ + i * 4,none⟩) (n₁ - i) (c₁ - i)) (n₁ - i) (x₁.drop (i * 4)) := by
    refine .row b₁ _ _ _ 308 y₁ _ inferInstance ?_ ?_ (by omega)
    ·rw [← f₁,List.drop_take,List.drop_drop,Nat.sub_mul]
    ·rw [List.length_drop,g₁,Nat.sub_mul]
   have hp' := p₁.drop i
   refine oap hsl rfl rfl rfl hrow hp'.one (by omega) (by rw [hp'.len]; simp; omega) ?_
   intro ov' Ho' hsl'
   haveI := hsl'.one
   refine r_two [] ?_
   refine gn ?_
   refine fin1 fun Z' hz hp => ?_
   have hq := hsl'.frz (Z := Z') fun p hm => hp p (by simp [hm])
   obtain ⟨m,hq⟩ := hq
   refine ⟨ob,ov',m,_,_,rfl,fzat ob hp,hq,(hpo.app hp').mono hz,hc _ ?_⟩
   rw [List.drop_of_length_le (l := m₂) (by omega)]
   exact .nilR
  ·have h1' : i = n₁ := by omega
   subst h1'
   refine gn ?_
   refine fin1 fun Z' hz hp => ?_
   have hq := hsl.frz (Z := Z') fun p hm => hp p (by simp [hm])
   obtain ⟨m,hq⟩ := hq
   refine ⟨ob,ov,m,_,o,rfl,fzat ob hp,hq,hpo.mono hz,?_⟩
   have := hc [] (by rw [List.drop_of_length_le (l := m₁) (by omega)]; exact .nilL)
   simpa using this
end Go.Ux
namespace Go.Ux
open Go Go.Proofs
set_option maxRecDepth 20000
attribute [local irreducible] WP Tr
set_option maxHeartbeats 4000000 in
theorem f107 (sb tb : Nat) (a₁ a₂ : Option Addr) (c₁ c₂ n₁ n₂ : Nat) (w₁ w₂ : Value) (m₁ m₂ : List Nm) (x₁ x₂ : List Value) (Z : Fz) [Zf Z sb (cl [.slice a₁ n₁ c₁,w₁] 281)] [Zf Z tb (cl [.slice a₂ n₂ c₂,w₂] 281)]
  (r₁ : Rs (inT Z 308) 4 (.slice a₁ n₁ c₁) n₁ x₁) (p₁ : PM Z m₁ x₁) (r₂ : Rs (inT Z 308) 4 (.slice a₂ n₂ c₂) n₂ x₂) (p₂ : PM Z m₂ x₂) (hn₁ : n₁ ≤ 1073741824) (hn₂ : n₂ ≤ 1073741824) :
  Gr Tryz.prog 107 #[.pointer (some ⟨sb,0,none⟩),.pointer (some ⟨tb,0,none⟩)] Z fun v Z' => ∃ ob mv n cs o,v = .pointer (some ⟨ob,0,none⟩) ∧ Z' ob = some (cl [mv] 275) ∧ Rs (inT Z' 308) 4 mv n cs ∧ PM Z' o cs ∧ UniM m₁ m₂ o := by
 refine Gr.intro Tryz.func107 rfl Tryz.ntmps107 Tryz.results107 rfl ?_
 have l₁ := p₁.n r₁
 have l₂ := p₂.n r₂
 repeat (first | refine gn ?_ | intro _)
 rename_i ob
 refine WP.loopK (6 :: 7 :: List.range' 10 85)
  (fun m g Z' H' => ∃ (i j : Nat) (o : List Nm) (ov : Value) (ocs : List Value) (Ho : Hp),g 6 = .int .i64 i ∧ g 7 = .int .i64 j ∧ m = (n₁ - i) + (n₂ - j) ∧ i ≤ n₁ ∧ j ≤ n₂ ∧ o.length ≤ i + j ∧ Sl 308 4 ov ocs Ho ∧ PM Z o ocs ∧
   (∀ r,UniM (m₁.drop i) (m₂.drop j) r → UniM m₁ m₂ (o ++ r)) ∧ Z = Z' ∧ H' = (ob,cl [ov] 275) :: Ho) (n₁ + n₂) ?_ ?_
 ·exact ⟨0,0,[],_,[],[],rfl,rfl,by omega,by omega,by omega,by simp,.nil,rfl,fun r h => h,rfl,rfl⟩
 rintro m g Z' H' _ ⟨i,j,o,ov,ocs,Ho,h6,h7,rfl,hi,hj,hol,hsl,hpo,hc,rfl,rfl⟩
 have hocs := hpo.len
 haveI := hsl.one
 refine WP.pin 6 h6 ?_
 refine WP.pin 7 h7 ?_
 by_cases hij : i < n₁ ∧ j < n₂
 ·obtain ⟨h1,h2⟩ := hij
  obtain ⟨b₁,o₁,y₁,kb₁,k₁,rfl,z₁,t₁,d₁,q₁,e₁,_⟩ := elt r₁ p₁ h1
  obtain ⟨b₂,o₂,y₂,kb₂,k₂,rfl,z₂,t₂,d₂,q₂,e₂,_⟩ := elt r₂ p₂ h2
  haveI : Zf Z b₁ (cl y₁ 308) := ⟨z₁⟩
  haveI : Zf Z b₂ (cl y₂ 308) := ⟨z₂⟩
  haveI : Zf Z kb₁ (cl [.string k₁] 9) := ⟨q₁⟩
  haveI : Zf Z kb₂ (cl [.string k₂] 9) := ⟨q₂⟩
  refine gn ?_
  refine WP.drawA mo (by decide +kernel) ?_
  refine gn ?_
  refine o_indexAddr rfl rfl rfl h1 ?_
  refine o_loadN rfl rfl e₁ rfl ?_
  refine gn ?_
  refine o_indexAddr rfl rfl rfl h2 ?_
  refine o_loadN rfl rfl e₂ rfl ?_
  refine cp (f144 kb₁ kb₂ k₁ k₂ Z) ?_
  rintro _ rfl
  by_cases hlt : ltN k₁ k₂
  ·rw [decide_eq_true hlt]
   refine gn ?_
   refine WP.drawS [(ob,cl [ov] 275)] Ho 14 mo (by decide +kernel) (prm rfl) ?_
   refine gn ?_
   refine o_indexAddr rfl rfl rfl h1 ?_
   refine o_loadN rfl rfl e₁ rfl ?_
   refine gn ?_; intro vb
   refine oap hsl rfl rfl rfl (Rs.cells (inferInstance : Mem false Z _ _ vb (cl (pe kb₁) 308)) rfl (Nat.le_refl 1)) (by simp [Value.oneCell']) (by omega) (by simp; omega) ?_
   intro ov' Ho' hsl'
   haveI := hsl'.one
   refine r_two [] ?_
   refine gn ?_
   refine ⟨bk,(n₁ - (i + 1)) + (n₂ - (j)),(ob,cl [ov'] 275) :: Ho',_,by omega,spp,i + 1,j,o ++ [k₁],ov',_,Ho',rfl,rfl,rfl,by omega,by omega,(by first | omega | (simp; omega)),hsl',hpo.app (PM.one1 q₁),fun r h => ?_,rfl,rfl⟩
   rw [List.append_assoc]
   refine hc _ ?_
   rw [d₁,d₂]
   rw [d₂] at h
   exact .lt hlt h
  ·rw [decide_eq_false hlt]
   refine gn ?_
   refine WP.drawS [(ob,cl [ov] 275)] Ho 14 mo (by decide +kernel) (prm rfl) ?_
   refine gn ?_
   refine o_indexAddr rfl rfl rfl h2 ?_
   refine o_loadN rfl rfl e₂ rfl ?_
   refine gn ?_; intro vb
   refine oap hsl rfl rfl rfl (Rs.cells (inferInstance : Mem false Z _ _ vb (cl (pe kb₂) 308)) rfl (Nat.le_refl 1)) (by simp [Value.oneCell']) (by omega) (by simp; omega) ?_
   intro ov' Ho' hsl'
   haveI := hsl'.one
   refine r_two [] ?_
   refine gn ?_
   refine WP.drawA mo (by decide +kernel) ?_
   refine gn ?_
   refine o_indexAddr rfl rfl rfl h2 ?_
   refine o_loadN rfl rfl e₂ rfl ?_
   refine gn ?_
   refine o_indexAddr rfl rfl rfl h1 ?_
   refine o_loadN rfl rfl e₁ rfl ?_
   refine cp (f144 kb₂ kb₁ k₂ k₁ Z) ?_
   rintro _ rfl
   by_cases hgt : ltN k₂ k₁
   ·rw [decide_eq_true hgt]
    refine gn ?_
    refine ⟨bk,(n₁ - (i)) + (n₂ - (j + 1)),(ob,cl [ov'] 275) :: Ho',_,by omega,spp,i,j + 1,o ++ [k₂],ov',_,Ho',rfl,rfl,rfl,by omega,by omega,(by first | omega | (simp; omega)),hsl',hpo.app (PM.one1 q₂),fun r h => ?_,rfl,rfl⟩
    rw [List.append_assoc]
    refine hc _ ?_
    rw [d₁,d₂]
    rw [d₁] at h
    exact .gt hgt h
   ·rw [decide_eq_false hgt]
    have hk := eq_of_nlt hlt hgt
    subst hk
    refine gn ?_
    refine ⟨bk,(n₁ - (i + 1)) + (n₂ - (j + 1)),(ob,cl [ov'] 275) :: Ho',_,by omega,spp,i + 1,j + 1,o ++ [k₁],ov',_,Ho',rfl,rfl,rfl,by omega,by omega,(by first | omega | (simp; omega)),hsl',hpo.app (PM.one1 q₂),fun r h => ?_,rfl,rfl⟩
    rw [List.append_assoc]
    refine hc _ ?_
    rw [d₁,d₂]
    exact .eq h
 ·by_cases h1 : i < n₁
  ·have h2 : j = n₂ := by omega
   subst h2
   obtain ⟨b₁,o₁,y₁,kb₁,k₁,rfl,z₁,t₁,d₁,q₁,e₁,f₁,g₁⟩ := elt r₁ p₁ h1
   haveI : Zf Z b₁ (cl y₁ 308) := ⟨z₁⟩
   refine gn ?_
   refine WP.drawS [(ob,cl [ov] 275)] Ho 12 mo (by decide +kernel) (prm rfl) ?_
   refine gn ?_
   refine o_sliceLs rfl rfl rfl (by omega) (by omega) ?_
   have hrow : Rs (fun b o => Mem false Z [(ob,cl [ov] 275)] [] b o) 4 (.slice (some ⟨b₁,o₁ + i * 4,none⟩) (n₁ - i) (c₁ - i)) (n₁ - i) (x₁.drop (i * 4)) := by
    refine .row b₁ _ _ _ 308 y₁ _ inferInstance ?_ ?_ (by omega)
    ·rw [← f₁,List.drop_take,List.drop_drop,Nat.sub_mul]
    ·rw [List.length_drop,g₁,Nat.sub_mul]
   have hp' := p₁.drop i
   refine oap hsl rfl rfl rfl hrow hp'.one (by omega) (by rw [hp'.len]; simp; omega) ?_
   intro ov' Ho' hsl'
   haveI := hsl'.one
   refine r_two [] ?_
   refine gn ?_
   refine fin1 fun Z' hz hp => ?_
   have hq := hsl'.frz (Z := Z') fun p hm => hp p (by simp [hm])
   obtain ⟨m,hq⟩ := hq
   refine ⟨ob,ov',m,_,_,rfl,fzat ob hp,hq,(hpo.app hp').mono hz,hc _ ?_⟩
   rw [List.drop_of_length_le (l := m₂) (by omega)]
   exact .nilR
  ·have h1' : i = n₁ := by omega
   subst h1'
   by_cases h2 : j < n₂
   ·obtain ⟨b₂,o₂,y₂,kb₂,k₂,rfl,z₂,t₂,d₂,q₂,e₂,f₂,g₂⟩ := elt r₂ p₂ h2
    haveI : Zf Z b₂ (cl y₂ 308) := ⟨z₂⟩
    refine gn ?_
    refine WP.drawS [(ob,cl [ov] 275)] Ho 12 mo (by decide +kernel) (prm rfl) ?_
    refine gn ?_
    refine o_sliceLs rfl rfl rfl (by omega) (by omega) ?_
    have hrow : Rs (fun b o => Mem false Z [(ob,cl [ov] 275)] [] b o) 4 (.slice (some ⟨b₂,o₂ + j * 4,none⟩) (n₂ - j) (c₂ - j)) (n₂ - j) (x₂.drop (j * 4)) := by
     refine .row b₂ _ _ _ 308 y₂ _ inferInstance ?_ ?_ (by omega)
     ·rw [← f₂,List.drop_take,List.drop_drop,Nat.sub_mul]
     ·rw [List.length_drop,g₂,Nat.sub_mul]
    have hp' := p₂.drop j
    refine oap hsl rfl rfl rfl hrow hp'.one (by omega) (by rw [hp'.len]; simp; omega) ?_
    intro ov' Ho' hsl'
    haveI := hsl'.one
    refine r_two [] ?_
    refine gn ?_
    refine fin1 fun Z' hz hp => ?_
    have hq := hsl'.frz (Z := Z') fun p hm => hp p (by simp [hm])
    obtain ⟨m,hq⟩ := hq
    refine ⟨ob,ov',m,_,_,rfl,fzat ob hp,hq,(hpo.app hp').mono hz,hc _ ?_⟩
    rw [List.drop_of_length_le (l := m₁) (by omega)]
    exact .nilL
   ·have h2' : j = n₂ := by omega
    subst h2'
    refine gn ?_
    refine fin1 fun Z' hz hp => ?_
    have hq := hsl.frz (Z := Z') fun p hm => hp p (by simp [hm])
    obtain ⟨m,hq⟩ := hq
    refine ⟨ob,ov,m,_,o,rfl,fzat ob hp,hq,hpo.mono hz,?_⟩
    have := hc [] (by rw [List.drop_of_length_le (l := m₁) (by omega),List.drop_of_length_le (l := m₂) (by omega)]; exact .nilL)
    simpa using this
set_option maxHeartbeats 4000000 in
theorem f136 (sb tb : Nat) (a₁ a₂ : Option Addr) (c₁ c₂ n₁ n₂ : Nat) (w₁ w₂ : Value) (m₁ m₂ : List Nm) (x₁ x₂ : List Value) (Z : Fz) [Zf Z sb (cl [.slice a₁ n₁ c₁,w₁] 281)] [Zf Z tb (cl [.slice a₂ n₂ c₂,w₂] 281)]
  (r₁ : Rs (inT Z 308) 4 (.slice a₁ n₁ c₁) n₁ x₁) (p₁ : PM Z m₁ x₁) (r₂ : Rs (inT Z 308) 4 (.slice a₂ n₂ c₂) n₂ x₂) (p₂ : PM Z m₂ x₂) (hn₁ : n₁ ≤ 1073741824) (hn₂ : n₂ ≤ 1073741824) :
  Gr Tryz.prog 136 #[.pointer (some ⟨sb,0,none⟩),.pointer (some ⟨tb,0,none⟩)] Z fun v Z' => ∃ ob mv n cs o,v = .pointer (some ⟨ob,0,none⟩) ∧ Z' ob = some (cl [mv] 275) ∧ Rs (inT Z' 308) 4 mv n cs ∧ PM Z' o cs ∧ MeeM m₁ m₂ o := by
 refine Gr.intro Tryz.func136 rfl Tryz.ntmps136 Tryz.results136 rfl ?_
 have l₁ := p₁.n r₁
 have l₂ := p₂.n r₂
 repeat (first | refine gn ?_ | intro _)
 rename_i ob
 refine WP.loopK (6 :: 7 :: List.range' 10 69)
  (fun m g Z' H' => ∃ (i j : Nat) (o : List Nm) (ov : Value) (ocs : List Value) (Ho : Hp),g 6 = .int .i64 i ∧ g 7 = .int .i64 j ∧ m = (n₁ - i) + (n₂ - j) ∧ i ≤ n₁ ∧ j ≤ n₂ ∧ o.length ≤ i + j ∧ Sl 308 4 ov ocs Ho ∧ PM Z o ocs ∧
   (∀ r,MeeM (m₁.drop i) (m₂.drop j) r → MeeM m₁ m₂ (o ++ r)) ∧ Z = Z' ∧ H' = (ob,cl [ov] 275) :: Ho) (n₁ + n₂) ?_ ?_
 ·exact ⟨0,0,[],_,[],[],rfl,rfl,by omega,by omega,by omega,by simp,.nil,rfl,fun r h => h,rfl,rfl⟩
 rintro m g Z' H' _ ⟨i,j,o,ov,ocs,Ho,h6,h7,rfl,hi,hj,hol,hsl,hpo,hc,rfl,rfl⟩
 have hocs := hpo.len
 haveI := hsl.one
 refine WP.pin 6 h6 ?_
 refine WP.pin 7 h7 ?_
 by_cases hij : i < n₁ ∧ j < n₂
 ·obtain ⟨h1,h2⟩ := hij
  obtain ⟨b₁,o₁,y₁,kb₁,k₁,rfl,z₁,t₁,d₁,q₁,e₁,_⟩ := elt r₁ p₁ h1
  obtain ⟨b₂,o₂,y₂,kb₂,k₂,rfl,z₂,t₂,d₂,q₂,e₂,_⟩ := elt r₂ p₂ h2
  haveI : Zf Z b₁ (cl y₁ 308) := ⟨z₁⟩
  haveI : Zf Z b₂ (cl y₂ 308) := ⟨z₂⟩
  haveI : Zf Z kb₁ (cl [.string k₁] 9) := ⟨q₁⟩
  haveI : Zf Z kb₂ (cl [.string k₂] 9) := ⟨q₂⟩
  refine gn ?_
  refine WP.drawA mo (by decide +kernel) ?_
  refine gn ?_
  refine o_indexAddr rfl rfl rfl h1 ?_
  refine o_loadN rfl rfl e₁ rfl ?_
  refine gn ?_
  refine o_indexAddr rfl rfl rfl h2 ?_
  refine o_loadN rfl rfl e₂ rfl ?_
  refine cp (f144 kb₁ kb₂ k₁ k₂ Z) ?_
  rintro _ rfl
  by_cases hlt : ltN k₁ k₂
  ·rw [decide_eq_true hlt]
   refine gn ?_
   refine ⟨bk,(n₁ - (i + 1)) + (n₂ - (j)),(ob,cl [ov] 275) :: Ho,_,by omega,spp,i + 1,j,o,ov,_,Ho,rfl,rfl,rfl,by omega,by omega,(by first | omega | (simp; omega)),hsl,hpo,fun r h => ?_,rfl,rfl⟩
   refine hc _ ?_
   rw [d₁,d₂]
   rw [d₂] at h
   exact .lt hlt h
  ·rw [decide_eq_false hlt]
   refine gn ?_
   refine WP.drawA mo (by decide +kernel) ?_
   refine gn ?_
   refine o_indexAddr rfl rfl rfl h2 ?_
   refine o_loadN rfl rfl e₂ rfl ?_
   refine gn ?_
   refine o_indexAddr rfl rfl rfl h1 ?_
   refine o_loadN rfl rfl e₁ rfl ?_
   refine cp (f144 kb₂ kb₁ k₂ k₁ Z) ?_
   rintro _ rfl
   by_cases hgt : ltN k₂ k₁
   ·rw [decide_eq_true hgt]
    refine gn ?_
    refine ⟨bk,(n₁ - (i)) + (n₂ - (j + 1)),(ob,cl [ov] 275) :: Ho,_,by omega,spp,i,j + 1,o,ov,_,Ho,rfl,rfl,rfl,by omega,by omega,(by first | omega | (simp; omega)),hsl,hpo,fun r h => ?_,rfl,rfl⟩
    refine hc _ ?_
    rw [d₁,d₂]
    rw [d₁] at h
    exact .gt hgt h
   ·rw [decide_eq_false hgt]
    have hk := eq_of_nlt hlt hgt
    subst hk
    refine gn ?_
    refine WP.drawS [(ob,cl [ov] 275)] Ho 14 mo (by decide +kernel) (prm rfl) ?_
    refine gn ?_
    refine o_indexAddr rfl rfl rfl h1 ?_
    refine o_loadN rfl rfl e₁ rfl ?_
    refine gn ?_; intro vb
    refine oap hsl rfl rfl rfl (Rs.cells (inferInstance : Mem false Z _ _ vb (cl (pe kb₁) 308)) rfl (Nat.le_refl 1)) (by simp [Value.oneCell']) (by omega) (by simp; omega) ?_
    intro ov' Ho' hsl'
    haveI := hsl'.one
    refine r_two [] ?_
    refine gn ?_
    refine ⟨bk,(n₁ - (i + 1)) + (n₂ - (j + 1)),(ob,cl [ov'] 275) :: Ho',_,by omega,spp,i + 1,j + 1,o ++ [k₁],ov',_,Ho',rfl,rfl,rfl,by omega,by omega,(by first | omega | (simp; omega)),hsl',hpo.app (PM.one1 q₁),fun r h => ?_,rfl,rfl⟩
    rw [List.append_assoc]
    refine hc _ ?_
    rw [d₁,d₂]
    exact .eq h
 ·by_cases h1 : i < n₁
  ·have h2 : j = n₂ := by omega
   subst h2
   refine gn ?_
   refine fin1 fun Z' hz hp => ?_
   have hq := hsl.frz (Z := Z') fun p hm => hp p (by simp [hm])
   obtain ⟨m,hq⟩ := hq
   refine ⟨ob,ov,m,_,o,rfl,fzat ob hp,hq,hpo.mono hz,?_⟩
   have := hc [] (by rw [List.drop_of_length_le (l := m₂) (by omega)]; exact .nilR)
   simpa using this
  ·have h1' : i = n₁ := by omega
   subst h1'
   refine gn ?_
   refine fin1 fun Z' hz hp => ?_
   have hq := hsl.frz (Z := Z') fun p hm => hp p (by simp [hm])
   obtain ⟨m,hq⟩ := hq
   refine ⟨ob,ov,m,_,o,rfl,fzat ob hp,hq,hpo.mono hz,?_⟩
   have := hc [] (by rw [List.drop_of_length_le (l := m₁) (by omega)]; exact .nilL)
   simpa using this
end Go.Ux
namespace Go.Ux
open Go Go.Proofs
set_option maxRecDepth 20000
attribute [local irreducible] WP Tr
theorem eltC {Z : Fz} {a : Option Addr} {n c i : Nat} {cs : List Value} {ch : Ch} (hr : Rs (inT Z 331) 5 (.slice a n c) n cs) (hm : SC Z ch cs) (hi : i < n) :
  ∃ b off xs kb sb k s,a = some ⟨b,off,none⟩ ∧ Z b = some (cl xs 331) ∧ n ≤ c ∧ ch.drop i = (k,s) :: ch.drop (i + 1) ∧ Z kb = some (cl [.string k] 9) ∧ SR Z s sb ∧ (xs.drop (off + i * 5)).take 5 = nd kb sb ∧
   (xs.drop (off + i * 5)).take 4 = pe kb ∧ xs[off + i * 5 + 4]? = some (.pointer (some ⟨sb,0,none⟩)) ∧ (xs.drop off).take (n * 5) = cs ∧ cs.length = n * 5 := by
 cases hr with
 | nil => omega
 | emp => omega
 | row b off n c U xs ds h hd hl hn =>
  obtain ⟨h,ys,e⟩ := h
  have hml := hm.len
  obtain ⟨k,s,hk⟩ : ∃ k s,ch[i]? = some (k,s) := ⟨(ch[i]'(by omega)).1,(ch[i]'(by omega)).2,List.getElem?_eq_getElem (by omega)⟩
  obtain ⟨kb,sb,h1,h2,h3⟩ := hm.at hk
  simp only [Obj.cells.injEq] at e
  obtain ⟨_,rfl,_⟩ := e
  have h4 : (xs.drop (off + i * 5)).take 5 = nd kb sb := (row_at hd hi).trans h3
  refine ⟨b,off,xs,kb,sb,k,s,rfl,h,hn,?_,h1,h2,h4,?_,?_,hd,hl⟩
  ·rw [List.drop_eq_getElem_cons (by omega)]
   congr 1
   exact (List.getElem?_eq_some_iff.1 hk).2
  ·have := congrArg (List.take 4) h4
   rw [List.take_take] at this
   exact this
  ·have := congrArg (fun l => l[4]?) h4
   simp only [List.getElem?_take,List.getElem?_drop] at this
   simpa using this
theorem SC.n {Z : Fz} {ch : Ch} {cs : List Value} {n : Nat} {mv : Value} (h : SC Z ch cs) (hr : Rs (inT Z 331) 5 mv n cs) : ch.length = n := by
 have h1 := h.len
 cases hr with
 | nil => simp at h1; omega
 | emp => simp at h1; omega
 | row => omega
theorem Rs.sl {R : Nat → Obj → Prop} {k n : Nat} {v : Value} {cs : List Value} (h : Rs R k v n cs) : ∃ a c,v = .slice a n c := by cases h <;> exact ⟨_,_,rfl⟩
theorem FS.Wf.len {U : List Nm} {ms : List Nm} {ch : Ch} (h : (FS.mk ms ch).Wf U) (hU : U.length ≤ 1073741824) : ms.length ≤ 1073741824 ∧ ch.length ≤ 1073741824 := by
 cases h with | mk w1 w2 w3 w4 w5 w6 =>
 have q1 := w1.length_le w3
 have q2 := w2.length_le w4
 rw [List.length_map] at q2
 omega
theorem FS.Wf.child {U : List Nm} {ms : List Nm} {ch : Ch} {k : Nm} {s : FS} (h : (FS.mk ms ch).Wf U) (hk : (k,s) ∈ ch) : s.Wf U := by
 cases h with | mk w1 w2 w3 w4 w5 w6 => exact w5 _ hk
theorem FS.Wf.ne {U : List Nm} {ms : List Nm} {ch : Ch} {k : Nm} {s : FS} (h : (FS.mk ms ch).Wf U) (hk : (k,s) ∈ ch) : ∃ q,s.has q := by
 cases h with | mk w1 w2 w3 w4 w5 w6 => exact w6 _ hk
theorem drop_mem {α : Type} {l r : List α} {x : α} {i : Nat} (h : l.drop i = x :: r) : x ∈ l := List.mem_of_mem_drop (h ▸ List.mem_cons_self ..)
theorem f109 (sb : Nat) (a : Option Addr) (n c : Nat) (w : Value) (Z : Fz) [Zf Z sb (cl [.slice a n c,w] 281)] : Pu Tryz.prog 109 #[.pointer (some ⟨sb,0,none⟩)] Z fun v => v = .int .i64 n := by
 refine Pu.intro Tryz.func109 rfl Tryz.ntmps109 Tryz.results109 rfl ?_
 refine gn ?_
 exact fin1 ⟨rfl,rfl⟩
def E73 (N : Nat) : Prop := ∀ (s : FS) (b : Nat) (U : List Nm) (Z : Fz),s.sz < N → SR Z s b → s.Wf U → U.length ≤ 1073741824 → Pu Tryz.prog 73 #[.pointer (some ⟨b,0,none⟩)] Z fun v => ∃ e,v = .bool e ∧ (e = true ↔ s.Emp)
set_option maxHeartbeats 1000000 in
theorem f110 {N : Nat} (ih : E73 N) (sb : Nat) (a : Option Addr) (n c : Nat) (w : Value) (ms : List Nm) (ch : Ch) (cs : List Value) (U : List Nm) (Z : Fz) [Zf Z sb (cl [w,.slice a n c] 281)] (hr : Rs (inT Z 331) 5 (.slice a n c) n cs) (hc : SC Z ch cs) (hw : (FS.mk ms ch).Wf U) (hU : U.length ≤ 1073741824) (hN : szC ch < N) :
  Pu Tryz.prog 110 #[.pointer (some ⟨sb,1,none⟩)] Z fun v => ∃ e,v = .bool e ∧ (e = true ↔ ∀ p ∈ ch,p.2.Emp) := by
 have hl := hc.n hr
 have hb := hw.len hU
 refine Pu.intro Tryz.func110 rfl Tryz.ntmps110 Tryz.results110 rfl ?_
 refine gn ?_
 refine WP.loopK [2,4,10,11,12,13,14,15,16,17,18] (fun m g Z' H' => ∃ i : Nat,g 10 = .int .i64 i ∧ m = n - i ∧ i ≤ n ∧ (∀ p ∈ ch.take i,p.2.Emp) ∧ Z = Z' ∧ H' = []) n ⟨0,rfl,by omega,by omega,by simp,rfl,rfl⟩ ?_
 rintro m g Z' H' _ ⟨i,h10,rfl,hi,hE,rfl,rfl⟩
 refine WP.pin 10 h10 ?_
 by_cases hin : i < n
 ·obtain ⟨b,off,xs,kb,sb',k,s,rfl,z₁,t₁,d₁,q₁,s₁,e₅,e₄,e₁,_⟩ := eltC hr hc hin
  haveI : Zf Z b (cl xs 331) := ⟨z₁⟩
  have hmem := drop_mem d₁
  refine gn ?_
  refine o_indexAddr rfl rfl rfl hin ?_
  refine o_loadN rfl rfl e₅ rfl ?_
  refine gn ?_
  intro lb
  refine gn ?_
  refine cp (ih s sb' U Z (Nat.lt_of_le_of_lt (szC_mem hmem) hN) s₁ (hw.child hmem) hU) ?_
  rintro _ ⟨e,rfl,he⟩
  cases e with
  | false =>
   refine gn ?_
   refine fin1 ⟨⟨false,rfl,fun h => (by cases h),fun h => absurd (h _ hmem) (fun h => by have := he.2 h; cases this)⟩,rfl⟩
  | true =>
   refine gn ?_
   refine ⟨bk,n - (i + 1),[],_,by omega,spp,i + 1,rfl,rfl,by omega,fun p hp => ?_,rfl,rfl⟩
   have ht : ch.take (i + 1) = ch.take i ++ [(k,s)] := by
    have h1 := List.take_append_drop i ch
    rw [d₁] at h1
    conv => lhs; rw [← h1]
    rw [List.take_append,List.take_of_length_le (by simp; omega)]
    congr 1
    rw [List.length_take,Nat.min_eq_left (by omega),show i + 1 - i = 1 by omega]
    rfl
   rw [ht] at hp
   rcases List.mem_append.1 hp with hp | hp
   ·exact hE p hp
   ·simp only [List.mem_singleton] at hp; subst hp; exact he.1 rfl
 ·refine gn ?_
  refine fin1 ⟨⟨true,rfl,fun _ => ?_,fun _ => rfl⟩,rfl⟩
  rwa [List.take_of_length_le (by omega)] at hE
theorem f73 : ∀ N,E73 N := by
 intro N
 induction N with
 | zero => intro s b U Z h; omega
 | succ N ih =>
  rintro ⟨ms,ch⟩ b U Z hN hs hw hU
  simp only [SR] at hs
  obtain ⟨mv,cv,n,n',cs,cs',z,r₁,p₁,r₂,p₂⟩ := hs
  obtain ⟨a₁,c₁,rfl⟩ := r₁.sl
  obtain ⟨a₂,c₂,rfl⟩ := r₂.sl
  haveI : Zf Z b (cl [.slice a₁ n c₁,.slice a₂ n' c₂] 281) := ⟨z⟩
  have hl := p₁.n r₁
  have hb := hw.len hU
  refine Pu.intro Tryz.func73 rfl Tryz.ntmps73 Tryz.results73 rfl ?_
  refine gn ?_
  refine cp (f109 b a₁ n c₁ _ Z) ?_
  rintro _ rfl
  by_cases h0 : 0 < n
  ·refine gn ?_
   refine fin1 ⟨⟨false,rfl,fun h => (by cases h),fun h => ?_⟩,rfl⟩
   have := ((FS.mk ms ch).emp_iff.1 h).1
   simp only [FS.ms] at this
   rw [this] at hl; simp at hl; omega
  ·refine gn ?_
   refine cp (f110 ih b a₂ n' c₂ _ ms ch cs' U Z r₂ p₂ hw hU (by simp only [FS.sz] at hN; omega)) ?_
   rintro _ ⟨e,rfl,he⟩
   refine gn ?_
   refine fin1 ⟨⟨e,rfl,he.trans ?_⟩,rfl⟩
   rw [FS.emp_iff]
   have : ms = [] := List.length_eq_zero_iff.1 (by omega)
   simp [FS.ms,FS.cs,this]
end Go.Ux
namespace Go.Ux
open Go Go.Proofs
set_option maxRecDepth 20000
attribute [local irreducible] WP Tr
theorem SC.one1 {Z : Fz} {k : Nm} {s : FS} {b b' : Nat} (h : Z b = some (cl [.string k] 9)) (hs : SR Z s b') : SC Z [(k,s)] (nd b b') := by
 simp only [SC]
 exact ⟨b,b',[],rfl,h,hs,rfl⟩
theorem Rs.one {R : Nat → Obj → Prop} {k n : Nat} {v : Value} {cs : List Value} (h : Rs R k v n cs) : One v := by
 obtain ⟨_,_,rfl⟩ := h.sl
 infer_instance
def E71 (N : Nat) : Prop := ∀ (a b : FS) (sb tb : Nat) (U : List Nm) (Z : Fz),a.sz < N → SR Z a sb → SR Z b tb → a.Wf U → b.Wf U → U.length ≤ 1073741824 → Gr Tryz.prog 71 #[.pointer (some ⟨sb,0,none⟩),.pointer (some ⟨tb,0,none⟩)] Z fun v Z' => ∃ ob c,v = .pointer (some ⟨ob,0,none⟩) ∧ SR Z' c ob ∧ RD U a b c
set_option maxHeartbeats 8000000 in
theorem f106 {N : Nat} (ih : E71 N) (sb tb : Nat) (a₁ a₂ : Option Addr) (c₁ c₂ n₁ n₂ : Nat) (w₁ w₂ : Value) (m₁ m₂ : Ch) (x₁ x₂ : List Value) (U : List Nm) (Z : Fz) [Zf Z sb (cl [w₁,.slice a₁ n₁ c₁] 281)] [Zf Z tb (cl [w₂,.slice a₂ n₂ c₂] 281)]
  (r₁ : Rs (inT Z 331) 5 (.slice a₁ n₁ c₁) n₁ x₁) (p₁ : SC Z m₁ x₁) (r₂ : Rs (inT Z 331) 5 (.slice a₂ n₂ c₂) n₂ x₂) (p₂ : SC Z m₂ x₂) (hn₁ : n₁ ≤ 1073741824) (hn₂ : n₂ ≤ 1073741824) (u₁ : ∀ p ∈ m₁,p.2.Wf U) (u₂ : ∀ p ∈ m₂,p.2.Wf U) (hU : U.length ≤ 1073741824) (hN : szC m₁ < N) :
  Gr Tryz.prog 106 #[.pointer (some ⟨sb,1,none⟩),.pointer (some ⟨tb,0,none⟩)] Z fun v Z' => ∃ ob mv n cs o,v = .pointer (some ⟨ob,0,none⟩) ∧ Z' ob = some (cl [mv] 279) ∧ Rs (inT Z' 331) 5 mv n cs ∧ SC Z' o cs ∧ DifC (RD U) m₁ m₂ o := by
 refine Gr.intro Tryz.func106 rfl Tryz.ntmps106 Tryz.results106 rfl ?_
 have l₁ := p₁.n r₁
 have l₂ := p₂.n r₂
 repeat (first | refine gn ?_ | intro _)
 rename_i ob
 refine WP.loopK (6 :: 7 :: 8 :: List.range' 11 126)
  (fun m g Z' H' => ∃ (i j : Nat) (o : Ch) (ov : Value) (ocs : List Value) (Ho : Hp),g 6 = .int .i64 i ∧ g 7 = .int .i64 j ∧ m = (n₁ - i) + (n₂ - j) ∧ i ≤ n₁ ∧ j ≤ n₂ ∧ o.length ≤ i + j ∧ Sl 331 5 ov ocs Ho ∧ SC Z' o ocs ∧
   (∀ r,DifC (RD U) (m₁.drop i) (m₂.drop j) r → DifC (RD U) m₁ m₂ (o ++ r)) ∧ H' = (ob,cl [ov] 279) :: Ho) (n₁ + n₂) ?_ ?_
 ·exact ⟨0,0,[],_,[],[],rfl,rfl,by omega,by omega,by omega,by simp,.nil,by simp [SC],fun r h => h,rfl⟩
 rintro m g Z' H' hz ⟨i,j,o,ov,ocs,Ho,h6,h7,rfl,hi,hj,hol,hsl,hpo,hc,rfl⟩
 haveI : ZLe Z Z' := ⟨hz⟩
 have hzT : ∀ b x,inT Z 331 b x → inT Z' 331 b x := fun b x h => ⟨hz _ _ h.1,h.2⟩
 replace r₁ := r₁.mono hzT
 replace r₂ := r₂.mono hzT
 replace p₁ := p₁.mono hz
 replace p₂ := p₂.mono hz
 have hocs := hpo.len
 haveI := hsl.one
 refine WP.pin 6 h6 ?_
 refine WP.pin 7 h7 ?_
 by_cases hij : i < n₁ ∧ j < n₂
 ·obtain ⟨h1,h2⟩ := hij
  obtain ⟨b₁,o₁,y₁,kb₁,s₁,k₁,t₁,rfl,z₁,v₁,d₁,q₁,g₁,e₁,f₁,i₁,_⟩ := eltC r₁ p₁ h1
  obtain ⟨b₂,o₂,y₂,kb₂,s₂,k₂,t₂,rfl,z₂,v₂,d₂,q₂,g₂,e₂,f₂,i₂,_⟩ := eltC r₂ p₂ h2
  haveI : Zf Z' b₁ (cl y₁ 331) := ⟨z₁⟩
  haveI : Zf Z' b₂ (cl y₂ 331) := ⟨z₂⟩
  haveI : Zf Z' kb₁ (cl [.string k₁] 9) := ⟨q₁⟩
  haveI : Zf Z' kb₂ (cl [.string k₂] 9) := ⟨q₂⟩
  have w₁' := u₁ _ (drop_mem d₁)
  have w₂' := u₂ _ (drop_mem d₂)
  have sz₁ : t₁.sz < N := Nat.lt_of_le_of_lt (szC_mem (drop_mem d₁)) hN
  refine gn ?_
  refine WP.drawA mo (by decide +kernel) ?_
  refine gn ?_
  refine o_indexAddr rfl rfl rfl h1 ?_
  refine gn ?_
  refine o_loadN rfl rfl f₁ rfl ?_
  refine gn ?_
  refine o_indexAddr rfl rfl rfl h2 ?_
  refine gn ?_
  refine o_loadN rfl rfl f₂ rfl ?_
  refine cp (f144 kb₁ kb₂ k₁ k₂ Z') ?_
  rintro _ rfl
  by_cases hlt : ltN k₁ k₂
  ·rw [decide_eq_true hlt]
   refine gn ?_
   refine WP.drawS [(ob,cl [ov] 279)] Ho 24 mo (by decide +kernel) (prm rfl) ?_
   refine gn ?_
   refine o_indexAddr rfl rfl rfl h1 ?_
   refine gn ?_
   refine o_loadN rfl rfl f₁ rfl ?_
   refine gn ?_
   refine o_indexAddr rfl rfl rfl h1 ?_
   refine gn ?_; intro vb
   refine oap hsl rfl rfl rfl (Rs.cells (inferInstance : Mem false _ _ _ vb (cl (nd kb₁ s₁) 331)) rfl (Nat.le_refl 1)) (by simp [Value.oneCell']) (by omega) (by simp; omega) ?_
   intro ov' Ho' hsl'
   haveI := hsl'.one
   refine r_two [] ?_
   refine gn ?_
   refine ⟨bk,(n₁ - (i + 1)) + (n₂ - (j)),(ob,cl [ov'] 279) :: Ho',_,by omega,spp,i + 1,j,o ++ [(k₁,t₁)],ov',_,Ho',rfl,rfl,rfl,by omega,by omega,(by first | omega | (simp; omega)),hsl',hpo.app (SC.one1 q₁ g₁),fun r h => ?_,rfl⟩
   rw [List.append_assoc]
   refine hc _ ?_
   rw [d₁,d₂]
   rw [d₂] at h
   exact .lt hlt h
  ·rw [decide_eq_false hlt]
   refine gn ?_
   refine WP.drawA mo (by decide +kernel) ?_
   refine gn ?_
   refine o_indexAddr rfl rfl rfl h2 ?_
   refine gn ?_
   refine o_loadN rfl rfl f₂ rfl ?_
   refine gn ?_
   refine o_indexAddr rfl rfl rfl h1 ?_
   refine gn ?_
   refine o_loadN rfl rfl f₁ rfl ?_
   refine cp (f144 kb₂ kb₁ k₂ k₁ Z') ?_
   rintro _ rfl
   by_cases hgt : ltN k₂ k₁
   ·rw [decide_eq_true hgt]
    refine gn ?_
    refine ⟨bk,(n₁ - (i)) + (n₂ - (j + 1)),(ob,cl [ov] 279) :: Ho,_,by omega,spp,i,j + 1,o,ov,_,Ho,rfl,rfl,rfl,by omega,by omega,(by first | omega | (simp; omega)),hsl,hpo,fun r h => ?_,rfl⟩
    refine hc _ ?_
    rw [d₁,d₂]
    rw [d₁] at h
    exact .gt hgt h
   ·rw [decide_eq_false hgt]
    have hk := eq_of_nlt hlt hgt
    subst hk
    refine gn ?_
    refine WP.drawA mo (by decide +kernel) ?_
    refine gn ?_
    refine o_indexAddr rfl rfl rfl h1 ?_
    refine gn ?_
    refine o_indexAddr rfl rfl rfl h2 ?_
    refine gn ?_
    refine cg (ih t₁ t₂ s₁ s₂ U Z' sz₁ g₁ g₂ w₁' w₂' hU) ?_
    rintro _ Z1 hz1 ⟨rb,cr,rfl,gr,hr⟩
    haveI : ZLe Z' Z1 := ⟨hz1⟩
    refine gn ?_
    refine cp (f73 (cr.sz + 1) cr rb U Z1 (Nat.lt_succ_self _) gr hr.1 hU) ?_
    rintro _ ⟨e,rfl,he⟩
    cases e with
    | true =>
     refine gn ?_
     refine ⟨bk,(n₁ - (i + 1)) + (n₂ - (j + 1)),(ob,cl [ov] 279) :: Ho,_,by omega,spp,i + 1,j + 1,o,ov,_,Ho,rfl,rfl,rfl,by omega,by omega,(by first | omega | (simp; omega)),hsl,hpo.mono hz1,fun r h => ?_,rfl⟩
     refine hc _ ?_
     rw [d₁,d₂]
     exact .eq0 hr (he.1 rfl) h
    | false =>
     refine gn ?_
     refine WP.drawS [(ob,cl [ov] 279)] Ho 17 mo (by decide +kernel) (prm rfl) ?_
     refine gn ?_
     refine o_indexAddr rfl rfl rfl h1 ?_
     refine gn ?_
     refine o_loadN rfl rfl f₁ rfl ?_
     refine gn ?_; intro vb
     refine oap hsl rfl rfl rfl (Rs.cells (inferInstance : Mem false _ _ _ vb (cl (nd kb₁ rb) 331)) rfl (Nat.le_refl 1)) (by simp [Value.oneCell']) (by omega) (by simp; omega) ?_
     intro ov' Ho' hsl'
     haveI := hsl'.one
     refine r_two [] ?_
     refine gn ?_
     refine ⟨bk,(n₁ - (i + 1)) + (n₂ - (j + 1)),(ob,cl [ov'] 279) :: Ho',_,by omega,spp,i + 1,j + 1,o ++ [(k₁,cr)],ov',_,Ho',rfl,rfl,rfl,by omega,by omega,(by first | omega | (simp; omega)),hsl',(hpo.mono hz1).app (SC.one1 (hz1 _ _ q₁) gr),fun r h => ?_,rfl⟩
     rw [List.append_assoc]
     refine hc _ ?_
     rw [d₁,d₂]
     exact .eq hr (ne_has fun h' => by cases he.2 h') h
 ·by_cases h1 : i < n₁
  ·have h2 : j = n₂ := by omega
   subst h2
   obtain ⟨b₁,o₁,y₁,kb₁,s₁,k₁,t₁,rfl,z₁,v₁,d₁,q₁,g₁,e₁,f₁,i₁,x1,x2⟩ := eltC r₁ p₁ h1
   haveI : Zf Z' b₁ (cl y₁ 331) := ⟨z₁⟩
   refine gn ?_
   refine WP.drawS [(ob,cl [ov] 279)] Ho 12 mo (by decide +kernel) (prm rfl) ?_
   refine gn ?_
   refine o_sliceLs rfl rfl rfl (by omega) (by omega) ?_
   have hrow : Rs (fun b o => Mem false Z' [(ob,cl [ov] 279)] [] b o) 5 (.slice (some ⟨b₁,o₁ + i * 5,none⟩) (n₁ - i) (c₁ - i)) (n₁ - i) (x₁.drop (i * 5)) := by
    refine .row b₁ _ _ _ 331 y₁ _ inferInstance ?_ ?_ (by omega)
    ·rw [← x1,List.drop_take,List.drop_drop,Nat.sub_mul]
    ·rw [List.length_drop,x2,Nat.sub_mul]
   have hp' := p₁.drop i
   refine oap hsl rfl rfl rfl hrow hp'.one (by omega) (by rw [hp'.len]; simp; omega) ?_
   intro ov' Ho' hsl'
   haveI := hsl'.one
   refine r_two [] ?_
   refine gn ?_
   refine fin1 fun Z'' hz' hp => ?_
   have hq := hsl'.frz (Z := Z'') fun p hm => hp p (by simp [hm])
   obtain ⟨m,hq⟩ := hq
   refine ⟨ob,ov',m,_,_,rfl,fzat ob hp,hq,(hpo.app hp').mono hz',hc _ ?_⟩
   rw [List.drop_of_length_le (l := m₂) (by omega)]
   exact .nilR
  ·have h1' : i = n₁ := by omega
   subst h1'
   refine gn ?_
   refine fin1 fun Z'' hz' hp => ?_
   have hq := hsl.frz (Z := Z'') fun p hm => hp p (by simp [hm])
   obtain ⟨m,hq⟩ := hq
   refine ⟨ob,ov,m,_,o,rfl,fzat ob hp,hq,hpo.mono hz',?_⟩
   have := hc [] (by rw [List.drop_of_length_le (l := m₁) (by omega)]; exact .nilL)
   simpa using this
set_option maxHeartbeats 1000000 in
theorem f71 : ∀ N,E71 N := by
 intro N
 induction N with
 | zero => intro a b sb tb U Z h; omega
 | succ N ih =>
  rintro ⟨ms₁,ch₁⟩ ⟨ms₂,ch₂⟩ sb tb U Z hN hs₁ hs₂ hw₁ hw₂ hU
  have hb₁ := hw₁.len hU
  have hb₂ := hw₂.len hU
  simp only [SR] at hs₁ hs₂
  obtain ⟨mv₁,cv₁,n₁,n₁',cs₁,cs₁',z₁,r₁,p₁,r₁',p₁'⟩ := hs₁
  obtain ⟨mv₂,cv₂,n₂,n₂',cs₂,cs₂',z₂,r₂,p₂,r₂',p₂'⟩ := hs₂
  obtain ⟨_,_,rfl⟩ := r₁.sl
  obtain ⟨_,_,rfl⟩ := r₁'.sl
  obtain ⟨_,_,rfl⟩ := r₂.sl
  obtain ⟨_,_,rfl⟩ := r₂'.sl
  haveI : Zf Z sb _ := ⟨.of (z₁)⟩
  haveI : Zf Z tb _ := ⟨.of (z₂)⟩
  have l₁ := p₁.n r₁
  have l₂ := p₂.n r₂
  have l₁' := p₁'.n r₁'
  have l₂' := p₂'.n r₂'
  have u₁ : ∀ p ∈ ch₁,p.2.Wf U := by cases hw₁; assumption
  have u₂ : ∀ p ∈ ch₂,p.2.Wf U := by cases hw₂; assumption
  refine Gr.intro Tryz.func71 rfl Tryz.ntmps71 Tryz.results71 rfl ?_
  refine gn ?_
  refine WP.draw [] [] [0,1,2,3,4,5,9,10,11,12,6,7,8,13,14,15,16,17,18] mo (by decide +kernel) (.refl _) ?_
  refine gn ?_
  refine cg (f105 sb tb _ _ _ _ n₁ n₂ _ _ ms₁ ms₂ cs₁ cs₂ Z r₁ p₁ r₂ p₂ (by omega) (by omega)) ?_
  rintro _ Z1 hz1 ⟨ob,mv,nn,cs,o,rfl,zo,ro,po,hrel⟩
  haveI : ZLe Z Z1 := ⟨hz1⟩
  haveI : Zf Z1 ob (cl [mv] 275) := ⟨zo⟩
  haveI := ro.one
  refine gn ?_
  have hzT : ∀ b x,inT Z 331 b x → inT Z1 331 b x := fun b x h => ⟨hz1 _ _ h.1,h.2⟩
  refine cg (f106 ih sb tb _ _ _ _ n₁' n₂' _ _ ch₁ ch₂ cs₁' cs₂' U Z1 (r₁'.mono hzT) (p₁'.mono hz1) (r₂'.mono hzT) (p₂'.mono hz1) (by omega) (by omega) u₁ u₂ hU (by simp only [FS.sz] at hN; omega)) ?_
  rintro _ Z2 hz2 ⟨ob',mv',nn',cs',o',rfl,zo',ro',po',hrel'⟩
  haveI : ZLe Z1 Z2 := ⟨hz2⟩
  haveI : Zf Z2 ob' (cl [mv'] 279) := ⟨zo'⟩
  haveI := ro'.one
  refine gn ?_
  intro sb'
  refine gn ?_
  refine fin1 fun Z3 hz3 hp => ?_
  refine ⟨sb',.mk o o',rfl,?_,dif_all hw₁ hw₂ hrel hrel'⟩
  simp only [SR]
  exact ⟨mv,mv',nn,nn',cs,cs',fzat sb' hp,ro.mono fun b x h => ⟨hz3 _ _ (hz2 _ _ h.1),h.2⟩,(po.mono hz2).mono hz3,ro'.mono fun b x h => ⟨hz3 _ _ h.1,h.2⟩,po'.mono hz3⟩
end Go.Ux
namespace Go.Ux
open Go Go.Proofs
set_option maxRecDepth 20000
attribute [local irreducible] WP Tr
def E99 (N : Nat) : Prop := ∀ (a b : FS) (sb tb : Nat) (U : List Nm) (Z : Fz),a.sz < N → SR Z a sb → SR Z b tb → a.Wf U → b.Wf U → U.length ≤ 1073741824 → Gr Tryz.prog 99 #[.pointer (some ⟨sb,0,none⟩),.pointer (some ⟨tb,0,none⟩)] Z fun v Z' => ∃ ob c,v = .pointer (some ⟨ob,0,none⟩) ∧ SR Z' c ob ∧ RI U a b c
set_option maxHeartbeats 8000000 in
theorem f137 {N : Nat} (ih : E99 N) (sb tb : Nat) (a₁ a₂ : Option Addr) (c₁ c₂ n₁ n₂ : Nat) (w₁ w₂ : Value) (m₁ m₂ : Ch) (x₁ x₂ : List Value) (U : List Nm) (Z : Fz) [Zf Z sb (cl [w₁,.slice a₁ n₁ c₁] 281)] [Zf Z tb (cl [w₂,.slice a₂ n₂ c₂] 281)]
  (r₁ : Rs (inT Z 331) 5 (.slice a₁ n₁ c₁) n₁ x₁) (p₁ : SC Z m₁ x₁) (r₂ : Rs (inT Z 331) 5 (.slice a₂ n₂ c₂) n₂ x₂) (p₂ : SC Z m₂ x₂) (hn₁ : n₁ ≤ 1073741824) (hn₂ : n₂ ≤ 1073741824) (u₁ : ∀ p ∈ m₁,p.2.Wf U) (u₂ : ∀ p ∈ m₂,p.2.Wf U) (hU : U.length ≤ 1073741824) (hN : szC m₁ < N) :
  Gr Tryz.prog 137 #[.pointer (some ⟨sb,1,none⟩),.pointer (some ⟨tb,1,none⟩)] Z fun v Z' => ∃ ob mv n cs o,v = .pointer (some ⟨ob,0,none⟩) ∧ Z' ob = some (cl [mv] 279) ∧ Rs (inT Z' 331) 5 mv n cs ∧ SC Z' o cs ∧ MeeC (RI U) m₁ m₂ o := by
 refine Gr.intro Tryz.func137 rfl Tryz.ntmps137 Tryz.results137 rfl ?_
 have l₁ := p₁.n r₁
 have l₂ := p₂.n r₂
 repeat (first | refine gn ?_ | intro _)
 rename_i ob
 refine WP.loopK (6 :: 7 :: 8 :: List.range' 11 96)
  (fun m g Z' H' => ∃ (i j : Nat) (o : Ch) (ov : Value) (ocs : List Value) (Ho : Hp),g 6 = .int .i64 i ∧ g 7 = .int .i64 j ∧ m = (n₁ - i) + (n₂ - j) ∧ i ≤ n₁ ∧ j ≤ n₂ ∧ o.length ≤ i + j ∧ Sl 331 5 ov ocs Ho ∧ SC Z' o ocs ∧
   (∀ r,MeeC (RI U) (m₁.drop i) (m₂.drop j) r → MeeC (RI U) m₁ m₂ (o ++ r)) ∧ H' = (ob,cl [ov] 279) :: Ho) (n₁ + n₂) ?_ ?_
 ·exact ⟨0,0,[],_,[],[],rfl,rfl,by omega,by omega,by omega,by simp,.nil,by simp [SC],fun r h => h,rfl⟩
 rintro m g Z' H' hz ⟨i,j,o,ov,ocs,Ho,h6,h7,rfl,hi,hj,hol,hsl,hpo,hc,rfl⟩
 haveI : ZLe Z Z' := ⟨hz⟩
 have hzT : ∀ b x,inT Z 331 b x → inT Z' 331 b x := fun b x h => ⟨hz _ _ h.1,h.2⟩
 replace r₁ := r₁.mono hzT
 replace r₂ := r₂.mono hzT
 replace p₁ := p₁.mono hz
 replace p₂ := p₂.mono hz
 have hocs := hpo.len
 haveI := hsl.one
 refine WP.pin 6 h6 ?_
 refine WP.pin 7 h7 ?_
 by_cases hij : i < n₁ ∧ j < n₂
 ·obtain ⟨h1,h2⟩ := hij
  obtain ⟨b₁,o₁,y₁,kb₁,s₁,k₁,t₁,rfl,z₁,v₁,d₁,q₁,g₁,e₁,f₁,i₁,_⟩ := eltC r₁ p₁ h1
  obtain ⟨b₂,o₂,y₂,kb₂,s₂,k₂,t₂,rfl,z₂,v₂,d₂,q₂,g₂,e₂,f₂,i₂,_⟩ := eltC r₂ p₂ h2
  haveI : Zf Z' b₁ (cl y₁ 331) := ⟨z₁⟩
  haveI : Zf Z' b₂ (cl y₂ 331) := ⟨z₂⟩
  haveI : Zf Z' kb₁ (cl [.string k₁] 9) := ⟨q₁⟩
  haveI : Zf Z' kb₂ (cl [.string k₂] 9) := ⟨q₂⟩
  have w₁' := u₁ _ (drop_mem d₁)
  have w₂' := u₂ _ (drop_mem d₂)
  have sz₁ : t₁.sz < N := Nat.lt_of_le_of_lt (szC_mem (drop_mem d₁)) hN
  refine gn ?_
  refine WP.drawA mo (by decide +kernel) ?_
  refine gn ?_
  refine o_indexAddr rfl rfl rfl h1 ?_
  refine gn ?_
  refine o_loadN rfl rfl f₁ rfl ?_
  refine gn ?_
  refine o_indexAddr rfl rfl rfl h2 ?_
  refine gn ?_
  refine o_loadN rfl rfl f₂ rfl ?_
  refine cp (f144 kb₁ kb₂ k₁ k₂ Z') ?_
  rintro _ rfl
  by_cases hlt : ltN k₁ k₂
  ·rw [decide_eq_true hlt]
   refine gn ?_
   refine ⟨bk,(n₁ - (i + 1)) + (n₂ - (j)),(ob,cl [ov] 279) :: Ho,_,by omega,spp,i + 1,j,o,ov,_,Ho,rfl,rfl,rfl,by omega,by omega,(by first | omega | (simp; omega)),hsl,hpo,fun r h => ?_,rfl⟩
   refine hc _ ?_
   rw [d₁,d₂]
   rw [d₂] at h
   exact .lt hlt h
  ·rw [decide_eq_false hlt]
   refine gn ?_
   refine WP.drawA mo (by decide +kernel) ?_
   refine gn ?_
   refine o_indexAddr rfl rfl rfl h2 ?_
   refine gn ?_
   refine o_loadN rfl rfl f₂ rfl ?_
   refine gn ?_
   refine o_indexAddr rfl rfl rfl h1 ?_
   refine gn ?_
   refine o_loadN rfl rfl f₁ rfl ?_
   refine cp (f144 kb₂ kb₁ k₂ k₁ Z') ?_
   rintro _ rfl
   by_cases hgt : ltN k₂ k₁
   ·rw [decide_eq_true hgt]
    refine gn ?_
    refine ⟨bk,(n₁ - (i)) + (n₂ - (j + 1)),(ob,cl [ov] 279) :: Ho,_,by omega,spp,i,j + 1,o,ov,_,Ho,rfl,rfl,rfl,by omega,by omega,(by first | omega | (simp; omega)),hsl,hpo,fun r h => ?_,rfl⟩
    refine hc _ ?_
    rw [d₁,d₂]
    rw [d₁] at h
    exact .gt hgt h
   ·rw [decide_eq_false hgt]
    have hk := eq_of_nlt hlt hgt
    subst hk
    refine gn ?_
    refine WP.drawA mo (by decide +kernel) ?_
    refine gn ?_
    refine o_indexAddr rfl rfl rfl h1 ?_
    refine gn ?_
    refine o_indexAddr rfl rfl rfl h2 ?_
    refine gn ?_
    refine cg (ih t₁ t₂ s₁ s₂ U Z' sz₁ g₁ g₂ w₁' w₂' hU) ?_
    rintro _ Z1 hz1 ⟨rb,cr,rfl,gr,hr⟩
    haveI : ZLe Z' Z1 := ⟨hz1⟩
    refine gn ?_
    refine cp (f73 (cr.sz + 1) cr rb U Z1 (Nat.lt_succ_self _) gr hr.1 hU) ?_
    rintro _ ⟨e,rfl,he⟩
    cases e with
    | true =>
     refine gn ?_
     refine ⟨bk,(n₁ - (i + 1)) + (n₂ - (j + 1)),(ob,cl [ov] 279) :: Ho,_,by omega,spp,i + 1,j + 1,o,ov,_,Ho,rfl,rfl,rfl,by omega,by omega,(by first | omega | (simp; omega)),hsl,hpo.mono hz1,fun r h => ?_,rfl⟩
     refine hc _ ?_
     rw [d₁,d₂]
     exact .eq0 hr (he.1 rfl) h
    | false =>
     refine gn ?_
     refine WP.drawS [(ob,cl [ov] 279)] Ho 17 mo (by decide +kernel) (prm rfl) ?_
     refine gn ?_
     refine o_indexAddr rfl rfl rfl h1 ?_
     refine gn ?_
     refine o_loadN rfl rfl f₁ rfl ?_
     refine gn ?_; intro vb
     refine oap hsl rfl rfl rfl (Rs.cells (inferInstance : Mem false _ _ _ vb (cl (nd kb₁ rb) 331)) rfl (Nat.le_refl 1)) (by simp [Value.oneCell']) (by omega) (by simp; omega) ?_
     intro ov' Ho' hsl'
     haveI := hsl'.one
     refine r_two [] ?_
     refine gn ?_
     refine ⟨bk,(n₁ - (i + 1)) + (n₂ - (j + 1)),(ob,cl [ov'] 279) :: Ho',_,by omega,spp,i + 1,j + 1,o ++ [(k₁,cr)],ov',_,Ho',rfl,rfl,rfl,by omega,by omega,(by first | omega | (simp; omega)),hsl',(hpo.mono hz1).app (SC.one1 (hz1 _ _ q₁) gr),fun r h => ?_,rfl⟩
     rw [List.append_assoc]
     refine hc _ ?_
     rw [d₁,d₂]
     exact .eq hr (ne_has fun h' => by cases he.2 h') h
 ·by_cases h1 : i < n₁
  ·have h2 : j = n₂ := by omega
   subst h2
   refine gn ?_
   refine fin1 fun Z'' hz' hp => ?_
   have hq := hsl.frz (Z := Z'') fun p hm => hp p (by simp [hm])
   obtain ⟨m,hq⟩ := hq
   refine ⟨ob,ov,m,_,o,rfl,fzat ob hp,hq,hpo.mono hz',?_⟩
   have := hc [] (by rw [List.drop_of_length_le (l := m₂) (by omega)]; exact .nilR)
   simpa using this
  ·have h1' : i = n₁ := by omega
   subst h1'
   refine gn ?_
   refine fin1 fun Z'' hz' hp => ?_
   have hq := hsl.frz (Z := Z'') fun p hm => hp p (by simp [hm])
   obtain ⟨m,hq⟩ := hq
   refine ⟨ob,ov,m,_,o,rfl,fzat ob hp,hq,hpo.mono hz',?_⟩
   have := hc [] (by rw [List.drop_of_length_le (l := m₁) (by omega)]; exact .nilL)
   simpa using this
set_option maxHeartbeats 1000000 in
theorem f99 : ∀ N,E99 N := by
 intro N
 induction N with
 | zero => intro a b sb tb U Z h; omega
 | succ N ih =>
  rintro ⟨ms₁,ch₁⟩ ⟨ms₂,ch₂⟩ sb tb U Z hN hs₁ hs₂ hw₁ hw₂ hU
  have hb₁ := hw₁.len hU
  have hb₂ := hw₂.len hU
  simp only [SR] at hs₁ hs₂
  obtain ⟨mv₁,cv₁,n₁,n₁',cs₁,cs₁',z₁,r₁,p₁,r₁',p₁'⟩ := hs₁
  obtain ⟨mv₂,cv₂,n₂,n₂',cs₂,cs₂',z₂,r₂,p₂,r₂',p₂'⟩ := hs₂
  obtain ⟨_,_,rfl⟩ := r₁.sl
  obtain ⟨_,_,rfl⟩ := r₁'.sl
  obtain ⟨_,_,rfl⟩ := r₂.sl
  obtain ⟨_,_,rfl⟩ := r₂'.sl
  haveI : Zf Z sb _ := ⟨.of (z₁)⟩
  haveI : Zf Z tb _ := ⟨.of (z₂)⟩
  have l₁ := p₁.n r₁
  have l₂ := p₂.n r₂
  have l₁' := p₁'.n r₁'
  have l₂' := p₂'.n r₂'
  have u₁ : ∀ p ∈ ch₁,p.2.Wf U := by cases hw₁; assumption
  have u₂ : ∀ p ∈ ch₂,p.2.Wf U := by cases hw₂; assumption
  refine Gr.intro Tryz.func99 rfl Tryz.ntmps99 Tryz.results99 rfl ?_
  refine gn ?_
  refine WP.draw [] [] [0,1,2,3,4,5,9,10,11,12,13,14,6,7,8,15,16,17,18,19,20] mo (by decide +kernel) (.refl _) ?_
  refine gn ?_
  refine cg (f136 sb tb _ _ _ _ n₁ n₂ _ _ ms₁ ms₂ cs₁ cs₂ Z r₁ p₁ r₂ p₂ (by omega) (by omega)) ?_
  rintro _ Z1 hz1 ⟨ob,mv,nn,cs,o,rfl,zo,ro,po,hrel⟩
  haveI : ZLe Z Z1 := ⟨hz1⟩
  haveI : Zf Z1 ob (cl [mv] 275) := ⟨zo⟩
  haveI := ro.one
  refine gn ?_
  have hzT : ∀ b x,inT Z 331 b x → inT Z1 331 b x := fun b x h => ⟨hz1 _ _ h.1,h.2⟩
  refine cg (f137 ih sb tb _ _ _ _ n₁' n₂' _ _ ch₁ ch₂ cs₁' cs₂' U Z1 (r₁'.mono hzT) (p₁'.mono hz1) (r₂'.mono hzT) (p₂'.mono hz1) (by omega) (by omega) u₁ u₂ hU (by simp only [FS.sz] at hN; omega)) ?_
  rintro _ Z2 hz2 ⟨ob',mv',nn',cs',o',rfl,zo',ro',po',hrel'⟩
  haveI : ZLe Z1 Z2 := ⟨hz2⟩
  haveI : Zf Z2 ob' (cl [mv'] 279) := ⟨zo'⟩
  haveI := ro'.one
  refine gn ?_
  intro sb'
  refine gn ?_
  refine fin1 fun Z3 hz3 hp => ?_
  refine ⟨sb',.mk o o',rfl,?_,mee_all hw₁ hw₂ hrel hrel'⟩
  simp only [SR]
  exact ⟨mv,mv',nn,nn',cs,cs',fzat sb' hp,ro.mono fun b x h => ⟨hz3 _ _ (hz2 _ _ h.1),h.2⟩,(po.mono hz2).mono hz3,ro'.mono fun b x h => ⟨hz3 _ _ h.1,h.2⟩,po'.mono hz3⟩
end Go.Ux
namespace Go.Ux
open Go Go.Proofs
set_option maxRecDepth 20000
attribute [local irreducible] WP Tr
def E72 (N : Nat) : Prop := ∀ (a b : FS) (sb tb : Nat) (U : List Nm) (Z : Fz),a.sz < N → SR Z a sb → SR Z b tb → a.Wf U → b.Wf U → U.length ≤ 1073741824 → Gr Tryz.prog 72 #[.pointer (some ⟨sb,0,none⟩),.pointer (some ⟨tb,0,none⟩)] Z fun v Z' => ∃ ob c,v = .pointer (some ⟨ob,0,none⟩) ∧ SR Z' c ob ∧ RU U a b c
set_option maxHeartbeats 8000000 in
theorem f108 {N : Nat} (ih : E72 N) (sb tb : Nat) (a₁ a₂ : Option Addr) (c₁ c₂ n₁ n₂ : Nat) (w₁ w₂ : Value) (m₁ m₂ : Ch) (x₁ x₂ : List Value) (U : List Nm) (Z : Fz) [Zf Z sb (cl [w₁,.slice a₁ n₁ c₁] 281)] [Zf Z tb (cl [w₂,.slice a₂ n₂ c₂] 281)]
  (r₁ : Rs (inT Z 331) 5 (.slice a₁ n₁ c₁) n₁ x₁) (p₁ : SC Z m₁ x₁) (r₂ : Rs (inT Z 331) 5 (.slice a₂ n₂ c₂) n₂ x₂) (p₂ : SC Z m₂ x₂) (hn₁ : n₁ ≤ 1073741824) (hn₂ : n₂ ≤ 1073741824) (u₁ : ∀ p ∈ m₁,p.2.Wf U) (u₂ : ∀ p ∈ m₂,p.2.Wf U) (hU : U.length ≤ 1073741824) (hN : szC m₁ < N) :
  Gr Tryz.prog 108 #[.pointer (some ⟨sb,1,none⟩),.pointer (some ⟨tb,1,none⟩)] Z fun v Z' => ∃ ob mv n cs o,v = .pointer (some ⟨ob,0,none⟩) ∧ Z' ob = some (cl [mv] 279) ∧ Rs (inT Z' 331) 5 mv n cs ∧ SC Z' o cs ∧ UniC (RU U) m₁ m₂ o := by
 refine Gr.intro Tryz.func108 rfl Tryz.ntmps108 Tryz.results108 rfl ?_
 have l₁ := p₁.n r₁
 have l₂ := p₂.n r₂
 repeat (first | refine gn ?_ | intro _)
 rename_i ob
 refine WP.loopK (6 :: 7 :: List.range' 10 124)
  (fun m g Z' H' => ∃ (i j : Nat) (o : Ch) (ov : Value) (ocs : List Value) (Ho : Hp),g 6 = .int .i64 i ∧ g 7 = .int .i64 j ∧ m = (n₁ - i) + (n₂ - j) ∧ i ≤ n₁ ∧ j ≤ n₂ ∧ o.length ≤ i + j ∧ Sl 331 5 ov ocs Ho ∧ SC Z' o ocs ∧
   (∀ r,UniC (RU U) (m₁.drop i) (m₂.drop j) r → UniC (RU U) m₁ m₂ (o ++ r)) ∧ H' = (ob,cl [ov] 279) :: Ho) (n₁ + n₂) ?_ ?_
 ·exact ⟨0,0,[],_,[],[],rfl,rfl,by omega,by omega,by omega,by simp,.nil,by simp [SC],fun r h => h,rfl⟩
 rintro m g Z' H' hz ⟨i,j,o,ov,ocs,Ho,h6,h7,rfl,hi,hj,hol,hsl,hpo,hc,rfl⟩
 haveI : ZLe Z Z' := ⟨hz⟩
 have hzT : ∀ b x,inT Z 331 b x → inT Z' 331 b x := fun b x h => ⟨hz _ _ h.1,h.2⟩
 replace r₁ := r₁.mono hzT
 replace r₂ := r₂.mono hzT
 replace p₁ := p₁.mono hz
 replace p₂ := p₂.mono hz
 have hocs := hpo.len
 haveI := hsl.one
 refine WP.pin 6 h6 ?_
 refine WP.pin 7 h7 ?_
 by_cases hij : i < n₁ ∧ j < n₂
 ·obtain ⟨h1,h2⟩ := hij
  obtain ⟨b₁,o₁,y₁,kb₁,s₁,k₁,t₁,rfl,z₁,v₁,d₁,q₁,g₁,e₁,f₁,i₁,_⟩ := eltC r₁ p₁ h1
  obtain ⟨b₂,o₂,y₂,kb₂,s₂,k₂,t₂,rfl,z₂,v₂,d₂,q₂,g₂,e₂,f₂,i₂,_⟩ := eltC r₂ p₂ h2
  haveI : Zf Z' b₁ (cl y₁ 331) := ⟨z₁⟩
  haveI : Zf Z' b₂ (cl y₂ 331) := ⟨z₂⟩
  haveI : Zf Z' kb₁ (cl [.string k₁] 9) := ⟨q₁⟩
  haveI : Zf Z' kb₂ (cl [.string k₂] 9) := ⟨q₂⟩
  have w₁' := u₁ _ (drop_mem d₁)
  have w₂' := u₂ _ (drop_mem d₂)
  have sz₁ : t₁.sz < N := Nat.lt_of_le_of_lt (szC_mem (drop_mem d₁)) hN
  refine gn ?_
  refine WP.drawA mo (by decide +kernel) ?_
  refine gn ?_
  refine o_indexAddr rfl rfl rfl h1 ?_
  refine gn ?_
  refine o_loadN rfl rfl f₁ rfl ?_
  refine gn ?_
  refine o_indexAddr rfl rfl rfl h2 ?_
  refine gn ?_
  refine o_loadN rfl rfl f₂ rfl ?_
  refine cp (f144 kb₁ kb₂ k₁ k₂ Z') ?_
  rintro _ rfl
  by_cases hlt : ltN k₁ k₂
  ·rw [decide_eq_true hlt]
   refine gn ?_
   refine WP.drawS [(ob,cl [ov] 279)] Ho 14 mo (by decide +kernel) (prm rfl) ?_
   refine gn ?_
   refine o_indexAddr rfl rfl rfl h1 ?_
   refine o_loadN rfl rfl e₁ rfl ?_
   refine gn ?_; intro vb
   refine oap hsl rfl rfl rfl (Rs.cells (inferInstance : Mem false _ _ _ vb (cl (nd kb₁ s₁) 331)) rfl (Nat.le_refl 1)) (by simp [Value.oneCell']) (by omega) (by simp; omega) ?_
   intro ov' Ho' hsl'
   haveI := hsl'.one
   refine r_two [] ?_
   refine gn ?_
   refine ⟨bk,(n₁ - (i + 1)) + (n₂ - (j)),(ob,cl [ov'] 279) :: Ho',_,by omega,spp,i + 1,j,o ++ [(k₁,t₁)],ov',_,Ho',rfl,rfl,rfl,by omega,by omega,(by first | omega | (simp; omega)),hsl',hpo.app (SC.one1 q₁ g₁),fun r h => ?_,rfl⟩
   rw [List.append_assoc]
   refine hc _ ?_
   rw [d₁,d₂]
   rw [d₂] at h
   exact .lt hlt h
  ·rw [decide_eq_false hlt]
   refine gn ?_
   refine WP.drawA mo (by decide +kernel) ?_
   refine gn ?_
   refine o_indexAddr rfl rfl rfl h2 ?_
   refine gn ?_
   refine o_loadN rfl rfl f₂ rfl ?_
   refine gn ?_
   refine o_indexAddr rfl rfl rfl h1 ?_
   refine gn ?_
   refine o_loadN rfl rfl f₁ rfl ?_
   refine cp (f144 kb₂ kb₁ k₂ k₁ Z') ?_
   rintro _ rfl
   by_cases hgt : ltN k₂ k₁
   ·rw [decide_eq_true hgt]
    refine gn ?_
    refine WP.drawS [(ob,cl [ov] 279)] Ho 14 mo (by decide +kernel) (prm rfl) ?_
    refine gn ?_
    refine o_indexAddr rfl rfl rfl h2 ?_
    refine o_loadN rfl rfl e₂ rfl ?_
    refine gn ?_; intro vb
    refine oap hsl rfl rfl rfl (Rs.cells (inferInstance : Mem false _ _ _ vb (cl (nd kb₂ s₂) 331)) rfl (Nat.le_refl 1)) (by simp [Value.oneCell']) (by omega) (by simp; omega) ?_
    intro ov' Ho' hsl'
    haveI := hsl'.one
    refine r_two [] ?_
    refine gn ?_
    refine ⟨bk,(n₁ - (i)) + (n₂ - (j + 1)),(ob,cl [ov'] 279) :: Ho',_,by omega,spp,i,j + 1,o ++ [(k₂,t₂)],ov',_,Ho',rfl,rfl,rfl,by omega,by omega,(by first | omega | (simp; omega)),hsl',hpo.app (SC.one1 q₂ g₂),fun r h => ?_,rfl⟩
    rw [List.append_assoc]
    refine hc _ ?_
    rw [d₁,d₂]
    rw [d₁] at h
    exact .gt hgt h
   ·rw [decide_eq_false hgt]
    have hk := eq_of_nlt hlt hgt
    subst hk
    refine gn ?_
    refine WP.drawS [(ob,cl [ov] 279)] Ho 33 mo (by decide +kernel) (prm rfl) ?_
    refine gn ?_
    refine o_indexAddr rfl rfl rfl h1 ?_
    refine gn ?_
    refine o_loadN rfl rfl f₁ rfl ?_
    refine gn ?_
    refine o_indexAddr rfl rfl rfl h1 ?_
    refine gn ?_
    refine o_indexAddr rfl rfl rfl h2 ?_
    refine gn ?_
    refine cg (ih t₁ t₂ s₁ s₂ U Z' sz₁ g₁ g₂ w₁' w₂' hU) ?_
    rintro _ Z1 hz1 ⟨rb,cr,rfl,gr,hr⟩
    haveI : ZLe Z' Z1 := ⟨hz1⟩
    refine gn ?_; intro vb
    refine oap hsl rfl rfl rfl (Rs.cells (inferInstance : Mem false _ _ _ vb (cl (nd kb₁ rb) 331)) rfl (Nat.le_refl 1)) (by simp [Value.oneCell']) (by omega) (by simp; omega) ?_
    intro ov' Ho' hsl'
    haveI := hsl'.one
    refine r_two [] ?_
    refine gn ?_
    refine ⟨bk,(n₁ - (i + 1)) + (n₂ - (j + 1)),(ob,cl [ov'] 279) :: Ho',_,by omega,spp,i + 1,j + 1,o ++ [(k₁,cr)],ov',_,Ho',rfl,rfl,rfl,by omega,by omega,(by first | omega | (simp; omega)),hsl',(hpo.mono hz1).app (SC.one1 (hz1 _ _ q₁) gr),fun r h => ?_,rfl⟩
    rw [List.append_assoc]
    refine hc _ ?_
    rw [d₁,d₂]
    exact .eq hr h
 ·by_cases h1 : i < n₁
  ·have h2 : j = n₂ := by omega
   subst h2
   obtain ⟨b₁,o₁,y₁,kb₁,s₁,k₁,t₁,rfl,z₁,v₁,d₁,q₁,g₁,e₁,f₁,i₁,x1,x2⟩ := eltC r₁ p₁ h1
   haveI : Zf Z' b₁ (cl y₁ 331) := ⟨z₁⟩
   refine gn ?_
   refine WP.drawS [(ob,cl [ov] 279)] Ho 12 mo (by decide +kernel) (prm rfl) ?_
   refine gn ?_
   refine o_sliceLs rfl rfl rfl (by omega) (by omega) ?_
   have hrow : Rs (fun b o => Mem false Z' [(ob,cl [ov] 279)] [] b o) 5 (.slice (some ⟨b₁,o₁ + i * 5,none⟩) (n₁ - i) (c₁ - i)) (n₁ - i) (x₁.drop (i * 5)) := by
    refine .row b₁ _ _ _ 331 y₁ _ inferInstance ?_ ?_ (by omega)
    ·rw [← x1,List.drop_take,List.drop_drop,Nat.sub_mul]
    ·rw [List.length_drop,x2,Nat.sub_mul]
   have hp' := p₁.drop i
   refine oap hsl rfl rfl rfl hrow hp'.one (by omega) (by rw [hp'.len]; simp; omega) ?_
   intro ov' Ho' hsl'
   haveI := hsl'.one
   refine r_two [] ?_
   refine gn ?_
   refine fin1 fun Z'' hz' hp => ?_
   have hq := hsl'.frz (Z := Z'') fun p hm => hp p (by simp [hm])
   obtain ⟨m,hq⟩ := hq
   refine ⟨ob,ov',m,_,_,rfl,fzat ob hp,hq,(hpo.app hp').mono hz',hc _ ?_⟩
   rw [List.drop_of_length_le (l := m₂) (by omega)]
   exact .nilR
  ·have h1' : i = n₁ := by omega
   subst h1'
   by_cases h2 : j < n₂
   ·obtain ⟨b₂,o₂,y₂,kb₂,s₂,k₂,t₂,rfl,z₂,v₂,d₂,q₂,g₂,e₂,f₂,i₂,x1,x2⟩ := eltC r₂ p₂ h2
    haveI : Zf Z' b₂ (cl y₂ 331) := ⟨z₂⟩
    refine gn ?_
    refine WP.drawS [(ob,cl [ov] 279)] Ho 12 mo (by decide +kernel) (prm rfl) ?_
    refine gn ?_
    refine o_sliceLs rfl rfl rfl (by omega) (by omega) ?_
    have hrow : Rs (fun b o => Mem false Z' [(ob,cl [ov] 279)] [] b o) 5 (.slice (some ⟨b₂,o₂ + j * 5,none⟩) (n₂ - j) (c₂ - j)) (n₂ - j) (x₂.drop (j * 5)) := by
     refine .row b₂ _ _ _ 331 y₂ _ inferInstance ?_ ?_ (by omega)
     ·rw [← x1,List.drop_take,List.drop_drop,Nat.sub_mul]
     ·rw [List.length_drop,x2,Nat.sub_mul]
    have hp' := p₂.drop j
    refine oap hsl rfl rfl rfl hrow hp'.one (by omega) (by rw [hp'.len]; simp; omega) ?_
    intro ov' Ho' hsl'
    haveI := hsl'.one
    refine r_two [] ?_
    refine gn ?_
    refine fin1 fun Z'' hz' hp => ?_
    have hq := hsl'.frz (Z := Z'') fun p hm => hp p (by simp [hm])
    obtain ⟨m,hq⟩ := hq
    refine ⟨ob,ov',m,_,_,rfl,fzat ob hp,hq,(hpo.app hp').mono hz',hc _ ?_⟩
    rw [List.drop_of_length_le (l := m₁) (by omega)]
    exact .nilL
   ·have h2' : j = n₂ := by omega
    subst h2'
    refine gn ?_
    refine fin1 fun Z'' hz' hp => ?_
    have hq := hsl.frz (Z := Z'') fun p hm => hp p (by simp [hm])
    obtain ⟨m,hq⟩ := hq
    refine ⟨ob,ov,m,_,o,rfl,fzat ob hp,hq,hpo.mono hz',?_⟩
    have := hc [] (by rw [List.drop_of_length_le (l := m₁) (by omega),List.drop_of_length_le (l := m₂) (by omega)]; exact .nilL)
    simpa using this
set_option maxHeartbeats 1000000 in
theorem f72 : ∀ N,E72 N := by
 intro N
 induction N with
 | zero => intro a b sb tb U Z h; omega
 | succ N ih =>
  rintro ⟨ms₁,ch₁⟩ ⟨ms₂,ch₂⟩ sb tb U Z hN hs₁ hs₂ hw₁ hw₂ hU
  have hb₁ := hw₁.len hU
  have hb₂ := hw₂.len hU
  simp only [SR] at hs₁ hs₂
  obtain ⟨mv₁,cv₁,n₁,n₁',cs₁,cs₁',z₁,r₁,p₁,r₁',p₁'⟩ := hs₁
  obtain ⟨mv₂,cv₂,n₂,n₂',cs₂,cs₂',z₂,r₂,p₂,r₂',p₂'⟩ := hs₂
  obtain ⟨_,_,rfl⟩ := r₁.sl
  obtain ⟨_,_,rfl⟩ := r₁'.sl
  obtain ⟨_,_,rfl⟩ := r₂.sl
  obtain ⟨_,_,rfl⟩ := r₂'.sl
  haveI : Zf Z sb _ := ⟨.of (z₁)⟩
  haveI : Zf Z tb _ := ⟨.of (z₂)⟩
  have l₁ := p₁.n r₁
  have l₂ := p₂.n r₂
  have l₁' := p₁'.n r₁'
  have l₂' := p₂'.n r₂'
  have u₁ : ∀ p ∈ ch₁,p.2.Wf U := by cases hw₁; assumption
  have u₂ : ∀ p ∈ ch₂,p.2.Wf U := by cases hw₂; assumption
  refine Gr.intro Tryz.func72 rfl Tryz.ntmps72 Tryz.results72 rfl ?_
  refine gn ?_
  refine WP.draw [] [] [0,1,2,3,4,5,9,10,11,12,13,14,6,7,8,15,16,17,18,19,20] mo (by decide +kernel) (.refl _) ?_
  refine gn ?_
  refine cg (f107 sb tb _ _ _ _ n₁ n₂ _ _ ms₁ ms₂ cs₁ cs₂ Z r₁ p₁ r₂ p₂ (by omega) (by omega)) ?_
  rintro _ Z1 hz1 ⟨ob,mv,nn,cs,o,rfl,zo,ro,po,hrel⟩
  haveI : ZLe Z Z1 := ⟨hz1⟩
  haveI : Zf Z1 ob (cl [mv] 275) := ⟨zo⟩
  haveI := ro.one
  refine gn ?_
  have hzT : ∀ b x,inT Z 331 b x → inT Z1 331 b x := fun b x h => ⟨hz1 _ _ h.1,h.2⟩
  refine cg (f108 ih sb tb _ _ _ _ n₁' n₂' _ _ ch₁ ch₂ cs₁' cs₂' U Z1 (r₁'.mono hzT) (p₁'.mono hz1) (r₂'.mono hzT) (p₂'.mono hz1) (by omega) (by omega) u₁ u₂ hU (by simp only [FS.sz] at hN; omega)) ?_
  rintro _ Z2 hz2 ⟨ob',mv',nn',cs',o',rfl,zo',ro',po',hrel'⟩
  haveI : ZLe Z1 Z2 := ⟨hz2⟩
  haveI : Zf Z2 ob' (cl [mv'] 279) := ⟨zo'⟩
  haveI := ro'.one
  refine gn ?_
  intro sb'
  refine gn ?_
  refine fin1 fun Z3 hz3 hp => ?_
  refine ⟨sb',.mk o o',rfl,?_,uni_all hw₁ hw₂ hrel hrel'⟩
  simp only [SR]
  exact ⟨mv,mv',nn,nn',cs,cs',fzat sb' hp,ro.mono fun b x h => ⟨hz3 _ _ (hz2 _ _ h.1),h.2⟩,(po.mono hz2).mono hz3,ro'.mono fun b x h => ⟨hz3 _ _ h.1,h.2⟩,po'.mono hz3⟩
end Go.Ux
namespace Go.Ux
open Go Go.Proofs
set_option maxRecDepth 20000
attribute [local irreducible] WP Tr
theorem found_iff {ks : List Nm} {k : Nm} {i : Nat} {f : Bool} (h : Found ks k i f) : f = true ↔ k ∈ ks := by
 cases f with
 | true => exact ⟨fun _ => found_mem h,fun _ => rfl⟩
 | false =>
  obtain ⟨A,B,rfl,_,h1,⟨h,_⟩ | ⟨_,h2⟩⟩ := h
  ·cases h
  ·refine ⟨fun h => (by cases h),fun h => ?_⟩
   rcases List.mem_append.1 h with h | h
   ·exact absurd (h1 k h) (ltN.irrefl k)
   ·exact absurd (h2 k h) (ltN.irrefl k)
theorem f180 (sb nb : Nat) (a : Option Addr) (n c : Nat) (w : Value) (k : Nm) (ms : List Nm) (cs : List Value) (Z : Fz) [Zf Z sb (cl [.slice a n c,w] 281)] (hr : Rs (inT Z 308) 4 (.slice a n c) n cs) (hm : PM Z ms cs) (hi : Inc ms) (hn : n ≤ 1073741824) (hb : Z nb = some (cl [.string k] 9)) :
  Pu Tryz.prog 180 #[.pointer (some ⟨sb,0,none⟩),.agg (pe nb).toArray] Z fun v => ∃ e,v = .bool e ∧ (e = true ↔ k ∈ ms) := by
 haveI : Zf Z nb (cl [.string k] 9) := ⟨hb⟩
 refine Pu.intro Tryz.func180 rfl Tryz.ntmps180 Tryz.results180 rfl ?_
 repeat (first | refine gn ?_ | intro _)
 refine WP.drawA mo (by decide +kernel) ?_
 refine gn ?_
 refine cp (f150 192 cmp192 (.slice a n c) n nb k ms cs Z (hr.mono fun _ _ h => h.1) hm hi (by omega) hb) ?_
 rintro _ ⟨i,f,rfl,hf⟩
 refine gn ?_
 exact fin1 ⟨⟨f,rfl,found_iff hf⟩,rfl⟩
theorem f260 (sb nb : Nat) (a : Option Addr) (n c : Nat) (w : Value) (k : Nm) (ch : Ch) (cs : List Value) (Z : Fz) [Zf Z sb (cl [w,.slice a n c] 281)] (hr : Rs (inT Z 331) 5 (.slice a n c) n cs) (hm : SC Z ch cs) (hi : Inc (ch.map (·.1))) (hn : n ≤ 1073741824) (hb : Z nb = some (cl [.string k] 9)) :
  Pu Tryz.prog 260 #[.pointer (some ⟨sb,1,none⟩),.agg (pe nb).toArray] Z fun v => (∃ s b',v = .tuple #[.pointer (some ⟨b',0,none⟩),.bool true] ∧ (k,s) ∈ ch ∧ SR Z s b') ∨ (v = .tuple #[.pointer none,.bool false] ∧ k ∉ ch.map (·.1)) := by
 haveI : Zf Z nb (cl [.string k] 9) := ⟨hb⟩
 refine Pu.intro Tryz.func260 rfl Tryz.ntmps260 Tryz.results260 rfl ?_
 repeat (first | refine gn ?_ | intro _)
 refine WP.drawA mo (by decide +kernel) ?_
 refine gn ?_
 refine cp (f154 262 cmp262 (.slice a n c) n nb k (ch.map (·.1)) cs Z (hr.mono fun _ _ h => h.1) hm.pk hi (by omega) hb) ?_
 rintro _ ⟨i,f,rfl,hf⟩
 refine gn ?_
 cases f with
 | true =>
  obtain ⟨A,s,B,rfl,rfl⟩ := found_child hf
  have hl := hm.n hr
  have hin : A.length < n := by rw [← hl]; simp
  obtain ⟨b,off,xs,kb,sb',k',s',rfl,z₁,t₁,d₁,q₁,s₁,e₅,e₄,e₁,_⟩ := eltC hr hm hin
  rw [List.drop_left] at d₁
  simp only [List.cons.injEq,Prod.mk.injEq] at d₁
  obtain ⟨⟨rfl,rfl⟩,_⟩ := d₁
  haveI : Zf Z b (cl xs 331) := ⟨z₁⟩
  refine gn ?_
  refine o_indexAddr rfl rfl rfl hin ?_
  refine gn ?_
  exact fin2 ⟨.inl ⟨s,sb',rfl,by simp,s₁⟩,rfl⟩
 | false =>
  refine gn ?_
  exact fin2 ⟨.inr ⟨rfl,fun h => by have := (found_iff hf).2 h; cases this⟩,rfl⟩
theorem f355 (sb : Nat) (_a : Option Addr) (c pb off V nb : Nat) (xs : List Value) (k : Nm) (ms : List Nm) (ch : Ch) (U : List Nm) (Z : Fz) (hs : SR Z (.mk ms ch) sb) (hw : (FS.mk ms ch).Wf U) (hU : U.length ≤ 1073741824) [Zf Z pb (cl xs V)] (hx : (xs.drop off).take 4 = pe nb) (hb : Z nb = some (cl [.string k] 9)) :
  Pu Tryz.prog 355 #[.pointer (some ⟨sb,0,none⟩),.slice (some ⟨pb,off,none⟩) 1 c] Z fun v => ∃ e,v = .bool e ∧ (e = true ↔ (FS.mk ms ch).has [k]) := by
 simp only [SR] at hs
 obtain ⟨mv,cv,n,n',cs,cs',z,r₁,p₁,r₂,p₂⟩ := hs
 obtain ⟨a₁,c₁,rfl⟩ := r₁.sl
 haveI : Zf Z sb _ := ⟨.of (z)⟩
 have hl := p₁.n r₁
 have hb' := hw.len hU
 refine Pu.intro Tryz.func355 rfl Tryz.ntmps355 Tryz.results355 rfl ?_
 refine gn ?_
 refine WP.loopM [0,1,4,5,9,10,11,12,13,14,15,16,17,18,19,20,21,22,23,24,25,26,27,28,29,30,31,32] (fun _ g Z' H' => g 0 = .pointer (some ⟨sb,0,none⟩) ∧ g 1 = .slice (some ⟨pb,off,none⟩) 1 c ∧ Z = Z' ∧ H' = []) 0 ⟨rfl,rfl,rfl,rfl⟩ ?_
 rintro k' g Z' H' _ ⟨h0,h1,rfl,rfl⟩
 refine WP.pin 0 h0 ?_
 refine WP.pin 1 h1 ?_
 refine gn ?_
 refine WP.drawA mo (by decide +kernel) ?_
 refine gn ?_
 refine o_indexAddr (j := 0) rfl rfl rfl (by omega) ?_
 have hx' : (xs.drop (off + 0 * 4)).take 4 = pe nb := by simpa using hx
 refine o_loadN rfl rfl hx' rfl ?_
 refine cp (f180 sb nb a₁ n c₁ cv k ms cs Z r₁ p₁ (by cases hw; assumption) (by omega) hb) ?_
 rintro _ ⟨e,rfl,he⟩
 refine gn ?_
 exact fin1 ⟨⟨e,rfl,by rw [he,FS.has_one]; rfl⟩,rfl⟩
theorem f356 (sb nb : Nat) (k : Nm) (ms : List Nm) (ch : Ch) (U : List Nm) (Z : Fz) (hs : SR Z (.mk ms ch) sb) (hw : (FS.mk ms ch).Wf U) (hU : U.length ≤ 1073741824) (hb : Z nb = some (cl [.string k] 9)) :
  Gr Tryz.prog 356 #[.pointer (some ⟨sb,0,none⟩),.agg (pe nb).toArray] Z fun v Z' => ∃ b' s,v = .pointer (some ⟨b',0,none⟩) ∧ SR Z' s b' ∧ s.Wf U ∧ ((k,s) ∈ ch ∨ (k ∉ ch.map (·.1) ∧ s = .mk [] [])) := by
 have hs' := hs
 simp only [SR] at hs
 obtain ⟨mv,cv,n,n',cs,cs',z,r₁,p₁,r₂,p₂⟩ := hs
 obtain ⟨a₂,c₂,rfl⟩ := r₂.sl
 haveI : Zf Z sb _ := ⟨.of (z)⟩
 haveI : Zf Z nb (cl [.string k] 9) := ⟨hb⟩
 have hl := p₂.n r₂
 have hb' := hw.len hU
 refine Gr.intro Tryz.func356 rfl Tryz.ntmps356 Tryz.results356 rfl ?_
 repeat (first | refine gn ?_ | intro _)
 refine WP.drawA mo (by decide +kernel) ?_
 refine gn ?_
 refine cp (f260 sb nb a₂ n' c₂ mv k ch cs' Z r₂ p₂ (by cases hw; assumption) (by omega) hb) ?_
 rintro _ (⟨s,b',rfl,hmem,hsr⟩ | ⟨rfl,hk⟩)
 ·refine gn ?_
  exact fin1 fun Z' hz _ => ⟨b',s,rfl,hsr.mono hz,hw.child hmem,.inl hmem⟩
 ·refine gn ?_
  refine ct (f70 0 Z) ?_
  rintro _ _ H' _ ⟨b,rfl,rfl,hos⟩
  refine gn ?_
  refine fin1 fun Z' hz hp => ⟨b,.mk [] [],rfl,hos.frz hz fun p hm => hp p (by simp [hm]),.empty,.inr ⟨hk,rfl⟩⟩
theorem f354 (pb V c nb : Nat) (Z : Fz) [Zf Z pb (cl [.iface 308 (.agg (pe nb).toArray)] V)] :
  Gr Tryz.prog 354 #[.slice (some ⟨pb,0,none⟩) 1 c] Z fun v Z' => ∃ b c' xs,v = .tuple #[.slice (some ⟨b,0,none⟩) 1 c',.nilIface] ∧ Z' b = some (cl xs 308) ∧ xs.take 4 = pe nb := by
 refine Gr.intro Tryz.func354 rfl Tryz.ntmps354 Tryz.results354 rfl ?_
 refine gn ?_
 refine WP.loopK (2 :: 3 :: 4 :: (List.range' 6 7 ++ List.range' 15 49)) (fun m g Z' H' => Z = Z' ∧ ((m = 1 ∧ g 15 = .int .i64 0 ∧ g 4 = .slice none 0 0 ∧ H' = []) ∨ (m = 0 ∧ ∃ v H,g 15 = .int .i64 1 ∧ g 4 = v ∧ Sl 308 4 v (pe nb) H' ∧ H' = H))) 1 ⟨rfl,.inl ⟨rfl,rfl,rfl,rfl⟩⟩ ?_
 rintro m g Z' H' _ ⟨rfl,(⟨rfl,h15,h4,rfl⟩ | ⟨rfl,v,H,h15,h4,hsl,rfl⟩)⟩
 ·refine WP.pin 15 h15 ?_
  refine WP.pin 4 h4 ?_
  refine gn ?_
  refine o_indexAddr (j := 0) rfl rfl rfl (by omega) ?_
  refine gn ?_; intro b7
  refine gn ?_; intro vb
  refine oap (Sl.nil : Sl 308 4 _ [] []) rfl rfl rfl (Rs.cells (inferInstance : Mem false _ _ _ vb (cl (pe nb) 308)) rfl (Nat.le_refl 1)) (by simp [Value.oneCell']) (by omega) (by simp) ?_
  intro v H' hsl
  refine gn ?_
  exact ⟨bk,0,H',_,by omega,spp,rfl,.inr ⟨rfl,v,H',rfl,rfl,hsl,rfl⟩⟩
 ·refine WP.pin 15 h15 ?_
  refine WP.pin 4 h4 ?_
  refine gn ?_
  refine fin2 fun Z' hz hp => ?_
  cases hsl with
  | row b n c' _ ro h1 h2 hn =>
   have h1n : n = 1 := by simp at h1; omega
   subst h1n
   exact ⟨b,c',pe nb ++ ro,rfl,hp (b,cl (pe nb ++ ro) 308) (by simp),rfl⟩
end Go.Ux
namespace Go.Ux
open Go Go.Proofs
section
variable {P : Program} {n : Nat} {all : Array Oper} {dr : Bool} {Pin : Hp} {K : Fr → Fz → Hp → Prop} {rest : List Oper} {l : List Lay} {D : List Deferred} {Z : Fz} {H : Hp}
variable {d : Tmp} {ty T T' : TypeId} {pos : String} {af : Array Edge} {gd : Option (Nat × Bool)} {x y : Operand}
theorem o_neb {p q : Bool} (hg : okO n all ⟨l,D⟩ ⟨some d,.binOp .neq 4 x y 4,ty,pos,af,gd⟩ = true) (hx : ev ⟨l,D⟩ x = .bool p) (hy : ev ⟨l,D⟩ y = .bool q)
  (h : Rg Tryz.prog n all dr Pin K rest ⟨.s d (.bool (!(p == q))) :: l,D⟩ Z H) : Rg Tryz.prog n all dr Pin K (⟨some d,.binOp .neq 4 x y 4,ty,pos,af,gd⟩ :: rest) ⟨l,D⟩ Z H := by
 refine o_bin hg (fun w _ => ?_) h
 rw [hx,hy]
 kernel_rfl
class PEq (P : Program) (T : Nat) : Prop where
 n : ∀ w,(binOp .neq T (.pointer none) (.pointer none)).run P w = .ok (.bool false) w
 s : ∀ a w,(binOp .neq T (.pointer (some a)) (.pointer (some a))).run P w = .ok (.bool false) w
theorem o_nepn [h0 : PEq P T] (hg : okO n all ⟨l,D⟩ ⟨some d,.binOp .neq T x y T',ty,pos,af,gd⟩ = true) (hx : ev ⟨l,D⟩ x = .pointer none) (hy : ev ⟨l,D⟩ y = .pointer none)
  (h : Rg P n all dr Pin K rest ⟨.s d (.bool false) :: l,D⟩ Z H) : Rg P n all dr Pin K (⟨some d,.binOp .neq T x y T',ty,pos,af,gd⟩ :: rest) ⟨l,D⟩ Z H := by
 refine o_bin hg (fun w _ => ?_) h
 rw [hx,hy]
 have e : (eqGuard .neq T x y (.pointer none) (.pointer none)).run P w = .ok () w := rfl
 simp only [Sem.run_bind,e,Result.andThen_ok,h0.n]
theorem o_neps {a : Addr} [h0 : PEq P T] (hg : okO n all ⟨l,D⟩ ⟨some d,.binOp .neq T x y T',ty,pos,af,gd⟩ = true) (hx : ev ⟨l,D⟩ x = .pointer (some a)) (hy : ev ⟨l,D⟩ y = .pointer (some a))
  (h : Rg P n all dr Pin K rest ⟨.s d (.bool false) :: l,D⟩ Z H) : Rg P n all dr Pin K (⟨some d,.binOp .neq T x y T',ty,pos,af,gd⟩ :: rest) ⟨l,D⟩ Z H := by
 refine o_bin hg (fun w _ => ?_) h
 rw [hx,hy]
 have e : (eqGuard .neq T x y (.pointer (some a)) (.pointer (some a))).run P w = .ok () w := rfl
 simp only [Sem.run_bind,e,Result.andThen_ok,h0.s]
end
theorem peq {T e k : Nat} (h1 : ∀ w,(underlying T).run Tryz.prog w = .ok (.pointer e) w) (h2 : ∀ w,(sizeOf e).run Tryz.prog w = .ok (k + 1) w) (h3 : ∀ w,(binOp .neq T (.pointer none) (.pointer none)).run Tryz.prog w = .ok (.bool false) w) : PEq Tryz.prog T := ⟨h3,fun a w => by
 have h4 : Op.maxDepth = (Op.maxDepth - 1) + 1 := rfl
 have e : (Op.equal T (.pointer (some a)) (.pointer (some a))).run Tryz.prog w = .ok true w := by
  unfold Op.equal
  rw [h4]
  unfold Op.equalIn
  simp [h1,h2,sameAddr]
 simp [binOp,e]⟩
instance : PEq Tryz.prog 98 := peq (e := 196) (k := 0) (fun w => by kernel_rfl) (fun w => by kernel_rfl) (fun w => by kernel_rfl)
instance : PEq Tryz.prog 91 := peq (e := 192) (k := 0) (fun w => by kernel_rfl) (fun w => by kernel_rfl) (fun w => by kernel_rfl)
end Go.Ux
namespace Go.Ux
open Go Go.Proofs
def nmD : ByteArray := ⟨#[95,95,117,110,116,121,112,101,100,95,100,101,100,117,99,101,100,95]⟩
def nmA : ByteArray := ⟨#[95,95,117,110,116,121,112,101,100,95,97,116,111,109,105,99,95]⟩
def stU : ByteArray := ⟨#[117,110,116,121,112,101,100]⟩
def stA : ByteArray := ⟨#[97,116,111,109,105,99]⟩
def stS : ByteArray := ⟨#[115,101,112,97,114,97,98,108,101]⟩
abbrev tref (b : Nat) : List Value := [.pointer (some ⟨b,0,none⟩),.pointer none,.pointer none,.pointer none,.pointer none,.bool false]
abbrev atom (sb lb mb : Nat) : List Value := [.pointer (some ⟨sb,0,none⟩),.pointer (some ⟨lb,0,none⟩),.pointer (some ⟨mb,0,none⟩)]
structure Sch (Z : Fz) (sc sb lb mb eb : Nat) : Prop where
 c : ∃ tb c xs x₁ x₂ x₃,Z sc = some (cl [.slice (some ⟨tb,0,none⟩) 2 c] 192) ∧ 2 ≤ c ∧ Z tb = some (cl (.string nmA :: x₁ :: x₂ :: x₃ :: .string nmD :: .pointer (some ⟨sb,0,none⟩) :: .pointer (some ⟨lb,0,none⟩) :: .pointer (some ⟨mb,0,none⟩) :: xs) 195)
 s : Z sb = some (cl [.string stU] 291)
 l : ∃ ab,Z lb = some (cl [.pointer (some ⟨ab,0,none⟩),.pointer none,.pointer none,.pointer none,.pointer none,.bool false,.string stA,.slice none 0 0] 293) ∧ Z ab = some (cl [.string nmA] 9)
 m : Z mb = some (cl [.slice none 0 0,.slice none 0 0,.pointer (some ⟨eb,0,none⟩),.pointer none,.pointer none,.pointer none,.pointer none,.bool false,.string stS] 298)
 e : Z eb = some (cl [.string nmD] 9)
theorem Sch.lw {Z Z' : Fz} (hz : Fz.lw Z Z') {sc sb lb mb eb : Nat} (h : Sch Z sc sb lb mb eb) : Sch Z' sc sb lb mb eb := by
 obtain ⟨⟨tb,c,xs,x₁,x₂,x₃,h1,h2,h3⟩,h4,⟨ab,h5,h8⟩,h6,h7⟩ := h
 exact ⟨⟨tb,c,xs,x₁,x₂,x₃,Fz.lw.cl hz rfl h1,h2,Fz.lw.cl hz rfl h3⟩,Fz.lw.cl hz rfl h4,⟨ab,Fz.lw.cl hz rfl h5,Fz.lw.cl hz rfl h8⟩,Fz.lw.cl hz rfl h6,Fz.lw.cl hz rfl h7⟩
theorem Sch.mono {Z Z' : Fz} (hz : Fz.le Z Z') {sc sb lb mb eb : Nat} (h : Sch Z sc sb lb mb eb) : Sch Z' sc sb lb mb eb := h.lw hz.lw
section
variable {P : Program} {n : Nat} {all : Array Oper} {dr : Bool} {Pin : Hp} {K : Fr → Fz → Hp → Prop} {rest : List Oper} {l : List Lay} {D : List Deferred} {Z : Fz} {H : Hp}
variable {d : Tmp} {ty : TypeId} {pos : String} {af : Array Edge} {gd : Option (Nat × Bool)} {x y : Operand} {T : TypeId} {b off : Nat}
theorem o_indexAddrN {e k : Nat} {ag : Bool} {ik : IntKind} {len cap : Nat} (j o : Nat) [Und P T (.slice e)] [Ty P e k ag] (ho : off + j * k = o) (hj : j < len) (hg : okO n all ⟨l,D⟩ ⟨some d,.indexAddr T x y,ty,pos,af,gd⟩ = true)
  (hx : ev ⟨l,D⟩ x = .slice (some ⟨b,off,none⟩) len cap) (hy : ev ⟨l,D⟩ y = .int ik (Int.ofNat j)) (h : Rg P n all dr Pin K rest ⟨.s d (.pointer (some ⟨b,o,none⟩)) :: l,D⟩ Z H) :
  Rg P n all dr Pin K (⟨some d,.indexAddr T x y,ty,pos,af,gd⟩ :: rest) ⟨l,D⟩ Z H := o_indexAddr hg hx hy hj (by rw [ho]; exact h)
end
section
variable {P : Program} {l : List Lay} {D : List Deferred} {Z : Fz} {H : Hp} {R : Value → Fz → Hp → Prop} {a t : Tmp} {b T U k : Nat} {xs vs : List Value} {v : Value}
theorem finC {ad : Addr} (hv : look l a = .pointer (some ad)) (hw : ∀ w,Sat w Z H → (loadVar T ad).run P w = .ok v w) (h : R v Z H) : Fin P [.cell a T] R [] ⟨l,D⟩ Z H :=
 fin_nil (.cell ad.block ⟨ad,hv,hw⟩ .nil) h
theorem finCT [Ty P T k true] [hm : Mem false Z [] H b (cl xs U)] [s : Seg xs 0 k vs] (hv : look l a = .pointer (some ⟨b,0,none⟩)) (h : R (.tuple #[.agg vs.toArray,look l t]) Z H) : Fin P [.cell a T,.tmp t] R [] ⟨l,D⟩ Z H :=
 fin_nil (.cell b ⟨⟨b,0,none⟩,hv,fun w hs => loadVar_agg (k := k) (hm.heap (w := w) hs) s.h s.l⟩ (.tmp .nil)) h
theorem finC1 [Ty P T k true] [hm : Mem false Z [] H b (cl xs U)] [s : Seg xs 0 k vs] (hv : look l a = .pointer (some ⟨b,0,none⟩)) (h : R (.agg vs.toArray) Z H) : Fin P [.cell a T] R [] ⟨l,D⟩ Z H :=
 fin_nil (.cell b ⟨⟨b,0,none⟩,hv,fun w hs => loadVar_agg (k := k) (hm.heap (w := w) hs) s.h s.l⟩ .nil) h
end
end Go.Ux
namespace Go.Ux
open Go Go.Proofs
set_option maxRecDepth 20000
attribute [local irreducible] WP Tr
section
variable {Z : Fz} {sc sb lb mb eb : Nat}
theorem f183 (h : Sch Z sc sb lb mb eb) : Pu Tryz.prog 183 #[.pointer (some ⟨sc,0,none⟩),.string nmD] Z fun v => v = .tuple #[.agg #[.string nmD,.pointer (some ⟨sb,0,none⟩),.pointer (some ⟨lb,0,none⟩),.pointer (some ⟨mb,0,none⟩)],.bool true] := by
 obtain ⟨tb,c,xs,x₁,x₂,x₃,h1,h2,h3⟩ := h.c
 haveI : Zf Z sc _ := ⟨.of (h1)⟩
 haveI : Zf Z tb _ := ⟨.of (h3)⟩
 refine Pu.intro Tryz.func183 rfl Tryz.ntmps183 Tryz.results183 rfl ?_
 repeat (first | refine gn ?_ | intro _)
 rename_i rb
 refine WP.loopM (5 :: 6 :: List.range' 13 21) (fun m g Z' H' => g 6 = .int .i64 1 ∧ Z = Z' ∧ H' = [(rb,cl [.string ⟨#[]⟩,.pointer none,.pointer none,.pointer none] 195)]) 0 ⟨rfl,rfl,rfl⟩ ?_
 rintro m g Z' H' _ ⟨h6,rfl,rfl⟩
 refine WP.pin 6 h6 ?_
 refine gn ?_
 refine o_indexAddrN 1 4 rfl (by omega) rfl rfl rfl ?_
 refine gn ?_
 refine o_indexAddrN 1 4 rfl (by omega) rfl rfl rfl ?_
 refine gn ?_
 exact finCT rfl ⟨rfl,rfl⟩
theorem f164 (h : Sch Z sc sb lb mb eb) (nb : Nat) (hb : Z nb = some (cl [.string nmD] 9)) : Pu Tryz.prog 164 #[.pointer (some ⟨sc,0,none⟩),.agg (tref nb).toArray] Z fun v => v = .tuple #[.agg (atom sb lb mb).toArray,.bool true] := by
 haveI : Zf Z nb _ := ⟨.of (hb)⟩
 refine Pu.intro Tryz.func164 rfl Tryz.ntmps164 Tryz.results164 rfl ?_
 repeat (first | refine gn ?_ | intro _)
 refine cp (f183 h) ?_
 rintro _ rfl
 repeat (first | refine gn ?_ | intro _)
 exact finCT rfl ⟨rfl,rfl⟩
theorem f131 (h : Sch Z sc sb lb mb eb) (nb : Nat) (hb : Z nb = some (cl [.string nmD] 9)) : Pu Tryz.prog 131 #[.pointer (some ⟨sc,0,none⟩),.agg (tref nb).toArray] Z fun v => v = .tuple #[.agg (atom sb lb mb).toArray,.bool true] := by
 refine Pu.intro Tryz.func131 rfl Tryz.ntmps131 Tryz.results131 rfl ?_
 repeat (first | refine gn ?_ | intro _)
 refine cp (f164 h nb hb) ?_
 rintro _ rfl
 refine gn ?_
 exact finCT rfl ⟨rfl,rfl⟩
abbrev sf0 : List Value := [.string ⟨#[]⟩,.pointer none,.pointer none,.pointer none,.pointer none,.pointer none,.bool false,.nilIface]
theorem f132 (h : Sch Z sc sb lb mb eb) (k : ByteArray) : Pu Tryz.prog 132 #[.pointer (some ⟨mb,0,none⟩),.string k] Z fun v => v = .tuple #[.agg (sf0).toArray,.bool false] := by
 haveI : Zf Z mb _ := ⟨.of (h.m)⟩
 refine Pu.intro Tryz.func132 rfl Tryz.ntmps132 Tryz.results132 rfl ?_
 repeat (first | refine gn ?_ | intro _)
 rename_i rb
 refine WP.loopM (5 :: 6 :: List.range' 13 21) (fun m g Z' H' => g 6 = .int .i64 (-1) ∧ Z = Z' ∧ H' = [(rb,cl sf0 333)]) 0 ⟨rfl,rfl,rfl⟩ ?_
 rintro m g Z' H' _ ⟨h6,rfl,rfl⟩
 refine WP.pin 6 h6 ?_
 refine gn ?_
 exact finCT rfl ⟨rfl,rfl⟩
end
end Go.Ux
namespace Go.Ux
open Go Go.Proofs
set_option maxRecDepth 20000
attribute [local irreducible] WP Tr
inductive At1 | sc | li | mp | all
def At1.cells (sb lb mb : Nat) : At1 → List Value
 | .sc => [.pointer (some ⟨sb,0,none⟩),.pointer none,.pointer none]
 | .li => [.pointer none,.pointer (some ⟨lb,0,none⟩),.pointer none]
 | .mp => [.pointer none,.pointer none,.pointer (some ⟨mb,0,none⟩)]
 | .all => atom sb lb mb
section
variable {Z : Fz} {sc sb lb mb eb : Nat}
theorem f161_0 (a b oa ob T T' : Nat) (xs ys : List Value) (Z : Fz) [Zf Z a (cl xs T)] [Zf Z b (cl ys T')] (h1 : xs[oa]? = some (.pointer none)) (h2 : xs[oa + 1]? = some (.pointer none)) (h3 : xs[oa + 2]? = some (.pointer none)) (k1 : ys[ob]? = some (.pointer none)) (k2 : ys[ob + 1]? = some (.pointer none)) (k3 : ys[ob + 2]? = some (.pointer none)) :
  Pu Tryz.prog 161 #[.pointer (some ⟨a,oa,none⟩),.pointer (some ⟨b,ob,none⟩)] Z fun v => v = .bool true := by
 refine Pu.intro Tryz.func161 rfl Tryz.ntmps161 Tryz.results161 rfl ?_
 refine gn ?_
 refine WP.drawA mo (by decide +kernel) ?_
 refine gn ?_
 refine o_neb rfl rfl rfl ?_
 refine gn ?_
 refine WP.drawA mo (by decide +kernel) ?_
 refine gn ?_
 refine o_neb rfl rfl rfl ?_
 refine gn ?_
 refine WP.drawA mo (by decide +kernel) ?_
 refine gn ?_
 refine o_neb rfl rfl rfl ?_
 refine gn ?_
 exact fin1 ⟨rfl,rfl⟩
theorem f127 (a b oa ob T T' na nb : Nat) (xs ys : List Value) (nm : ByteArray) (Z : Fz) [Zf Z a (cl xs T)] [Zf Z b (cl ys T')] (h1 : (xs.drop oa).take 6 = tref na) (h2 : (ys.drop ob).take 6 = tref nb) [Zf Z na (cl [.string nm] 9)] [Zf Z nb (cl [.string nm] 9)] :
  Pu Tryz.prog 127 #[.pointer (some ⟨a,oa,none⟩),.pointer (some ⟨b,ob,none⟩)] Z fun v => v = .bool true := by
 have g : ∀ {l : List Value} {o n : Nat} (h : (l.drop o).take 6 = tref n) (i : Nat),i < 6 → l[o + i]? = (tref n)[i]? := fun {l o n} h i hi => by
  have := congrArg (fun l => l[i]?) h
  simp only [List.getElem?_take,List.getElem?_drop] at this
  rw [if_pos hi] at this
  exact this
 have a0 : xs[oa]? = _ := g h1 0 (by omega)
 have a1 : xs[oa + 1]? = _ := g h1 1 (by omega)
 have a2 : xs[oa + 1 + 1]? = _ := g h1 2 (by omega)
 have a3 : xs[oa + 1 + 2]? = _ := g h1 3 (by omega)
 have a4 : xs[oa + 4]? = _ := g h1 4 (by omega)
 have a5 : xs[oa + 5]? = _ := g h1 5 (by omega)
 have b0 : ys[ob]? = _ := g h2 0 (by omega)
 have b1 : ys[ob + 1]? = _ := g h2 1 (by omega)
 have b2 : ys[ob + 1 + 1]? = _ := g h2 2 (by omega)
 have b3 : ys[ob + 1 + 2]? = _ := g h2 3 (by omega)
 have b4 : ys[ob + 4]? = _ := g h2 4 (by omega)
 have b5 : ys[ob + 5]? = _ := g h2 5 (by omega)
 simp only [List.getElem?_cons_zero,List.getElem?_cons_succ] at a0 a1 a2 a3 a4 a5 b0 b1 b2 b3 b4 b5
 refine Pu.intro Tryz.func127 rfl Tryz.ntmps127 Tryz.results127 rfl ?_
 refine gn ?_
 refine WP.drawA mo (by decide +kernel) ?_
 refine gn ?_
 refine o_neb rfl rfl rfl ?_
 refine gn ?_
 refine WP.drawA mo (by decide +kernel) ?_
 refine gn ?_
 refine WP.drawA mo (by decide +kernel) ?_
 refine gn ?_
 refine o_nepn rfl rfl rfl ?_
 refine gn ?_
 refine WP.drawA mo (by decide +kernel) ?_
 refine gn ?_
 refine o_neb rfl rfl rfl ?_
 refine gn ?_
 refine WP.drawA mo (by decide +kernel) ?_
 refine gn ?_
 refine cp (f161_0 a b (oa + 1) (ob + 1) T T' xs ys Z a1 a2 a3 b1 b2 b3) ?_
 rintro _ rfl
 refine gn ?_
 exact fin1 ⟨rfl,rfl⟩
theorem f181 (h : Sch Z sc sb lb mb eb) : Pu Tryz.prog 181 #[.pointer (some ⟨lb,0,none⟩),.pointer (some ⟨lb,0,none⟩)] Z fun v => v = .bool true := by
 obtain ⟨ab,h1,h2⟩ := h.l
 haveI : Zf Z lb _ := ⟨.of (h1)⟩
 haveI : Zf Z ab _ := ⟨.of (h2)⟩
 refine Pu.intro Tryz.func181 rfl Tryz.ntmps181 Tryz.results181 rfl ?_
 refine gn ?_
 refine WP.drawA mo (by decide +kernel) ?_
 refine gn ?_
 refine cp (f127 lb lb 0 0 _ _ ab ab _ _ nmA Z rfl rfl) ?_
 rintro _ rfl
 refine gn ?_
 refine WP.drawA mo (by decide +kernel) ?_
 refine gn ?_
 refine WP.drawA mo (by decide +kernel) ?_
 refine gn ?_
 refine WP.loopM (4 :: 5 :: List.range' 51 19) (fun m g Z' H' => g 51 = .int .i64 0 ∧ Z = Z' ∧ H' = []) 0 ⟨rfl,rfl,rfl⟩ ?_
 rintro m g Z' H' _ ⟨h51,rfl,rfl⟩
 refine WP.pin 51 h51 ?_
 refine gn ?_
 exact fin1 ⟨rfl,rfl⟩
theorem f182 (h : Sch Z sc sb lb mb eb) : Pu Tryz.prog 182 #[.pointer (some ⟨mb,0,none⟩),.pointer (some ⟨mb,0,none⟩)] Z fun v => v = .bool true := by
 haveI : Zf Z mb _ := ⟨.of (h.m)⟩
 haveI : Zf Z eb _ := ⟨.of (h.e)⟩
 refine Pu.intro Tryz.func182 rfl Tryz.ntmps182 Tryz.results182 rfl ?_
 refine gn ?_
 refine WP.drawA mo (by decide +kernel) ?_
 refine gn ?_
 refine cp (f127 mb mb 2 2 _ _ eb eb _ _ nmD Z rfl rfl) ?_
 rintro _ rfl
 refine gn ?_
 refine WP.drawA mo (by decide +kernel) ?_
 refine gn ?_
 refine WP.drawA mo (by decide +kernel) ?_
 refine gn ?_
 refine WP.loopM (4 :: 5 :: List.range' 52 18) (fun m g Z' H' => g 52 = .int .i64 0 ∧ Z = Z' ∧ H' = []) 0 ⟨rfl,rfl,rfl⟩ ?_
 rintro m g Z' H' _ ⟨h52,rfl,rfl⟩
 refine WP.pin 52 h52 ?_
 refine gn ?_
 refine WP.drawA mo (by decide +kernel) ?_
 refine gn ?_
 refine WP.loopM (4 :: 6 :: List.range' 86 18) (fun m g Z' H' => g 86 = .int .i64 0 ∧ Z = Z' ∧ H' = []) 0 ⟨rfl,rfl,rfl⟩ ?_
 rintro m g Z' H' _ ⟨h86,rfl,rfl⟩
 refine WP.pin 86 h86 ?_
 refine gn ?_
 exact fin1 ⟨rfl,rfl⟩
def At1.same : At1 → At1 → Bool
 | .sc,.sc => true
 | .li,.li => true
 | .mp,.mp => true
 | .all,.all => true
 | _,_ => false
set_option maxHeartbeats 4000000 in
theorem f161 (h : Sch Z sc sb lb mb eb) (x y : At1) (a b : Nat) (ha : Z a = some (cl (x.cells sb lb mb) 97)) (hb : Z b = some (cl (y.cells sb lb mb) 97)) : Pu Tryz.prog 161 #[.pointer (some ⟨a,0,none⟩),.pointer (some ⟨b,0,none⟩)] Z fun v => v = .bool (x.same y) := by
 haveI : Zf Z sb _ := ⟨.of (h.s)⟩
 refine Pu.intro Tryz.func161 rfl Tryz.ntmps161 Tryz.results161 rfl ?_
 cases x <;> cases y <;> simp only [At1.cells] at ha hb <;> haveI : Zf Z a _ := ⟨.of (ha)⟩ <;> haveI : Zf Z b _ := ⟨.of (hb)⟩ <;>
  repeat (first | refine gn ?_ | refine o_neb rfl rfl rfl ?_ | refine WP.drawA mo (by decide +kernel) ?_ | exact fin1 ⟨rfl,rfl⟩ | (refine cp (f181 h) ?_; rintro _ rfl) | (refine cp (f182 h) ?_; rintro _ rfl))
end
end Go.Ux
namespace Go.Ux
open Go Go.Proofs
set_option maxRecDepth 20000
attribute [local irreducible] WP Tr
def tyB (T : Nat) : Value → Bool
 | .iface t _ => Nat.beq t T
 | _ => false
def nuB : Value → Bool
 | .nilIface => true
 | _ => false
theorem f276 (u : Value) (Z : Fz) (h : Sh u) : Pu Tryz.prog 276 #[.agg #[u]] Z fun v => v = .bool (nuB u) := by
 refine Pu.intro Tryz.func276 rfl Tryz.ntmps276 Tryz.results276 rfl ?_
 rcases h with rfl | ⟨_,rfl⟩ | ⟨_,rfl⟩ | ⟨_,rfl⟩ | ⟨_,rfl⟩ | ⟨_,rfl⟩ | ⟨_,rfl⟩ <;> (repeat (first | refine go ?_ | intro _)) <;> exact fin1 ⟨rfl,rfl⟩
theorem f275 (u : Value) (Z : Fz) (h : Sh u) : Pu Tryz.prog 275 #[.agg #[u]] Z fun v => v = .bool (tyB 198 u) := by
 refine Pu.intro Tryz.func275 rfl Tryz.ntmps275 Tryz.results275 rfl ?_
 rcases h with rfl | ⟨_,rfl⟩ | ⟨_,rfl⟩ | ⟨_,rfl⟩ | ⟨_,rfl⟩ | ⟨_,rfl⟩ | ⟨_,rfl⟩ <;> (repeat (first | refine go ?_ | intro _)) <;> exact fin1 ⟨rfl,rfl⟩
theorem f274 (u : Value) (Z : Fz) (h : Sh u) : Pu Tryz.prog 274 #[.agg #[u]] Z fun v => v = .bool (tyB 197 u) := by
 refine Pu.intro Tryz.func274 rfl Tryz.ntmps274 Tryz.results274 rfl ?_
 rcases h with rfl | ⟨_,rfl⟩ | ⟨_,rfl⟩ | ⟨_,rfl⟩ | ⟨_,rfl⟩ | ⟨_,rfl⟩ | ⟨_,rfl⟩ <;> (repeat (first | refine go ?_ | intro _)) <;> exact fin1 ⟨rfl,rfl⟩
theorem f277 (u : Value) (Z : Fz) (h : Sh u) : Pu Tryz.prog 277 #[.agg #[u]] Z fun v => v = .bool (tyB 9 u) := by
 refine Pu.intro Tryz.func277 rfl Tryz.ntmps277 Tryz.results277 rfl ?_
 rcases h with rfl | ⟨_,rfl⟩ | ⟨_,rfl⟩ | ⟨_,rfl⟩ | ⟨_,rfl⟩ | ⟨_,rfl⟩ | ⟨_,rfl⟩ <;> (repeat (first | refine go ?_ | intro _)) <;> exact fin1 ⟨rfl,rfl⟩
theorem f271 (u : Value) (Z : Fz) (h : Sh u) : Pu Tryz.prog 271 #[.agg #[u]] Z fun v => v = .bool (tyB 4 u) := by
 refine Pu.intro Tryz.func271 rfl Tryz.ntmps271 Tryz.results271 rfl ?_
 rcases h with rfl | ⟨_,rfl⟩ | ⟨_,rfl⟩ | ⟨_,rfl⟩ | ⟨_,rfl⟩ | ⟨_,rfl⟩ | ⟨_,rfl⟩ <;> (repeat (first | refine go ?_ | intro _)) <;> exact fin1 ⟨rfl,rfl⟩
theorem f272 (u : Value) (Z : Fz) (h : Sh u) : Pu Tryz.prog 272 #[.agg #[u]] Z fun v => v = .bool (tyB 33 u) := by
 refine Pu.intro Tryz.func272 rfl Tryz.ntmps272 Tryz.results272 rfl ?_
 rcases h with rfl | ⟨_,rfl⟩ | ⟨_,rfl⟩ | ⟨_,rfl⟩ | ⟨_,rfl⟩ | ⟨_,rfl⟩ | ⟨_,rfl⟩ <;> (repeat (first | refine go ?_ | intro _)) <;> exact fin1 ⟨rfl,rfl⟩
theorem f273 (u : Value) (Z : Fz) (h : Sh u) : Pu Tryz.prog 273 #[.agg #[u]] Z fun v => v = .bool (tyB 2 u) := by
 refine Pu.intro Tryz.func273 rfl Tryz.ntmps273 Tryz.results273 rfl ?_
 rcases h with rfl | ⟨_,rfl⟩ | ⟨_,rfl⟩ | ⟨_,rfl⟩ | ⟨_,rfl⟩ | ⟨_,rfl⟩ | ⟨_,rfl⟩ <;> (repeat (first | refine go ?_ | intro _)) <;> exact fin1 ⟨rfl,rfl⟩
theorem f278 (u : Value) (Z : Fz) : Pu Tryz.prog 278 #[.agg #[u]] Z fun v => v = u := by
 refine Pu.intro Tryz.func278 rfl Tryz.ntmps278 Tryz.results278 rfl ?_
 repeat (first | refine go ?_ | intro _)
 exact fin1 ⟨rfl,rfl⟩
theorem f263 (b : Bool) (Z : Fz) : Pu Tryz.prog 263 #[.agg #[.iface 4 (.bool b)]] Z fun v => v = .bool b := by
 refine Pu.intro Tryz.func263 rfl Tryz.ntmps263 Tryz.results263 rfl ?_
 repeat (first | refine go ?_ | intro _)
 exact fin1 ⟨rfl,rfl⟩
theorem f264 (f : Nat) (Z : Fz) : Pu Tryz.prog 264 #[.agg #[.iface 33 (.float .f64 f)]] Z fun v => v = .float .f64 f := by
 refine Pu.intro Tryz.func264 rfl Tryz.ntmps264 Tryz.results264 rfl ?_
 repeat (first | refine go ?_ | intro _)
 exact fin1 ⟨rfl,rfl⟩
theorem f265 (n : Int) (Z : Fz) : Pu Tryz.prog 265 #[.agg #[.iface 2 (.int .i64 n)]] Z fun v => v = .int .i64 n := by
 refine Pu.intro Tryz.func265 rfl Tryz.ntmps265 Tryz.results265 rfl ?_
 repeat (first | refine go ?_ | intro _)
 exact fin1 ⟨rfl,rfl⟩
theorem f270 (s : ByteArray) (Z : Fz) : Pu Tryz.prog 270 #[.agg #[.iface 9 (.string s)]] Z fun v => v = .string s := by
 refine Pu.intro Tryz.func270 rfl Tryz.ntmps270 Tryz.results270 rfl ?_
 repeat (first | refine go ?_ | intro _)
 exact fin1 ⟨rfl,rfl⟩
theorem f267 (s a : Value) (Z : Fz) : Pu Tryz.prog 267 #[.agg #[.iface 197 s],a] Z fun v => v = .iface 504 s := by
 refine Pu.intro Tryz.func267 rfl Tryz.ntmps267 Tryz.results267 rfl ?_
 repeat (first | refine go ?_ | intro _)
 exact fin1 ⟨rfl,rfl⟩
theorem f269 (m : Nat) (a : Value) (Z : Fz) : Pu Tryz.prog 269 #[.agg #[.iface 198 (.map (some m))],a] Z fun v => v = .iface 505 (.map (some m)) := by
 refine Pu.intro Tryz.func269 rfl Tryz.ntmps269 Tryz.results269 rfl ?_
 repeat (first | refine go ?_ | intro _)
 exact fin1 ⟨rfl,rfl⟩
class ShC (u : Value) : Prop where
 h : Sh u
instance : ShC .nilIface := ⟨.inl rfl⟩
instance {b : Bool} : ShC (.iface 4 (.bool b)) := ⟨.inr (.inl ⟨_,rfl⟩)⟩
instance {n : Int} : ShC (.iface 2 (.int .i64 n)) := ⟨.inr (.inr (.inl ⟨_,rfl⟩))⟩
instance {f : Nat} : ShC (.iface 33 (.float .f64 f)) := ⟨.inr (.inr (.inr (.inl ⟨_,rfl⟩)))⟩
instance {s : ByteArray} : ShC (.iface 9 (.string s)) := ⟨.inr (.inr (.inr (.inr (.inl ⟨_,rfl⟩))))⟩
instance {s : Value} : ShC (.iface 197 s) := ⟨.inr (.inr (.inr (.inr (.inr (.inl ⟨_,rfl⟩)))))⟩
instance {m : Nat} : ShC (.iface 198 (.map (some m))) := ⟨.inr (.inr (.inr (.inr (.inr (.inr ⟨_,rfl⟩)))))⟩
section
variable {n : Nat} {all : Array Oper} {dr : Bool} {Pin : Hp} {K : Fr → Fz → Hp → Prop} {rest : List Oper} {l : List Lay} {D : List Deferred} {Z : Fz} {H : Hp}
variable {d : Tmp} {ty : TypeId} {pos : String} {af : Array Edge} {gd : Option (Nat × Bool)} {x y : Operand} {b : Nat} {u : Value} {ts : Array TypeId}
theorem m_is (name : String) {g : Nat} {r : Bool} [Ent Tryz.prog g] [MthL Tryz.prog 301 name g 358] [hm : Mem false Z Pin H b (cl [u] 358)] (ht : Pu Tryz.prog g #[.agg #[u]] Z fun v => v = .bool r)
  (hg : okO n all ⟨l,D⟩ ⟨some d,.call ⟨.invoke x name,#[],ts⟩,ty,pos,af,gd⟩ = true) (hx : ev ⟨l,D⟩ x = .iface 301 (.pointer (some ⟨b,0,none⟩)))
  (h : Rg Tryz.prog n all dr Pin K rest ⟨.s d (.bool r) :: l,D⟩ Z H) : Rg Tryz.prog n all dr Pin K (⟨some d,.call ⟨.invoke x name,#[],ts⟩,ty,pos,af,gd⟩ :: rest) ⟨l,D⟩ Z H :=
 iL_pu (xs := []) (vs := [u]) hm hg hx rfl rfl ht rfl fun v hv => by subst hv; exact h
theorem m_IsNull [hs : ShC u] [hm : Mem false Z Pin H b (cl [u] 358)] (hg : okO n all ⟨l,D⟩ ⟨some d,.call ⟨.invoke x "IsNull",#[],ts⟩,ty,pos,af,gd⟩ = true) (hx : ev ⟨l,D⟩ x = .iface 301 (.pointer (some ⟨b,0,none⟩)))
  (h : Rg Tryz.prog n all dr Pin K rest ⟨.s d (.bool (nuB u)) :: l,D⟩ Z H) : Rg Tryz.prog n all dr Pin K (⟨some d,.call ⟨.invoke x "IsNull",#[],ts⟩,ty,pos,af,gd⟩ :: rest) ⟨l,D⟩ Z H :=
 m_is "IsNull" (f276 u Z hs.h) hg hx h
theorem m_IsMap [hs : ShC u] [hm : Mem false Z Pin H b (cl [u] 358)] (hg : okO n all ⟨l,D⟩ ⟨some d,.call ⟨.invoke x "IsMap",#[],ts⟩,ty,pos,af,gd⟩ = true) (hx : ev ⟨l,D⟩ x = .iface 301 (.pointer (some ⟨b,0,none⟩)))
  (h : Rg Tryz.prog n all dr Pin K rest ⟨.s d (.bool (tyB 198 u)) :: l,D⟩ Z H) : Rg Tryz.prog n all dr Pin K (⟨some d,.call ⟨.invoke x "IsMap",#[],ts⟩,ty,pos,af,gd⟩ :: rest) ⟨l,D⟩ Z H :=
 m_is "IsMap" (f275 u Z hs.h) hg hx h
theorem m_IsList [hs : ShC u] [hm : Mem false Z Pin H b (cl [u] 358)] (hg : okO n all ⟨l,D⟩ ⟨some d,.call ⟨.invoke x "IsList",#[],ts⟩,ty,pos,af,gd⟩ = true) (hx : ev ⟨l,D⟩ x = .iface 301 (.pointer (some ⟨b,0,none⟩)))
  (h : Rg Tryz.prog n all dr Pin K rest ⟨.s d (.bool (tyB 197 u)) :: l,D⟩ Z H) : Rg Tryz.prog n all dr Pin K (⟨some d,.call ⟨.invoke x "IsList",#[],ts⟩,ty,pos,af,gd⟩ :: rest) ⟨l,D⟩ Z H :=
 m_is "IsList" (f274 u Z hs.h) hg hx h
theorem m_IsString [hs : ShC u] [hm : Mem false Z Pin H b (cl [u] 358)] (hg : okO n all ⟨l,D⟩ ⟨some d,.call ⟨.invoke x "IsString",#[],ts⟩,ty,pos,af,gd⟩ = true) (hx : ev ⟨l,D⟩ x = .iface 301 (.pointer (some ⟨b,0,none⟩)))
  (h : Rg Tryz.prog n all dr Pin K rest ⟨.s d (.bool (tyB 9 u)) :: l,D⟩ Z H) : Rg Tryz.prog n all dr Pin K (⟨some d,.call ⟨.invoke x "IsString",#[],ts⟩,ty,pos,af,gd⟩ :: rest) ⟨l,D⟩ Z H :=
 m_is "IsString" (f277 u Z hs.h) hg hx h
theorem m_IsBool [hs : ShC u] [hm : Mem false Z Pin H b (cl [u] 358)] (hg : okO n all ⟨l,D⟩ ⟨some d,.call ⟨.invoke x "IsBool",#[],ts⟩,ty,pos,af,gd⟩ = true) (hx : ev ⟨l,D⟩ x = .iface 301 (.pointer (some ⟨b,0,none⟩)))
  (h : Rg Tryz.prog n all dr Pin K rest ⟨.s d (.bool (tyB 4 u)) :: l,D⟩ Z H) : Rg Tryz.prog n all dr Pin K (⟨some d,.call ⟨.invoke x "IsBool",#[],ts⟩,ty,pos,af,gd⟩ :: rest) ⟨l,D⟩ Z H :=
 m_is "IsBool" (f271 u Z hs.h) hg hx h
theorem m_IsFloat [hs : ShC u] [hm : Mem false Z Pin H b (cl [u] 358)] (hg : okO n all ⟨l,D⟩ ⟨some d,.call ⟨.invoke x "IsFloat",#[],ts⟩,ty,pos,af,gd⟩ = true) (hx : ev ⟨l,D⟩ x = .iface 301 (.pointer (some ⟨b,0,none⟩)))
  (h : Rg Tryz.prog n all dr Pin K rest ⟨.s d (.bool (tyB 33 u)) :: l,D⟩ Z H) : Rg Tryz.prog n all dr Pin K (⟨some d,.call ⟨.invoke x "IsFloat",#[],ts⟩,ty,pos,af,gd⟩ :: rest) ⟨l,D⟩ Z H :=
 m_is "IsFloat" (f272 u Z hs.h) hg hx h
theorem m_IsInt [hs : ShC u] [hm : Mem false Z Pin H b (cl [u] 358)] (hg : okO n all ⟨l,D⟩ ⟨some d,.call ⟨.invoke x "IsInt",#[],ts⟩,ty,pos,af,gd⟩ = true) (hx : ev ⟨l,D⟩ x = .iface 301 (.pointer (some ⟨b,0,none⟩)))
  (h : Rg Tryz.prog n all dr Pin K rest ⟨.s d (.bool (tyB 2 u)) :: l,D⟩ Z H) : Rg Tryz.prog n all dr Pin K (⟨some d,.call ⟨.invoke x "IsInt",#[],ts⟩,ty,pos,af,gd⟩ :: rest) ⟨l,D⟩ Z H :=
 m_is "IsInt" (f273 u Z hs.h) hg hx h
end
end Go.Ux
