import PyProof.Rows.All
import Wide.All
import OpenK.AllK
import Wide.FinOn
import PySem.Challenge.RW_xo0003_01
open PySem PySem.W PySem.Calls PyProof.Rows
set_option Elab.async false
set_option maxRecDepth 100000

namespace Mine
-- small facts of arithmetic, proved by hand: an omega at each place is many times as long
theorem clamp (n : Nat) {j : Int} (h : 0 ≤ j) : max 0 (min j (n : Int)) = ((min j.toNat n : Nat) : Int) := by
  rw [Int.max_eq_right (Int.le_min.mpr ⟨h, Int.natCast_nonneg n⟩), Lean.Omega.Int.ofNat_min, Int.toNat_of_nonneg h]
theorem nat_of {x : Int} (h : 0 ≤ x) : ∃ n : Nat, x = n := ⟨x.toNat, (Int.toNat_of_nonneg h).symm⟩
theorem mod4 (x : Int) : x % 4 = 0 ∨ x % 4 = 1 ∨ x % 4 = 2 ∨ x % 4 = 3 := by
  obtain ⟨k, hk⟩ := nat_of (Int.emod_nonneg x (show (4 : Int) ≠ 0 by decide))
  have h := Int.emod_lt_of_pos x (show (0 : Int) < 4 by decide)
  rw [hk] at h ⊢
  exact (by decide : ∀ k : Nat, k < 4 → (k : Int) = 0 ∨ (k : Int) = 1 ∨ (k : Int) = 2 ∨ (k : Int) = 3) k (Int.ofNat_lt.mp h)
theorem stepdown {a i : Nat} (h : i < a) : a - i = a - (i + 1) + 1 := by
  rw [← Nat.sub_sub, Nat.sub_add_cancel (Nat.sub_pos_of_lt h)]
theorem eight {α : Type} {l : List α} (h : l.length = 8) : ∃ a0 a1 a2 a3 a4 a5 a6 a7, l = [a0, a1, a2, a3, a4, a5, a6, a7] := by
  have e : l = (List.finRange 8).map fun i => l[i.val]'(by rw [h]; exact i.isLt) := List.ext_getElem (by simp [h]) (by intro i h1 h2; simp)
  exact ⟨_, _, _, _, _, _, _, _, e⟩
theorem sub_same {x y n : Nat} (hx : x ≤ n) (h : x - y = n) : y = 0 ∨ n = 0 := by
  rcases Nat.eq_zero_or_pos n with hz | hz
  · exact .inr hz
  rcases Nat.eq_zero_or_pos y with hy | hy
  · exact .inl hy
  have hx0 : 0 < x := Nat.lt_of_lt_of_le (show 0 < x - y by rw [h]; exact hz) (Nat.sub_le x y)
  have h2 := Nat.sub_lt hx0 hy
  rw [h] at h2
  exact absurd (Nat.lt_of_lt_of_le h2 hx) (Nat.lt_irrefl _)
theorem cast_sub {a b : Nat} (h : b ≤ a) : (a : Int) - b = ((a - b : Nat) : Int) := (Int.ofNat_sub h).symm
end Mine

namespace Mine

abbrev Own := List (Addr × (Obj → Prop))
abbrev Locs := List (Str × Value)

noncomputable def Lk (l : Locs) : Str → Option Value := fun x => l.lookup x
noncomputable def put (x : Str) (v : Value) : Locs → Locs
  | [] => [(x, v)]
  | (k, u) :: r => match x == k with
    | true => (x, v) :: r
    | false => (k, u) :: put x v r
theorem put_Lk (x : Str) (v : Value) : ∀ l : Locs, (fun y => if y = x then some v else Lk l y) = Lk (put x v l)
  | [] => by
    funext y
    show (if y = x then some v else none) = List.lookup y [(x, v)]
    rw [List.lookup_cons]
    by_cases h : y = x
    · subst h; simp
    · have : (y == x) = false := by simpa using h
      simp [h, this]
  | (k, u) :: r => by
    funext y
    have ih := congrFun (put_Lk x v r) y
    unfold Lk at ih ⊢
    unfold put
    cases hk : x == k with
    | true =>
      have hk' : x = k := by simpa using hk
      subst hk'
      rw [List.lookup_cons, List.lookup_cons]
      by_cases h : y = x
      · subst h; simp
      · have : (y == x) = false := by simpa using h
        simp [h, this]
    | false =>
      have hk' : x ≠ k := by simpa using hk
      dsimp only
      rw [List.lookup_cons, List.lookup_cons]
      by_cases h : y = x
      · subst h
        rw [hk]
        simpa using ih
      · cases hy : y == k with
        | true => simp [h]
        | false => simpa using ih

theorem Lk_put_eq (x : Str) (v : Value) (l : Locs) : Lk (put x v l) x = some v := by rw [← put_Lk]; simp
theorem Lk_put_ne {x y : Str} {v : Value} {l : Locs} {u : Option Value} (h : (y == x) = false) (e : Lk l y = u) : Lk (put x v l) y = u := by
  rw [← put_Lk]
  have : y ≠ x := by simpa using h
  simp [this, e]

/-- the generators that stood stand; all are bare if they were -/
def GExt (a b : Array GenState) : Prop := (∀ (i : Nat) (x : GenState), a[i]? = some x → b[i]? = some x) ∧ (AllBare a → AllBare b)
theorem GExt.refl (a : Array GenState) : GExt a a := ⟨fun _ _ e => e, fun h => h⟩
theorem GExt.trans {a b c : Array GenState} (x : GExt a b) (y : GExt b c) : GExt a c := ⟨fun i v e => y.1 i v (x.1 i v e), fun h => y.2 (x.2 h)⟩

structure Grow (s s' : Shared) : Prop where
  os : s'.os = s.os
  keep : ∀ b o, s.heap.get? b = some o → s'.heap.get? b = some o
  gens : GExt s.gens s'.gens
theorem Grow.refl (s : Shared) : Grow s s := ⟨rfl, fun _ _ e => e, .refl _⟩
theorem Grow.trans {a b c : Shared} (x : Grow a b) (y : Grow b c) : Grow a c := ⟨y.os.trans x.os, fun b o e => y.keep b o (x.keep b o e), x.gens.trans y.gens⟩
theorem Grow.heap {s : Shared} {h' : Heap} {tk : Nat} (k : ∀ b o, s.heap.get? b = some o → h'.get? b = some o) : Grow s { s with heap := h', toks := tk } := ⟨rfl, k, .refl _⟩
theorem Grow.tok {s s' : Shared} (x : Grow s s') (tk : Nat) : Grow s { s' with toks := tk } := ⟨x.os, x.keep, x.gens⟩
theorem Grow.fresh {s s' : Shared} (x : Grow s s') {a : Addr} (h : s'.heap.get? a = none) : s.heap.get? a = none := by
  cases e : s.heap.get? a with
  | none => rfl
  | some o => rw [x.keep a o e] at h; cases h
theorem none_of_le {h : Heap} {a : Addr} (e : h.objs.size ≤ a) : h.get? a = none := by
  cases q : h.get? a with
  | none => rfl
  | some o => exact absurd (Heap.lt_size q) (Nat.not_lt.mpr e)

structure Cur (s0 : Shared) (L : Addr) (l : Locs) (own : Own) (s : Shared) : Prop where
  grow : Grow s0 s
  ns : s.heap.Ns L (Lk l)
  fresh : s0.heap.get? L = none
  has : ∀ p ∈ own, ∃ o, s.heap.get? p.1 = some o ∧ p.2 o
  new : ∀ p ∈ own, s0.heap.get? p.1 = none
  ne : ∀ p ∈ own, p.1 ≠ L
  nd : (own.map (·.1)).Nodup

namespace Cur
variable {s0 s s' : Shared} {L : Addr} {l : Locs} {own : Own} {a : Addr} {P P' : Obj → Prop}
theorem tok (C : Cur s0 L l own s) (tk : Nat) : Cur s0 L l own { s with toks := tk } := ⟨C.grow.tok tk, C.ns, C.fresh, C.has, C.new, C.ne, C.nd⟩
theorem call (C : Cur s0 L l own s) (g : Grow s s') : Cur s0 L l own s' :=
  ⟨C.grow.trans g, C.ns.keeps g.keep, C.fresh, fun p hp => let ⟨o, h1, h2⟩ := C.has p hp; ⟨o, g.keep _ _ h1, h2⟩, C.new, C.ne, C.nd⟩
theorem lt (C : Cur s0 L l own s) : L < s.heap.objs.size := C.ns.lt
/-- a new object is taken in -/
theorem add (C : Cur s0 L l own s) (g : Grow s s') (hn : s.heap.get? a = none) {o : Obj} (ho : s'.heap.get? a = some o) (hP : P o) : Cur s0 L l ((a, P) :: own) s' := by
  have C' := C.call g
  refine ⟨C'.grow, C'.ns, C'.fresh, fun p hp => ?_, fun p hp => ?_, fun p hp => ?_, ?_⟩
  · rcases List.mem_cons.mp hp with rfl | hp
    · exact ⟨o, ho, hP⟩
    · exact C'.has p hp
  · rcases List.mem_cons.mp hp with rfl | hp
    · exact C.grow.fresh hn
    · exact C'.new p hp
  · rcases List.mem_cons.mp hp with rfl | hp
    · rintro rfl
      obtain ⟨oL, _, _, hL, _⟩ := C.ns
      rw [hL] at hn; cases hn
    · exact C'.ne p hp
  · refine List.nodup_cons.mpr ⟨fun hm => ?_, C.nd⟩
    obtain ⟨p, hp, e⟩ := List.mem_map.mp hm
    obtain ⟨o', h1, _⟩ := C.has p hp
    have e : p.1 = a := e
    rw [e, hn] at h1; cases h1
theorem push (C : Cur s0 L l own s) (o : Obj) (hP : P o) (tk : Nat) (hf : o.isFreed = false := by rfl) : Cur s0 L l ((s.heap.objs.size, P) :: own) { s with heap := s.heap.push o, toks := tk } :=
  C.add (.heap fun _ _ e => Heap.get?_push_of_some _ e) (none_of_le (Nat.le_refl _)) (Heap.get?_push_size _ hf) hP
theorem drop (C : Cur s0 L l own s) {own' : Own} (h : own'.Sublist own) : Cur s0 L l own' s :=
  ⟨C.grow, C.ns, C.fresh, fun p hp => C.has p (h.subset hp), fun p hp => C.new p (h.subset hp), fun p hp => C.ne p (h.subset hp), List.Pairwise.sublist (h.map _) C.nd⟩
theorem set (C : Cur s0 L l own s) {h' : Heap} {tk : Nat} {x : Str} {v : Value} (hn : h'.Ns L (fun y => if y = x then some v else Lk l y)) (hs : Heap.SameBut L s.heap h') : Cur s0 L (put x v l) own { s with heap := h', toks := tk } :=
  ⟨⟨C.grow.os, fun b o e => (hs.2 b (by rintro rfl; rw [C.fresh] at e; cases e)).trans (C.grow.keep b o e), C.grow.gens⟩, put_Lk x v l ▸ hn, C.fresh,
   fun p hp => let ⟨o, h1, h2⟩ := C.has p hp; ⟨o, (hs.2 _ (C.ne p hp)).trans h1, h2⟩, C.new, C.ne, C.nd⟩
/-- an own object turns -/
theorem upd (C : Cur s0 L l own s) {h' : Heap} {tk : Nat} {i : Nat} (hi : own[i]? = some (a, P)) (hx : Heap.ExtBut a s.heap h') {o : Obj} (ho : h'.get? a = some o) (hP : P' o) : Cur s0 L l (own.set i (a, P')) { s with heap := h', toks := tk } := by
  have hm : (a, P) ∈ own := List.mem_of_getElem? hi
  have hi' : i < own.length := (List.getElem?_eq_some_iff.mp hi).1
  have hie : own[i] = (a, P) := (List.getElem?_eq_some_iff.mp hi).2
  have hL : a ≠ L := C.ne _ hm
  have hmap : (own.set i (a, P')).map (·.1) = own.map (·.1) := by
    rw [List.map_set]
    apply List.ext_getElem?
    intro j
    rw [List.getElem?_set]
    by_cases hj : i = j
    · subst hj
      simp [hi', hie]
    · simp [hj]
  have mem : ∀ p ∈ own.set i (a, P'), p.1 ∈ own.map (·.1) := fun p hp => hmap ▸ List.mem_map_of_mem hp
  refine ⟨⟨C.grow.os, fun b o e => hx b o (by rintro rfl; rw [C.new _ hm] at e; cases e) (C.grow.keep b o e), C.grow.gens⟩, C.ns.extBut hx (Ne.symm hL), C.fresh, fun p hp => ?_, fun p hp => ?_, fun p hp => ?_, by rw [hmap]; exact C.nd⟩
  · obtain ⟨j, hj, rfl⟩ := List.getElem_of_mem hp
    rw [List.getElem_set]
    by_cases e : i = j
    · rw [if_pos e]; exact ⟨o, ho, hP⟩
    · rw [if_neg e]
      have hj' : j < own.length := by simpa using hj
      obtain ⟨o', h1, h2⟩ := C.has own[j] (List.getElem_mem hj')
      refine ⟨o', hx _ _ (fun q => ?_) h1, h2⟩
      have nd := List.pairwise_iff_getElem.mp C.nd
      rcases Nat.lt_or_gt_of_ne e with lt | lt
      · exact nd i j (by simpa using hi') (by simpa using hj') lt (by simp [hie, q])
      · exact nd j i (by simpa using hj') (by simpa using hi') lt (by simp [hie, q])
  · obtain ⟨q, hq, e⟩ := List.mem_map.mp (mem p hp)
    rw [← e]; exact C.new q hq
  · obtain ⟨q, hq, e⟩ := List.mem_map.mp (mem p hp)
    rw [← e]; exact C.ne q hq
end Cur
end Mine

namespace Mine

abbrev pw : Program := PySem.Challenge.pw_xo0003_01
noncomputable def bis : List (Str × Value) := [("len", .builtin "len"), ("range", .type "range"), ("zip", .type "zip"), ("sum", .builtin "sum"), ("max", .builtin "max"), ("enumerate", .type "enumerate")]

/-- what the text's top has laid -/
structure Base (mg mb : Str → Option Value) (h : Heap) : Prop where
  g : h.Ns mainGlobals mg
  b : h.Ns builtinsNs mb
  nolimit : h.NoLimit
  bi : ∀ p ∈ bis, mg p.1 = none ∧ mb p.1 = some p.2
  fn : ∀ d ∈ recsOf pw, ∃ a o pm code doc, mg d.name = some (.ref a) ∧ h.get? a = some o ∧ o.data = .func (docDef d.name d.params d.body d.scope pm code doc) ∧ h.CodeRec code d.name
  cmax : ∃ t, mg "CHAR_MAX" = some (.int 127 t)
theorem Base.keeps {mg mb : Str → Option Value} {h h' : Heap} (B : Base mg mb h) (k : ∀ b o, h.get? b = some o → h'.get? b = some o) : Base mg mb h' where
  g := B.g.keeps k
  b := B.b.keeps k
  nolimit := B.nolimit.keeps k
  bi := B.bi
  fn := fun d hd => let ⟨a, o, pm, c, dc, h1, h2, h3, h4⟩ := B.fn d hd; ⟨a, o, pm, c, dc, h1, k _ _ h2, h3, h4.keeps k⟩
  cmax := B.cmax

structure Room (A : Around) (k : Nat) : Prop where
  depth : A.depth + k < recursionLimit
  units : A.units + 20 * k < cLine
  handled : A.handled = none
theorem Room.deeper {A : Around} {k : Nat} (r : Room A (k + 1)) (env : Env) : Room (A.deeper env) k := by
  refine ⟨?_, ?_, r.handled⟩
  · have := r.depth; show A.depth + 1 + k < _; omega
  · have := r.units; show A.units + 3 + 20 * k < _; omega
theorem Room.in1 {A : Around} {k : Nat} (r : Room A (k + 1)) : Room A.in1 k := by
  refine ⟨?_, ?_, r.handled⟩
  · have := r.depth; show A.depth + k < _; omega
  · have := r.units; show A.units + 1 + 20 * k < _; omega
theorem Room.le {A : Around} {k j : Nat} (r : Room A k) (h : j ≤ k) : Room A j := by
  refine ⟨?_, ?_, r.handled⟩
  · have := r.depth; omega
  · have := r.units; omega

section
variable {prog : Program} {w : World} {A : Around} {E : Value → Shared → Prop} {s s0 : Shared} {L : Addr} {l : Locs} {own : Own} {env : Env} {mg mb : Str → Option Value} {Q : Value → Shared → Prop}

-- leaves
theorem r_int {i : Int} {k : Nat} {pos : Pos} (C : Cur s0 L l own s) (h : ∀ t s', Cur s0 L l own s' → Q (.int i t) s') : wpAny (model prog w) A (eval (.Constant (.int i) k pos) env) Q E s :=
  wpAny_Constant_int (h _ _ (C.tok _))
theorem r_str {i : Str} {k : Nat} {pos : Pos} (C : Cur s0 L l own s) (h : ∀ t s', Cur s0 L l own s' → Q (.str i t) s') : wpAny (model prog w) A (eval (.Constant (.str i) k pos) env) Q E s :=
  wpAny_Constant_str (h _ _ (C.tok _))
theorem r_none {k : Nat} {pos : Pos} (C : Cur s0 L l own s) (h : ∀ s', Cur s0 L l own s' → Q .none s') : wpAny (model prog w) A (eval (.Constant .none k pos) env) Q E s :=
  wpAny_Constant_none (h _ C)
theorem r_bool {b : Bool} {k : Nat} {pos : Pos} (C : Cur s0 L l own s) (h : ∀ s', Cur s0 L l own s' → Q (.bool b) s') : wpAny (model prog w) A (eval (.Constant (.bool b) k pos) env) Q E s :=
  wpAny_Constant_bool (h _ C)
theorem r_loc {x : Str} {pos : Pos} {v : Value} (C : Cur s0 L l own s) (hv : Lk l x = some v) (h : Q v s) (hL : env.locals = L := by rfl) (hk : env.scope.kind = .function := by rfl) (hl : env.kindOf x = some .local := by rfl)
    (hd : (x == ("__debug__" : Str)) = false := by decide) : wpAny (model prog w) A (eval (.Name x pos) env) Q E s :=
  wpAny_Name (wpAny_loadName_local hk hl (hL ▸ C.ns) hv h) hd
theorem r_locn {x : Str} {v : Value} (C : Cur s0 L l own s) (hv : Lk l x = some v) (h : Q v s) (hL : env.locals = L := by rfl) (hk : env.scope.kind = .function := by rfl) (hl : env.kindOf x = some .local := by rfl) :
    wpAny (model prog w) A (loadName env x) Q E s := wpAny_loadName_local hk hl (hL ▸ C.ns) hv h
theorem r_bi {x : Str} {pos : Pos} {v : Value} (B : Base mg mb s0.heap) (C : Cur s0 L l own s) (hm : (x, v) ∈ bis) (h : Q v s) (hg : env.globals = mainGlobals := by rfl) (hb : env.builtins = builtinsNs := by rfl)
    (hk : env.scope.kind = .function := by rfl) (hl : env.kindOf x = some .globalImplicit := by rfl) (hd : (x == ("__debug__" : Str)) = false := by decide) : wpAny (model prog w) A (eval (.Name x pos) env) Q E s :=
  Name_function_global hk hl (loadGlobal_builtin (hg ▸ (B.keeps C.grow.keep).g) (B.bi _ hm).1 (hb ▸ (B.keeps C.grow.keep).b) (B.bi _ hm).2 h) hd
theorem r_gl {x : Str} {pos : Pos} {v : Value} (B : Base mg mb s0.heap) (C : Cur s0 L l own s) (hm : mg x = some v) (h : Q v s) (hg : env.globals = mainGlobals := by rfl)
    (hk : env.scope.kind = .function := by rfl) (hl : env.kindOf x = some .globalImplicit := by rfl) (hd : (x == ("__debug__" : Str)) = false := by decide) : wpAny (model prog w) A (eval (.Name x pos) env) Q E s :=
  Name_function_global hk hl (loadGlobal_global (hg ▸ (B.keeps C.grow.keep).g) hm h) hd
theorem r_st {x : Str} {v : Value} {Q : Unit → Shared → Prop} (C : Cur s0 L l own s) (h : ∀ s', Cur s0 L (put x v l) own s' → Q () s') (hL : env.locals = L := by rfl) (hk : env.scope.kind = .function := by rfl) (hl : env.kindOf x = some .local := by rfl) :
    wpAny (model prog w) A (storeName env x v) Q E s := by
  subst hL
  exact wpAny_storeName_local hl C.ns (fun h' hn hs => h _ (C.set hn hs)) (by rw [hk]; rfl)
theorem r_as {x : Str} {pos : Pos} {v : Value} {Q : Unit → Shared → Prop} (C : Cur s0 L l own s) (h : ∀ s', Cur s0 L (put x v l) own s' → Q () s') (hL : env.locals = L := by rfl) (hk : env.scope.kind = .function := by rfl) (hl : env.kindOf x = some .local := by rfl) :
    wpAny (model prog w) A (assign (.Name x pos) env v) Q E s := wpAny_assign_Name (r_st C h hL hk hl)

-- ints
theorem r_add {a b : Int} {t u : Tok} (C : Cur s0 L l own s) (h : ∀ t s', Cur s0 L l own s' → Q (.int (a + b) t) s') : wpAny (model prog w) A (binaryOp .Add (.int a t) (.int b u)) Q E s := add_int (h _ _ (C.tok _))
theorem r_sub {a b : Int} {t u : Tok} (C : Cur s0 L l own s) (h : ∀ t s', Cur s0 L l own s' → Q (.int (a - b) t) s') : wpAny (model prog w) A (binaryOp .Sub (.int a t) (.int b u)) Q E s := sub_int (h _ _ (C.tok _))
theorem mul_ok {a b : Int} (ha : -(2 ^ 60) ≤ a ∧ a ≤ 2 ^ 60) : IntMulOk a b := .of_left (intBits_le_64 (by omega) (by omega))
theorem mul_ok' {a b : Int} (ha : -(2 ^ 60) ≤ b ∧ b ≤ 2 ^ 60) : IntMulOk a b := .of_right (intBits_le_64 (by omega) (by omega))
theorem r_mul {a b : Int} {t u : Tok} (C : Cur s0 L l own s) (ha : IntMulOk a b) (h : ∀ t s', Cur s0 L l own s' → Q (.int (a * b) t) s') : wpAny (model prog w) A (binaryOp .Mult (.int a t) (.int b u)) Q E s :=
  mul_int (h _ _ (C.tok _)) ha
theorem r_div {a b : Int} {t u : Tok} (C : Cur s0 L l own s) (hb : 0 < b ∧ b < 1000000) (h : ∀ t s', Cur s0 L l own s' → Q (.int (a / b) t) s') : wpAny (model prog w) A (binaryOp .FloorDiv (.int a t) (.int b u)) Q E s :=
  floordiv_int (by omega) (by rw [Int.fdiv_eq_ediv_of_nonneg _ (by omega)]; exact h _ _ (C.tok _)) (.inl (PyProof.noPylong_small (by omega)))
theorem r_mod {a b : Int} {t u : Tok} (C : Cur s0 L l own s) (hb : 0 < b) (h : ∀ t s', Cur s0 L l own s' → Q (.int (a % b) t) s') : wpAny (model prog w) A (binaryOp .Mod (.int a t) (.int b u)) Q E s :=
  mod_int' (by omega) (by rw [Int.fmod_eq_emod_of_nonneg _ (by omega)]; exact h _ _ (C.tok _))
theorem r_neg {a : Int} {t : Tok} (C : Cur s0 L l own s) (h : ∀ t s', Cur s0 L l own s' → Q (.int (-a) t) s') : wpAny (model prog w) A (unaryOp .USub (.int a t)) Q E s := neg_int (h _ _ (C.tok _))
theorem r_iadd {a b : Int} {t u : Tok} (C : Cur s0 L l own s) (h : ∀ t s', Cur s0 L l own s' → Q (.int (a + b) t) s') : wpAny (model prog w) A (inplaceOp .Add (.int a t) (.int b u)) Q E s := wpAny_iadd_int (h _ _ (C.tok _))
theorem r_ieq {a b : Int} {t u : Tok} (h : Q (.bool (decide (a = b))) s) : wpAny (model prog w) A (compareOp .Eq (.int a t) (.int b u)) Q E s := eq_int h
theorem r_ilt {a b : Int} {t u : Tok} (h : Q (.bool (decide (a < b))) s) : wpAny (model prog w) A (compareOp .Lt (.int a t) (.int b u)) Q E s := lt_int h
theorem r_truthy {b : Bool} {Q : Bool → Shared → Prop} (h : Q b s) : wpAny (model prog w) A (truthy (.bool b)) Q E s := wpAny_truthy_bool h

-- the entry of a def without cells
theorem enter {R : Result → Shared → Prop} {d : DefRec} {a : Addr} {args : List Value} {binds : List (Str × Value)} (B : Base mg mb s.heap) (hd : d ∈ recsOf pw) (ha : mg d.name = some (.ref a)) (hroom : Room A 1)
    (hbind : ∀ pm cd doc, bindArgs (docDef d.name d.params d.body d.scope pm cd doc) ⟨args, []⟩ = pure binds)
    (hloc : (binds.all fun x => decide (d.scope.names.lookup x.1 = some .local)) = true)
    (h : ∀ L cd s', Cur s L l [] s' → wpAny (model prog w) (A.deeper (envOf d.name d.scope L a cd)) (execs d.body (envOf d.name d.scope L a cd)) (fun f s' => R (.ok (.ret (match f with | .ret v => v | _ => .none))) s') (fun _ _ => False) s')
    (hco : d.scope.isCoroutine = false) (hgen : d.scope.isGenerator = false) (hk : d.scope.kind = .function)
    (hcell : ∀ x ∈ d.scope.names, x.2 ≠ .cell) (hlr : binds.reverse = l := by rfl) : codeAny (model prog w) A (.call (.ref a) ⟨args, []⟩) R s := by
  subst hlr
  obtain ⟨a', o, pm, cd, doc, h1, h2, h3, h4⟩ := B.fn d hd
  have e : a' = a := by rw [h1] at ha; cases ha; rfl
  subst e
  refine call_plain_ret (by have := hroom.depth; omega) h2 h3 B.nolimit h4 (hbind pm cd doc) (locs hloc) (fun h₁ F => ?_) hco hgen hk hcell
  exact h _ _ _ ⟨.heap F.keep, F.ns, none_of_le (Nat.le_refl _), (by simp), (by simp), (by simp), (by simp)⟩

-- for, turn by turn
theorem for_turns {R : Result → Shared → Prop} {target : Expr} {it : Value} {body orelse : List Stmt} {n : Nat} (Inv : Nat → Shared → Prop)
    (turn : ∀ i s (E : Value → Shared → Prop), i < n → Inv i s → wpAny (model prog w) A (pyNext it) (fun r s₁ => ∃ v, r = some v ∧ wpAny (model prog w) A (assign target env v) (fun _ s₂ => wpAny (model prog w) A (execs body env) (fun f s₃ => match f with
          | .next | .cont => Inv (i + 1) s₃
          | .brk => R (.ok .next) s₃
          | .ret v => R (.ok (.ret v)) s₃) E s₂) E s₁) E s)
    (stop : ∀ s (E : Value → Shared → Prop), Inv n s → wpAny (model prog w) A (pyNext it) (fun r s₁ => r = none ∧ wpAny (model prog w) A (execs orelse env) (fun f s₃ => R (.ok f) s₃) E s₁) E s)
    (h : Inv 0 s) (ht : ∀ v, letOwnedTupleGo target it v = pure () := by intro _; rfl) : codeAny (model prog w) A (.forLoop target it body orelse env) R s := by
  refine codeAny_forLoop (fun k s => ∃ i, i ≤ n ∧ k = n - i ∧ Inv i s) (fun k s hI => ?_) n ⟨0, Nat.zero_le _, rfl, h⟩ ht
  obtain ⟨i, hi, rfl, hI⟩ := hI
  rcases Nat.lt_or_ge i n with hlt | hge
  · refine wpAny_mono (turn i s _ hlt hI) (fun r s₁ hr => ?_) fun _ _ e => e
    obtain ⟨v, rfl, hr⟩ := hr
    refine wpAny_mono hr (fun _ s₂ h₂ => wpAny_mono h₂ (fun f s₃ h₃ => ?_) fun _ _ e => e) fun _ _ e => e
    cases f with
    | next => exact ⟨n - (i + 1), by omega, i + 1, hlt, rfl, h₃⟩
    | cont => exact ⟨n - (i + 1), by omega, i + 1, hlt, rfl, h₃⟩
    | brk => exact h₃
    | ret v => exact h₃
  · have e : i = n := by omega
    subst e
    refine wpAny_mono (stop s _ hI) (fun r s₁ hr => ?_) fun _ _ e => e
    obtain ⟨rfl, hr⟩ := hr
    exact hr

noncomputable abbrev rngIt (x left : Int) : Obj := { cls := .type "range_iterator", dict := none, data := .fields #[rawInt x, rawInt left, rawInt 1], slots := #[] }
/-- for x in range(n): the iterator's object heads the own ones -/
theorem for_range {R : Result → Shared → Prop} {x : Str} {px : Pos} {body : List Stmt} {I : Addr} {n : Nat} {l₀ : Locs} {own₀ : Own} (J : Nat → Locs → Own → Prop) (hh : A.handled = none)
    (C : Cur s0 L l₀ ((I, (· = rngIt 0 n)) :: own₀) s) (hJ : J 0 l₀ own₀)
    (turn : ∀ (i : Nat) l own t s (E : Value → Shared → Prop), i < n → J i l own → Cur s0 L (put x (.int i t) l) ((I, (· = rngIt (i + 1 : Nat) ((n : Int) - (i + 1 : Nat)))) :: own) s →
      wpAny (model prog w) A (execs body env) (fun f s₃ => match f with
          | .next | .cont => ∃ l' own', J (i + 1) l' own' ∧ Cur s0 L l' ((I, (· = rngIt (i + 1 : Nat) ((n : Int) - (i + 1 : Nat)))) :: own') s₃
          | .brk => R (.ok .next) s₃
          | .ret v => R (.ok (.ret v)) s₃) E s)
    (stop : ∀ l own s, J n l own → Cur s0 L l own s → R (.ok .next) s)
    (hL : env.locals = L := by rfl) (hk : env.scope.kind = .function := by rfl) (hl : env.kindOf x = some .local := by rfl) :
    codeAny (model prog w) A (.forLoop (.Name x px) (.ref I) body [] env) R s := by
  refine for_turns (n := n) (fun i s => ∃ l own, J i l own ∧ Cur s0 L l ((I, (· = rngIt i ((n : Int) - i))) :: own) s) ?_ ?_ ⟨l₀, own₀, hJ, by simpa using C⟩
  · rintro i s E hi ⟨l, own, hJ, C⟩
    obtain ⟨o, ho, rfl⟩ := C.has _ List.mem_cons_self
    refine wpAny_pyNext_range_item ho (by omega) fun h' hit hs => ?_
    refine ⟨_, rfl, r_as (C.upd (i := 0) (P' := (· = rngIt (i + 1 : Nat) ((n : Int) - (i + 1 : Nat)))) rfl hs.extBut hit ?_) (fun s' C' => turn i l own _ s' E hi hJ C') hL hk hl⟩
    have : (n : Int) - (i : Int) - 1 = (n : Int) - ((i + 1 : Nat) : Int) := by omega
    rw [this]; rfl
  · rintro s E ⟨l, own, hJ, C⟩
    obtain ⟨o, ho, rfl⟩ := C.has _ List.mem_cons_self
    refine wpAny_pyNext_range_end hh ho (by omega) fun h' hx => ⟨rfl, wpAny_execs_nil ?_⟩
    refine stop l own _ hJ ?_
    have D : Cur s0 L l own s := C.drop (List.sublist_cons_self _ _)
    have hI : I ≠ L := C.ne _ List.mem_cons_self
    refine ⟨⟨D.grow.os, fun b o e => hx b o (by rintro rfl; rw [C.new _ List.mem_cons_self] at e; cases e) (D.grow.keep b o e), D.grow.gens⟩, D.ns.extBut hx (Ne.symm hI), D.fresh, fun p hp => ?_, D.new, D.ne, D.nd⟩
    obtain ⟨o, h1, h2⟩ := D.has p hp
    refine ⟨o, hx _ _ (fun e => ?_) h1, h2⟩
    have nd := C.nd
    rw [List.map_cons, List.nodup_cons] at nd
    exact nd.1 (e ▸ List.mem_map_of_mem (f := (·.1)) hp)

/-- range(n) called, and iterated -/
theorem r_range {k : Int} {t : Tok} (C : Cur s0 L l own s) (h : ∀ r s', Cur s0 L l ((r, fun o => ∃ t u v, o = { cls := .type "range", data := .fields #[.int 0 t, .int k u, .int 1 v] }) :: own) s' → Q (.ref r) s') :
    wpAny (model prog w) A (call (.type "range") [.int k t]) Q E s :=
  call_range_1 (h _ _ (C.push _ ⟨_, _, _, rfl⟩ _))
theorem r_rangeIter {r : Addr} {kk : Int} {k : Nat} (he : kk = k) (hk : k < 2 ^ 30) (C : Cur s0 L l ((r, fun o => ∃ t u v, o = { cls := .type "range", data := .fields #[.int 0 t, .int kk u, .int 1 v] }) :: own) s) (h : ∀ I s', Cur s0 L l ((I, (· = rngIt 0 k)) :: own) s' → Q (.ref I) s') :
    wpAny (model prog w) A (pyIter (.ref r)) Q E s := by
  subst he
  obtain ⟨o, ho, t, u, v, rfl⟩ := C.has _ List.mem_cons_self
  refine wpAny_pyIter_range (a := 0) (b := k) (c := 1) ho (small_one (by omega) (by omega) (by omega) (by omega)) ?_
  have e : Builtin.Range.rangeSize 0 k 1 = k := by rw [rangeSize_one]; split <;> omega
  rw [e]
  exact h _ _ ((C.drop (List.sublist_cons_self _ _)).push (P := (· = rngIt 0 k)) (rngIt 0 k) rfl _)
end
end Mine

namespace Mine

theorem mem_of_at {α : Type} {l : List α} {i : Nat} {d : α} (h : l[i]? = some d) : d ∈ l := List.mem_of_getElem? h

/-- a dict of names -/
def NsP (m : Str → Option Value) (o : Obj) : Prop := ∃ es ep, o.data = .dict es ep ∧ StrKeys es ∧ ∀ name, nsFind es name = m name
theorem nsP_of {h : Heap} {a : Addr} {m : Str → Option Value} (n : h.Ns a m) : ∃ o, h.get? a = some o ∧ NsP m o := let ⟨o, es, ep, h1, h2, h3, h4⟩ := n; ⟨o, h1, es, ep, h2, h3, h4⟩
theorem ns_of {h : Heap} {a : Addr} {m : Str → Option Value} {o : Obj} (e : h.get? a = some o) (p : NsP m o) : h.Ns a m := let ⟨es, ep, h2, h3, h4⟩ := p; ⟨o, es, ep, e, h2, h3, h4⟩

/-- a list of just these items -/
def lstX (vs : List Value) (o : Obj) : Prop := ∃ n, o = { cls := .type "list", data := .seq vs.toArray n }
def lst (vs : List Value) (o : Obj) : Prop := o.cls = .type "list" ∧ ∃ n, o.data = .seq vs.toArray n
theorem lstX.weak {vs : List Value} (o : Obj) (h : lstX vs o) : lst vs o := by obtain ⟨n, rfl⟩ := h; exact ⟨rfl, n, rfl⟩
def tup (vs : List Value) (o : Obj) : Prop := ∃ n, o = { cls := .type "tuple", data := .seq vs.toArray n }
def intL (ns : List Int) (o : Obj) : Prop := ∃ vs, IntsAre vs ns ∧ lst vs o
def cellP (v : Option Value) (o : Obj) : Prop := o.data = .cell v
theorem lst.isList {h : Heap} {a : Addr} {vs : List Value} {o : Obj} (e : h.get? a = some o) (p : lst vs o) : h.IsList a vs.toArray := by
  exact ⟨_, e, p.1, p.2⟩
theorem lst.of {h : Heap} {a : Addr} {vs : List Value} (x : h.IsList a vs.toArray) : ∃ o, h.get? a = some o ∧ lst vs o := let ⟨o, h1, h2, h3⟩ := x; ⟨o, h1, h2, h3⟩

/-- known at every state behind s0, or own -/
def Sees (s0 : Shared) (own : Own) (a : Addr) (P : Obj → Prop) : Prop := (∃ o, s0.heap.get? a = some o ∧ P o) ∨ (a, P) ∈ own

namespace Cur
variable {s0 s s' : Shared} {L : Addr} {l : Locs} {own : Own} {a : Addr} {P P' : Obj → Prop}
theorem sees (C : Cur s0 L l own s) (h : Sees s0 own a P) : ∃ o, s.heap.get? a = some o ∧ P o := by
  rcases h with ⟨o, h1, h2⟩ | h
  · exact ⟨o, C.grow.keep _ _ h1, h2⟩
  · exact C.has _ h
/-- the frame in hand becomes an own object, C the frame in hand -/
theorem focus {Cf : Addr} {lc : Locs} (C : Cur s0 L l ((Cf, NsP (Lk lc)) :: own) s) : Cur s0 Cf lc ((L, NsP (Lk l)) :: own) s := by
  have hne : Cf ≠ L := C.ne _ List.mem_cons_self
  have nd := C.nd
  rw [List.map_cons, List.nodup_cons] at nd
  obtain ⟨o, ho, hp⟩ := C.has _ List.mem_cons_self
  refine ⟨C.grow, ns_of ho hp, C.new _ List.mem_cons_self, fun p hp => ?_, fun p hp => ?_, fun p hp => ?_, ?_⟩
  · rcases List.mem_cons.mp hp with rfl | hp
    · exact nsP_of C.ns
    · exact C.has p (List.mem_cons_of_mem _ hp)
  · rcases List.mem_cons.mp hp with rfl | hp
    · exact C.fresh
    · exact C.new p (List.mem_cons_of_mem _ hp)
  · rcases List.mem_cons.mp hp with rfl | hp
    · exact Ne.symm hne
    · exact fun e => nd.1 (e ▸ List.mem_map_of_mem (f := (·.1)) hp)
  · rw [List.map_cons, List.nodup_cons]
    refine ⟨fun hm => ?_, nd.2⟩
    obtain ⟨p, hp, e⟩ := List.mem_map.mp hm
    exact C.ne p (List.mem_cons_of_mem _ hp) e
theorem perm {own' : Own} (C : Cur s0 L l own s) (h : own.Perm own') : Cur s0 L l own' s :=
  ⟨C.grow, C.ns, C.fresh, fun p hp => C.has p (h.mem_iff.mpr hp), fun p hp => C.new p (h.mem_iff.mpr hp), fun p hp => C.ne p (h.mem_iff.mpr hp), (h.map _).nodup_iff.mp C.nd⟩
theorem imp {i : Nat} (C : Cur s0 L l own s) (hi : own[i]? = some (a, P)) (hP : ∀ o, P o → P' o) : Cur s0 L l (own.set i (a, P')) s := by
  obtain ⟨o, h1, h2⟩ := C.has _ (List.mem_of_getElem? hi)
  exact C.upd (h' := s.heap) (tk := s.toks) hi (Heap.SameBut.refl ..).extBut h1 (hP _ h2)
theorem tail {p : Addr × (Obj → Prop)} (C : Cur s0 L l (p :: own) s) : Cur s0 L l own s := C.drop (List.sublist_cons_self _ _)
/-- the head object may turn into anything -/
theorem lose (C : Cur s0 L l ((a, P) :: own) s) {h' : Heap} {tk : Nat} (hx : Heap.ExtBut a s.heap h') : Cur s0 L l own { s with heap := h', toks := tk } := by
  have D := C.tail
  have hI : a ≠ L := C.ne _ List.mem_cons_self
  refine ⟨⟨D.grow.os, fun b o e => hx b o (by rintro rfl; rw [C.new _ List.mem_cons_self] at e; cases e) (D.grow.keep b o e), D.grow.gens⟩, D.ns.extBut hx (Ne.symm hI), D.fresh, fun p hp => ?_, D.new, D.ne, D.nd⟩
  obtain ⟨o, h1, h2⟩ := D.has p hp
  refine ⟨o, hx _ _ (fun e => ?_) h1, h2⟩
  have nd := C.nd
  rw [List.map_cons, List.nodup_cons] at nd
  exact nd.1 (e ▸ List.mem_map_of_mem (f := (·.1)) hp)
/-- the base of generators renewed -/
theorem rebase (C : Cur s0 L l own s) : Cur { s0 with gens := s.gens } L l own s := ⟨⟨C.grow.os, C.grow.keep, .refl _⟩, C.ns, C.fresh, C.has, C.new, C.ne, C.nd⟩
theorem unbase {g : Array GenState} (C : Cur { s0 with gens := g } L l own s) (h : GExt s0.gens g) : Cur s0 L l own s := ⟨⟨C.grow.os, C.grow.keep, h.trans C.grow.gens⟩, C.ns, C.fresh, C.has, C.new, C.ne, C.nd⟩
end Cur

section
variable {prog : Program} {w : World} {A : Around} {E : Value → Shared → Prop} {s s0 : Shared} {L : Addr} {l : Locs} {own : Own} {env : Env} {mg mb : Str → Option Value} {Q : Value → Shared → Prop}

theorem r_listD {elts : List Expr} {pos : Pos} (h : wpAny (model prog w) A (spliced (backTo pos (starEach elts env))) (fun vs s₁ => ∃ s0 L l own, Cur s0 L l own s₁ ∧ vs.length ≤ 1000 ∧ ∀ a s', Cur s0 L l ((a, lstX vs) :: own) s' → Q (.ref a) s') E s) :
    wpAny (model prog w) A (eval (.List elts pos) env) Q E s := by
  refine wpAny_List (wpAny_mono h (fun vs s₁ h₁ => ?_) fun _ _ e => e)
  obtain ⟨s0, L, l, own, C, hl, h⟩ := h₁
  refine ⟨by rw [sizeLine_eq]; omega, h _ _ ?_⟩
  exact C.push (P := lstX vs) { cls := .type "list", data := .seq vs.toArray } ⟨_, rfl⟩ _
theorem r_tupD {elts : List Expr} {k : Nat} {pos : Pos} (h : wpAny (model prog w) A (spliced (backTo pos (starEach elts env))) (fun vs s₁ => ∃ s0 L l own, Cur s0 L l own s₁ ∧ vs.length ≤ 1000 ∧ ∀ a s', Cur s0 L l ((a, tup vs) :: own) s' → Q (.ref a) s') E s) :
    wpAny (model prog w) A (eval (.Tuple elts k pos) env) Q E s := by
  refine wpAny_Tuple (wpAny_mono h (fun vs s₁ h₁ => ?_) fun _ _ e => e)
  obtain ⟨s0, L, l, own, C, hl, h⟩ := h₁
  refine ⟨by rw [sizeLine_eq]; omega, h _ _ ?_⟩
  exact C.push (P := tup vs) { cls := .type "tuple", data := .seq vs.toArray } ⟨_, rfl⟩ _
theorem r_lenL {a : Addr} {vs : List Value} (C : Cur s0 L l own s) (hs : Sees s0 own a (lst vs)) (hl : vs.length < 2 ^ 60) (h : ∀ t s', Cur s0 L l own s' → Q (.int vs.length t) s') : wpAny (model prog w) A (call (.builtin "len") [.ref a]) Q E s := by
  obtain ⟨o, h1, h2⟩ := C.sees hs
  exact len_list (lst.isList h1 h2) (by simp; omega) (by simpa using h _ _ (C.tok _))
theorem r_lenI {a : Addr} {ns : List Int} (C : Cur s0 L l own s) (hs : Sees s0 own a (intL ns)) (hl : ns.length < 2 ^ 60) (h : ∀ t s', Cur s0 L l own s' → Q (.int ns.length t) s') : wpAny (model prog w) A (call (.builtin "len") [.ref a]) Q E s := by
  obtain ⟨o, h1, vs, hi, h2⟩ := C.sees hs
  have := hi.length
  exact len_list (lst.isList h1 h2) (by simp; omega) (by simpa [this] using h _ _ (C.tok _))
theorem r_atL {a : Addr} {vs : List Value} {k : Int} {u : Tok} {v : Value} (C : Cur s0 L l own s) (hs : Sees s0 own a (lst vs)) (h0 : 0 ≤ k ∧ k < 2 ^ 60) (hv : vs[k.toNat]? = some v) (h : Q v s) : wpAny (model prog w) A (getItem (.ref a) (.int k u)) Q E s := by
  obtain ⟨o, h1, h2⟩ := C.sees hs
  exact getItem_listL (lst.isList h1 h2) h0.1 (by omega) hv h
theorem r_atI {a : Addr} {ns : List Int} {k : Int} {u : Tok} {n : Int} (C : Cur s0 L l own s) (hs : Sees s0 own a (intL ns)) (h0 : 0 ≤ k ∧ k < 2 ^ 60) (hv : ns[k.toNat]? = some n) (h : ∀ t, Q (.int n t) s) : wpAny (model prog w) A (getItem (.ref a) (.int k u)) Q E s := by
  obtain ⟨o, h1, vs, hi, h2⟩ := C.sees hs
  obtain ⟨t, ht⟩ := hi.get _ _ hv
  exact getItem_listL (lst.isList h1 h2) h0.1 (by omega) ht (h t)
theorem tail_list {value slice : Expr} {a : Addr} {vs : List Value} {k : Int} {u : Tok} (hl : s.heap.IsList a vs.toArray) (h : wpAny (model prog w) A (getItem (.ref a) (.int k u)) Q E s)
    (hs : subscripted slice false (.ref a) (.int k u) = operate [.ref a, .int k u] (getItem (.ref a) (.int k u))) :
    wpAny (model prog w) A (subscriptTail value slice (.ref a) (.int k u)) Q E s := tail_any hl.typeIs slot_list_getitem.lookup h hs
theorem r_subL {value slice : Expr} {a : Addr} {vs : List Value} {k : Int} {u : Tok} {v : Value} (C : Cur s0 L l own s) (hs : Sees s0 own a (lst vs)) (h0 : 0 ≤ k ∧ k < 2 ^ 60) (hv : vs[k.toNat]? = some v) (h : Q v s)
    (hss : subscripted slice false (.ref a) (.int k u) = operate [.ref a, .int k u] (getItem (.ref a) (.int k u)) := by with_unfolding_all rfl) : wpAny (model prog w) A (subscriptTail value slice (.ref a) (.int k u)) Q E s := by
  obtain ⟨o, h1, h2⟩ := C.sees hs
  exact tail_list (lst.isList h1 h2) (r_atL C hs h0 hv h) hss
theorem r_subI {value slice : Expr} {a : Addr} {ns : List Int} {k : Int} {u : Tok} {n : Int} (C : Cur s0 L l own s) (hs : Sees s0 own a (intL ns)) (h0 : 0 ≤ k ∧ k < 2 ^ 60) (hv : ns[k.toNat]? = some n) (h : ∀ t, Q (.int n t) s)
    (hss : subscripted slice false (.ref a) (.int k u) = operate [.ref a, .int k u] (getItem (.ref a) (.int k u)) := by with_unfolding_all rfl) : wpAny (model prog w) A (subscriptTail value slice (.ref a) (.int k u)) Q E s := by
  obtain ⟨o, h1, vs, hi, h2⟩ := C.sees hs
  exact tail_list (lst.isList h1 h2) (r_atI C hs h0 hv h) hss
theorem intL_set : ∀ {vs : List Value} {ns : List Int}, IntsAre vs ns → ∀ (i : Nat) (n : Int) (t : Tok), IntsAre (vs.set i (.int n t)) (ns.set i n)
  | _, _, .nil, _, _, _ => .nil
  | _, _, .cons m u h, 0, n, t => .cons n t h
  | _, _, .cons m u h, i + 1, n, t => .cons m u (intL_set h i n t)
theorem r_setI {a : Addr} {ns : List Int} {k : Int} {u t : Tok} {n : Int} {i : Nat} {Q : Unit → Shared → Prop} (C : Cur s0 L l own s) (hi : own[i]? = some (a, intL ns)) (h0 : 0 ≤ k ∧ k.toNat < ns.length) (hn : ns.length < 2 ^ 50)
    (h : ∀ s', Cur s0 L l (own.set i (a, intL (ns.set k.toNat n))) s' → Q () s') : wpAny (model prog w) A (setItem (.ref a) (.int k u) (.int n t)) Q E s := by
  obtain ⟨o, h1, vs, hi', h2⟩ := C.has _ (List.mem_of_getElem? hi)
  have hl := hi'.length
  refine wpAny_setItem_list (lst.isList h1 h2) h0.1 (by omega) (by simp; omega) fun h' hl' hs' => ?_
  rw [List.setIfInBounds_toArray] at hl'
  obtain ⟨o', ho', hp'⟩ := lst.of hl'
  exact h _ (C.upd hi hs'.extBut ho' ⟨_, intL_set hi' _ _ _, hp'⟩)
end
end Mine

namespace Mine
section
variable {prog : Program} {w : World} {A : Around} {E : Value → Shared → Prop} {s s0 : Shared} {L : Addr} {l : Locs} {own : Own} {env : Env} {mg mb : Str → Option Value} {Q : Value → Shared → Prop}

theorem lstX.of {h : Heap} {a : Addr} {vs : List Value} (x : h.PlainList a vs.toArray) : ∃ o, h.get? a = some o ∧ lstX vs o := let ⟨n, h1⟩ := x; ⟨_, h1, n, rfl⟩
theorem r_gmAppend {a : Addr} {vs : List Value} {pl : Sem Bool} {Q : Value × List Value → Shared → Prop} (C : Cur s0 L l own s) (hm : (a, lstX vs) ∈ own) (h : Q (.builtin "list.append", [.ref a]) s) : wpAny (model prog w) A (getMethod (.ref a) "append" pl) Q E s := by
  obtain ⟨o, h1, n, rfl⟩ := C.has _ hm
  exact getMethod_list_append h1 rfl rfl h
theorem r_append {a : Addr} {vs : List Value} {v : Value} {i : Nat} (C : Cur s0 L l own s) (hi : own[i]? = some (a, lstX vs)) (hn : vs.length < 2 ^ 20) (h : ∀ s', Cur s0 L l (own.set i (a, lstX (vs ++ [v]))) s' → Q .none s') :
    wpAny (model prog w) A (call (.builtin "list.append") [.ref a, v]) Q E s := by
  obtain ⟨o, h1, n, rfl⟩ := C.has _ (List.mem_of_getElem? hi)
  refine wpAny_list_append_plain (items := vs.toArray) ⟨n, h1⟩ (fun h' hl hs => ?_) (by rw [sizeLine_eq, List.size_toArray]; omega)
  rw [List.push_toArray] at hl
  obtain ⟨o', ho', hp'⟩ := lstX.of hl
  exact h _ (C.upd hi hs.extBut ho' hp')
theorem rep_fold {x : Value} : ∀ (k : Nat) (acc : Array Value), List.foldl (fun x1 x2 => x1 ++ x2) acc (List.replicate k #[x]) = acc ++ (List.replicate k x).toArray
  | 0, acc => by simp
  | k + 1, acc => by
    rw [List.replicate_succ, List.foldl_cons, rep_fold k]
    apply Array.ext'
    simp [List.replicate_succ]
theorem r_mulL {a : Addr} {v : Value} {k : Int} {u : Tok} (C : Cur s0 L l own s) (hm : (a, lstX [v]) ∈ own) (hk : 0 ≤ k ∧ k ≤ 100000) (h : ∀ b s', Cur s0 L l ((b, lstX (List.replicate k.toNat v)) :: own) s' → Q (.ref b) s') :
    wpAny (model prog w) A (binaryOp .Mult (.ref a) (.int k u)) Q E s := by
  obtain ⟨o, h1, n, rfl⟩ := C.has _ hm
  refine wpAny_binaryOp_repeat_ref (T := "list") (U := "int") (by decide) ⟨_, h1, rfl⟩ (fun s' => typeIs_int s' k u) noFill_list_mul F.fills_int_mul F.slot_int_rmul repeat_list F.slot_int_index.lookup
    (call_meets F.slot_int_rmul (typeIs_int s k u) F.entry_int_rmul (F.args_int_rmul_2 _ _) (int___rmul___int_list k u a #[v] n)
      ⟨h1, rfl, ⟨_, h1, rfl⟩, call_meets F.slot_list_mul ⟨_, h1, rfl⟩ F.entry_list_mul (F.args_list_mul_2 _ _)
        (AutoListH.list___mul___list_int_3 a #[v] n k u (by simp [Builtin.List.listFitsIndex]; omega) (by rw [show (#[v] : Array Value).size = 1 from rfl]; omega) (by unfold Builtin.List.listTooLong; rw [show (#[v] : Array Value).size = 1 from rfl, sizeLine_eq]; simp; omega))
        ⟨h1, ?_⟩⟩)
  refine h _ _ (C.push _ ⟨0, ?_⟩ _)
  rw [show (#[v] : Array Value).isEmpty = false from rfl]
  simp only [Bool.false_eq_true, if_false]
  rw [rep_fold]
  simp
theorem r_addL {a b : Addr} {vs ws : List Value} (C : Cur s0 L l own s) (ha : Sees s0 own a (lst vs)) (hb : Sees s0 own b (lst ws)) (hn : vs.length + ws.length < 2 ^ 20) (h : ∀ c s', Cur s0 L l ((c, lstX (vs ++ ws)) :: own) s' → Q (.ref c) s') :
    wpAny (model prog w) A (binaryOp .Add (.ref a) (.ref b)) Q E s := by
  obtain ⟨⟨cls, dd, data, sl⟩, ho, hc, n, hd⟩ := C.sees ha
  obtain ⟨⟨cls2, dd2, data2, sl2⟩, ho2, hc2, n2, hd2⟩ := C.sees hb
  simp only at hc hd hc2 hd2
  subst hc hd hc2 hd2
  have e : vs.toArray ++ ws.toArray = (vs ++ ws).toArray := by simp
  refine concat_meets ⟨_, ho, rfl⟩ ⟨_, ho2, rfl⟩ noFill_list_add seq_list_add PySem.F.slot_list_add PySem.F.entry_list_add (PySem.F.args_list_add_2 _ _) (list_addW a b vs.toArray ws.toArray n n2 dd dd2 sl sl2 (by rw [sizeLine_eq]; simpa using by omega)) ⟨ho, ho2, ?_⟩
  rw [e]
  exact h _ _ (C.push (P := lstX (vs ++ ws)) _ ⟨0, rfl⟩ _)
theorem r_max2 {a b : Int} {t u : Tok} (C : Cur s0 L l own s) (hh : A.handled = none) (h : ∀ t s', Cur s0 L l own s' → Q (.int (max a b) t) s') : wpAny (model prog w) A (call (.builtin "max") [.int a t, .int b u]) Q E s := by
  refine max_two_ints hh fun h' tk hk => ?_
  have C' := C.call (Grow.heap (s := s) (tk := tk) hk)
  by_cases c : b > a
  · rw [if_pos c]
    have e : max a b = b := by omega
    rw [e] at h
    exact h u _ C'
  · rw [if_neg c]
    have e : max a b = a := by omega
    rw [e] at h
    exact h t _ C'
theorem r_sum {a : Addr} {ns : List Int} (C : Cur s0 L l own s) (hh : A.handled = none) (hs : Sees s0 own a (intL ns)) (h : ∀ t s', Cur s0 L l own s' → Q (.int ns.sum t) s') : wpAny (model prog w) A (call (.builtin "sum") [.ref a]) Q E s := by
  obtain ⟨o, h1, vs, hi, h2⟩ := C.sees hs
  have hall := hi.allInts
  have hl := lst.isList h1 h2
  have hn := hi.numsOf
  rw [show vs = vs.toArray.toList from rfl] at hn
  generalize vs.toArray = items at hall hl hn
  obtain ⟨xs, rfl⟩ := hall.items
  rw [nums_intItems] at hn
  refine sum_intListG hh hl fun h' tk t' hk => ?_
  have C' := C.call (Grow.heap (s := s) (tk := tk) hk)
  have := h t' _ C'
  rw [preSum_eq, List.take_of_length_le (by simp)]
  rw [← hn] at this
  exact this
end
end Mine

namespace Mine
section
variable {prog : Program} {w : World} {A : Around} {E : Value → Shared → Prop} {s s0 : Shared} {L : Addr} {l : Locs} {own : Own} {env : Env} {mg mb : Str → Option Value} {Q : Value → Shared → Prop}

/-- what an iterator's object I gives: n items -/
structure Pull (prog : Program) (w : World) (A : Around) (I : Addr) (n : Nat) (St : Nat → Obj → Prop) (dep : Shared → Own → Prop) (P : Nat → Value → Prop) : Prop where
  item : ∀ (i : Nat) (s0 s : Shared) (L : Addr) (l : Locs) (own : Own) (Q : Option Value → Shared → Prop) (E : Value → Shared → Prop), i < n → Cur s0 L l ((I, St i) :: own) s → dep s0 own →
    (∀ v s', P i v → Cur s0 L l ((I, St (i + 1)) :: own) s' → Q (some v) s') → wpAny (model prog w) A (pyNext (.ref I)) Q E s
  done : ∀ (s0 s : Shared) (L : Addr) (l : Locs) (own : Own) (Q : Option Value → Shared → Prop) (E : Value → Shared → Prop), Cur s0 L l ((I, St n) :: own) s → dep s0 own →
    (∀ s', Cur s0 L l own s' → Q none s') → wpAny (model prog w) A (pyNext (.ref I)) Q E s
  self : ∀ (i : Nat) (s0 s : Shared) (L : Addr) (l : Locs) (own : Own) (Q : Value → Shared → Prop) (E : Value → Shared → Prop), Cur s0 L l ((I, St i) :: own) s → Q (.ref I) s → wpAny (model prog w) A (pyIter (.ref I)) Q E s

theorem Pull.range (hh : A.handled = none) (I : Addr) (n : Nat) : Pull prog w A I n (fun i o => o = rngIt i ((n : Int) - i)) (fun _ _ => True) (fun i v => ∃ t, v = .int i t) where
  item := fun i s0 s L l own Q E hi C _ h => by
    obtain ⟨o, ho, rfl⟩ := C.has _ List.mem_cons_self
    refine wpAny_pyNext_range_item ho (by omega) fun h' hit hs => ?_
    refine h _ _ ⟨_, rfl⟩ (C.upd (i := 0) (P' := fun o => o = rngIt (i + 1 : Nat) ((n : Int) - (i + 1 : Nat))) rfl hs.extBut hit ?_)
    have : (n : Int) - (i : Int) - 1 = (n : Int) - ((i + 1 : Nat) : Int) := by omega
    rw [this]; rfl
  done := fun s0 s L l own Q E C _ h => by
    obtain ⟨o, ho, rfl⟩ := C.has _ List.mem_cons_self
    exact wpAny_pyNext_range_end hh ho (by omega) fun h' hx => h _ (C.lose hx)
  self := fun i s0 s L l own Q E C h => by
    obtain ⟨o, ho, rfl⟩ := C.has _ List.mem_cons_self
    exact wpAny_pyIter_rangeiter ho h

def lstIt (ax : Addr) (i : Nat) (o : Obj) : Prop := o.cls = .type "list_iterator" ∧ o.data = .fields #[.ref ax, .int i 0]
theorem Pull.list (hh : A.handled = none) (I ax : Addr) (vs : List Value) : Pull prog w A I vs.length (lstIt ax) (fun s0 own => Sees s0 own ax (lst vs)) (fun i v => vs[i]? = some v) where
  item := fun i s0 s L l own Q E hi C hd h => by
    obtain ⟨o, ho, hp⟩ := C.has _ List.mem_cons_self
    obtain ⟨o2, ho2, hp2⟩ := C.tail.sees hd
    have hv : vs[i]? = some vs[i] := List.getElem?_eq_getElem hi
    refine wpAny_pyNext_list_item (i := i) ⟨o, ho, hp.1, hp.2⟩ (lst.isList ho2 hp2) (x := vs[i]) (by simp) fun h' hit hs => ?_
    obtain ⟨o3, ho3, hc3, hd3⟩ := hit
    exact h _ _ hv (C.upd (i := 0) (P' := lstIt ax (i + 1)) (tk := s.toks) rfl hs.extBut ho3 ⟨hc3, hd3⟩)
  done := fun s0 s L l own Q E C hd h => by
    obtain ⟨o, ho, hp⟩ := C.has _ List.mem_cons_self
    obtain ⟨o2, ho2, hp2⟩ := C.tail.sees hd
    exact wpAny_pyNext_list_end hh ⟨o, ho, hp.1, hp.2⟩ (lst.isList ho2 hp2) (by simp) fun h' hx => h _ (C.lose (tk := s.toks) hx)
  self := fun i s0 s L l own Q E C h => by
    obtain ⟨o, ho, hp⟩ := C.has _ List.mem_cons_self
    exact wpAny_pyIter_listiter (i := i) ⟨o, ho, hp.1, hp.2⟩ h
theorem r_listIter {ax : Addr} {vs : List Value} (C : Cur s0 L l own s) (hd : Sees s0 own ax (lst vs)) (h : ∀ I s', Cur s0 L l ((I, lstIt ax 0) :: own) s' → Q (.ref I) s') : wpAny (model prog w) A (pyIter (.ref ax)) Q E s := by
  obtain ⟨o2, ho2, hp2⟩ := C.sees hd
  exact wpAny_pyIter_list (lst.isList ho2 hp2) (h _ _ (C.push (P := lstIt ax 0) _ ⟨rfl, rfl⟩ _))

/-- for x in an iterator -/
theorem for_pull {R : Result → Shared → Prop} {x : Str} {px : Pos} {body : List Stmt} {I : Addr} {n : Nat} {St : Nat → Obj → Prop} {dep : Shared → Own → Prop} {P : Nat → Value → Prop} {l₀ : Locs} {own₀ : Own} (W : Pull prog w A I n St dep P) (J : Nat → Locs → Own → Prop)
    (C : Cur s0 L l₀ ((I, St 0) :: own₀) s) (hJ : J 0 l₀ own₀) (hd : ∀ i l own, J i l own → dep s0 own)
    (turn : ∀ (i : Nat) l own v s (E : Value → Shared → Prop), i < n → J i l own → P i v → Cur s0 L (put x v l) ((I, St (i + 1)) :: own) s →
      wpAny (model prog w) A (execs body env) (fun f s₃ => match f with
          | .next | .cont => ∃ l' own', J (i + 1) l' own' ∧ Cur s0 L l' ((I, St (i + 1)) :: own') s₃
          | .brk => R (.ok .next) s₃
          | .ret v => R (.ok (.ret v)) s₃) E s)
    (stop : ∀ l own s, J n l own → Cur s0 L l own s → R (.ok .next) s)
    (hL : env.locals = L := by rfl) (hk : env.scope.kind = .function := by rfl) (hl : env.kindOf x = some .local := by rfl) :
    codeAny (model prog w) A (.forLoop (.Name x px) (.ref I) body [] env) R s := by
  refine for_turns (n := n) (fun i s => ∃ l own, J i l own ∧ Cur s0 L l ((I, St i) :: own) s) ?_ ?_ ⟨l₀, own₀, hJ, C⟩
  · rintro i s E hi ⟨l, own, hJ, C⟩
    exact W.item i s0 s L l own _ _ hi C (hd i l own hJ) fun v s' hP C' => ⟨_, rfl, r_as C' (fun s'' C'' => turn i l own v s'' E hi hJ hP C'') hL hk hl⟩
  · rintro s E ⟨l, own, hJ, C⟩
    exact W.done s0 s L l own _ _ C (hd n l own hJ) fun s' C' => ⟨rfl, wpAny_execs_nil (stop l own s' hJ C')⟩

-- comprehensions
theorem comp_turns {R : Result → Shared → Prop} {elt target iter : Expr} {scope : Scope} {pos : Pos} {it acc : Value} {n : Nat} (Inv : Nat → Shared → Prop)
    (turn : ∀ i s (E : Value → Shared → Prop), i < n → Inv i s → wpAny (model prog w) A (pyNext it) (fun r s₁ => ∃ v, r = some v ∧ wpAny (model prog w) A (letOwnedTupleGo target it v) (fun _ s₁' => wpAny (model prog w) A (assign target env v) (fun _ s₂ =>
      wpAny (model prog w) A (eval elt env) (fun x s₃ => wpAny (model prog w) A (call (.builtin "list.append") [acc, x]) (fun _ s₄ => Inv (i + 1) s₄) E s₃) E s₂) E s₁') E s₁) E s)
    (stop : ∀ s (E : Value → Shared → Prop), Inv n s → wpAny (model prog w) A (pyNext it) (fun r s₁ => r = none ∧ R (.ok .next) s₁) E s)
    (h : Inv 0 s) : codeAny (model prog w) A (.compLoop (.ListComp elt [⟨target, iter, [], 0⟩] scope pos) 0 it acc env) R s := by
  refine codeAny_loop rfl (fun k s => ∃ i, i ≤ n ∧ k = n - i ∧ Inv i s) (fun k s hI => ?_) n ⟨0, Nat.zero_le _, rfl, h⟩
  obtain ⟨i, hi, rfl, hI⟩ := hI
  show wpAny _ _ ((compTurn (.ListComp elt [⟨target, iter, [], 0⟩] scope pos) 0 it acc env).onRaise (fun x => do noteFrame x env; theTreesLotGoes x)) _ _ s
  refine wpAny_noted ?_
  rw [compTurn_list1]
  rcases Nat.lt_or_ge i n with hlt | hge
  · refine wpAny_bind (wpAny_standAt (wpAny_bind (wpAny_mono (turn i s _ hlt hI) (fun r s₁ h₁ => ?_) fun _ _ h' => h')))
    obtain ⟨v, rfl, h₁⟩ := h₁
    exact wpAny_bind (wpAny_mono h₁ (fun _ s₁' h₁' => wpAny_bind (wpAny_mono h₁' (fun _ s₂ h₂ => wpAny_bind (wpAny_bind (wpAny_mono h₂ (fun x s₃ h₃ => wpAny_bind (wpAny_mono h₃
      (fun _ s₄ h₄ => wpAny_pure (wpAny_pure ⟨rfl, _, (by omega : n - (i + 1) < n - i), i + 1, hlt, rfl, h₄⟩)) fun _ _ h' => h')) fun _ _ h' => h'))) fun _ _ h' => h')) fun _ _ h' => h')
  · have e : i = n := by omega
    subst e
    refine wpAny_bind (wpAny_standAt (wpAny_bind (wpAny_mono (stop s _ hI) (fun r s₁ h₁ => ?_) fun _ _ h' => h')))
    obtain ⟨rfl, h₁⟩ := h₁
    exact wpAny_pure h₁

/-- the list comprehension's inside, its target a local: [elt for x in it] -/
theorem comp_in {RR : Value → Addr → Result → Shared → Prop} {elt iter : Expr} {x : Str} {px : Pos} {scope : Scope} {cl : List (Str × Addr)} {pos : Pos} {I : Addr} {n : Nat} {St : Nat → Obj → Prop} {dep : Shared → Own → Prop} {P : Nat → Value → Prop} {own₀ : Own}
    (hcell : ∀ y ∈ scope.names, y.2 ≠ .cell) (hkind : scope.kind = .function) (hx : scope.names.lookup x = some .local)
    (C : Cur s0 L l ((I, St 0) :: own₀) s) (W : Pull prog w A I n St dep P) (K : Nat → List Value → Own → Prop) (hK : K 0 [] own₀) (hn : n < 2 ^ 20)
    (hd : ∀ i ys own D, K i ys own → dep s0 ((D, lstX ys) :: (L, NsP (Lk l)) :: own))
    (turn : ∀ (i : Nat) ys own v s (E : Value → Shared → Prop) Cf lc D, i < n → K i ys own → P i v → Cur s0 Cf (put x v lc) ((I, St (i + 1)) :: (D, lstX ys) :: (L, NsP (Lk l)) :: own) s →
      wpAny (model prog w) A (eval elt (compEnvC scope cl Cf env)) (fun y s₃ => ∃ lc' own', K (i + 1) (ys ++ [y]) own' ∧ Cur s0 Cf lc' ((I, St (i + 1)) :: (D, lstX ys) :: (L, NsP (Lk l)) :: own') s₃) E s)
    (fin : ∀ D Cf lc ys own s', ys.length = n → K n ys own → Cur s0 L l ((Cf, NsP (Lk lc)) :: (D, lstX ys) :: own) s' → RR (.ref D) Cf (.ok .next) s') :
    wpAny (model prog w) A (newList []) (fun acc s₃ => wpAny (model prog w) A (newFunctionEnv scope env.globals cl [] env.qual none .none (some env)) (fun cenv s₄ =>
      codeAny (model prog w) A (.compStart (.ListComp elt [⟨.Name x px, iter, [], 0⟩] scope pos) 0 (.ref I) acc { cenv with scope := relabel scope env }) (RR acc cenv.locals) s₄) E s₃) E s := by
  refine wpAny_newObj_type ?_ (by size_fits)
  have C1 := C.push (P := lstX []) { cls := .type "list", data := .seq ([] : List Value).toArray } ⟨0, rfl⟩ s.toks
  generalize ({ s with heap := s.heap.push { cls := .type "list", data := .seq ([] : List Value).toArray } } : Shared) = s1 at C1
  generalize hD : s.heap.objs.size = D at C1
  refine wpAny_newFunctionEnv hcell (by intro y hy; simp at hy) (fun h₁ hns₁ hsb₁ => ?_) hkind
  have C2 : Cur s0 L l ((s1.heap.objs.size, NsP (Lk [])) :: (D, lstX []) :: (I, St 0) :: own₀) { s1 with heap := h₁, toks := s1.toks + ([] : List (Str × Value)).length } := by
    obtain ⟨o, ho, hp⟩ := nsP_of hns₁
    exact C1.add (.heap fun b o e => hsb₁.extBut b o (Nat.ne_of_lt (Heap.lt_size e)) (Heap.get?_push_of_some _ e)) (none_of_le (Nat.le_refl _)) ho hp
  generalize ({ s1 with heap := h₁, toks := s1.toks + ([] : List (Str × Value)).length } : Shared) = s2 at C2
  generalize s1.heap.objs.size = Cf at C2
  have C3 : Cur s0 Cf [] ((I, St 0) :: (D, lstX []) :: (L, NsP (Lk l)) :: own₀) s2 := by
    refine C2.focus.perm ?_
    refine List.Perm.trans (List.Perm.trans (List.Perm.cons _ (List.Perm.swap _ _ _)) (List.Perm.swap _ _ _)) (List.Perm.cons _ (List.Perm.swap _ _ _))
  have loop : codeAny (model prog w) A (.compLoop (.ListComp elt [⟨.Name x px, iter, [], 0⟩] scope pos) 0 (.ref I) (.ref D) (compEnvC scope cl Cf env)) (RR (.ref D) Cf) s2 := by
    refine comp_turns (n := n) (fun i s => ∃ ys lc own, ys.length = i ∧ K i ys own ∧ Cur s0 Cf lc ((I, St i) :: (D, lstX ys) :: (L, NsP (Lk l)) :: own) s) ?_ ?_ ⟨[], _, _, rfl, hK, C3⟩
    · rintro i s E hi ⟨ys, lc, own, hl, hK, C⟩
      refine W.item i s0 s Cf lc _ _ _ hi C (hd i ys own D hK) fun v s' hP C' => ⟨v, rfl, wpAny_pure ?_⟩
      refine r_as C' (fun s'' C'' => ?_) rfl hkind (lookup_relabel_local hx)
      refine wpAny_mono (turn i ys own v s'' E Cf lc D hi hK hP C'') (fun y s₃ h₃ => ?_) fun _ _ e => e
      obtain ⟨lc', own', hK', C₃⟩ := h₃
      exact r_append (i := 1) C₃ rfl (by omega) fun s₄ C₄ => ⟨_, _, _, by simp [hl], hK', C₄⟩
    · rintro s E ⟨ys, lc, own, hl, hK, C⟩
      exact W.done s0 s Cf lc _ _ _ C (hd n ys own D hK) fun s' C' => ⟨rfl, fin D Cf lc ys own s' hl hK (C'.perm (List.Perm.swap _ _ _)).focus⟩
  exact codeAny_compStart_list loop (W.self 0 s0 s2 Cf _ _ _ _ C3 loop)

inductive CompV (prog : Program) (w : World) (A : Around) (env : Env) (elt : Expr) (x : Str) (scope : Scope) (cl : List (Str × Addr)) (Q : Value → Shared → Prop) (it : Value) (s₂ : Shared) : Prop where
  | mk (s0 : Shared) (L : Addr) (l : Locs) (own₀ : Own) (I : Addr) (n : Nat) (St : Nat → Obj → Prop) (dep : Shared → Own → Prop) (P : Nat → Value → Prop) (K : Nat → List Value → Own → Prop)
    (h0 : it = .ref I)
    (h1 : Cur s0 L l ((I, St 0) :: own₀) s₂)
    (h2 : Pull prog w A I n St dep P)
    (h3 : K 0 [] own₀)
    (h4 : n < 2 ^ 20)
    (h5 : ∀ i ys own D, K i ys own → dep s0 ((D, lstX ys) :: (L, NsP (Lk l)) :: own))
    (h6 : ∀ (i : Nat) ys own v s (E : Value → Shared → Prop) Cf lc D, i < n → K i ys own → P i v → Cur s0 Cf (put x v lc) ((I, St (i + 1)) :: (D, lstX ys) :: (L, NsP (Lk l)) :: own) s →
        wpAny (model prog w) A (eval elt (compEnvC scope cl Cf env)) (fun y s₃ => ∃ lc' own', K (i + 1) (ys ++ [y]) own' ∧ Cur s0 Cf lc' ((I, St (i + 1)) :: (D, lstX ys) :: (L, NsP (Lk l)) :: own') s₃) E s)
    (h7 : ∀ D ys own s', ys.length = n → K n ys own → Cur s0 L l ((D, lstX ys) :: own) s' → Q (.ref D) s') : CompV prog w A env elt x scope cl Q it s₂
/-- [elt for x in iter] as a value -/
theorem r_comp {elt iter : Expr} {x : Str} {px : Pos} {scope : Scope} {cl : List (Str × Addr)} {pos : Pos}
    (hclos : closureFor scope env = pure cl) (hcell : ∀ y ∈ scope.names, y.2 ≠ .cell) (hkind : scope.kind = .function) (hnames : ∀ x ∈ scope.names, x.2 = .local → scope.names.lookup x.1 = some .local) (hx : scope.names.lookup x = some .local)
    (h : wpAny (model prog w) A (eval iter env) (fun v s₁ => wpAny (model prog w) A (pyIter v) (CompV prog w A env elt x scope cl Q) E s₁) E s)
    (hs : ∀ x, foldedSetIterable iter env x = pure x := by intro _; rfl) :
    wpAny (model prog w) A (eval (.ListComp elt [⟨.Name x px, iter, [], 0⟩] scope pos) env) Q E s := by
  rw [eval_ListComp]
  refine wpAny_comprehension_free (use := none) rfl hs hclos hkind hnames (wpAny_mono h (fun xv s₁ h₁ => wpAny_mono h₁ (fun it s₂ h₂ => ?_) fun _ _ e => e) fun _ _ e => e)
  obtain ⟨s0, L, l, own₀, I, n, St, dep, P, K, rfl, C, W, hK, hn, hd, turn, fin⟩ := h₂
  refine comp_in (RR := fun acc Cf => compPost (model prog w) A E none Q acc Cf) hcell hkind hx C W K hK hn hd turn ?_
  intro D Cf lc ys own s' hl hK C'
  obtain ⟨o, ho, hp⟩ := C'.has _ List.mem_cons_self
  refine ⟨_, ns_of ho hp, fun h' hs' => fin D ys own _ hl hK ?_⟩
  exact C'.lose (tk := s'.toks) hs'.extBut

inductive CompS (prog : Program) (w : World) (A : Around) (env : Env) (elt : Expr) (x : Str) (scope : Scope) (cl : List (Str × Addr)) (y : Str) (Q : Flow → Shared → Prop) (it : Value) (s₂ : Shared) : Prop where
  | mk (s0 : Shared) (l : Locs) (own₀ : Own) (I : Addr) (n : Nat) (St : Nat → Obj → Prop) (dep : Shared → Own → Prop) (P : Nat → Value → Prop) (K : Nat → List Value → Own → Prop)
    (h0 : it = .ref I)
    (h1 : Cur s0 env.locals l ((I, St 0) :: own₀) s₂)
    (h2 : Pull prog w A I n St dep P)
    (h3 : K 0 [] own₀)
    (h4 : n < 2 ^ 20)
    (h5 : ∀ i ys own D, K i ys own → dep s0 ((D, lstX ys) :: (env.locals, NsP (Lk l)) :: own))
    (h6 : ∀ (i : Nat) ys own v s (E : Value → Shared → Prop) Cf lc D, i < n → K i ys own → P i v → Cur s0 Cf (put x v lc) ((I, St (i + 1)) :: (D, lstX ys) :: (env.locals, NsP (Lk l)) :: own) s →
        wpAny (model prog w) A (eval elt (compEnvC scope cl Cf env)) (fun y s₃ => ∃ lc' own', K (i + 1) (ys ++ [y]) own' ∧ Cur s0 Cf lc' ((I, St (i + 1)) :: (D, lstX ys) :: (env.locals, NsP (Lk l)) :: own') s₃) E s)
    (h7 : ∀ D ys own s', ys.length = n → K n ys own → Cur s0 env.locals (put y (.ref D) l) ((D, lstX ys) :: own) s' → Q .next s') : CompS prog w A env elt x scope cl y Q it s₂
/-- y = [elt for x in iter], y a local of the frame in hand: the stores are exchanged -/
theorem r_compAs {elt iter : Expr} {x y : Str} {px py : Pos} {scope : Scope} {cl : List (Str × Addr)} {pos spos : Pos} {Q : Flow → Shared → Prop}
    (hsw : swapsWith (.ListComp elt [⟨.Name x px, iter, [], 0⟩] scope pos) (some (.Name y py)) spos.line env = pure true)
    (hclos : closureFor scope env = pure cl) (hcell : ∀ y ∈ scope.names, y.2 ≠ .cell) (hkind : scope.kind = .function) (hnames : ∀ x ∈ scope.names, x.2 = .local → scope.names.lookup x.1 = some .local) (hx : scope.names.lookup x = some .local)
    (hk : env.scope.kind = .function) (hy : env.kindOf y = some .local)
    (h : wpAny (model prog w) A (eval iter env) (fun v s₁ => wpAny (model prog w) A (pyIter v) (CompS prog w A env elt x scope cl y Q) E s₁) E s)
    (hs : ∀ x, foldedSetIterable iter env x = pure x := by intro _; rfl) :
    wpAny (model prog w) A (exec (.Assign [.Name y py] (.ListComp elt [⟨.Name x px, iter, [], 0⟩] scope pos) spos) env) Q E s := by
  rw [exec_Assign_Name_used _ _ _ _ hsw]
  refine wpAny_bind (wpAny_standAt (wpAny_bind ?_))
  show wpAny _ A (comprehension (.ListComp elt [⟨.Name x px, iter, [], 0⟩] scope pos) scope env (firstIterPos [⟨.Name x px, iter, [], 0⟩] pos) (newList []) (firstAsync [⟨.Name x px, iter, [], 0⟩]) (firstIter [⟨.Name x px, iter, [], 0⟩] env) (some (assign (.Name y py) env)) >>= fun _ => pure ()) _ E s
  refine wpAny_bind (wpAny_comprehension_free (use := some (assign (.Name y py) env)) rfl hs hclos hkind hnames (wpAny_mono h (fun xv s₁ h₁ => wpAny_mono h₁ (fun it s₂ h₂ => ?_) fun _ _ e => e) fun _ _ e => e))
  obtain ⟨s0, l, own₀, I, n, St, dep, P, K, rfl, C, W, hK, hn, hd, turn, fin⟩ := h₂
  refine comp_in (RR := fun acc Cf => compPost (model prog w) A E (some (assign (.Name y py) env)) (fun _ s' => wpAny (model prog w) A (pure ()) (fun _ s₁ => wpAny (model prog w) A (pure Flow.next) Q E s₁) E s') acc Cf) hcell hkind hx C W K hK hn hd turn ?_
  intro D Cf lc ys own s' hl hK C'
  refine r_as C' (fun s'' C'' => ?_) rfl hk hy
  obtain ⟨o, ho, hp⟩ := C''.has _ List.mem_cons_self
  refine ⟨_, ns_of ho hp, fun h' hs' => wpAny_pure (wpAny_pure (fin D ys own _ hl hK ?_))⟩
  exact C''.lose (tk := s''.toks) hs'.extBut
end
end Mine

namespace Mine
section
variable {prog : Program} {w : World} {A : Around} {E : Value → Shared → Prop} {s s0 : Shared} {L : Addr} {l : Locs} {own : Own} {env : Env} {mg mb : Str → Option Value} {Q : Value → Shared → Prop}

theorem r_cell {x : Str} {pos : Pos} {c : Addr} {v : Value} (C : Cur s0 L l own s) (hc : env.cells.lookup x = some c) (hm : (c, cellP (some v)) ∈ own) (h : Q v s) (hk : env.scope.kind = .function := by rfl) (hl : env.kindOf x = some .cell := by rfl)
    (hd : (x == ("__debug__" : Str)) = false := by decide) : wpAny (model prog w) A (eval (.Name x pos) env) Q E s :=
  wpAny_Name (wpAny_loadName_cell hk hl hc (C.has _ hm) h) hd
theorem r_stC {x : Str} {c : Addr} {v : Value} {v₀ : Option Value} {i : Nat} {Q : Unit → Shared → Prop} (C : Cur s0 L l own s) (hc : env.cells.lookup x = some c) (hi : own[i]? = some (c, cellP v₀)) (h : ∀ s', Cur s0 L l (own.set i (c, cellP (some v))) s' → Q () s')
    (hk : env.scope.kind = .function := by rfl) (hl : env.kindOf x = some .cell := by rfl) : wpAny (model prog w) A (storeName env x v) Q E s := by
  refine wpAny_storeName_cell hk hl hc (C.has _ (List.mem_of_getElem? hi)) fun h' hv hs => ?_
  obtain ⟨o, ho, hp⟩ := hv
  exact h _ (C.upd (tk := s.toks) hi hs.extBut ho hp)

theorem cellEnv_ {scope : Scope} {globals : Addr} {cl : List (Str × Addr)} {qual : Str} {outer : Env} {x : Str} {Q : Env → Shared → Prop}
    (hpc : ∀ h, pushCells h scope.names = h.push { cls := .type "cell", data := .cell none }) (hcf : ∀ n, cellsFrom n scope.names cl = (x, n) :: cl)
    (h : ∀ Cf c s', Cf = s.heap.objs.size → c = s.heap.objs.size + 1 → s' = { s with heap := (s.heap.push { cls := .type "dict", data := .dict #[] }).push { cls := .type "cell", data := .cell none } } → Q (newEnv scope Cf globals ((x, c) :: cl) qual none .none (some outer) builtinsNs) s') :
    wpAny (model prog w) A (newFunctionEnv scope globals cl [] qual none .none (some outer)) Q E s := by
  simp only [newFunctionEnv, Option.isSome_some, if_true]
  refine wpAny_bind (wpAny_alloc ?_)
  refine wpAny_bind (wpAny_layCells _ (fun name kind cells => by cases kind == NameKind.cell <;> simp) _ _ _ _ ?_)
  rw [hcf, hpc]
  refine wpAny_bind (wpAny_pure (wpAny_pure ?_))
  rw [show ({ s with heap := s.heap.push { cls := .type "dict", data := .dict #[] } } : Shared).heap.objs.size = s.heap.objs.size + 1 from Heap.size_push ..]
  exact h _ _ _ rfl rfl rfl

/-- as comp_in, the target a cell of the comprehension's own -/
theorem comp_inC {RR : Value → Addr → Result → Shared → Prop} {elt iter : Expr} {x : Str} {px : Pos} {scope : Scope} {cl : List (Str × Addr)} {pos : Pos} {I : Addr} {n : Nat} {St : Nat → Obj → Prop} {dep : Shared → Own → Prop} {P : Nat → Value → Prop} {own₀ : Own}
    (hpc : ∀ h, pushCells h scope.names = h.push { cls := .type "cell", data := .cell none }) (hcf : ∀ n, cellsFrom n scope.names cl = (x, n) :: cl) (hkind : scope.kind = .function)
    (hxc : ∀ c Cf, (compEnvC scope ((x, c) :: cl) Cf env).kindOf x = some .cell)
    (C : Cur s0 L l ((I, St 0) :: own₀) s) (W : Pull prog w A I n St dep P) (K : Nat → List Value → Own → Prop) (hK : K 0 [] own₀) (hn : n < 2 ^ 20)
    (hd : ∀ i ys own D c v, K i ys own → dep s0 ((D, lstX ys) :: (L, NsP (Lk l)) :: (c, cellP v) :: own))
    (turn : ∀ (i : Nat) ys own v s (E : Value → Shared → Prop) Cf lc D c, i < n → K i ys own → P i v → Cur s0 Cf lc ((I, St (i + 1)) :: (D, lstX ys) :: (L, NsP (Lk l)) :: (c, cellP (some v)) :: own) s →
      wpAny (model prog w) A (eval elt (compEnvC scope ((x, c) :: cl) Cf env)) (fun y s₃ => ∃ lc' own', K (i + 1) (ys ++ [y]) own' ∧ Cur s0 Cf lc' ((I, St (i + 1)) :: (D, lstX ys) :: (L, NsP (Lk l)) :: (c, cellP (some v)) :: own') s₃) E s)
    (fin : ∀ D Cf lc ys own s', ys.length = n → K n ys own → Cur s0 L l ((Cf, NsP (Lk lc)) :: (D, lstX ys) :: own) s' → RR (.ref D) Cf (.ok .next) s') :
    wpAny (model prog w) A (newList []) (fun acc s₃ => wpAny (model prog w) A (newFunctionEnv scope env.globals cl [] env.qual none .none (some env)) (fun cenv s₄ =>
      codeAny (model prog w) A (.compStart (.ListComp elt [⟨.Name x px, iter, [], 0⟩] scope pos) 0 (.ref I) acc { cenv with scope := relabel scope env }) (RR acc cenv.locals) s₄) E s₃) E s := by
  refine wpAny_newObj_type ?_ (by size_fits)
  have C1 := C.push (P := lstX []) { cls := .type "list", data := .seq ([] : List Value).toArray } ⟨0, rfl⟩ s.toks
  generalize ({ s with heap := s.heap.push { cls := .type "list", data := .seq ([] : List Value).toArray } } : Shared) = s1 at C1
  generalize hD : s.heap.objs.size = D at C1
  refine cellEnv_ hpc hcf fun Cf c s2 hCf hc hs2 => ?_
  have C2 : Cur s0 L l ((c, cellP none) :: (Cf, NsP (Lk [])) :: (D, lstX []) :: (I, St 0) :: own₀) s2 := by
    obtain ⟨o, ho, hp⟩ := nsP_of (Heap.Ns.new s1.heap (.type "dict"))
    have C1' : Cur s0 L l ((s1.heap.objs.size, NsP (Lk [])) :: (D, lstX []) :: (I, St 0) :: own₀) { s1 with heap := s1.heap.push { cls := .type "dict", data := .dict #[] }, toks := s1.toks } :=
      C1.add (.heap fun b o e => Heap.get?_push_of_some _ e) (none_of_le (Nat.le_refl _)) ho hp
    have C2' := C1'.push (P := cellP none) { cls := .type "cell", data := .cell none } rfl s1.toks
    rw [show ({ s1 with heap := s1.heap.push { cls := .type "dict", data := .dict #[] }, toks := s1.toks } : Shared).heap.objs.size = s1.heap.objs.size + 1 from Heap.size_push ..] at C2'
    rw [hCf, hc, hs2]
    exact C2'
  clear hs2 hc hCf
  have C3 : Cur s0 Cf [] ((I, St 0) :: (D, lstX []) :: (L, NsP (Lk l)) :: (c, cellP none) :: own₀) s2 := by
    refine (C2.perm (List.Perm.swap _ _ _)).focus.perm ?_
    -- L c D I  to  I D L c
    refine List.Perm.trans (List.Perm.cons _ (List.Perm.trans (List.Perm.swap _ _ _) (List.Perm.cons _ (List.Perm.swap _ _ _)))) ?_
    -- L D I c
    exact List.Perm.trans (List.Perm.trans (List.Perm.cons _ (List.Perm.swap _ _ _)) (List.Perm.swap _ _ _)) (List.Perm.cons _ (List.Perm.swap _ _ _))
  have loop : codeAny (model prog w) A (.compLoop (.ListComp elt [⟨.Name x px, iter, [], 0⟩] scope pos) 0 (.ref I) (.ref D) (compEnvC scope ((x, c) :: cl) Cf env)) (RR (.ref D) Cf) s2 := by
    refine comp_turns (n := n) (fun i s => ∃ ys lc own v, ys.length = i ∧ K i ys own ∧ Cur s0 Cf lc ((I, St i) :: (D, lstX ys) :: (L, NsP (Lk l)) :: (c, cellP v) :: own) s) ?_ ?_ ⟨[], _, _, _, rfl, hK, C3⟩
    · rintro i s E hi ⟨ys, lc, own, v₀, hl, hK, C⟩
      refine W.item i s0 s Cf lc _ _ _ hi C (hd i ys own D c v₀ hK) fun v s' hP C' => ⟨v, rfl, wpAny_pure ?_⟩
      refine wpAny_assign_Name (r_stC (i := 3) C' (by simp [compEnvC]) rfl (fun s'' C'' => ?_) hkind (hxc c Cf))
      refine wpAny_mono (turn i ys own v s'' E Cf lc D c hi hK hP C'') (fun y s₃ h₃ => ?_) fun _ _ e => e
      obtain ⟨lc', own', hK', C₃⟩ := h₃
      exact r_append (i := 1) C₃ rfl (by omega) fun s₄ C₄ => ⟨_, _, _, _, by simp [hl], hK', C₄⟩
    · rintro s E ⟨ys, lc, own, v₀, hl, hK, C⟩
      refine W.done s0 s Cf lc _ _ _ C (hd n ys own D c v₀ hK) fun s' C' => ⟨rfl, fin D Cf lc ys own s' hl hK ?_⟩
      have C4 := (C'.perm (List.Perm.swap _ _ _)).focus
      exact C4.drop (List.Sublist.cons_cons _ (List.Sublist.cons_cons _ (List.sublist_cons_self _ _)))
  exact codeAny_compStart_list loop (W.self 0 s0 s2 Cf _ _ _ _ C3 loop)

inductive CompVC (prog : Program) (w : World) (A : Around) (env : Env) (elt : Expr) (x : Str) (scope : Scope) (cl : List (Str × Addr)) (Q : Value → Shared → Prop) (it : Value) (s₂ : Shared) : Prop where
  | mk (s0 : Shared) (L : Addr) (l : Locs) (own₀ : Own) (I : Addr) (n : Nat) (St : Nat → Obj → Prop) (dep : Shared → Own → Prop) (P : Nat → Value → Prop) (K : Nat → List Value → Own → Prop)
    (h0 : it = .ref I)
    (h1 : Cur s0 L l ((I, St 0) :: own₀) s₂)
    (h2 : Pull prog w A I n St dep P)
    (h3 : K 0 [] own₀)
    (h4 : n < 2 ^ 20)
    (h5 : ∀ i ys own D c v, K i ys own → dep s0 ((D, lstX ys) :: (L, NsP (Lk l)) :: (c, cellP v) :: own))
    (h6 : ∀ (i : Nat) ys own v s (E : Value → Shared → Prop) Cf lc D c, i < n → K i ys own → P i v → Cur s0 Cf lc ((I, St (i + 1)) :: (D, lstX ys) :: (L, NsP (Lk l)) :: (c, cellP (some v)) :: own) s →
        wpAny (model prog w) A (eval elt (compEnvC scope ((x, c) :: cl) Cf env)) (fun y s₃ => ∃ lc' own', K (i + 1) (ys ++ [y]) own' ∧ Cur s0 Cf lc' ((I, St (i + 1)) :: (D, lstX ys) :: (L, NsP (Lk l)) :: (c, cellP (some v)) :: own') s₃) E s)
    (h7 : ∀ D ys own s', ys.length = n → K n ys own → Cur s0 L l ((D, lstX ys) :: own) s' → Q (.ref D) s') : CompVC prog w A env elt x scope cl Q it s₂
theorem r_compC {elt iter : Expr} {x : Str} {px : Pos} {scope : Scope} {cl : List (Str × Addr)} {pos : Pos}
    (hclos : closureFor scope env = pure cl) (hpc : ∀ h, pushCells h scope.names = h.push { cls := .type "cell", data := .cell none }) (hcf : ∀ n, cellsFrom n scope.names cl = (x, n) :: cl) (hkind : scope.kind = .function) (hnames : ∀ x ∈ scope.names, x.2 = .local → scope.names.lookup x.1 = some .local)
    (hxc : ∀ c Cf, (compEnvC scope ((x, c) :: cl) Cf env).kindOf x = some .cell)
    (h : wpAny (model prog w) A (eval iter env) (fun v s₁ => wpAny (model prog w) A (pyIter v) (CompVC prog w A env elt x scope cl Q) E s₁) E s)
    (hs : ∀ x, foldedSetIterable iter env x = pure x := by intro _; rfl) :
    wpAny (model prog w) A (eval (.ListComp elt [⟨.Name x px, iter, [], 0⟩] scope pos) env) Q E s := by
  rw [eval_ListComp]
  refine wpAny_comprehension_free (use := none) rfl hs hclos hkind hnames (wpAny_mono h (fun xv s₁ h₁ => wpAny_mono h₁ (fun it s₂ h₂ => ?_) fun _ _ e => e) fun _ _ e => e)
  obtain ⟨s0, L, l, own₀, I, n, St, dep, P, K, rfl, C, W, hK, hn, hd, turn, fin⟩ := h₂
  refine comp_inC (RR := fun acc Cf => compPost (model prog w) A E none Q acc Cf) hpc hcf hkind hxc C W K hK hn hd turn ?_
  intro D Cf lc ys own s' hl hK C'
  obtain ⟨o, ho, hp⟩ := C'.has _ List.mem_cons_self
  refine ⟨_, ns_of ho hp, fun h' hs' => fin D ys own _ hl hK ?_⟩
  exact C'.lose (tk := s'.toks) hs'.extBut

inductive CompSC (prog : Program) (w : World) (A : Around) (env : Env) (elt : Expr) (x : Str) (scope : Scope) (cl : List (Str × Addr)) (y : Str) (Q : Flow → Shared → Prop) (it : Value) (s₂ : Shared) : Prop where
  | mk (s0 : Shared) (l : Locs) (own₀ : Own) (I : Addr) (n : Nat) (St : Nat → Obj → Prop) (dep : Shared → Own → Prop) (P : Nat → Value → Prop) (K : Nat → List Value → Own → Prop)
    (h0 : it = .ref I)
    (h1 : Cur s0 env.locals l ((I, St 0) :: own₀) s₂)
    (h2 : Pull prog w A I n St dep P)
    (h3 : K 0 [] own₀)
    (h4 : n < 2 ^ 20)
    (h5 : ∀ i ys own D c v, K i ys own → dep s0 ((D, lstX ys) :: (env.locals, NsP (Lk l)) :: (c, cellP v) :: own))
    (h6 : ∀ (i : Nat) ys own v s (E : Value → Shared → Prop) Cf lc D c, i < n → K i ys own → P i v → Cur s0 Cf lc ((I, St (i + 1)) :: (D, lstX ys) :: (env.locals, NsP (Lk l)) :: (c, cellP (some v)) :: own) s →
        wpAny (model prog w) A (eval elt (compEnvC scope ((x, c) :: cl) Cf env)) (fun y s₃ => ∃ lc' own', K (i + 1) (ys ++ [y]) own' ∧ Cur s0 Cf lc' ((I, St (i + 1)) :: (D, lstX ys) :: (env.locals, NsP (Lk l)) :: (c, cellP (some v)) :: own') s₃) E s)
    (h7 : ∀ D ys own s', ys.length = n → K n ys own → Cur s0 env.locals (put y (.ref D) l) ((D, lstX ys) :: own) s' → Q .next s') : CompSC prog w A env elt x scope cl y Q it s₂
theorem r_compAsC {elt iter : Expr} {x y : Str} {px py : Pos} {scope : Scope} {cl : List (Str × Addr)} {pos spos : Pos} {Q : Flow → Shared → Prop}
    (hsw : swapsWith (.ListComp elt [⟨.Name x px, iter, [], 0⟩] scope pos) (some (.Name y py)) spos.line env = pure true)
    (hclos : closureFor scope env = pure cl) (hpc : ∀ h, pushCells h scope.names = h.push { cls := .type "cell", data := .cell none }) (hcf : ∀ n, cellsFrom n scope.names cl = (x, n) :: cl) (hkind : scope.kind = .function) (hnames : ∀ x ∈ scope.names, x.2 = .local → scope.names.lookup x.1 = some .local)
    (hxc : ∀ c Cf, (compEnvC scope ((x, c) :: cl) Cf env).kindOf x = some .cell)
    (hk : env.scope.kind = .function) (hy : env.kindOf y = some .local)
    (h : wpAny (model prog w) A (eval iter env) (fun v s₁ => wpAny (model prog w) A (pyIter v) (CompSC prog w A env elt x scope cl y Q) E s₁) E s)
    (hs : ∀ x, foldedSetIterable iter env x = pure x := by intro _; rfl) :
    wpAny (model prog w) A (exec (.Assign [.Name y py] (.ListComp elt [⟨.Name x px, iter, [], 0⟩] scope pos) spos) env) Q E s := by
  rw [exec_Assign_Name_used _ _ _ _ hsw]
  refine wpAny_bind (wpAny_standAt (wpAny_bind ?_))
  show wpAny _ A (comprehension (.ListComp elt [⟨.Name x px, iter, [], 0⟩] scope pos) scope env (firstIterPos [⟨.Name x px, iter, [], 0⟩] pos) (newList []) (firstAsync [⟨.Name x px, iter, [], 0⟩]) (firstIter [⟨.Name x px, iter, [], 0⟩] env) (some (assign (.Name y py) env)) >>= fun _ => pure ()) _ E s
  refine wpAny_bind (wpAny_comprehension_free (use := some (assign (.Name y py) env)) rfl hs hclos hkind hnames (wpAny_mono h (fun xv s₁ h₁ => wpAny_mono h₁ (fun it s₂ h₂ => ?_) fun _ _ e => e) fun _ _ e => e))
  obtain ⟨s0, l, own₀, I, n, St, dep, P, K, rfl, C, W, hK, hn, hd, turn, fin⟩ := h₂
  refine comp_inC (RR := fun acc Cf => compPost (model prog w) A E (some (assign (.Name y py) env)) (fun _ s' => wpAny (model prog w) A (pure ()) (fun _ s₁ => wpAny (model prog w) A (pure Flow.next) Q E s₁) E s') acc Cf) hpc hcf hkind hxc C W K hK hn hd turn ?_
  intro D Cf lc ys own s' hl hK C'
  refine r_as C' (fun s'' C'' => ?_) rfl hk hy
  obtain ⟨o, ho, hp⟩ := C''.has _ List.mem_cons_self
  refine ⟨_, ns_of ho hp, fun h' hs' => wpAny_pure (wpAny_pure (fin D ys own _ hl hK ?_))⟩
  exact C''.lose (tk := s''.toks) hs'.extBut

theorem cellsFrom_names : ∀ (names : List (Str × NameKind)) (n m : Nat) (acc acc' : List (Str × Addr)), acc.map (·.1) = acc'.map (·.1) → (cellsFrom n names acc).map (·.1) = (cellsFrom m names acc').map (·.1)
  | [], _, _, _, _, h => h
  | (x, k) :: r, n, m, acc, acc', h => by
    unfold cellsFrom
    by_cases hk : (k == NameKind.cell) = true
    · rw [if_pos hk, if_pos hk]
      exact cellsFrom_names r _ _ _ _ (by simp [h])
    · rw [if_neg hk, if_neg hk]
      exact cellsFrom_names r _ _ _ _ h
theorem lookup_of_mem : ∀ {l : List (Str × Addr)} {n : Str} {c : Addr}, (l.map (·.1)).Nodup → (n, c) ∈ l → l.lookup n = some c
  | (k, v) :: r, n, c, hn, hm => by
    rw [List.map_cons, List.nodup_cons] at hn
    rw [List.lookup_cons]
    rcases List.mem_cons.mp hm with e | hm
    · cases e; simp
    · have : n ≠ k := fun e => hn.1 (e ▸ List.mem_map_of_mem (f := (·.1)) hm)
      have : (n == k) = false := by simpa using this
      rw [this]
      exact lookup_of_mem hn.2 hm

-- the entry of a def with cells
theorem enterC {R : Result → Shared → Prop} {d : DefRec} {a : Addr} {args : List Value} {binds : List (Str × Value)} (cells : Addr → List (Addr × Option Value)) (B : Base mg mb s.heap) (hd : d ∈ recsOf pw) (ha : mg d.name = some (.ref a)) (hroom : Room A 1)
    (hbind : ∀ pm cd doc, bindArgs (docDef d.name d.params d.body d.scope pm cd doc) ⟨args, []⟩ = pure binds)
    (hkind : (binds.all fun y => d.scope.names.lookup y.1 == some .local || d.scope.names.lookup y.1 == some .cell) = true)
    (hl : ∀ L cd, bindL (envOfC d.name d.scope L a cd).kindOf binds (fun _ => none) = Lk l)
    (hcells : ∀ L cd, (cellsFrom (L + 1) d.scope.names []).map (fun p => (p.2, bindC (envOfC d.name d.scope L a cd).kindOf binds (fun _ => none) p.1)) = cells L)
    (hnd : ((cellsFrom 0 d.scope.names []).map (·.1)).Nodup)
    (h : ∀ L cd s', Cur s L l ((cells L).map fun p => (p.1, cellP p.2)) s' → wpAny (model prog w) (A.deeper (envOfC d.name d.scope L a cd)) (execs d.body (envOfC d.name d.scope L a cd)) (fun f s' => R (.ok (.ret (match f with | .ret v => v | _ => .none))) s') (fun _ _ => False) s')
    (hco : d.scope.isCoroutine = false) (hgen : d.scope.isGenerator = false) (hk : d.scope.kind = .function) : codeAny (model prog w) A (.call (.ref a) ⟨args, []⟩) R s := by
  obtain ⟨a', o, pm, cd, doc, h1, h2, h3, h4⟩ := B.fn d hd
  have e : a' = a := by rw [h1] at ha; cases ha; rfl
  subst e
  refine call_cells_ret (by have := hroom.depth; omega) h2 h3 B.nolimit h4 (hbind pm cd doc) (kindsX hkind _) (fun h₁ tk F X => ?_) hco hgen hk
  refine h _ cd _ ?_
  have hnd' : ((cellsFrom (s.heap.objs.size + 1) d.scope.names []).map (·.1)).Nodup := by
    rw [cellsFrom_names d.scope.names (s.heap.objs.size + 1) 0 [] [] rfl]; exact hnd
  have hc := hcells s.heap.objs.size cd
  have e : ((cells s.heap.objs.size).map fun p => (p.1, cellP p.2)) = (cellsFrom (s.heap.objs.size + 1) d.scope.names []).map (fun p => (p.2, cellP (bindC (envOfC d.name d.scope s.heap.objs.size a' cd).kindOf binds (fun _ => none) p.1))) := by
    rw [← hc, List.map_map]; rfl
  rw [e]
  have key : ∀ p ∈ (cellsFrom (s.heap.objs.size + 1) d.scope.names []).map (fun p => (p.2, cellP (bindC (envOfC d.name d.scope s.heap.objs.size a' cd).kindOf binds (fun _ => none) p.1))), ∃ n c, (n, c) ∈ cellsFrom (s.heap.objs.size + 1) d.scope.names [] ∧ p = (c, cellP (bindC (envOfC d.name d.scope s.heap.objs.size a' cd).kindOf binds (fun _ => none) n)) := by
    intro p hp
    obtain ⟨⟨n, c⟩, h1, h2⟩ := List.mem_map.mp hp
    exact ⟨n, c, h1, h2.symm⟩
  refine ⟨.heap F.keep, hl _ cd ▸ F.ns, none_of_le (Nat.le_refl _), fun p hp => ?_, fun p hp => ?_, fun p hp => ?_, ?_⟩
  · obtain ⟨n, c, hm, rfl⟩ := key p hp
    obtain ⟨o, ho, hd⟩ := X.cell n c (lookup_of_mem hnd' hm)
    exact ⟨o, ho, hd⟩
  · obtain ⟨n, c, hm, rfl⟩ := key p hp
    exact none_of_le (Nat.le_of_lt (X.above n c hm))
  · obtain ⟨n, c, hm, rfl⟩ := key p hp
    exact Nat.ne_of_gt (X.above n c hm)
  · rw [List.map_map]
    exact List.pairwise_map.mpr X.apart
end
end Mine

namespace Mine
section
variable {prog : Program} {w : World} {A : Around} {E : Value → Shared → Prop} {s s0 : Shared} {L : Addr} {l : Locs} {own : Own} {env : Env} {mg mb : Str → Option Value} {Q : Value → Shared → Prop}

theorem Base.isFn {h : Heap} {nm : Str} {f : Addr} (B : Base mg mb h) (hm : mg nm = some (.ref f)) (hn : ((recsOf pw).map (·.name)).contains nm = true) : ∃ o fd, h.get? f = some o ∧ o.data = .func fd := by
  rw [List.contains_iff_mem] at hn
  obtain ⟨d, hd, rfl⟩ := List.mem_map.mp hn
  obtain ⟨a, o, pm, cd, doc, h1, h2, h3, _⟩ := B.fn d hd
  rw [h1] at hm; cases hm
  exact ⟨o, _, h2, h3⟩
theorem r_callf {pos : Pos} {f : Addr} {nm : Str} {e : Expr} {rest : List Expr} (B : Base mg mb s0.heap) (hm : mg nm = some (.ref f)) (hn : ((recsOf pw).map (·.name)).contains nm = true)
    (h : wpAny (model prog w) A (spliced (backTo pos (starEach (e :: rest) env))) (fun vs s₁ => Grow s0 s₁ ∧ wpAny (model prog w) A (call (.ref f) vs) Q E s₁) E s)
    (he : starEach (e :: rest) env = (false, eval e env) :: starEach rest env := by rfl) :
    wpAny (model prog w) A (callWith pos (.ref f) [] (backTo pos (starEach (e :: rest) env)) []) Q E s := by
  obtain ⟨o, fd, h1, h2⟩ := B.isFn hm hn
  exact PyProof.Rows.callWith_def h2 (wpAny_mono h (fun vs s₁ h₁ => ⟨h₁.1.keep _ _ h1, h₁.2⟩) fun _ _ e => e) he
end
end Mine

namespace Mine

noncomputable def hideO : Obj := { cls := .none, data := .freed }
noncomputable def hide (p : Nat → Bool) (h : Heap) : Heap := ⟨h.objs.mapIdx (fun i o => if p i then hideO else o), h.life⟩
theorem hide_get (p : Nat → Bool) (h : Heap) (a : Addr) : (hide p h).get? a = if p a then none else h.get? a := by
  unfold hide Heap.get?
  simp only [Array.getElem?_mapIdx]
  cases h.objs[a]? with
  | none => simp
  | some o =>
    by_cases hp : p a = true
    · simp [hp, hideO]
    · simp [hp]

namespace Cur
variable {s0 s s' : Shared} {L : Addr} {l : Locs} {own : Own} {a : Addr} {P P' : Obj → Prop}
/-- all that stands, but the frame in hand and the own objects, becomes the base -/
theorem freeze (C : Cur s0 L l own s) : ∃ z, Grow s0 z ∧ Cur z L l own s ∧ ∀ a o, s.heap.get? a = some o → a ≠ L → (∀ p ∈ own, p.1 ≠ a) → z.heap.get? a = some o := by
  let p : Nat → Bool := fun i => decide (i = L) || (own.map (·.1)).contains i
  have hp : ∀ a, p a = false ↔ a ≠ L ∧ ∀ q ∈ own, q.1 ≠ a := by
    intro a
    simp only [p, Bool.or_eq_false_iff, decide_eq_false_iff_not]
    refine and_congr Iff.rfl ?_
    rw [Bool.eq_false_iff]
    simp only [ne_eq, List.contains_iff_mem, List.mem_map, not_exists, not_and]
  refine ⟨{ s with heap := hide p s.heap, gens := s0.gens }, ⟨C.grow.os, fun b o e => ?_, .refl _⟩, ⟨⟨rfl, fun b o e => ?_, C.grow.gens⟩, C.ns, ?_, C.has, fun q hq => ?_, C.ne, C.nd⟩, fun b o e h1 h2 => ?_⟩
  · show (hide p s.heap).get? b = some o
    rw [hide_get, if_neg ?_]
    · exact C.grow.keep b o e
    · rw [Bool.not_eq_true, hp]
      refine ⟨fun x => ?_, fun q hq x => ?_⟩
      · rw [x, C.fresh] at e; cases e
      · rw [← x, C.new q hq] at e; cases e
  · have e : (hide p s.heap).get? b = some o := e
    rw [hide_get] at e
    split at e
    · cases e
    · exact e
  · show (hide p s.heap).get? L = none
    rw [hide_get, if_pos]
    cases hh : p L with
    | true => rfl
    | false => exact absurd rfl ((hp L).mp hh).1
  · show (hide p s.heap).get? q.1 = none
    rw [hide_get, if_pos]
    cases hh : p q.1 with
    | true => rfl
    | false => exact absurd rfl (((hp q.1).mp hh).2 q hq)
  · show (hide p s.heap).get? b = some o
    rw [hide_get, if_neg]
    · exact e
    · rw [Bool.not_eq_true, hp]
      exact ⟨h1, h2⟩
theorem put_in {pre : Own} {x : Addr × (Obj → Prop)} (C : Cur s0 L l (x :: (pre ++ own)) s) : Cur s0 L l (pre ++ x :: own) s := C.perm List.perm_middle.symm
theorem fresh_of (C : Cur s0 L l own s) (h : s.heap.get? a = none) : s0.heap.get? a = none := C.grow.fresh h
end Cur

/-- a list of lists of ints stands at a -/
def Mat (h : Heap) (a : Addr) (M : List (List Int)) : Prop := ∃ rs : List Addr, (∃ o, h.get? a = some o ∧ lst (rs.map .ref) o) ∧ rs.length = M.length ∧ ∀ (i : Nat) r, rs[i]? = some r → ∃ o, h.get? r = some o ∧ intL (M.getD i []) o
/-- .. new beside h -/
def MatNew (h₀ h : Heap) (a : Addr) (M : List (List Int)) : Prop := ∃ rs : List Addr, (∃ o, h.get? a = some o ∧ lst (rs.map .ref) o) ∧ h₀.get? a = none ∧ rs.length = M.length ∧ ∀ (i : Nat) r, rs[i]? = some r → h₀.get? r = none ∧ ∃ o, h.get? r = some o ∧ intL (M.getD i []) o
theorem Mat.keeps {h h' : Heap} {a : Addr} {M : List (List Int)} (x : Mat h a M) (k : ∀ b o, h.get? b = some o → h'.get? b = some o) : Mat h' a M :=
  let ⟨rs, ⟨o, h1, h2⟩, h3, h4⟩ := x; ⟨rs, ⟨o, k _ _ h1, h2⟩, h3, fun i r e => let ⟨o, h5, h6⟩ := h4 i r e; ⟨o, k _ _ h5, h6⟩⟩
theorem MatNew.mat {h₀ h : Heap} {a : Addr} {M : List (List Int)} (x : MatNew h₀ h a M) : Mat h a M :=
  let ⟨rs, h1, _, h3, h4⟩ := x; ⟨rs, h1, h3, fun i r e => (h4 i r e).2⟩
theorem MatNew.back {h₀ h₁ h : Heap} {a : Addr} {M : List (List Int)} (x : MatNew h₁ h a M) (k : ∀ b, h₁.get? b = none → h₀.get? b = none) : MatNew h₀ h a M :=
  let ⟨rs, h1, h2, h3, h4⟩ := x; ⟨rs, h1, k _ h2, h3, fun i r e => ⟨k _ (h4 i r e).1, (h4 i r e).2⟩⟩
/-- the list of readings: of each height the quotient and the rest -/
def Reads (h : Heap) (a : Addr) (base m : Nat) : Prop := ∃ vs : List Value, (∃ o, h.get? a = some o ∧ lst vs o) ∧ vs.length = m ∧ ∀ i, i < m → ∃ r o t u, vs[i]? = some (.ref r) ∧ h.get? r = some o ∧ tup [.int (i / base : Nat) t, .int (i % base : Nat) u] o
theorem Reads.keeps {h h' : Heap} {a : Addr} {b m : Nat} (x : Reads h a b m) (k : ∀ b o, h.get? b = some o → h'.get? b = some o) : Reads h' a b m :=
  let ⟨rs, ⟨o, h1, h2⟩, h3, h4⟩ := x; ⟨rs, ⟨o, k _ _ h1, h2⟩, h3, fun i hi => let ⟨r, o, t, u, h5, h6, h7⟩ := h4 i hi; ⟨r, o, t, u, h5, k _ _ h6, h7⟩⟩

section
variable {prog : Program} {w : World} {A : Around} {E : Value → Shared → Prop} {s s0 : Shared} {L : Addr} {l : Locs} {own : Own} {env : Env} {mg mb : Str → Option Value} {Q : Value → Shared → Prop}
theorem tup.isTup {h : Heap} {a : Addr} {vs : List Value} {o : Obj} (e : h.get? a = some o) (p : tup vs o) : IsTup h a vs.toArray := by
  obtain ⟨n, rfl⟩ := p
  exact ⟨_, e, rfl, n, rfl⟩
theorem r_cwb {pos : Pos} {id : String} {e : Expr} {rest : List Expr} {first : List Value}
    (h : wpAny (model prog w) A (spliced (backTo pos (starEach (e :: rest) env))) (fun vs s₁ => wpAny (model prog w) A (call (.builtin id) (first ++ vs)) Q E s₁) E s)
    (he : starEach (e :: rest) env = (false, eval e env) :: starEach rest env := by rfl)
    (hplain : (backTo pos (starEach rest env)).any (·.1) = false := by rfl) :
    wpAny (model prog w) A (callWith pos (.builtin id) first (backTo pos (starEach (e :: rest) env)) []) Q E s := by
  rw [he] at h ⊢
  exact Calls.callWith_builtin (by show (false || (backTo pos (starEach rest env)).any (·.1)) = false; rw [hplain]; rfl) (Calls.evalArgs_plain h)
theorem r_atT {a : Addr} {vs : List Value} {k : Int} {u : Tok} {v : Value} (C : Cur s0 L l own s) (hs : Sees s0 own a (tup vs)) (h0 : 0 ≤ k ∧ k < 2 ^ 60) (hl : vs.length < 1000) (hv : vs[k.toNat]? = some v) (h : Q v s) : wpAny (model prog w) A (getItem (.ref a) (.int k u)) Q E s := by
  obtain ⟨o, h1, h2⟩ := C.sees hs
  have hk : k.toNat < vs.length := (List.getElem?_eq_some_iff.mp hv).1
  refine PyProof.Rows.getItem_tuple (j := k.toNat) (tup.isTup h1 h2) (by omega) (by omega) ?_ (by simpa using hv) h
  unfold seqIndex?
  have e1 : ¬ k < 0 := by omega
  have e2 : (decide (0 ≤ k) && decide (k < (vs.toArray.size : Int))) = true := by simp; omega
  simp only [e1, if_false]
  rw [if_pos e2]
theorem r_subT {value slice : Expr} {a : Addr} {vs : List Value} {k : Int} {u : Tok} {v : Value} (C : Cur s0 L l own s) (hs : Sees s0 own a (tup vs)) (h0 : 0 ≤ k ∧ k < 2 ^ 60) (hl : vs.length < 1000) (hv : vs[k.toNat]? = some v) (h : Q v s)
    (hss : subscripted slice false (.ref a) (.int k u) = operate [.ref a, .int k u] (getItem (.ref a) (.int k u)) := by with_unfolding_all rfl) : wpAny (model prog w) A (subscriptTail value slice (.ref a) (.int k u)) Q E s := by
  obtain ⟨o, h1, h2⟩ := C.sees hs
  exact tail_any (tup.isTup h1 h2).typeIs PyProof.Rows.slot_tuple_getitem.lookup (r_atT C hs h0 hl hv h) hss
end
end Mine

namespace Mine

noncomputable abbrev S (l : List Nat) : Str := ⟨l.toArray⟩
theorem S_app (a b : List Nat) : S a ++ S b = S (a ++ b) := by
  show (⟨a.toArray ++ b.toArray⟩ : Str) = ⟨(a ++ b).toArray⟩
  simp
theorem S_len (a : List Nat) : (S a).length = a.length := by show a.toArray.size = _; simp
theorem pick_take {α : Type} (l : List α) (a : Nat) : ∀ m, (List.range m).filterMap (fun k => l[a + k]?) = (l.drop a).take m
  | 0 => by simp
  | m + 1 => by
    rw [List.range_succ, List.filterMap_append, pick_take l a m, List.take_add_one, List.getElem?_drop]
    congr 1
theorem range_pick {α : Type} (l : List α) {a b : Nat} (h : a ≤ b) : (sliceRange (a : Int) (b : Int) 1).filterMap (fun k => l[k]?) = (l.drop a).take (b - a) := by
  unfold sliceRange
  rw [← pick_take, if_pos (by decide)]
  by_cases hab : a < b
  · rw [if_pos (by omega)]
    have e : (((b : Int) - (a : Int) + 1 - 1) / 1).toNat = b - a := by rw [Int.ediv_one, Int.add_sub_cancel]; exact Int.toNat_sub b a
    dsimp only
    rw [e, List.filterMap_map]
    congr 1
    funext k
    show l[((a : Int) + 1 * (k : Int)).toNat]? = _
    congr 1
    omega
  · rw [if_neg (by omega), show b - a = 0 by omega]; rfl
theorem range_length {a b : Nat} : (sliceRange (a : Int) (b : Int) 1).length = b - a := by
  unfold sliceRange
  rw [if_pos (by decide)]
  by_cases hab : a < b
  · rw [if_pos (by omega), Int.ediv_one]; simp
  · rw [if_neg (by omega)]; simp; omega

/-- the bounds of a slice with step 1, both within -/
noncomputable def loOf (lo : Option Int) : Nat := match lo with | none => 0 | some i => i.toNat
noncomputable def hiOf (hi : Option Int) (n : Nat) : Nat := match hi with | none => n | some i => i.toNat
def Within (lo hi : Option Int) : Prop := (∀ i, lo = some i → 0 ≤ i) ∧ (∀ i, hi = some i → 0 ≤ i)
theorem bounds_of (lo hi : Option Int) (n : Nat) (h : Within lo hi) : sliceBounds lo hi none n = (((min (loOf lo) n : Nat) : Int), ((min (hiOf hi n) n : Nat) : Int), 1) := by
  unfold sliceBounds loOf hiOf
  obtain ⟨h1, h2⟩ := h
  cases lo with
  | none => cases hi with
    | none => simp
    | some j =>
      have := h2 j rfl
      simp only [Option.getD_none, show (1 : Int) > 0 by decide, if_true, show ¬ j < 0 by omega, if_false]
      congr 1
      congr 1
      exact clamp n this
  | some i =>
    have := h1 i rfl
    cases hi with
    | none =>
      simp only [Option.getD_none, show (1 : Int) > 0 by decide, if_true, show ¬ i < 0 by omega, if_false]
      congr 1
      · exact clamp n this
      · congr 1; rw [Nat.min_self]
    | some j =>
      have h2' := h2 j rfl
      simp only [Option.getD_none, show (1 : Int) > 0 by decide, if_true, show ¬ i < 0 by omega, show ¬ j < 0 by omega, if_false]
      congr 1
      · exact clamp n this
      · congr 1; exact clamp n h2'
noncomputable def cut {α : Type} (lo hi : Option Int) (l : List α) : List α := (l.drop (min (loOf lo) l.length)).take (min (hiOf hi l.length) l.length - min (loOf lo) l.length)
theorem pick_cut {α : Type} (lo hi : Option Int) (l : List α) (h : Within lo hi) : (sliceRange (sliceBounds lo hi none l.length).1 (sliceBounds lo hi none l.length).2.1 (sliceBounds lo hi none l.length).2.2).filterMap (fun k => l[k]?) = cut lo hi l := by
  rw [bounds_of lo hi _ h]
  by_cases hab : min (loOf lo) l.length ≤ min (hiOf hi l.length) l.length
  · exact range_pick l hab
  · have e : min (hiOf hi l.length) l.length - min (loOf lo) l.length = 0 := by omega
    unfold cut
    rw [e, List.take_zero]
    have e2 := range_length (a := min (loOf lo) l.length) (b := min (hiOf hi l.length) l.length)
    rw [e] at e2
    dsimp only
    rw [List.length_eq_zero_iff.mp e2]; rfl
theorem cut_eq {α : Type} (lo hi : Option Int) (l : List α) : cut lo hi l = (l.drop (loOf lo)).take (hiOf hi l.length - loOf lo) := by
  unfold cut
  generalize loOf lo = a
  generalize hiOf hi l.length = b
  by_cases ha : a ≤ l.length
  · rw [Nat.min_eq_left ha]
    by_cases hb : b ≤ l.length
    · rw [Nat.min_eq_left hb]
    · rw [Nat.min_eq_right (by omega), List.take_of_length_le (by simp), List.take_of_length_le (by simp; omega)]
  · rw [Nat.min_eq_right (show l.length ≤ a by omega), List.drop_of_length_le (Nat.le_refl _), List.drop_of_length_le (by omega)]
    simp
theorem cut_len {α : Type} (lo hi : Option Int) (l : List α) : (cut lo hi l).length ≤ l.length := by
  unfold cut
  rw [List.length_take, List.length_drop]
  exact Nat.le_trans (Nat.min_le_right _ _) (Nat.sub_le _ _)
theorem slicePick_cut (lo hi : Option Int) (vs : List Value) (h : Within lo hi) : slicePick vs.toArray lo hi none = (cut lo hi vs).toArray := by
  unfold slicePick
  rw [← pick_cut lo hi vs h]
  simp
end Mine

namespace Mine

theorem K_257 : Str.ofString "257" = S [50, 53, 55] := by decide +kernel
theorem K_sq : Str.ofString " \"" = S [32, 34] := by decide +kernel
theorem K_e : Str.ofString "" = S [] := by decide +kernel
theorem K_q : Str.ofString "\"" = S [34] := by decide +kernel
theorem K_257q : Str.ofString "257 \"" = S [50, 53, 55, 32, 34] := by decide +kernel
theorem K_made : Str.ofString "x\" made" = S [120, 34, 32, 109, 97, 100, 101] := by decide +kernel
theorem K_x : Str.ofString "x" = S [120] := by decide +kernel
theorem K_b : Str.ofString "\\" = S [92] := by decide +kernel
theorem K_bb : Str.ofString "\\\\" = S [92, 92] := by decide +kernel
theorem K_sl : Str.ofString "/" = S [47] := by decide +kernel
theorem K_op : Str.ofString "(" = S [40] := by decide +kernel
theorem K_m : Str.ofString "m" = S [109] := by decide +kernel
theorem K_bm : Str.ofString "\\m" = S [92, 109] := by decide +kernel

def strL (ys : List (List Nat)) (o : Obj) : Prop := ∃ vs, StrsAre vs (ys.map S) ∧ lst vs o
def sliceP (l u : Value) (o : Obj) : Prop := o.cls = .type "slice" ∧ o.data = .fields #[l, u, .none]
theorem join_flat : ∀ ys : List (List Nat), Str.join (S []) (ys.map S) = S ys.flatten
  | [] => rfl
  | [y] => by simp [Str.join]
  | y :: z :: r => by
    have ih := join_flat (z :: r)
    show S y ++ S [] ++ Str.join (S []) ((z :: r).map S) = _
    rw [ih, S_app, S_app]
    simp
theorem cnt_count (c : Nat) : ∀ l : List Nat, PySem.Spec.countIn (.str (S [c])) (l.map fun n => PyData.str (S [n])) = (l.count c : Nat)
  | [] => rfl
  | a :: l => by
    rw [List.map_cons]
    unfold PySem.Spec.countIn
    rw [cnt_count c l, List.count_cons]
    have e : PySem.Spec.same (PyData.str (S [a])) (PyData.str (S [c])) = (a == c) := by
      show (S [a] == S [c]) = (a == c)
      by_cases h : a = c
      · subst h; simp
      · have h2 : ¬ (S [a] = S [c]) := by intro e; cases e; exact h rfl
        rw [beq_eq_false_iff_ne.mpr h, beq_eq_false_iff_ne.mpr h2]
    rw [e]
    by_cases h : a = c <;> simp [h] <;> omega

section
variable {prog : Program} {w : World} {A : Around} {E : Value → Shared → Prop} {s s0 : Shared} {L : Addr} {l : Locs} {own : Own} {env : Env} {mg mb : Str → Option Value} {Q : Value → Shared → Prop}

theorem r_strS {i : Str} {x : List Nat} {k : Nat} {pos : Pos} (hi : i = S x) (C : Cur s0 L l own s) (h : ∀ t s', Cur s0 L l own s' → Q (.str (S x) t) s') : wpAny (model prog w) A (eval (.Constant (.str i) k pos) env) Q E s := by
  subst hi
  exact wpAny_Constant_str (h _ _ (C.tok _))
theorem r_ige {a b : Int} {t u : Tok} (h : Q (.bool (decide (a ≥ b))) s) : wpAny (model prog w) A (compareOp .GtE (.int a t) (.int b u)) Q E s := P.ge_int h
theorem r_ine {a b : Int} {t u : Tok} (h : Q (.bool (a != b)) s) : wpAny (model prog w) A (compareOp .NotEq (.int a t) (.int b u)) Q E s := P.ne_int h
theorem r_sadd {a b : List Nat} {t u : Tok} (C : Cur s0 L l own s) (hn : a.length + b.length ≤ 100000) (h : ∀ t s', Cur s0 L l own s' → Q (.str (S (a ++ b)) t) s') : wpAny (model prog w) A (binaryOp .Add (.str (S a) t) (.str (S b) u)) Q E s := by
  refine P.add_str ?_
  by_cases ha : (S a).length == 0
  · rw [if_pos ha]
    have : a = [] := by
      rw [S_len] at ha
      exact List.length_eq_zero_iff.mp (by simpa using ha)
    subst this
    exact h _ _ C
  · rw [if_neg ha]
    by_cases hb : (S b).length == 0
    · rw [if_pos hb]
      have : b = [] := by
        rw [S_len] at hb
        exact List.length_eq_zero_iff.mp (by simpa using hb)
      subst this
      have := h t _ C
      rw [List.append_nil] at this
      exact this
    · rw [if_neg hb, S_app]
      refine ⟨?_, h _ _ (C.tok _)⟩
      rw [S_len, sizeLine_eq, List.length_append]; omega
theorem r_sne {a b : List Nat} {t u : Tok} (h : Q (.bool (a != b)) s) : wpAny (model prog w) A (compareOp .NotEq (.str (S a) t) (.str (S b) u)) Q E s :=
  P.ne_str (by simpa using h)
theorem r_seq {a b : List Nat} {t u : Tok} (h : Q (.bool (a == b)) s) : wpAny (model prog w) A (compareOp .Eq (.str (S a) t) (.str (S b) u)) Q E s :=
  P.eq_str (by simpa using h)
theorem r_slen {a : List Nat} {t : Tok} (C : Cur s0 L l own s) (hn : a.length < 2 ^ 60) (h : ∀ t s', Cur s0 L l own s' → Q (.int a.length t) s') : wpAny (model prog w) A (call (.builtin "len") [.str (S a) t]) Q E s := by
  have := h (s.toks + 1) _ (C.tok (s.toks + 1 + 1))
  rw [← S_len] at this hn
  exact P.len_str (by omega) this
theorem r_sitem {value slice : Expr} {a : List Nat} {k : Int} {t u : Tok} {c : Nat} (C : Cur s0 L l own s) (h0 : 0 ≤ k ∧ k < 2 ^ 60) (hv : a[k.toNat]? = some c) (h : ∀ t s', Cur s0 L l own s' → Q (.str (S [c]) t) s')
    (hss : subscripted slice false (.str (S a) t) (.int k u) = operate [.str (S a) t, .int k u] (getItem (.str (S a) t) (.int k u)) := by with_unfolding_all rfl) : wpAny (model prog w) A (subscriptTail value slice (.str (S a) t) (.int k u)) Q E s := by
  have hk : k.toNat < a.length := (List.getElem?_eq_some_iff.mp hv).1
  refine tail_any (typeIs_str s _ t) F.slot_str_getitem.lookup (P.getItem_str (c := c) ?_ ?_ (h _ _ (C.tok _))) hss
  · rw [Bool.or_eq_false_iff, decide_eq_false_iff_not, decide_eq_false_iff_not]; omega
  · unfold seqIndex?
    rw [S_len]
    have e1 : ¬ k < 0 := by omega
    have e2 : (decide (0 ≤ k) && decide (k < (a.length : Int))) = true := by simp; omega
    simp only [e1, if_false]
    rw [if_pos e2]
    simpa using hv
theorem r_gmCount {a : List Nat} {t : Tok} {pl : Sem Bool} {Q : Value × List Value → Shared → Prop} (h : Q (.builtin "str.count", [.str (S a) t]) s) : wpAny (model prog w) A (getMethod (.str (S a) t) "count" pl) Q E s := GM.count h
theorem r_count {a : List Nat} {c : Nat} {t u : Tok} (C : Cur s0 L l own s) (h : ∀ t s', Cur s0 L l own s' → Q (.int (a.count c : Nat) t) s') : wpAny (model prog w) A (call (.builtin "str.count") [.str (S a) t, .str (S [c]) u]) Q E s := by
  refine SC.count ?_
  have e : Txt.count (S a) (S [c]) = (a.count c : Nat) := by
    rw [show S [c] = ⟨#[c]⟩ from rfl, count_is]
    exact cnt_count c a
  rw [e]
  exact h _ _ (C.tok _)
theorem r_gmJoin {a : List Nat} {t : Tok} {pl : Sem Bool} {Q : Value × List Value → Shared → Prop} (h : Q (.builtin "str.join", [.str (S a) t]) s) : wpAny (model prog w) A (getMethod (.str (S a) t) "join" pl) Q E s := GM.join h
theorem r_join {D : Addr} {ys : List (List Nat)} {p : List Nat} {t : Tok} (C : Cur s0 L l own s) (hs : Sees s0 own D (strL ys)) (he : ys.flatten = p) (hn : p.length ≤ 100000) (h : ∀ t s', Cur s0 L l own s' → Q (.str (S p) t) s') : wpAny (model prog w) A (call (.builtin "str.join") [.str (S []) t, .ref D]) Q E s := by
  subst he
  obtain ⟨o, h1, vs, hi, h2⟩ := C.sees hs
  refine join_list (lst.isList h1 h2) hi ?_ fun t' k => ?_
  · have e : (((ys.map S).map (·.length)).sum) = ys.flatten.length := by
      rw [List.length_flatten, List.map_map]
      congr 1
    rw [e, show (S []).length = 0 from rfl]; omega
  · have e : Txt.join (S []) (ys.map S) = S ys.flatten := by
      show Builtin.Str.glued (S []) (ys.map S) = _
      rw [StrLaws.glued_eq_join, join_flat]
    rw [e]
    exact h _ _ (C.tok k)
theorem rep_cps (a : Nat) : ∀ (k : Nat) (acc : Array Nat), (List.replicate k #[a]).foldl (· ++ ·) acc = acc ++ (List.replicate k a).toArray
  | 0, acc => by simp
  | k + 1, acc => by
    rw [List.replicate_succ, List.foldl_cons, rep_cps a k]
    apply Array.ext'
    simp [List.replicate_succ]
theorem r_smul {c : Nat} {k : Int} {t u : Tok} (C : Cur s0 L l own s) (hk : 0 ≤ k ∧ k ≤ 100000) (h : ∀ t s', Cur s0 L l own s' → Q (.str (S (List.replicate k.toNat c)) t) s') : wpAny (model prog w) A (binaryOp .Mult (.str (S [c]) t) (.int k u)) Q E s := by
  refine P.mul_str ?_ (fun h1 h2 => ?_) (fun h1 h2 => ?_) ?_
  · rw [Bool.or_eq_false_iff, decide_eq_false_iff_not, decide_eq_false_iff_not]; omega
  · rw [show (S [c]).length = 1 from rfl]
    have : (1 : Int) ≤ (2 ^ 63 - 1) / k := Int.le_ediv_of_mul_le (by omega) (by omega)
    omega
  · rw [show (S [c]).length = 1 from rfl]
    unfold Builtin.Str.tooLong
    rw [sizeLine_eq, decide_eq_false_iff_not]; omega
  · by_cases h1 : k < 1
    · rw [if_pos h1]
      have : k = 0 := by omega
      subst this
      exact ⟨by decide, h _ _ (C.tok _)⟩
    · rw [if_neg h1]
      by_cases h2 : (k == 1 || (S [c]).length == 0) = true
      · rw [if_pos h2]
        have : k = 1 := by simpa [S_len] using h2
        subst this
        exact h _ _ C
      · rw [if_neg h2]
        have e : (⟨(List.replicate k.toNat (S [c]).cps).foldl (· ++ ·) #[]⟩ : Str) = S (List.replicate k.toNat c) := by
          show (⟨(List.replicate k.toNat #[c]).foldl (· ++ ·) #[]⟩ : Str) = _
          rw [rep_cps]; simp
        rw [e]
        refine ⟨?_, h _ _ (C.tok _)⟩
        rw [S_len, sizeLine_eq]; simp; omega

-- slices
theorem r_sliceE {lower upper : Option Expr} {p : Pos} (h : wpAny (model prog w) A (evalPart lower env) (fun vl s₁ => wpAny (model prog w) A (evalPart upper env) (fun vu s₂ => ∃ s0 L l own, Cur s0 L l own s₂ ∧ ∀ a s', Cur s0 L l ((a, sliceP vl vu) :: own) s' → Q (.ref a) s') E s₁) E s) :
    wpAny (model prog w) A (eval (.Slice lower upper none p) env) Q E s := by
  refine wpAny_Slice (wpAny_mono h (fun vl s₁ h₁ => wpAny_mono h₁ (fun vu s₂ h₂ => evalPart_none_step ?_) fun _ _ e => e) fun _ _ e => e)
  obtain ⟨s0, L, l, own, C, h⟩ := h₂
  exact h _ _ (C.push (P := sliceP vl vu) _ ⟨rfl, rfl⟩ s₂.toks)
theorem r_sliceL {value slice : Expr} {a sl : Addr} {vs : List Value} {vl vu : Value} {lo hi : Option Int} (C : Cur s0 L l own s) (hs : Sees s0 own a (lst vs)) (hm : (sl, sliceP vl vu) ∈ own) (pl : IsPart vl lo) (pu : IsPart vu hi) (hw : Within lo hi) (hn : vs.length ≤ 100000)
    (h : ∀ b s', Cur s0 L l ((b, lstX (cut lo hi vs)) :: own) s' → Q (.ref b) s')
    (hss : subscripted slice false (.ref a) (.ref sl) = operate [.ref sl, .ref a] (getItem (.ref a) (.ref sl)) := by with_unfolding_all rfl) : wpAny (model prog w) A (subscriptTail value slice (.ref a) (.ref sl)) Q E s := by
  obtain ⟨o, h1, h2⟩ := C.sees hs
  obtain ⟨o3, h3, h4⟩ := C.has _ hm
  have hl := lst.isList h1 h2
  refine tail_any (id := "list.__getitem__") hl.typeIs slot_list_getitem.lookup (wpAny_getItem_list_slice (st := none) hl ⟨o3, h3, h4.1, h4.2⟩ pl pu .none (by simp) ?_ (by rw [sizeLine_eq]; simp; omega)) hss
  rw [slicePick_cut lo hi vs hw]
  exact h _ _ (C.push (P := lstX (cut lo hi vs)) _ ⟨_, rfl⟩ s.toks)
theorem r_sliceS {value slice : Expr} {a : List Nat} {sl : Addr} {t : Tok} {vl vu : Value} {lo hi : Option (Int × Tok)} (C : Cur s0 L l own s) (hm : (sl, sliceP vl vu) ∈ own) (hw : Within (lo.map (·.1)) (hi.map (·.1))) (hn : a.length ≤ 100000)
    (h : ∀ t s', Cur s0 L l own s' → Q (.str (S (cut (lo.map (·.1)) (hi.map (·.1)) a)) t) s') (pl : vl = partValue lo := by rfl) (pu : vu = partValue hi := by rfl)
    (hss : subscripted slice false (.str (S a) t) (.ref sl) = operate [.ref sl, .str (S a) t] (getItem (.str (S a) t) (.ref sl)) := by with_unfolding_all rfl) : wpAny (model prog w) A (subscriptTail value slice (.str (S a) t) (.ref sl)) Q E s := by
  subst pl pu
  obtain ⟨o3, h3, h4⟩ := C.has _ hm
  refine tail_any (typeIs_str s _ t) F.slot_str_getitem.lookup (wpAny_getItem_str_slice (l := lo) (u := hi) (st := none) ⟨o3, h3, h4.1, h4.2⟩ rfl ?_) hss
  have hb := bounds_of (lo.map (·.1)) (hi.map (·.1)) a.length hw
  have hp := pick_cut (lo.map (·.1)) (hi.map (·.1)) a hw
  have e : slicePicked (S a) lo hi none = sliceRange (sliceBounds (lo.map (·.1)) (hi.map (·.1)) none a.length).1 (sliceBounds (lo.map (·.1)) (hi.map (·.1)) none a.length).2.1 (sliceBounds (lo.map (·.1)) (hi.map (·.1)) none a.length).2.2 := by
    unfold slicePicked
    rw [S_len]
    rfl
  have e2 : ((slicePicked (S a) lo hi none).filterMap ((S a).cps[·]?)) = cut (lo.map (·.1)) (hi.map (·.1)) a := by
    rw [e, ← hp]
    congr 1
    funext k
    simp
  have e3 : (slicePicked (S a) lo hi none).length = min (hiOf (hi.map (·.1)) a.length) a.length - min (loOf (lo.map (·.1))) a.length := by
    rw [e, hb]
    exact range_length
  unfold sliceMade
  rw [e2]
  refine post_val_or_str ?_
  have e4 : (if (((none : Option (Int × Tok)).map (·.1)).getD 1 == 1 && (slicePicked (S a) lo hi none).length == (S a).length) = true then S a else S (cut (lo.map (·.1)) (hi.map (·.1)) a)) = S (cut (lo.map (·.1)) (hi.map (·.1)) a) := by
    split
    · rename_i hc
      congr 1
      have : (slicePicked (S a) lo hi none).length = a.length := by
        rw [Bool.and_eq_true] at hc
        have := hc.2
        rw [S_len] at this
        simpa using this
      rw [e3] at this
      unfold cut
      rw [this]
      have : min (loOf (lo.map (·.1))) a.length = 0 ∨ a.length = 0 := by
        exact sub_same (Nat.min_le_right _ _) this
      rcases this with e | e
      · rw [e]; simp
      · rw [List.length_eq_zero_iff.mp e]; simp
    · rfl
  constructor
  · refine Nat.le_trans (m := a.length) ?_ (by rw [sizeLine_eq]; omega)
    split
    · rw [S_len]; exact Nat.le_refl _
    · show (S (cut _ _ a)).length ≤ _
      rw [S_len]
      exact cut_len _ _ a
  · intro t' k
    have := h t' _ (C.tok k)
    rw [← e4] at this
    exact this
end
end Mine

namespace Mine

/-- the code c, its rest t, runs on to an end with Φ: it returns or stops at a yield -/
def Stp (M : Model) (A : Around) (Φ : End → Shared → Prop) (c : Code) (t : Sem Fin) (fs : List Frame) (s : Shared) : Prop :=
  ∀ Γ p, Γ.code = c → Γ.Woken A → ∃ e s', Runs M Γ p t fs s e s' ∧ Φ e s'

section
variable {M : Model} {A : Around} {Φ : End → Shared → Prop} {c : Code} {fs : List Frame} {s : Shared} {env : Env}
  {K : Flow → Sem Fin} {H : Value → Sem Fin} {gd : Bool → Bool} {lv : List Value → List Value}

theorem stp_mono {Φ' : End → Shared → Prop} {t : Sem Fin} (h : Stp M A Φ c t fs s) (hi : ∀ e s', Φ e s' → Φ' e s') : Stp M A Φ' c t fs s :=
  fun Γ p h1 h2 => let ⟨e, s', hr, he⟩ := h Γ p h1 h2; ⟨e, s', hr, hi _ _ he⟩
theorem stp_wrap {α : Type} {m : Sem α} {K : α → Sem Fin} {H : Value → Sem Fin} {gd lv}
    (h : wpAny M (A.over c fs) m (fun a s' => Stp M A Φ c (K a) fs s') (fun _ _ => False) s) : Stp M A Φ c (m.wrap K H gd lv) fs s := by
  rintro Γ p rfl hΓ
  exact runs_wrap_of_wp K H gd lv m (h (Γ.over fs) p (hΓ.over fs)) (fun a p' s' h' => h' Γ p' rfl hΓ) (fun x p' s' h' => h'.elim)
theorem stp_congr {α : Type} {m : Sem α} {K K' : α → Sem Fin} {H H' : Value → Sem Fin} {gd gd' lv lv'} (h : Stp M A Φ c (m.wrap K' H' gd' lv') fs s) (hK : ∀ a, K a = K' a) (hH : ∀ a, H a = H' a) (hg : gd = gd') (hv : lv = lv') : Stp M A Φ c (m.wrap K H gd lv) fs s := by
  subst hg hv
  rw [Sem.wrap_congr m gd lv hK hH]; exact h
theorem stp_bindw {α β : Type} {m : Sem α} {K : α → Sem β} {K' : β → Sem Fin} {H' : Value → Sem Fin} {gd lv}
    (h : wpAny M (A.over c fs) m (fun a s' => Stp M A Φ c ((K a).wrap K' H' gd lv) fs s') (fun _ _ => False) s) : Stp M A Φ c ((m >>= K).wrap K' H' gd lv) fs s := by
  rw [Sem.bind_eq_wrap', Sem.wrap_wrap]; exact stp_wrap h
theorem stp_at {p' : Pos} {k : Unit → Sem Fin} (h : Stp M A Φ c (k ()) fs s) : Stp M A Φ c (.at p' k) fs s :=
  stp_wrap (m := standAt p') (K := k) (H := .raise) (gd := id) (lv := id) (wpAny_standAt h)
theorem stp_point {l : List Value} {k : Unit → Sem Fin} (h : Stp M A Φ c (k ()) fs s) : Stp M A Φ c (.point l k) fs s :=
  stp_wrap (m := point) (K := k) (H := .raise) (gd := id) (lv := fun _ => l) (wpAny_point h)
theorem stp_call {c' : Code} {h g l} {k : Result → Sem Fin} (hc : ∀ p, Stp M A Φ c' (M.den c') (.ret k h g l c p [] :: fs) s) : Stp M A Φ c (.call c' h g l k) fs s := by
  rintro Γ p rfl hΓ
  obtain ⟨e, s', hr, he⟩ := hc p (Γ.goto c') p rfl (hΓ.goto c')
  exact ⟨e, s', runs_call_seg hr, he⟩
theorem stp_leaf {k h g l c₁ p₁ kp} (r : Result) (hk : Stp M A Φ c₁ (k r) fs s) : Stp M A Φ c (leafOf r) (.ret k h g l c₁ p₁ kp :: fs) s := by
  rintro Γ p rfl hΓ
  obtain ⟨e, s', hr, he⟩ := hk (Γ.goto c₁) p₁ rfl (hΓ.goto c₁)
  exact ⟨e, s', Runs.pop r hr, he⟩
theorem stp_again {c' : Code} (hc : Stp M A Φ c' (M.den c') fs s) (hq : c'.quiet = true := by rfl) : Stp M A Φ c (.pure (.again c')) fs s := by
  rintro Γ p rfl hΓ
  obtain ⟨e, s', hr, he⟩ := hc (Γ.goto c') p rfl (hΓ.goto c')
  exact ⟨e, s', Runs.head (c₁ := c') (fun _ _ x => .again hq x) hr, he⟩
theorem stp_end (r : Result) (h : Φ (.ret r) s) : Stp M A Φ c (leafOf r) [] s := by
  rintro Γ p rfl _
  exact ⟨.ret r, s, Runs.leaf r, h⟩
theorem stp_yield {v g l} {k : Resume → Sem Fin} (hfs : splitAtGen fs = none) (h : ∀ p, Φ (.susp v g l k c p fs) s) : Stp M A Φ c (.yield v g l k) fs s := by
  rintro Γ p rfl _
  exact ⟨_, s, Runs.yield' fs hfs, h p⟩

theorem stp_nil (h : Stp M A Φ c (K .next) fs s) : Stp M A Φ c ((execs [] env).wrap K H gd lv) fs s := h
theorem stp_cons {st : Stmt} {rest : List Stmt} (h : Stp M A Φ c ((exec st env).wrap (fun f => match f with | .next => (execs rest env).wrap K H gd lv | f => K f) H gd lv) fs s) :
    Stp M A Φ c ((execs (st :: rest) env).wrap K H gd lv) fs s := by rw [execs_cons_wrap]; exact h
/-- a statement that does not yield -/
theorem stp_stmt {st : Stmt} (h : wpAny M (A.over c fs) (exec st env) (fun f s' => Stp M A Φ c (K f) fs s') (fun _ _ => False) s) : Stp M A Φ c ((exec st env).wrap K H gd lv) fs s := stp_wrap h
theorem stp_If {test : Expr} {body orelse : List Stmt} {pos : Pos}
    (h : wpAny M (A.over c fs) (isTrue test env (eval test env)) (fun b s' => Stp M A Φ c ((if b = true then execs body env else execs orelse env).wrap K H gd lv) fs s') (fun _ _ => False) s) :
    Stp M A Φ c ((exec (.If test body orelse pos) env).wrap K H gd lv) fs s := by
  rw [exec_If]
  exact stp_bindw (wpAny_standAt (stp_bindw h))
/-- the statement 'yield e': the suspended code goes on behind it -/
theorem stp_Yield {e : Expr} {ypos pos : Pos} (hfs : splitAtGen fs = none) (hgd : gd false = false)
    (h : wpAny M (A.over c fs) (eval e env) (fun v s' => ∀ l k p, (∀ Φ' s'', Stp M A Φ' c (K .next) fs s'' → Stp M A Φ' c (k (.send .none)) fs s'') → Φ (.susp v false l k c p fs) s') (fun _ _ => False) s)
    (hco : env.scope.isCoroutine = false := by rfl) (hi : interactive env = false := by rfl) : Stp M A Φ c ((exec (.Expr (.Yield (some e) ypos) pos) env).wrap K H gd lv) fs s := by
  rw [exec_Expr env _ pos hi rfl]
  show Stp M A Φ c (.at pos fun _ => ((eval e env >>= fun v => (standAt ypos >>= fun _ => yieldOut env v)) >>= fun x => dropValue (.Yield (some e) ypos) pos x).wrap K H gd lv) fs s
  have hy : ∀ v, yieldOut env v = yieldValue v := fun v => by simp only [yieldOut, hco, Bool.false_eq_true, if_false]
  simp only [hy]
  refine stp_at ?_
  rw [Sem.bind_eq_wrap', Sem.bind_eq_wrap', Sem.wrap_wrap, Sem.wrap_wrap]
  refine stp_wrap (wpAny_mono h (fun v s' h' => ?_) fun _ _ x => x)
  refine stp_at (stp_yield hfs fun p => ?_)
  show Φ (.susp _ (gd false) _ _ _ _ _) _
  rw [hgd]
  exact h' _ _ p (fun Φ' s'' hx => hx)
theorem stp_While {test : Expr} {body orelse : List Stmt} {pos : Pos}
    (h : ∀ p k', (∀ f, k' (.ok f) = K f) → Stp M A Φ (.whileLoop test body orelse env) (M.den (.whileLoop test body orelse env)) (.ret k' none (gd false) (lv []) c p [] :: fs) s) :
    Stp M A Φ c ((exec (.While test body orelse pos) env).wrap K H gd lv) fs s :=
  stp_at (stp_call fun p => h p _ fun _ => rfl)
theorem stp_For {target iter : Expr} {body orelse : List Stmt} {pos : Pos}
    (h : wpAny M (A.over c fs) (eval iter env) (fun x s₁ => wpAny M (A.over c fs) (pyIter x) (fun it s₂ => ∀ p k' l, (∀ f, k' (.ok f) = K f) →
      Stp M A Φ (.forLoop target it body orelse env) (M.den (.forLoop target it body orelse env)) (.ret k' none (gd false) l c p [] :: fs) s₂) (fun _ _ => False) s₁) (fun _ _ => False) s)
    (hs : ∀ x, foldedSetIterable iter env x = pure x := by intro _; rfl) : Stp M A Φ c ((exec (.For target iter body orelse pos) env).wrap K H gd lv) fs s := by
  rw [exec_For]
  refine stp_bindw (wpAny_standAt (stp_bindw (wpAny_mono h (fun x s₁ h₁ => ?_) fun _ _ x => x)))
  refine stp_bindw (wpAny_of_eq (hs x) ?_)
  refine stp_bindw (wpAny_standAt (stp_bindw (wpAny_holding (wpAny_mono h₁ (fun it s₂ h₂ => ?_) fun _ _ x => x))))
  exact stp_call fun p => h₂ p _ _ fun _ => rfl
end

section
variable {prog : Program} {w : World} {A : Around} {Φ : End → Shared → Prop} {fs : List Frame} {s : Shared} {env : Env}
theorem stp_func {body : List Stmt} (h : ∀ H, Stp (model prog w) A Φ (.func body env) ((execs body env).wrap (fun f => .pure (.done (.ret (match f with | .ret v => v | _ => .none)))) H id id) fs s) :
    Stp (model prog w) A Φ (.func body env) ((model prog w).den (.func body env)) fs s := by
  show Stp _ A Φ _ (.point [] fun _ => ((execs body env).onRaise (leaving env)) >>= _) fs s
  refine stp_point ?_
  rw [Sem.onRaise_eq_wrap, Sem.bind_eq_wrap', Sem.wrap_wrap]
  rw [Sem.wrap_congr (execs body env) _ _ (K' := fun f => .pure (.done (.ret (match f with | .ret v => v | _ => .none))))
    (H' := fun e => (leaving env e).wrap (fun _ => .raise e) .raise id id) (fun f => by cases f <;> rfl)
    (fun e => by rw [Sem.bind_eq_wrap, Sem.wrap_wrap]; rfl)]
  exact h _
theorem stp_block {k' : Result → Sem Fin} {h g l c p kp} (hk : Stp (model prog w) A Φ c (k' (.ok .next)) fs s) :
    Stp (model prog w) A Φ (.block [] env) ((model prog w).den (.block [] env)) (.ret k' h g l c p kp :: fs) s := stp_leaf (.ok .next) hk
theorem stp_forLoop {target : Expr} {it : Value} {body orelse : List Stmt}
    (h : ∀ E H, wpAny (model prog w) (A.over (.forLoop target it body orelse env) fs) (pyNext it) (fun r s₁ => match r with
      | none => Stp (model prog w) A Φ (.block orelse env) ((model prog w).den (.block orelse env)) fs s₁
      | some v => wpAny (model prog w) (A.over (.forLoop target it body orelse env) fs) (letOwnedTupleGo target it v) (fun _ s₂ => wpAny (model prog w) (A.over (.forLoop target it body orelse env) fs) (assign target env v) (fun _ s₃ =>
          Stp (model prog w) A Φ (.forLoop target it body orelse env) ((execs body env).wrap (fun f => match f with
            | .next | .cont => .pure (.again (.forLoop target it body orelse env))
            | .brk => .pure (.done .next)
            | .ret v => .pure (.done (.ret v))) H id id) fs s₃) (fun _ _ => False) s₂) (fun _ _ => False) s₁) E s)
    (hq : (Code.block orelse env).quiet = true := by rfl) :
    Stp (model prog w) A Φ (.forLoop target it body orelse env) ((model prog w).den (.forLoop target it body orelse env)) fs s := by
  show Stp _ A Φ _ ((forTurn target it body orelse env).onRaise (fun x => do noteFrame x env; theTreesLotGoes x)) fs s
  unfold forTurn
  rw [Sem.onRaise_eq_wrap]
  refine stp_bindw (wpAny_standAt ?_)
  rw [Sem.bind_eq_wrap', Sem.wrap_wrap]
  refine stp_wrap (wpAny_onRaise (wpAny_mono (h (fun _ _ => False) (fun e => (do noteFrame e env; theTreesLotGoes e : Sem Unit).bind (fun _ => .raise e))) (fun r s₁ h₁ => ?_) fun _ _ x => x.elim))
  cases r with
  | none => exact stp_again h₁ hq
  | some v =>
    refine stp_bindw (wpAny_mono h₁ (fun _ s₂ h₂ => stp_bindw (wpAny_mono h₂ (fun _ s₃ h₃ => ?_) fun _ _ x => x)) fun _ _ x => x)
    rw [Sem.bind_eq_wrap', Sem.wrap_wrap]
    refine stp_congr h₃ (fun f => by cases f <;> rfl) (fun e => rfl) rfl rfl
theorem stp_whileLoop {test : Expr} {body orelse : List Stmt}
    (h : ∀ H, wpAny (model prog w) (A.over (.whileLoop test body orelse env) fs) (isTrue test env (eval test env)) (fun b s' => b = true ∧
          Stp (model prog w) A Φ (.whileLoop test body orelse env) ((execs body env).wrap (fun f => match f with
            | .next | .cont => .pure (.again (.whileLoop test body orelse env))
            | .brk => .pure (.done .next)
            | .ret v => .pure (.done (.ret v))) H id id) fs s') (fun _ _ => False) s) :
    Stp (model prog w) A Φ (.whileLoop test body orelse env) ((model prog w).den (.whileLoop test body orelse env)) fs s := by
  show Stp _ A Φ _ ((whileTurn test body orelse env).onRaise (fun x => do noteFrame x env; theTreesLotGoes x)) fs s
  unfold whileTurn
  rw [Sem.onRaise_eq_wrap, Sem.bind_eq_wrap', Sem.wrap_wrap]
  refine stp_wrap (wpAny_mono (h (fun e => (do noteFrame e env; theTreesLotGoes e : Sem Unit).bind (fun _ => .raise e))) (fun b s' hb => ?_) fun x s' hx => hx)
  obtain ⟨rfl, hb⟩ := hb
  show Stp _ A Φ _ (Sem.wrap _ _ _ _ (if true = true then _ else _)) fs s'
  rw [if_pos rfl, Sem.bind_eq_wrap', Sem.wrap_wrap]
  refine stp_congr hb (fun f => by cases f <;> rfl) (fun e => rfl) rfl rfl
end
end Mine

namespace Mine

def genP (g : Nat) (o : Obj) : Prop := ∃ nm qn, o.cls = .type "generator" ∧ o.data = .fields #[.int g 0, nm, qn] ∧ o.slots = #[]
def GoOn (M : Model) (A : Around) (gs : GenState) (Φ : End → Shared → Prop) (s : Shared) : Prop := match gs with
  | .fresh c => Stp M A Φ c (M.den c) [] s
  | .suspended k _ c _ fs _ => Stp M A Φ c (k (.send .none)) fs s
  | _ => False
abbrev Item := Value → Own → Prop
/-- the generator in the state gs, its frame K with the locals lc, its objects oi, yields as told, and then ends (if 'ends') -/
def Will (prog : Program) (w : World) (A : Around) (mg mb : Str → Option Value) (ends : Bool) : List Item → Addr → Locs → Own → GenState → Prop
  | [], K, lc, oi, gs => ends = true → ∀ z s, Base mg mb z.heap → Cur z K lc oi s → GoOn (model prog w) A gs (fun e s' => e = .ret (.ok (.ret .none)) ∧ Grow z s') s
  | P :: r, K, lc, oi, gs => ∀ z s, Base mg mb z.heap → Cur z K lc oi s → GoOn (model prog w) A gs (fun e s' => ∃ v l k c p fs, e = .susp v false l k c p fs ∧ fs.any Frame.guarded = false ∧
      ∃ lc' oi' ov, P v ov ∧ Cur z K lc' (ov ++ oi') s' ∧ Will prog w A mg mb ends r K lc' oi' e.genState) s

section
variable {M : Model} {A : Around} {Q : Shared → Prop} {E : Value → Shared → Prop} {s : Shared}
theorem wpAny_resumeS {g : Nat} {gs : GenState} {Φ : End → Shared → Prop} {l : List Value} {α : Type} {k : GenResult → Sem α} {Q : α → Shared → Prop} (hg : s.gens[g]? = some gs) (hgo : GoOn M A gs Φ (s.setGen g .running))
    (hq : ∀ e s₁, Φ e s₁ → e.quiet = true) (h : ∀ e s₁, Φ e s₁ → wpAny M A (k e.result) Q E (s₁.setGen g e.genState)) : wpAny M A (.resume g (.send .none) l k) Q E s := by
  intro Γ p hΓ
  rw [Sem.wp_resume]
  have hB : ∀ c, (Γ.wake c p).Woken A := fun c => hΓ.wake c p
  cases gs with
  | fresh c =>
    obtain ⟨e₁, s₁, hr, he⟩ := hgo (Γ.wake c p) p rfl (hB c)
    exact ⟨_, _, by unfold Wakes; rw [hg]; exact ⟨e₁, s₁, hr, hq e₁ s₁ he, rfl, rfl⟩, h e₁ s₁ he Γ p hΓ⟩
  | suspended k₀ l₀ c₀ p₀ fs₀ cl =>
    obtain ⟨e₁, s₁, hr, he⟩ := hgo (Γ.wake c₀ p) p₀ rfl (hB c₀)
    exact ⟨_, _, by unfold Wakes; rw [hg]; exact ⟨e₁, s₁, hr, hq e₁ s₁ he, rfl, rfl⟩, h e₁ s₁ he Γ p hΓ⟩
  | running => exact hgo.elim
  | finished => exact hgo.elim
end

section
variable {prog : Program} {w : World} {A : Around} {E : Value → Shared → Prop} {s : Shared}
theorem pyNext_gs {a : Addr} {g : Nat} {gs : GenState} {Φ : End → Shared → Prop} {Q : Option Value → Shared → Prop} (hh : A.handled = none) (hl : s.heap.NoLimit) (hroom : A.depth < recursionLimit) (hg : s.heap.IsGen a g) (hgs : s.gens[g]? = some gs)
    (hgo : GoOn (model prog w) A.in1 gs Φ (s.setGen g .running)) (hq : ∀ e s₁, Φ e s₁ → e.quiet = true)
    (h : ∀ e s₁, Φ e s₁ → match e with
      | .ret r => r = .ok (.ret .none) ∧ ∀ h', (∀ b o, s₁.heap.get? b = some o → h'.get? b = some o) → Q none { s₁.setGen g .finished with heap := h' }
      | .susp v .. => Q (some v) (s₁.setGen g e.genState)) : wpAny (model prog w) A (pyNext (.ref a)) Q E s := by
  unfold pyNext
  refine wpAny_bind (wpAny_attempt (wpAny_callSpecial?_slot (name := Str.ofString "__next__") hg.typeIs slot_gen_next
    (wpAny_call_entry slot_gen_next hg.typeIs entry_gen_next ?_ (args_gen_next _))))
  show wpAny _ _ (Builtin.Generator.genWake (.ref a) (.send .none)) _ _ s
  unfold Builtin.Generator.genWake
  refine wpAny_bind (wpAny_holding (wpAny_genNumber hg (wpAny_bind (wpAny_genState hgs ?_))))
  cases gs with
  | running => exact hgo.elim
  | finished => exact hgo.elim
  | _ =>
    refine wpAny_bind (wpAny_roomToWake hl hroom ?_)
    show wpAny _ _ (.resume g (.send .none) [] _) _ _ s
    refine wpAny_resumeS hgs hgo hq (fun e s₁ he => ?_)
    have h1 := h e s₁ he
    cases e with
    | ret r =>
      obtain ⟨rfl, hp⟩ := h1
      show wpAny _ _ (newExc (.type "StopIteration") [] >>= _) _ _ _
      refine wpAny_bind ?_
      simp only [newExc, newTuple]
      refine wpAny_bind (wpAny_newObj_type ?_ (by size_fits))
      refine wpAny_bind (m := firstArgMember _ _) (wpAny_of_eq (a := Value.none) (by first | rfl | (simp only [firstArgMember]; rfl)) ?_)
      refine wpAny_newObj_type ?_ (by size_fits)
      simp only [raiseNew]
      refine wpAny_bind (wpAny_bind (wpAny_handled ?_))
      rw [show A.in1.handled = none from hh]
      refine wpAny_throw ?_
      refine wpAny_bind (wpAny_isInstance (T := "StopIteration") (b := true) ⟨_, Heap.get?_push_size _ rfl, rfl⟩ isSubtype_stop ?_)
      exact wpAny_pure (hp _ fun b o hb => Heap.get?_push_of_some _ (Heap.get?_push_of_some _ hb))
    | susp v gd l k c p fs => exact wpAny_pure ⟨v, rfl, wpAny_pure h1⟩
end

theorem GExt.set {a : Array GenState} {s : Shared} {g : Nat} {gs x : GenState} (h : GExt a s.gens) (hg : a.size ≤ g) (hgs : s.gens[g]? = some gs) (hx : x.bare = true) : GExt a (s.setGen g x).gens := by
  refine ⟨fun i y e => ?_, fun hb => (h.2 hb).moved (GenOnlyQ.of (GenOnly.setGen s g x) (setGen_self hgs) hx)⟩
  have hi : i < a.size := (Array.getElem?_eq_some_iff.mp e).1
  rw [(GenOnly.setGen s g x).2 i (by omega)]
  exact h.1 i y e
namespace Cur
variable {z s0 s s' : Shared} {L K : Addr} {l lc : Locs} {own own' oi : Own} {a : Addr} {P P' : Obj → Prop}
/-- the same heap, other generators -/
theorem regen (C : Cur s0 L l own s) (h1 : s'.heap = s.heap) (h2 : s'.os = s.os) (h : GExt s0.gens s'.gens) : Cur s0 L l own s' :=
  ⟨⟨h2.trans C.grow.os, fun b o e => h1 ▸ C.grow.keep b o e, h⟩, h1 ▸ C.ns, C.fresh, fun p hp => h1 ▸ C.has p hp, C.new, C.ne, C.nd⟩
/-- a generator's turn woven into the frame of its driver -/
theorem weave (C : Cur s0 L l own s) (hz : ∀ b o, s.heap.get? b = some o → (b = L ∨ ∃ p ∈ own, p.1 = b) → z.heap.get? b = some o) (gz : Grow s0 z) (D : Cur z K lc oi s') : Cur s0 L l ((K, NsP (Lk lc)) :: (oi ++ own)) s' := by
  have hL : ∃ o, s.heap.get? L = some o ∧ NsP (Lk l) o := nsP_of C.ns
  obtain ⟨oL, hoL, hpL⟩ := hL
  have hzL := hz L oL hoL (.inl rfl)
  have hzo : ∀ p ∈ own, ∃ o, z.heap.get? p.1 = some o ∧ p.2 o := fun p hp => let ⟨o, h1, h2⟩ := C.has p hp; ⟨o, hz _ o h1 (.inr ⟨p, hp, rfl⟩), h2⟩
  have hne : ∀ p ∈ oi, ∀ q ∈ own, p.1 ≠ q.1 := fun p hp q hq e => by
    obtain ⟨o, h1, _⟩ := hzo q hq
    rw [← e, D.new p hp] at h1; cases h1
  refine ⟨gz.trans D.grow, ns_of (D.grow.keep _ _ hzL) hpL, C.fresh, fun p hp => ?_, fun p hp => ?_, fun p hp => ?_, ?_⟩
  · rcases List.mem_cons.mp hp with rfl | hp
    · exact nsP_of D.ns
    · rcases List.mem_append.mp hp with hp | hp
      · exact D.has p hp
      · obtain ⟨o, h1, h2⟩ := hzo p hp
        exact ⟨o, D.grow.keep _ _ h1, h2⟩
  · rcases List.mem_cons.mp hp with rfl | hp
    · exact gz.fresh D.fresh
    · rcases List.mem_append.mp hp with hp | hp
      · exact gz.fresh (D.new p hp)
      · exact C.new p hp
  · rcases List.mem_cons.mp hp with rfl | hp
    · rintro rfl; rw [D.fresh] at hzL; cases hzL
    · rcases List.mem_append.mp hp with hp | hp
      · intro e; rw [← e, D.new p hp] at hzL; cases hzL
      · exact C.ne p hp
  · rw [List.map_cons, List.map_append]
    refine List.nodup_cons.mpr ⟨fun hm => ?_, List.nodup_append.mpr ⟨D.nd, C.nd, fun a ha b hb => ?_⟩⟩
    · rcases List.mem_append.mp hm with hm | hm
      · obtain ⟨p, hp, e⟩ := List.mem_map.mp hm
        exact D.ne p hp e
      · obtain ⟨p, hp, e⟩ := List.mem_map.mp hm
        obtain ⟨o, h1, _⟩ := hzo p hp
        have e : p.1 = K := e
        rw [e, D.fresh] at h1; cases h1
    · obtain ⟨p, hp, rfl⟩ := List.mem_map.mp ha
      obtain ⟨q, hq, rfl⟩ := List.mem_map.mp hb
      exact hne p hp q hq
/-- what a generator's turn starts from -/
theorem unweave (C : Cur s0 L l ((K, NsP (Lk lc)) :: (oi ++ own)) s) : ∃ z, Grow s0 z ∧ Cur z K lc oi s ∧ z.gens = s0.gens ∧ ∀ b o, s.heap.get? b = some o → (b = L ∨ ∃ p ∈ own, p.1 = b) → z.heap.get? b = some o := by
  have C1 : Cur s0 K lc oi s := (C.focus).drop ((List.sublist_append_left oi own).trans (List.sublist_cons_self _ _))
  obtain ⟨z, g1, g2, g3⟩ := C1.freeze
  refine ⟨{ z with gens := s0.gens }, ⟨g1.os, g1.keep, .refl _⟩, ⟨⟨g2.grow.os, g2.grow.keep, C.grow.gens⟩, g2.ns, g2.fresh, g2.has, g2.new, g2.ne, g2.nd⟩, rfl, fun b o e hb => g3 b o e ?_ fun p hp he => ?_⟩
  · rintro rfl
    rcases hb with rfl | ⟨q, hq, rfl⟩
    · exact C.ne _ List.mem_cons_self rfl
    · have nd := C.nd
      rw [List.map_cons, List.nodup_cons, List.map_append] at nd
      exact nd.1 (List.mem_append_right _ (List.mem_map_of_mem (f := (·.1)) hq))
  · rcases hb with rfl | ⟨q, hq, rfl⟩
    · exact C.ne p (List.mem_cons_of_mem _ (List.mem_append_left _ hp)) he
    · have nd := C.nd
      rw [List.map_cons, List.nodup_cons, List.map_append, List.nodup_append] at nd
      exact nd.2.2.2 _ (List.mem_map_of_mem (f := (·.1)) hp) _ (List.mem_map_of_mem (f := (·.1)) hq) he
end Cur

section
variable {prog : Program} {w : World} {A : Around} {E : Value → Shared → Prop} {s s0 : Shared} {L K G : Addr} {l lc : Locs} {own oi : Own} {mg mb : Str → Option Value} {g : Nat} {gs : GenState} {ends : Bool}
theorem genP.isGen {h : Heap} {a : Addr} {o : Obj} (e : h.get? a = some o) (p : genP g o) : h.IsGen a g := let ⟨nm, qn, h1, h2, h3⟩ := p; ⟨o, nm, qn, e, h1, h2, h3⟩

theorem r_nextGen {P : Item} {r : List Item} {Q : Option Value → Shared → Prop} (hh : A.handled = none) (hroom : A.depth < recursionLimit) (B : Base mg mb s0.heap) (hG : (G, genP g) ∈ own) (C : Cur s0 L l ((K, NsP (Lk lc)) :: (oi ++ own)) s)
    (hg0 : s0.gens.size ≤ g) (hgs : s.gens[g]? = some gs) (W : Will prog w A.in1 mg mb ends (P :: r) K lc oi gs)
    (h : ∀ v s' lc' oi' ov gs', P v ov → Cur s0 L l ((K, NsP (Lk lc')) :: (ov ++ oi' ++ own)) s' → s'.gens[g]? = some gs' → Will prog w A.in1 mg mb ends r K lc' oi' gs' → Q (some v) s') :
    wpAny (model prog w) A (pyNext (.ref G)) Q E s := by
  obtain ⟨z, gz, Cz, hzg, hz⟩ := C.unweave
  obtain ⟨oG, hoG, hpG⟩ := C.has _ (List.mem_cons_of_mem _ (List.mem_append_right _ hG))
  have hgz : GExt z.gens (s.setGen g .running).gens := (Cz.grow.gens).set (hzg ▸ hg0) hgs rfl
  have Cz2 := (Cz.regen (s' := s.setGen g .running) rfl rfl hgz).rebase
  have hrun : (s.setGen g .running).gens[g]? = some .running := setGen_self hgs
  have hlim : s.heap.NoLimit := (B.keeps C.grow.keep).nolimit
  have C0 : Cur s0 L l own s := C.drop ((List.sublist_append_right oi own).trans (List.sublist_cons_self _ _))
  refine pyNext_gs hh hlim hroom (genP.isGen hoG hpG) hgs (W { z with gens := (s.setGen g .running).gens } _ (B.keeps gz.keep) Cz2) ?_ ?_
  · rintro e s₁ ⟨v, l1, k, c, p, fs, rfl, hq, _⟩
    simp [End.quiet, hq]
  · rintro e s₁ ⟨v, l1, k, c, p, fs, rfl, hq, lc', oi', ov, hP, D, W'⟩
    have hgs1 : s₁.gens[g]? = some .running := D.grow.gens.1 g _ hrun
    have D2 := C0.weave hz gz (D.unbase hgz)
    refine h v _ lc' oi' ov _ hP ?_ (setGen_self hgs1) W'
    exact D2.regen rfl rfl (D2.grow.gens.set hg0 hgs1 (End.bare_of_quiet (by simp [End.quiet, hq])))
theorem r_endGen {Q : Option Value → Shared → Prop} (hh : A.handled = none) (hroom : A.depth < recursionLimit) (B : Base mg mb s0.heap) (hG : (G, genP g) ∈ own) (C : Cur s0 L l ((K, NsP (Lk lc)) :: (oi ++ own)) s)
    (hg0 : s0.gens.size ≤ g) (hgs : s.gens[g]? = some gs) (W : Will prog w A.in1 mg mb true [] K lc oi gs) (h : ∀ s', Cur s0 L l own s' → Q none s') : wpAny (model prog w) A (pyNext (.ref G)) Q E s := by
  obtain ⟨z, gz, Cz, hzg, hz⟩ := C.unweave
  obtain ⟨oG, hoG, hpG⟩ := C.has _ (List.mem_cons_of_mem _ (List.mem_append_right _ hG))
  have hgz : GExt z.gens (s.setGen g .running).gens := (Cz.grow.gens).set (hzg ▸ hg0) hgs rfl
  have Cz2 := (Cz.regen (s' := s.setGen g .running) rfl rfl hgz).rebase
  have hrun : (s.setGen g .running).gens[g]? = some .running := setGen_self hgs
  have hlim : s.heap.NoLimit := (B.keeps C.grow.keep).nolimit
  have C0 : Cur s0 L l own s := C.drop ((List.sublist_append_right oi own).trans (List.sublist_cons_self _ _))
  refine pyNext_gs hh hlim hroom (genP.isGen hoG hpG) hgs (W rfl { z with gens := (s.setGen g .running).gens } _ (B.keeps gz.keep) Cz2) ?_ ?_
  · rintro e s₁ ⟨rfl, _⟩
    rfl
  · rintro e s₁ ⟨rfl, D⟩
    refine ⟨rfl, fun h' hk => h _ ?_⟩
    have hgs1 : s₁.gens[g]? = some .running := D.gens.1 g _ hrun
    have keep : ∀ b o, z.heap.get? b = some o → h'.get? b = some o := fun b o e => hk b o (D.keep b o e)
    obtain ⟨oL, hoL, hpL⟩ := nsP_of C0.ns
    have hg2 : GExt s0.gens s₁.gens := (hzg ▸ hgz.trans D.gens)
    exact ⟨⟨(D.os.trans gz.os), fun b o e => keep b o (gz.keep b o e), hg2.set hg0 hgs1 rfl⟩, ns_of (keep _ _ (hz _ _ hoL (.inl rfl))) hpL, C0.fresh,
      fun p hp => let ⟨o, h1, h2⟩ := C0.has p hp; ⟨o, keep _ _ (hz _ o h1 (.inr ⟨p, hp, rfl⟩)), h2⟩, C0.new, C0.ne, C0.nd⟩
end
end Mine

namespace Mine

structure Made (s s' : Shared) (G K : Addr) (l : Locs) (gs : GenState) : Prop where
  os : s'.os = s.os
  keep : ∀ b o, s.heap.get? b = some o → s'.heap.get? b = some o
  gens : s'.gens = s.gens.push gs
  nK : s.heap.get? K = none
  nG : s.heap.get? G = none
  ne : K ≠ G
  ns : s'.heap.Ns K (Lk l)
  obj : ∃ o, s'.heap.get? G = some o ∧ genP s.gens.size o

theorem GExt.size {a b : Array GenState} (h : GExt a b) : a.size ≤ b.size := by
  rcases Nat.lt_or_ge b.size a.size with hl | hl
  · have := h.1 b.size _ (Array.getElem?_eq_getElem hl)
    rw [Array.getElem?_eq_none (Nat.le_refl _)] at this; cases this
  · exact hl
theorem GExt.push {a b : Array GenState} (h : GExt a b) {gs : GenState} (hb : gs.bare = true) : GExt a (b.push gs) := by
  refine ⟨fun i x e => ?_, fun hx => (h.2 hx).push hb⟩
  have := h.1 i x e
  have hi := (Array.getElem?_eq_some_iff.mp this).1
  rw [Array.getElem?_push, if_neg (by omega)]
  exact this
theorem Cur.addGen {s0 s s' : Shared} {L K G : Addr} {l lc : Locs} {own : Own} {gs : GenState} (C : Cur s0 L l own s) (m : Made s s' G K lc gs) (hb : gs.bare = true) :
    Cur s0 L l ((K, NsP (Lk lc)) :: (G, genP s.gens.size) :: own) s' ∧ s'.gens[s.gens.size]? = some gs ∧ s0.gens.size ≤ s.gens.size := by
  refine ⟨?_, by rw [m.gens]; exact Array.getElem?_push_size .., C.grow.gens.size⟩
  have nsL := C.ns.keeps m.keep
  obtain ⟨oL, hoL, _⟩ := nsP_of C.ns
  have hno : ∀ (p : Addr × (Obj → Prop)) (b : Addr), p ∈ own → s.heap.get? b = none → p.1 ≠ b := fun p b hp hn e => by
    obtain ⟨o, h1, _⟩ := C.has p hp
    rw [e, hn] at h1; cases h1
  refine ⟨⟨m.os.trans C.grow.os, fun b o e => m.keep _ _ (C.grow.keep b o e), m.gens ▸ C.grow.gens.push hb⟩, nsL, C.fresh, fun p hp => ?_, fun p hp => ?_, fun p hp => ?_, ?_⟩
  · rcases List.mem_cons.mp hp with rfl | hp
    · exact nsP_of m.ns
    · rcases List.mem_cons.mp hp with rfl | hp
      · exact m.obj
      · obtain ⟨o, h1, h2⟩ := C.has p hp
        exact ⟨o, m.keep _ _ h1, h2⟩
  · rcases List.mem_cons.mp hp with rfl | hp
    · exact C.grow.fresh m.nK
    · rcases List.mem_cons.mp hp with rfl | hp
      · exact C.grow.fresh m.nG
      · exact C.new p hp
  · rcases List.mem_cons.mp hp with rfl | hp
    · rintro rfl; rw [m.nK] at hoL; cases hoL
    · rcases List.mem_cons.mp hp with rfl | hp
      · rintro rfl; rw [m.nG] at hoL; cases hoL
      · exact C.ne p hp
  · rw [List.map_cons, List.map_cons]
    refine List.nodup_cons.mpr ⟨fun hm => ?_, List.nodup_cons.mpr ⟨fun hm => ?_, C.nd⟩⟩
    · rcases List.mem_cons.mp hm with e | hm
      · exact m.ne e
      · obtain ⟨p, hp, e⟩ := List.mem_map.mp hm
        exact hno p K hp m.nK e
    · obtain ⟨p, hp, e⟩ := List.mem_map.mp hm
      exact hno p G hp m.nG e

section
variable {prog : Program} {w : World} {A : Around} {E : Value → Shared → Prop} {s s0 : Shared} {L I ax : Addr} {l : Locs} {own : Own}
theorem r_isub {a b : Int} {t u : Tok} {Q : Value → Shared → Prop} (C : Cur s0 L l own s) (h : ∀ t s', Cur s0 L l own s' → Q (.int (a - b) t) s') : wpAny (model prog w) A (inplaceOp .Sub (.int a t) (.int b u)) Q E s := P.isub_int (h _ _ (C.tok _))
theorem r_nextL {vs : List Value} {i : Nat} {v : Value} {Q : Option Value → Shared → Prop} (C : Cur s0 L l ((I, lstIt ax i) :: own) s) (hd : Sees s0 own ax (lst vs)) (hv : vs[i]? = some v) (h : ∀ s', Cur s0 L l ((I, lstIt ax (i + 1)) :: own) s' → Q (some v) s') :
    wpAny (model prog w) A (pyNext (.ref I)) Q E s := by
  obtain ⟨o, ho, hp⟩ := C.has _ List.mem_cons_self
  obtain ⟨o2, ho2, hp2⟩ := C.tail.sees hd
  refine wpAny_pyNext_list_item (i := i) ⟨o, ho, hp.1, hp.2⟩ (lst.isList ho2 hp2) (x := v) (by simpa using hv) fun h' hit hs => ?_
  obtain ⟨o3, ho3, hc3, hd3⟩ := hit
  exact h _ (C.upd (i := 0) (P' := lstIt ax (i + 1)) (tk := s.toks) rfl hs.extBut ho3 ⟨hc3, hd3⟩)
end

theorem enterA {prog : Program} {w : World} {A : Around} {s : Shared} {mg mb : Str → Option Value} {l : Locs} {R : Result → Shared → Prop} {d : DefRec} {a : Addr} {args : List Value} {binds : List (Str × Value)} {k : Nat} (B : Base mg mb s.heap) (hd : d ∈ recsOf pw) (ha : mg d.name = some (.ref a)) (hroom : Room A (k + 1))
    (hbind : ∀ pm cd doc, bindArgs (docDef d.name d.params d.body d.scope pm cd doc) ⟨args, []⟩ = pure binds)
    (hloc : (binds.all fun x => decide (d.scope.names.lookup x.1 = some .local)) = true)
    (h : ∀ L cd A1 s', Room A1 k → Cur s L l [] s' → wpAny (model prog w) A1 (execs d.body (envOf d.name d.scope L a cd)) (fun f s' => R (.ok (.ret (match f with | .ret v => v | _ => .none))) s') (fun _ _ => False) s')
    (hco : d.scope.isCoroutine = false) (hgen : d.scope.isGenerator = false) (hk : d.scope.kind = .function)
    (hcell : ∀ x ∈ d.scope.names, x.2 ≠ .cell) (hlr : binds.reverse = l := by rfl) : codeAny (model prog w) A (.call (.ref a) ⟨args, []⟩) R s :=
  enter B hd ha (hroom.le (by omega)) hbind hloc (fun L cd s' C => h L cd _ s' (hroom.deeper _) C) hco hgen hk hcell hlr

theorem enterGen {prog : Program} {w : World} {A : Around} {s : Shared} {mg mb : Str → Option Value} {l : Locs} {R : Result → Shared → Prop} {d : DefRec} {a : Addr} {args : List Value} {binds : List (Str × Value)} (B : Base mg mb s.heap) (hd : d ∈ recsOf pw) (ha : mg d.name = some (.ref a)) (hroom : Room A 1)
    (hbind : ∀ pm cd doc, bindArgs (docDef d.name d.params d.body d.scope pm cd doc) ⟨args, []⟩ = pure binds)
    (hloc : (binds.all fun x => decide (d.scope.names.lookup x.1 = some .local)) = true)
    (h : ∀ G K cd s', Made s s' G K l (.fresh (.func d.body (envOf d.name d.scope K a cd))) → R (.ok (.ret (.ref G))) s')
    (hco : d.scope.isCoroutine = false) (hgen : d.scope.isGenerator = true) (hk : d.scope.kind = .function)
    (hcell : ∀ x ∈ d.scope.names, x.2 ≠ .cell) (hlr : binds.reverse = l := by rfl) : codeAny (model prog w) A (.call (.ref a) ⟨args, []⟩) R s := by
  subst hlr
  obtain ⟨a', o, pm, cd, doc, h1, h2, h3, h4⟩ := B.fn d hd
  have e : a' = a := by rw [h1] at ha; cases ha; rfl
  subst e
  refine codeAny_call_generator (by have := hroom.depth; omega) h2 h3 hco hgen rfl h4 (wpAny_of_eq (hbind pm cd doc) ?_)
  refine wpAny_newFunctionEnv hcell (locs hloc) (fun h' hn hs => ?_) hk
  have hsz : h'.objs.size = s.heap.objs.size + 1 := by rw [hs.1, Heap.size_push]
  have keep' : ∀ b o, s.heap.get? b = some o → h'.get? b = some o := fun b o e => hs.extBut b o (Nat.ne_of_lt (Heap.lt_size e)) (Heap.get?_push_of_some _ e)
  refine ⟨B.nolimit.keeps keep', ?_⟩
  have e2 : newEnv d.scope s.heap.objs.size mainGlobals [] (d.name ++ ".<locals>.") (some a') cd none builtinsNs = envOf d.name d.scope s.heap.objs.size a' cd := rfl
  refine h h'.objs.size s.heap.objs.size cd _ ⟨rfl, fun b o e => Heap.get?_push_of_some _ (keep' b o e), ?_, none_of_le (Nat.le_refl _), none_of_le (show s.heap.objs.size ≤ h'.objs.size by omega), (show s.heap.objs.size ≠ h'.objs.size by omega), hn.keeps fun b o e => Heap.get?_push_of_some _ e,
    ⟨_, Heap.get?_push_size _ rfl, _, _, rfl, rfl, rfl⟩⟩
  rfl
end Mine

namespace Mine

namespace Cur
variable {s0 s s' : Shared} {L : Addr} {l : Locs} {old new own : Own}
/-- some own objects turn, go or come -/
theorem turn (C : Cur s0 L l (old ++ own) s) (hk : ∀ b o, (∀ p ∈ old, p.1 ≠ b) → s.heap.get? b = some o → s'.heap.get? b = some o)
    (hn : ∀ p ∈ new, (∃ o, s'.heap.get? p.1 = some o ∧ p.2 o) ∧ (s.heap.get? p.1 = none ∨ ∃ q ∈ old, q.1 = p.1)) (nd : (new.map (·.1)).Nodup) (hos : s'.os = s.os := by rfl) (hg : GExt s.gens s'.gens := by exact GExt.refl _) : Cur s0 L l (new ++ own) s' := by
  obtain ⟨oL, hoL, hpL⟩ := nsP_of C.ns
  have hnd := C.nd
  rw [List.map_append, List.nodup_append] at hnd
  have hadr : ∀ p ∈ new, s0.heap.get? p.1 = none ∧ p.1 ≠ L ∧ ∀ q ∈ own, p.1 ≠ q.1 := fun p hp => by
    rcases (hn p hp).2 with e | ⟨q, hq, e⟩
    · refine ⟨C.grow.fresh e, (fun h => by rw [h, hoL] at e; cases e), fun q hq h => ?_⟩
      obtain ⟨o, h1, _⟩ := C.has q (List.mem_append_right _ hq)
      rw [← h, e] at h1; cases h1
    · rw [← e]
      exact ⟨C.new q (List.mem_append_left _ hq), C.ne q (List.mem_append_left _ hq), fun r hr => hnd.2.2 _ (List.mem_map_of_mem (f := (·.1)) hq) _ (List.mem_map_of_mem (f := (·.1)) hr)⟩
  have hkeep : ∀ b o, s0.heap.get? b = some o → s'.heap.get? b = some o := fun b o e => hk b o (fun p hp h => by
    have := C.new p (List.mem_append_left _ hp)
    rw [h, e] at this; cases this) (C.grow.keep b o e)
  refine ⟨⟨hos.trans C.grow.os, hkeep, C.grow.gens.trans hg⟩, ns_of (hk L oL (fun p hp => C.ne p (List.mem_append_left _ hp)) hoL) hpL, C.fresh, fun p hp => ?_, fun p hp => ?_, fun p hp => ?_, ?_⟩
  · rcases List.mem_append.mp hp with hp | hp
    · exact (hn p hp).1
    · obtain ⟨o, h1, h2⟩ := C.has p (List.mem_append_right _ hp)
      exact ⟨o, hk _ o (fun q hq => hnd.2.2 _ (List.mem_map_of_mem (f := (·.1)) hq) _ (List.mem_map_of_mem (f := (·.1)) hp)) h1, h2⟩
  · rcases List.mem_append.mp hp with hp | hp
    · exact (hadr p hp).1
    · exact C.new p (List.mem_append_right _ hp)
  · rcases List.mem_append.mp hp with hp | hp
    · exact (hadr p hp).2.1
    · exact C.ne p (List.mem_append_right _ hp)
  · rw [List.map_append, List.nodup_append]
    refine ⟨nd, hnd.2.1, fun a ha b hb => ?_⟩
    obtain ⟨p, hp, rfl⟩ := List.mem_map.mp ha
    obtain ⟨q, hq, rfl⟩ := List.mem_map.mp hb
    exact (hadr p hp).2.2 q hq
end Cur

def enumP (it : Addr) (i : Nat) (o : Obj) : Prop := ∃ old, o = { cls := .type "enumerate", dict := none, data := .fields #[.none, .bool false, .ref it, rawInt i, .none, old], slots := #[] }
def enumO (it : Addr) (i : Nat) (T : Addr) (o : Obj) : Prop := ∃ old, o = { cls := .type "enumerate", dict := none, data := .fields #[rawInt T, .bool false, .ref it, rawInt i, .none, old], slots := #[] }
def sitP (x : Str) (t : Tok) (i : Nat) (o : Obj) : Prop := o.cls = .type (strIterType x) ∧ o.data = .fields #[.str x t, .int i 0]

section
variable {prog : Program} {w : World} {A : Around} {E : Value → Shared → Prop} {s s0 : Shared} {L : Addr} {l : Locs} {own : Own} {env : Env} {mg mb : Str → Option Value}

theorem draws_str (hh : A.handled = none) (it : Addr) (x : Str) (t : Tok) : Draws prog w A it [it] x.cps.size (fun i v => ∃ c u, x.cps[i]? = some c ∧ v = .str ⟨#[c]⟩ u) (fun i h => h.IsStrIter it (strIterType x) x t i) := by
  unfold strIterType
  by_cases h : x.cps.all (· < 128) = true
  · rw [if_pos h]; exact Draws.strAscii hh it x t
  · rw [if_neg h]; exact Draws.strWide hh it x t
theorem r_enum {x : Str} {t : Tok} {Q : Value → Shared → Prop} (C : Cur s0 L l own s) (h : ∀ e it s', Cur s0 L l ((e, enumP it 0) :: (it, sitP x t 0) :: own) s' → Q (.ref e) s') : wpAny (model prog w) A (call (.type "enumerate") [.str x t]) Q E s := by
  refine call_enumerate_str fun h' he hit hz hk => h _ s.heap.objs.size _ ?_
  refine Cur.turn (old := []) (new := [_, _]) C (fun b o _ e => hk b o e) (fun p hp => ?_) (by simp)
  rcases List.mem_cons.mp hp with rfl | hp
  · exact ⟨⟨_, he, .none, rfl⟩, .inl (none_of_le (Nat.le_succ _))⟩
  · rcases List.mem_cons.mp hp with rfl | hp
    · obtain ⟨o, ho, h1, h2⟩ := hit
      exact ⟨⟨o, ho, h1, h2⟩, .inl (none_of_le (Nat.le_refl _))⟩
    · cases hp
theorem r_nextEnum {e it : Addr} {x : Str} {t : Tok} {i c : Nat} {Q : Option Value → Shared → Prop} (hh : A.handled = none) (C : Cur s0 L l ((e, enumP it i) :: (it, sitP x t i) :: own) s) (hc : x.cps[i]? = some c)
    (h : ∀ T t' u s', Cur s0 L l ((T, tup [.int i t', .str ⟨#[c]⟩ u]) :: (e, enumO it (i + 1) T) :: (it, sitP x t (i + 1)) :: own) s' → Q (some (.ref T)) s') : wpAny (model prog w) A (pyNext (.ref e)) Q E s := by
  obtain ⟨o1, ho1, old, rfl⟩ := C.has _ List.mem_cons_self
  obtain ⟨o2, ho2, hp1, hp2⟩ := C.has _ (List.mem_cons_of_mem _ List.mem_cons_self)
  have hlt : i < x.cps.size := (Array.getElem?_eq_some_iff.mp hc).1
  have nd := C.nd
  simp only [List.map_cons, List.nodup_cons, List.mem_cons, not_or] at nd
  have hne : e ≠ it := nd.1.1
  refine wpAny_pyNext_enum_itemD (draws_str (A := A.in1) hh it x t) ho1 ⟨o2, ho2, hp1, hp2⟩ hlt hne (by simpa using hne) fun x' h' tk hP heo hst ht hz hk => ?_
  obtain ⟨c', u, hc', rfl⟩ := hP
  have : c' = c := by rw [hc] at hc'; cases hc'; rfl
  subst this
  refine h _ tk u _ (Cur.turn (old := [_, _]) (new := [_, _, _]) C (fun b o hb e' => hk b o (Ne.symm (hb _ List.mem_cons_self)) (Ne.symm (hb _ (List.mem_cons_of_mem _ List.mem_cons_self))) e') (fun p hp => ?_) ?_)
  · rcases List.mem_cons.mp hp with rfl | hp
    · exact ⟨⟨_, ht, _, rfl⟩, .inl (none_of_le (Nat.le_refl _))⟩
    · rcases List.mem_cons.mp hp with rfl | hp
      · exact ⟨⟨_, heo, _, rfl⟩, .inr ⟨_, List.mem_cons_self, rfl⟩⟩
      · rcases List.mem_cons.mp hp with rfl | hp
        · obtain ⟨o, h1, h2, h3⟩ := hst
          exact ⟨⟨o, h1, h2, h3⟩, .inr ⟨_, List.mem_cons_of_mem _ List.mem_cons_self, rfl⟩⟩
        · cases hp
  · have h1 : s.heap.objs.size ≠ e := Nat.ne_of_gt (Heap.lt_size ho1)
    have h2 : s.heap.objs.size ≠ it := Nat.ne_of_gt (Heap.lt_size ho2)
    simp [h1, h2, hne]
theorem r_endEnum {e it : Addr} {x : Str} {t : Tok} {i : Nat} {Q : Option Value → Shared → Prop} (hh : A.handled = none) (C : Cur s0 L l ((e, enumP it i) :: (it, sitP x t i) :: own) s) (hi : i = x.cps.size)
    (h : ∀ s', Cur s0 L l own s' → Q none s') : wpAny (model prog w) A (pyNext (.ref e)) Q E s := by
  obtain ⟨o1, ho1, old, rfl⟩ := C.has _ List.mem_cons_self
  obtain ⟨o2, ho2, hp1, hp2⟩ := C.has _ (List.mem_cons_of_mem _ List.mem_cons_self)
  subst hi
  refine wpAny_pyNext_enum_endD (draws_str (A := A.in1) hh it x t) ho1 ⟨o2, ho2, hp1, hp2⟩ fun h' hx => h _ ?_
  exact Cur.turn (old := [_, _]) (new := []) C (fun b o hb e' => hx b o (Ne.symm (hb _ (List.mem_cons_of_mem _ List.mem_cons_self))) e') (fun p hp => by cases hp) (by simp)
theorem r_letEnum {elts : List Expr} {k : Nat} {pos : Pos} {e it T : Addr} {i : Nat} {p : Addr × (Obj → Prop)} {Q : Unit → Shared → Prop} (C : Cur s0 L l (p :: (e, enumO it i T) :: own) s)
    (h : ∀ s', Cur s0 L l (p :: (e, enumP it i) :: own) s' → Q () s') : wpAny (model prog w) A (letOwnedTupleGo (.Tuple elts k pos) (.ref e) (.ref T)) Q E s := by
  obtain ⟨o1, ho1, old, rfl⟩ := C.has _ (List.mem_cons_of_mem _ List.mem_cons_self)
  refine wpAny_letOwnedTupleGo_enum ho1 fun h' he hs => h _ ?_
  exact C.upd (i := 1) (P' := enumP it i) (tk := s.toks) rfl hs.extBut he ⟨old, rfl⟩
theorem r_iterEnum {e it : Addr} {i : Nat} {Q : Value → Shared → Prop} (C : Cur s0 L l ((e, enumP it i) :: own) s) (h : Q (.ref e) s) : wpAny (model prog w) A (pyIter (.ref e)) Q E s := by
  obtain ⟨o1, ho1, old, rfl⟩ := C.has _ List.mem_cons_self
  exact wpAny_pyIter_enum ho1 h
/-- a pair is unpacked into two names -/
theorem r_unpack {x y : Str} {px py pos : Pos} {k : Nat} {T : Addr} {v1 v2 : Value} {Q : Unit → Shared → Prop} (hh : A.handled = none) (C : Cur s0 L l own s) (hm : Sees s0 own T (tup [v1, v2]))
    (h : ∀ s', Cur s0 L l own s' → wpAny (model prog w) A (storeName env x v1) (fun _ s₁ => wpAny (model prog w) A (storeName env y v2) Q E s₁) E s') : wpAny (model prog w) A (assign (.Tuple [.Name x px, .Name y py] k pos) env (.ref T)) Q E s := by
  obtain ⟨o1, ho1, n, rfl⟩ := C.sees hm
  refine wpAny_assign_Tuple hh ⟨_, ho1, rfl, n, rfl⟩ rfl rfl fun h' hx => ?_
  have C1 : Cur s0 L l own { s with heap := h' } := Cur.turn (old := []) (new := []) C (fun b o _ e => hx b o (Nat.ne_of_lt (Heap.lt_size e)) e) (fun p hp => by cases hp) (by simp)
  show wpAny _ A (do holding [v2] (assign (.Name x px) env v1); do holding [] (assign (.Name y py) env v2); pure ()) _ _ _
  refine wpAny_bind (wpAny_holding (wpAny_assign_Name (wpAny_mono (h _ C1) (fun _ s₁ h₁ => ?_) fun _ _ e => e)))
  exact wpAny_bind (wpAny_holding (wpAny_assign_Name (wpAny_mono h₁ (fun _ s₂ h₂ => wpAny_pure h₂) fun _ _ e => e)))
end
end Mine

namespace Mine
section
variable {prog : Program} {w : World} {A : Around} {E : Value → Shared → Prop} {s s0 : Shared} {L : Addr} {l : Locs} {own : Own} {env : Env} {mg mb : Str → Option Value} {Q : Value → Shared → Prop}

/-- y = [elt for target in it], the loop proved by hand -/
theorem r_compAsF {elt iter target : Expr} {y : Str} {py : Pos} {scope : Scope} {cl : List (Str × Addr)} {pos spos : Pos} {Q : Flow → Shared → Prop}
    (hsw : swapsWith (.ListComp elt [⟨target, iter, [], 0⟩] scope pos) (some (.Name y py)) spos.line env = pure true)
    (hclos : closureFor scope env = pure cl) (hcell : ∀ y ∈ scope.names, y.2 ≠ .cell) (hkind : scope.kind = .function) (hnames : ∀ x ∈ scope.names, x.2 = .local → scope.names.lookup x.1 = some .local)
    (hk : env.scope.kind = .function) (hy : env.kindOf y = some .local)
    (h : wpAny (model prog w) A (eval iter env) (fun v s₁ => wpAny (model prog w) A (pyIter v) (fun it s₂ => ∃ (s0 : Shared) (l : Locs) (own₀ : Own) (I : Addr), it = .ref I ∧ Cur s0 env.locals l own₀ s₂ ∧
      (∀ s₃ (Q : Value → Shared → Prop) E, (∀ b o, s₂.heap.get? b = some o → s₃.heap.get? b = some o) → Q (.ref I) s₃ → wpAny (model prog w) A (pyIter (.ref I)) Q E s₃) ∧
      (∀ D Cf s₃, Cur s0 Cf [] ((D, lstX []) :: (env.locals, NsP (Lk l)) :: own₀) s₃ → s₃.gens = s₂.gens →
        codeAny (model prog w) A (.compLoop (.ListComp elt [⟨target, iter, [], 0⟩] scope pos) 0 (.ref I) (.ref D) (compEnvC scope cl Cf env)) (fun r s₄ => r = .ok .next ∧ ∃ (s0' : Shared) (l' : Locs) (lc : Locs) (own : Own), Cur s0' env.locals l' ((Cf, NsP (Lk lc)) :: own) s₄ ∧
          ∀ s₅, Cur s0' env.locals (put y (.ref D) l') own s₅ → Q .next s₅) s₃)) E s₁) E s)
    (hs : ∀ x, foldedSetIterable iter env x = pure x := by intro _; rfl) :
    wpAny (model prog w) A (exec (.Assign [.Name y py] (.ListComp elt [⟨target, iter, [], 0⟩] scope pos) spos) env) Q E s := by
  rw [exec_Assign_Name_used _ _ _ _ hsw]
  refine wpAny_bind (wpAny_standAt (wpAny_bind ?_))
  show wpAny _ A (comprehension (.ListComp elt [⟨target, iter, [], 0⟩] scope pos) scope env (firstIterPos [⟨target, iter, [], 0⟩] pos) (newList []) (firstAsync [⟨target, iter, [], 0⟩]) (firstIter [⟨target, iter, [], 0⟩] env) (some (assign (.Name y py) env)) >>= fun _ => pure ()) _ E s
  refine wpAny_bind (wpAny_comprehension_free (use := some (assign (.Name y py) env)) rfl hs hclos hkind hnames (wpAny_mono h (fun xv s₁ h₁ => wpAny_mono h₁ (fun it s₂ h₂ => ?_) fun _ _ e => e) fun _ _ e => e))
  obtain ⟨s0, l, own₀, I, rfl, C, hself, hloop⟩ := h₂
  refine wpAny_newObj_type ?_ (by size_fits)
  have C1 := C.push (P := lstX []) { cls := .type "list", data := .seq ([] : List Value).toArray } ⟨0, rfl⟩ s₂.toks
  have g1 : ∀ b o, s₂.heap.get? b = some o → (s₂.heap.push { cls := .type "list", data := .seq ([] : List Value).toArray }).get? b = some o := fun b o e => Heap.get?_push_of_some _ e
  generalize hs1 : ({ s₂ with heap := s₂.heap.push { cls := .type "list", data := .seq ([] : List Value).toArray } } : Shared) = s1 at C1
  have g1 : ∀ b o, s₂.heap.get? b = some o → s1.heap.get? b = some o := by rw [← hs1]; exact g1
  have hg1 : s1.gens = s₂.gens := by rw [← hs1]
  generalize hD : s₂.heap.objs.size = D at C1
  refine wpAny_newFunctionEnv hcell (by intro y hy; simp at hy) (fun h₁ hns₁ hsb₁ => ?_) hkind
  have keep2 : ∀ b o, s1.heap.get? b = some o → h₁.get? b = some o := fun b o e => hsb₁.extBut b o (Nat.ne_of_lt (Heap.lt_size e)) (Heap.get?_push_of_some _ e)
  have C2 : Cur s0 env.locals l ((s1.heap.objs.size, NsP (Lk [])) :: (D, lstX []) :: own₀) { s1 with heap := h₁, toks := s1.toks + ([] : List (Str × Value)).length } := by
    obtain ⟨o, ho, hp⟩ := nsP_of hns₁
    exact C1.add (.heap keep2) (none_of_le (Nat.le_refl _)) ho hp
  have C3 := C2.focus.perm (List.Perm.swap _ _ _)
  refine codeAny_compStart_list (codeAny_mono (hloop D _ _ C3 hg1) ?_) (hself _ _ _ (fun b o e => keep2 b o (g1 b o e)) (codeAny_mono (hloop D _ _ C3 hg1) ?_))
  all_goals
    rintro r s₄ ⟨rfl, s0', l', lc, own, C4, hQ⟩
    refine r_as C4 (fun s'' C'' => ?_) rfl hk hy
    obtain ⟨o, ho, hp⟩ := C''.has _ List.mem_cons_self
    exact ⟨_, ns_of ho hp, fun h' hs' => wpAny_pure (wpAny_pure (hQ _ (C''.lose (tk := s''.toks) hs'.extBut)))⟩

theorem r_gmLCount {a : Addr} {vs : List Value} {pl : Sem Bool} {Q : Value × List Value → Shared → Prop} (C : Cur s0 L l own s) (hm : Sees s0 own a (lstX vs)) (h : Q (.builtin "list.count", [.ref a]) s) : wpAny (model prog w) A (getMethod (.ref a) "count" pl) Q E s := by
  obtain ⟨o, h1, n, rfl⟩ := C.sees hm
  exact getMethod_list_of PySem.F.slot_list_count PySem.F.type_list_count ⟨_, h1, rfl, n, rfl⟩ ⟨_, h1, rfl⟩ h
theorem r_lcount {a : Addr} {vs : List Value} {ys : List (List Nat)} {k : List Nat} {t : Tok} (C : Cur s0 L l own s) (hm : Sees s0 own a (lstX vs)) (hi : StrsAre vs (ys.map S)) (h : ∀ t s', Cur s0 L l own s' → Q (.int (ys.count k : Nat) t) s') :
    wpAny (model prog w) A (call (.builtin "list.count") [.ref a, .str (S k) t]) Q E s := by
  obtain ⟨o, h1, h2⟩ := C.sees hm
  refine count_list_strs (lst.isList h1 h2.weak) hi ?_
  have e : ∀ zs : List (List Nat), PySem.Spec.countIn (.str (S k)) ((zs.map S).map PyData.str) = (zs.count k : Nat) := by
    intro zs
    induction zs with
    | nil => rfl
    | cons z zs ih =>
      rw [List.map_cons, List.map_cons]
      unfold PySem.Spec.countIn
      rw [ih, List.count_cons]
      have e : PySem.Spec.same (PyData.str (S z)) (PyData.str (S k)) = (z == k) := by
        show (S z == S k) = (z == k)
        by_cases h : z = k
        · subst h; simp
        · have h2 : ¬ (S z = S k) := by intro e; cases e; exact h rfl
          rw [beq_eq_false_iff_ne.mpr h, beq_eq_false_iff_ne.mpr h2]
      rw [e]
      by_cases h : z = k <;> simp [h] <;> omega
  rw [e]
  exact h _ _ (C.tok _)
end

/-- a list of pairs (place, part) stands at a -/
def PairsAt (h : Heap) (a : Addr) (qs : List (Nat × List Nat)) : Prop := ∃ rs : List Addr, (∃ o, h.get? a = some o ∧ lst (rs.map .ref) o) ∧ rs.length = qs.length ∧ ∀ (i : Nat) r q, rs[i]? = some r → qs[i]? = some q → ∃ o t u, h.get? r = some o ∧ tup [.int q.1 t, .str (S q.2) u] o
noncomputable def pairD (q : Nat × List Nat) : PyData := .tuple [.int q.1, .str (S q.2)]
noncomputable def matD (M : List (List Int)) : PyData := .list (M.map fun r => .list (r.map .int))
theorem readsAll_of {h : Heap} : ∀ {vs : List Value} {ds : List PyData}, vs.length = ds.length → (∀ (i : Nat) v d, vs[i]? = some v → ds[i]? = some d → ∃ as, PySem.Reads h v d as) → ∃ as, ReadsAll h vs ds as
  | [], [], _, _ => ⟨_, .nil⟩
  | v :: vs, d :: ds, hl, hp => by
    obtain ⟨as, h1⟩ := hp 0 v d rfl rfl
    obtain ⟨bs, h2⟩ := readsAll_of (vs := vs) (ds := ds) (by simpa using hl) fun i v d e1 e2 => hp (i + 1) v d e1 e2
    exact ⟨_, .cons h1 h2⟩
theorem map_at {α β : Type} {f : α → β} {l : List α} {i : Nat} {y : β} (h : (l.map f)[i]? = some y) : ∃ x, l[i]? = some x ∧ y = f x := by
  rw [List.getElem?_map] at h
  cases e : l[i]? with
  | none => rw [e] at h; cases h
  | some x => rw [e] at h; cases h; exact ⟨x, rfl, rfl⟩
theorem PairsAt.reads {h : Heap} {a : Addr} {qs : List (Nat × List Nat)} (p : PairsAt h a qs) : ∃ as, PySem.Reads h (.ref a) (.list (qs.map pairD)) as := by
  obtain ⟨rs, ⟨o, ho, hc, n, hd⟩, hl, hp⟩ := p
  obtain ⟨as, hr⟩ := readsAll_of (h := h) (vs := rs.map .ref) (ds := qs.map pairD) (by simpa using hl) fun i v d e1 e2 => by
    obtain ⟨r, hr, rfl⟩ := map_at e1
    obtain ⟨q, hq, rfl⟩ := map_at e2
    obtain ⟨o, t, u, h1, n, rfl⟩ := hp i r q hr hq
    exact ⟨_, .tuple h1 rfl rfl (.cons (.int _ _) (.cons (.str _ _) .nil))⟩
  exact ⟨_, .list ho hc hd hr⟩
theorem ints_reads {h : Heap} : ∀ {vs : List Value} {ns : List Int}, IntsAre vs ns → ∃ as, ReadsAll h vs (ns.map .int) as
  | _, _, .nil => ⟨_, .nil⟩
  | _, _, .cons n t r => let ⟨as, h⟩ := ints_reads r; ⟨_, .cons (.int n t) h⟩
theorem Mat.reads {h : Heap} {a : Addr} {M : List (List Int)} (p : Mat h a M) : ∃ as, PySem.Reads h (.ref a) (matD M) as := by
  obtain ⟨rs, ⟨o, ho, hc, n, hd⟩, hl, hp⟩ := p
  obtain ⟨as, hr⟩ := readsAll_of (h := h) (vs := rs.map .ref) (ds := M.map fun r => .list (r.map .int)) (by simpa using hl) fun i v d e1 e2 => by
    obtain ⟨r, hr, rfl⟩ := map_at e1
    obtain ⟨row, hq, rfl⟩ := map_at e2
    obtain ⟨o, h1, vs, hi, hc, n, hd⟩ := hp i r hr
    rw [List.getD_eq_getElem?_getD, hq] at hi
    obtain ⟨as, h2⟩ := ints_reads (h := h) hi
    exact ⟨_, .list h1 hc hd h2⟩
  exact ⟨_, .list ho hc hd hr⟩
theorem canAll_of : ∀ {ds : List PyData}, (∀ d ∈ ds, d.canLay0 = true) → PyData.canLayAll0 ds = true
  | [], _ => rfl
  | d :: ds, h => by
    unfold PyData.canLayAll0
    rw [h d List.mem_cons_self, canAll_of fun d hd => h d (List.mem_cons_of_mem _ hd)]; rfl
theorem depthAll_of {k : Nat} : ∀ {ds : List PyData}, (∀ d ∈ ds, d.depth ≤ k) → PyData.depthAll ds ≤ k
  | [], _ => Nat.zero_le _
  | d :: ds, h => by
    unfold PyData.depthAll
    exact Nat.max_le.mpr ⟨h d List.mem_cons_self, depthAll_of fun d hd => h d (List.mem_cons_of_mem _ hd)⟩
theorem matD_can (M : List (List Int)) : (matD M).canLay0 = true := by
  unfold matD PyData.canLay0
  refine canAll_of fun d hd => ?_
  obtain ⟨r, _, rfl⟩ := List.mem_map.mp hd
  unfold PyData.canLay0
  refine canAll_of fun d hd => ?_
  obtain ⟨i, _, rfl⟩ := List.mem_map.mp hd
  rfl
theorem matD_depth (M : List (List Int)) : (matD M).depth ≤ 2 := by
  unfold matD PyData.depth
  refine Nat.succ_le_succ (depthAll_of fun d hd => ?_)
  obtain ⟨r, _, rfl⟩ := List.mem_map.mp hd
  unfold PyData.depth
  refine Nat.succ_le_succ (depthAll_of fun d hd => ?_)
  obtain ⟨i, _, rfl⟩ := List.mem_map.mp hd
  exact Nat.le_refl _
theorem pairsD_can {qs : List (Nat × List Nat)} (h : ∀ q ∈ qs, ∀ c ∈ q.2, c < 128) : (PyData.list (qs.map pairD)).canLay0 = true := by
  unfold PyData.canLay0
  refine canAll_of fun d hd => ?_
  obtain ⟨q, hq, rfl⟩ := List.mem_map.mp hd
  unfold pairD PyData.canLay0
  refine canAll_of fun d hd => ?_
  rcases List.mem_cons.mp hd with rfl | hd
  · rfl
  · rcases List.mem_cons.mp hd with rfl | hd
    · unfold PyData.canLay0 PyData.strOk
      rw [List.all_toArray, List.all_eq_true]
      intro c hc
      have := h q hq c hc
      simp; omega
    · cases hd
theorem pairsD_depth (qs : List (Nat × List Nat)) : (PyData.list (qs.map pairD)).depth ≤ 2 := by
  unfold PyData.depth
  refine Nat.succ_le_succ (depthAll_of fun d hd => ?_)
  obtain ⟨q, hq, rfl⟩ := List.mem_map.mp hd
  unfold pairD PyData.depth
  refine Nat.succ_le_succ (depthAll_of fun d hd => ?_)
  rcases List.mem_cons.mp hd with rfl | hd
  · exact Nat.le_refl _
  · rcases List.mem_cons.mp hd with rfl | hd
    · exact Nat.le_refl _
    · cases hd
section
variable {prog : Program} {w : World} {A : Around} {E : Value → Shared → Prop} {s : Shared} {Q : Value → Shared → Prop}
theorem r_pairsNe {a b : Addr} {qs : List (Nat × List Nat)} (h1 : PairsAt s.heap a qs) (h2 : PairsAt s.heap b qs) (hq : ∀ q ∈ qs, ∀ c ∈ q.2, c < 128) (hu : A.units + 2 < cLine) (h : Q (.bool false) s) : wpAny (model prog w) A (compareOp .NotEq (.ref a) (.ref b)) Q E s := by
  obtain ⟨as, r1⟩ := h1.reads
  obtain ⟨bs, r2⟩ := h2.reads
  have hd := pairsD_depth qs
  refine SeqAt.compareNe_reads r1 r2 (pairsD_can hq) (pairsD_can hq) (by omega) ?_
  rw [SeqAt.eqv_refl _ (pairsD_can hq)]
  exact h
theorem r_matEq {a b : Addr} {M : List (List Int)} (h1 : Mat s.heap a M) (h2 : Mat s.heap b M) (hu : A.units + 2 < cLine) (h : Q (.bool true) s) : wpAny (model prog w) A (compareOp .Eq (.ref a) (.ref b)) Q E s := by
  obtain ⟨as, r1⟩ := h1.reads
  obtain ⟨bs, r2⟩ := h2.reads
  have hd := matD_depth M
  refine SeqAt.compareEq_reads r1 r2 (matD_can M) (matD_can M) (by omega) ?_
  rw [SeqAt.eqv_refl _ (matD_can M)]
  exact h
end
end Mine

namespace Mine

def zipP (TI TO : Addr) (f0 : Value) (o : Obj) : Prop := o = { cls := .type "zip", dict := none, data := .fields #[f0, .bool false, .bool false, .ref TI, .ref TO], slots := #[] }
def pairP (a b : Value) (o : Obj) : Prop := o = { cls := .type "tuple", data := .seq #[a, b] }
def pairA (o : Obj) : Prop := ∃ a b, pairP a b o
noncomputable abbrev zown (zz TI TO i1 i2 l1 l2 : Addr) (f0 : Value) (k : Nat) : Own := [(zz, zipP TI TO f0), (TI, pairP (.ref i1) (.ref i2)), (TO, pairA), (i1, lstIt l1 k), (i2, lstIt l2 k)]
theorem zown_apart {s0 s : Shared} {L : Addr} {l : Locs} {own : Own} {zz TI TO i1 i2 l1 l2 : Addr} {f0 : Value} {k : Nat} {o1 o2 : Obj} (C : Cur s0 L l (zown zz TI TO i1 i2 l1 l2 f0 k ++ own) s) (h1 : s0.heap.get? l1 = some o1) (h2 : s0.heap.get? l2 = some o2) : ZipApart zz TI TO i1 i2 l1 l2 := by
  have nd := C.nd
  simp only [List.map_append, List.map_cons, List.map_nil, List.cons_append, List.nil_append, List.nodup_cons, List.mem_cons, not_or, List.mem_append] at nd
  obtain ⟨⟨a1, a2, a3, a4, _⟩, ⟨b1, b2, b3, _⟩, ⟨c1, c2, _⟩, ⟨d1, _⟩, _⟩ := nd
  have hn1 : ∀ p ∈ zown zz TI TO i1 i2 l1 l2 f0 k, l1 ≠ p.1 := fun p hp e => by
    have := C.new p (List.mem_append_left _ hp)
    rw [← e, h1] at this; cases this
  have hn2 : ∀ p ∈ zown zz TI TO i1 i2 l1 l2 f0 k, l2 ≠ p.1 := fun p hp e => by
    have := C.new p (List.mem_append_left _ hp)
    rw [← e, h2] at this; cases this
  exact ⟨Ne.symm a1, Ne.symm a2, Ne.symm a3, Ne.symm a4, b1, b2, b3, c1, c2, d1, hn1 (zz, zipP TI TO f0) (by simp), hn1 (TO, pairA) (by simp), hn1 (i1, lstIt l1 k) (by simp), hn1 (i2, lstIt l2 k) (by simp), hn2 (zz, zipP TI TO f0) (by simp), hn2 (TO, pairA) (by simp), hn2 (i1, lstIt l1 k) (by simp), hn2 (i2, lstIt l2 k) (by simp)⟩

section
variable {prog : Program} {w : World} {A : Around} {E : Value → Shared → Prop} {s s0 : Shared} {L : Addr} {l : Locs} {own : Own} {env : Env} {zz TI TO i1 i2 l1 l2 : Addr} {xs ys : List Value} {k : Nat}
theorem r_zip {Q : Value → Shared → Prop} (C : Cur s0 L l own s) (h1 : ∃ o, s0.heap.get? l1 = some o ∧ lst xs o) (h2 : ∃ o, s0.heap.get? l2 = some o ∧ lst ys o)
    (h : ∀ zz TI TO i1 i2 s', Cur s0 L l (zown zz TI TO i1 i2 l1 l2 .none 0 ++ own) s' → Q (.ref zz) s') : wpAny (model prog w) A (call (.type "zip") [.ref l1, .ref l2]) Q E s := by
  obtain ⟨o1, ho1, hp1⟩ := h1
  obtain ⟨o2, ho2, hp2⟩ := h2
  refine call_zip_2 (lst.isList (C.grow.keep _ _ ho1) hp1) (lst.isList (C.grow.keep _ _ ho2) hp2) fun h' hz hTI hTO hit1 hit2 hsz hk => ?_
  refine h _ (s.heap.objs.size + 2) (s.heap.objs.size + 3) s.heap.objs.size (s.heap.objs.size + 1) _ ?_
  refine Cur.turn (old := []) C (fun b o _ e => hk b o e) (fun p hp => ?_) ?_
  · simp only [zown, List.mem_cons, List.not_mem_nil, or_false] at hp
    rcases hp with rfl | rfl | rfl | rfl | rfl
    · exact ⟨⟨_, hz, rfl⟩, .inl (none_of_le (by simp))⟩
    · exact ⟨⟨_, hTI, rfl⟩, .inl (none_of_le (by simp))⟩
    · exact ⟨⟨_, hTO, _, _, rfl⟩, .inl (none_of_le (by simp))⟩
    · exact ⟨let ⟨o, a, b, c⟩ := hit1; ⟨o, a, b, c⟩, .inl (none_of_le (by simp))⟩
    · exact ⟨let ⟨o, a, b, c⟩ := hit2; ⟨o, a, b, c⟩, .inl (none_of_le (by simp))⟩
  · simp
theorem r_nextZip {x y : Value} {Q : Option Value → Shared → Prop} (C : Cur s0 L l (zown zz TI TO i1 i2 l1 l2 .none k ++ own) s) (h1 : ∃ o, s0.heap.get? l1 = some o ∧ lst xs o) (h2 : ∃ o, s0.heap.get? l2 = some o ∧ lst ys o) (hx : xs[k]? = some x) (hy : ys[k]? = some y)
    (h : ∀ T s', Cur s0 L l ((T, tup [x, y]) :: (zown zz TI TO i1 i2 l1 l2 (rawInt T) (k + 1) ++ own)) s' → Q (some (.ref T)) s') : wpAny (model prog w) A (pyNext (.ref zz)) Q E s := by
  obtain ⟨o1, ho1, hp1⟩ := h1
  obtain ⟨o2, ho2, hp2⟩ := h2
  have D := zown_apart C ho1 ho2
  obtain ⟨oz, hoz, rfl⟩ := C.has (zz, _) (List.mem_cons_self)
  obtain ⟨oi, hoi, rfl⟩ := C.has (TI, _) (List.mem_cons_of_mem _ List.mem_cons_self)
  obtain ⟨oo, hoo, a, b, rfl⟩ := C.has (TO, _) (List.mem_cons_of_mem _ (List.mem_cons_of_mem _ List.mem_cons_self))
  obtain ⟨oa, hoa, ha1, ha2⟩ := C.has (i1, lstIt l1 k) (by simp)
  obtain ⟨ob, hob, hb1, hb2⟩ := C.has (i2, lstIt l2 k) (by simp)
  refine wpAny_pyNext_zip_item D hoz hoi hoo ⟨oa, hoa, ha1, ha2⟩ ⟨ob, hob, hb1, hb2⟩ (lst.isList (C.grow.keep _ _ ho1) hp1) (lst.isList (C.grow.keep _ _ ho2) hp2) (by simpa using hx) (by simpa using hy) fun h' hz' hTO' hit1 hit2 hT hsz hk => ?_
  refine h _ _ (Cur.turn (old := zown zz TI TO i1 i2 l1 l2 .none k) (new := (s.heap.objs.size, _) :: zown zz TI TO i1 i2 l1 l2 (rawInt s.heap.objs.size) (k + 1)) C (fun b o hb e => hk b o (Ne.symm (hb (zz, zipP TI TO .none) (by simp))) (Ne.symm (hb (TO, pairA) (by simp))) (Ne.symm (hb (i1, lstIt l1 k) (by simp))) (Ne.symm (hb (i2, lstIt l2 k) (by simp))) e) (fun p hp => ?_) ?_)
  · simp only [zown, List.mem_cons, List.not_mem_nil, or_false] at hp
    rcases hp with rfl | rfl | rfl | rfl | rfl | rfl
    · exact ⟨⟨_, hT, _, rfl⟩, .inl (none_of_le (Nat.le_refl _))⟩
    · exact ⟨⟨_, hz', rfl⟩, .inr ⟨(zz, zipP TI TO .none), by simp, rfl⟩⟩
    · exact ⟨⟨_, hk TI _ D.TIz D.TITO D.TIi1 D.TIi2 hoi, rfl⟩, .inr ⟨(TI, pairP (.ref i1) (.ref i2)), by simp, rfl⟩⟩
    · exact ⟨⟨_, hTO', _, _, rfl⟩, .inr ⟨(TO, pairA), by simp, rfl⟩⟩
    · exact ⟨let ⟨o, a, b, c⟩ := hit1; ⟨o, a, b, c⟩, .inr ⟨(i1, lstIt l1 k), by simp, rfl⟩⟩
    · exact ⟨let ⟨o, a, b, c⟩ := hit2; ⟨o, a, b, c⟩, .inr ⟨(i2, lstIt l2 k), by simp, rfl⟩⟩
  · have lz := Nat.ne_of_gt (Heap.lt_size hoz)
    have lti := Nat.ne_of_gt (Heap.lt_size hoi)
    have lto := Nat.ne_of_gt (Heap.lt_size hoo)
    have l1' := Nat.ne_of_gt (Heap.lt_size hoa)
    have l2' := Nat.ne_of_gt (Heap.lt_size hob)
    simp [lz, lti, lto, l1', l2', D.TIz.symm, D.TOz.symm, D.i1z.symm, D.i2z.symm, D.TITO, D.TIi1, D.TIi2, D.TOi1, D.TOi2, D.i12]
theorem r_endZip {Q : Option Value → Shared → Prop} (hh : A.handled = none) (C : Cur s0 L l (zown zz TI TO i1 i2 l1 l2 .none k ++ own) s) (h1 : ∃ o, s0.heap.get? l1 = some o ∧ lst xs o) (h2 : ∃ o, s0.heap.get? l2 = some o ∧ lst ys o) (hx : xs[k]? = none)
    (h : ∀ s', Cur s0 L l own s' → Q none s') : wpAny (model prog w) A (pyNext (.ref zz)) Q E s := by
  obtain ⟨o1, ho1, hp1⟩ := h1
  obtain ⟨o2, ho2, hp2⟩ := h2
  have D := zown_apart C ho1 ho2
  obtain ⟨oz, hoz, rfl⟩ := C.has (zz, _) (List.mem_cons_self)
  obtain ⟨oi, hoi, rfl⟩ := C.has (TI, _) (List.mem_cons_of_mem _ List.mem_cons_self)
  obtain ⟨oo, hoo, a, b, rfl⟩ := C.has (TO, _) (List.mem_cons_of_mem _ (List.mem_cons_of_mem _ List.mem_cons_self))
  obtain ⟨oa, hoa, ha1, ha2⟩ := C.has (i1, lstIt l1 k) (by simp)
  obtain ⟨ob, hob, hb1, hb2⟩ := C.has (i2, lstIt l2 k) (by simp)
  refine wpAny_pyNext_zip_end hh D hoz hoi hoo ⟨oa, hoa, ha1, ha2⟩ ⟨ob, hob, hb1, hb2⟩ (lst.isList (C.grow.keep _ _ ho1) hp1) (lst.isList (C.grow.keep _ _ ho2) hp2) (.inl (by simpa using hx)) fun h' hk => h _ ?_
  exact Cur.turn (old := zown zz TI TO i1 i2 l1 l2 .none k) (new := []) C (fun b o hb e => hk b o (Ne.symm (hb (zz, zipP TI TO .none) (by simp))) (Ne.symm (hb (TO, pairA) (by simp))) (Ne.symm (hb (i1, lstIt l1 k) (by simp))) (Ne.symm (hb (i2, lstIt l2 k) (by simp))) e) (fun p hp => by cases hp) (by simp)
theorem r_letZip {elts : List Expr} {kk : Nat} {pos : Pos} {T : Addr} {p : Addr × (Obj → Prop)} {Q : Unit → Shared → Prop} (C : Cur s0 L l (p :: (zown zz TI TO i1 i2 l1 l2 (rawInt T) k ++ own)) s)
    (h : ∀ s', Cur s0 L l (p :: (zown zz TI TO i1 i2 l1 l2 .none k ++ own)) s' → Q () s') : wpAny (model prog w) A (letOwnedTupleGo (.Tuple elts kk pos) (.ref zz) (.ref T)) Q E s := by
  obtain ⟨oz, hoz, rfl⟩ := C.has (zz, _) (List.mem_cons_of_mem _ List.mem_cons_self)
  refine wpAny_letOwnedTupleGo_zip hoz fun h' hz hs => h _ ?_
  exact C.upd (i := 1) (P' := zipP TI TO .none) (tk := s.toks) rfl hs.extBut hz rfl
theorem r_iterZip {f0 : Value} {Q : Value → Shared → Prop} (C : Cur s0 L l (zown zz TI TO i1 i2 l1 l2 f0 k ++ own) s) (h : Q (.ref zz) s) : wpAny (model prog w) A (pyIter (.ref zz)) Q E s := by
  obtain ⟨oz, hoz, rfl⟩ := C.has (zz, _) (List.mem_cons_self)
  exact wpAny_pyIter_zip hoz h
end
end Mine

namespace Mine
section
variable {prog : Program} {w : World} {A : Around} {E : Value → Shared → Prop} {s s0 : Shared} {L : Addr} {l : Locs} {own : Own} {env : Env} {mg mb : Str → Option Value} {Q : Value → Shared → Prop}

theorem ints_snoc' : ∀ {vs : List Value} {ns : List Int} {a b : Int} {t : Tok}, IntsAre vs ns → a = b → IntsAre (vs ++ [.int a t]) (ns ++ [b])
  | _, _, a, _, t, .nil, e => by subst e; exact .cons a t .nil
  | _, _, _, _, _, .cons m u h, e => .cons m u (ints_snoc' h e)

theorem Pull.ints (hh : A.handled = none) (I a : Addr) (ns : List Int) : Pull prog w A I ns.length (lstIt a) (fun s0' own => Sees s0' own a (intL ns)) (fun i v => ∃ n t, ns[i]? = some n ∧ v = .int n t) := by
  refine ⟨fun i s0 s L l own Q E hi C hd h => ?_, fun s0 s L l own Q E C hd h => ?_, fun i s0 s L l own Q E C h => ?_⟩
  · obtain ⟨o, ho, hp⟩ := C.has _ List.mem_cons_self
    obtain ⟨o2, ho2, vs, hi2, hp2⟩ := C.tail.sees hd
    have hn : ns[i]? = some ns[i] := List.getElem?_eq_getElem hi
    obtain ⟨t, ht⟩ := hi2.get _ _ hn
    refine wpAny_pyNext_list_item (i := i) ⟨o, ho, hp.1, hp.2⟩ (lst.isList ho2 hp2) (x := .int ns[i] t) (by simpa using ht) fun h' hit hs => ?_
    obtain ⟨o3, ho3, hc3, hd3⟩ := hit
    exact h _ _ ⟨_, t, hn, rfl⟩ (C.upd (i := 0) (P' := lstIt a (i + 1)) (tk := s.toks) rfl hs.extBut ho3 ⟨hc3, hd3⟩)
  · obtain ⟨o, ho, hp⟩ := C.has _ List.mem_cons_self
    obtain ⟨o2, ho2, vs, hi2, hp2⟩ := C.tail.sees hd
    have := hi2.length
    exact wpAny_pyNext_list_end hh ⟨o, ho, hp.1, hp.2⟩ (lst.isList ho2 hp2) (by simp; omega) fun h' hx => h _ (C.lose (tk := s.toks) hx)
  · obtain ⟨o, ho, hp⟩ := C.has _ List.mem_cons_self
    exact wpAny_pyIter_listiter (i := i) ⟨o, ho, hp.1, hp.2⟩ h
theorem r_intsIter {ax : Addr} {ns : List Int} (C : Cur s0 L l own s) (hd : Sees s0 own ax (intL ns)) (h : ∀ I s', Cur s0 L l ((I, lstIt ax 0) :: own) s' → Q (.ref I) s') : wpAny (model prog w) A (pyIter (.ref ax)) Q E s := by
  obtain ⟨o2, ho2, vs, hi, hp2⟩ := C.sees hd
  exact wpAny_pyIter_list (lst.isList ho2 hp2) (h _ _ (C.push (P := lstIt ax 0) _ ⟨rfl, rfl⟩ _))

inductive IntsS (prog : Program) (w : World) (A : Around) (env : Env) (elt : Expr) (x : Str) (scope : Scope) (cl : List (Str × Addr)) (y : Str) (Q : Flow → Shared → Prop) (v : Value) (s₁ : Shared) : Prop where
  | mk (s0 : Shared) (l : Locs) (own₀ : Own) (a : Addr) (ns : List Int) (f : Int → Int)
    (h0 : v = .ref a)
    (h1 : Cur s0 env.locals l own₀ s₁)
    (h2 : Sees s0 own₀ a (intL ns))
    (h3 : ns.length < 2 ^ 20)
    (h4 : ∀ n t s (E : Value → Shared → Prop) Cf lc D I i ys, n ∈ ns → Cur s0 Cf (put x (.int n t) lc) ((I, lstIt a (i + 1)) :: (D, lstX ys) :: (env.locals, NsP (Lk l)) :: own₀) s →
        wpAny (model prog w) A (eval elt (compEnvC scope cl Cf env)) (fun y s₃ => ∃ t', y = .int (f n) t' ∧ ∃ lc', Cur s0 Cf lc' ((I, lstIt a (i + 1)) :: (D, lstX ys) :: (env.locals, NsP (Lk l)) :: own₀) s₃) E s)
    (h5 : ∀ D s', Cur s0 env.locals (put y (.ref D) l) ((D, intL (ns.map f)) :: own₀) s' → Q .next s') : IntsS prog w A env elt x scope cl y Q v s₁
/-- y = [f x for x in ints], y a local -/
theorem r_compIntsAs {elt iter : Expr} {x y : Str} {px py : Pos} {scope : Scope} {cl : List (Str × Addr)} {pos spos : Pos} {Q : Flow → Shared → Prop}
    (hsw : swapsWith (.ListComp elt [⟨.Name x px, iter, [], 0⟩] scope pos) (some (.Name y py)) spos.line env = pure true)
    (hclos : closureFor scope env = pure cl) (hcell : ∀ y ∈ scope.names, y.2 ≠ .cell) (hkind : scope.kind = .function) (hnames : ∀ x ∈ scope.names, x.2 = .local → scope.names.lookup x.1 = some .local) (hx : scope.names.lookup x = some .local)
    (hk : env.scope.kind = .function) (hy : env.kindOf y = some .local) (hh : A.handled = none)
    (h : wpAny (model prog w) A (eval iter env) (IntsS prog w A env elt x scope cl y Q) E s)
    (hs : ∀ x, foldedSetIterable iter env x = pure x := by intro _; rfl) :
    wpAny (model prog w) A (exec (.Assign [.Name y py] (.ListComp elt [⟨.Name x px, iter, [], 0⟩] scope pos) spos) env) Q E s := by
  refine r_compAs hsw hclos hcell hkind hnames hx hk hy (wpAny_mono h (fun v s₁ h₁ => ?_) fun _ _ e => e) hs
  obtain ⟨s0, l, own₀, a, ns, f, rfl, C, hsee, hlen, turn, fin⟩ := h₁
  obtain ⟨o, ho, vs, hi, hl⟩ := C.sees hsee
  have hvl := hi.length
  have C' : ∃ own₁, own₁ = own₀ := ⟨_, rfl⟩
  refine wpAny_pyIter_list (lst.isList ho hl) ?_
  have C1 := C.push (P := lstIt a 0) { cls := .type "list_iterator", data := .fields #[.ref a, .int 0 0] } ⟨rfl, rfl⟩ s₁.toks
  refine ⟨s0, l, own₀, _, ns.length, lstIt a, fun s0' own => Sees s0' own a (intL ns), fun i v => ∃ n t, ns[i]? = some n ∧ v = .int n t, fun i ys own => own = own₀ ∧ IntsAre ys ((ns.take i).map f), rfl, C1, ?_, ⟨rfl, .nil⟩, hlen, ?_, ?_, ?_⟩
  · exact Pull.ints hh _ a ns
  · rintro i ys own D ⟨rfl, _⟩
    rcases hsee with h | h
    · exact .inl h
    · exact .inr (List.mem_cons_of_mem _ (List.mem_cons_of_mem _ h))
  · rintro i ys own v s E Cf lc D hi' ⟨rfl, hys⟩ ⟨n, t, hn, rfl⟩ C
    refine wpAny_mono (turn n t s E Cf lc D _ i ys (List.mem_of_getElem? hn) C) (fun y s₃ h₃ => ?_) fun _ _ e => e
    obtain ⟨t', rfl, lc', C₃⟩ := h₃
    refine ⟨lc', _, ⟨rfl, ?_⟩, C₃⟩
    rw [List.take_add_one, hn, List.map_append]
    exact ints_snoc' hys rfl
  · rintro D ys own s' hl' ⟨rfl, hys⟩ C
    rw [List.take_length] at hys
    exact fin D s' (C.imp (i := 0) (P' := intL (ns.map f)) rfl (fun o ho => ⟨_, hys, lstX.weak _ ho⟩))

inductive IntsV (prog : Program) (w : World) (A : Around) (env : Env) (elt : Expr) (x : Str) (scope : Scope) (cl : List (Str × Addr)) (Q : Value → Shared → Prop) (v : Value) (s₁ : Shared) : Prop where
  | mk (s0 : Shared) (L : Addr) (l : Locs) (own₀ : Own) (a : Addr) (ns : List Int) (f : Int → Int)
    (h0 : v = .ref a)
    (h1 : Cur s0 L l own₀ s₁)
    (h2 : Sees s0 own₀ a (intL ns))
    (h3 : ns.length < 2 ^ 20)
    (h4 : ∀ n t s (E : Value → Shared → Prop) Cf lc D I i ys, n ∈ ns → Cur s0 Cf (put x (.int n t) lc) ((I, lstIt a (i + 1)) :: (D, lstX ys) :: (L, NsP (Lk l)) :: own₀) s →
        wpAny (model prog w) A (eval elt (compEnvC scope cl Cf env)) (fun y s₃ => ∃ t', y = .int (f n) t' ∧ ∃ lc', Cur s0 Cf lc' ((I, lstIt a (i + 1)) :: (D, lstX ys) :: (L, NsP (Lk l)) :: own₀) s₃) E s)
    (h5 : ∀ D s', Cur s0 L l ((D, intL (ns.map f)) :: own₀) s' → Q (.ref D) s') : IntsV prog w A env elt x scope cl Q v s₁
/-- [f x for x in ints] as a value -/
theorem r_compInts {elt iter : Expr} {x : Str} {px : Pos} {scope : Scope} {cl : List (Str × Addr)} {pos : Pos}
    (hclos : closureFor scope env = pure cl) (hcell : ∀ y ∈ scope.names, y.2 ≠ .cell) (hkind : scope.kind = .function) (hnames : ∀ x ∈ scope.names, x.2 = .local → scope.names.lookup x.1 = some .local) (hx : scope.names.lookup x = some .local) (hh : A.handled = none)
    (h : wpAny (model prog w) A (eval iter env) (IntsV prog w A env elt x scope cl Q) E s)
    (hs : ∀ x, foldedSetIterable iter env x = pure x := by intro _; rfl) :
    wpAny (model prog w) A (eval (.ListComp elt [⟨.Name x px, iter, [], 0⟩] scope pos) env) Q E s := by
  refine r_comp hclos hcell hkind hnames hx (wpAny_mono h (fun v s₁ h₁ => ?_) fun _ _ e => e) hs
  obtain ⟨s0, L, l, own₀, a, ns, f, rfl, C, hsee, hlen, turn, fin⟩ := h₁
  obtain ⟨o, ho, vs, hi, hl⟩ := C.sees hsee
  have hvl := hi.length
  refine wpAny_pyIter_list (lst.isList ho hl) ?_
  have C1 := C.push (P := lstIt a 0) { cls := .type "list_iterator", data := .fields #[.ref a, .int 0 0] } ⟨rfl, rfl⟩ s₁.toks
  refine ⟨s0, L, l, own₀, _, ns.length, lstIt a, fun s0' own => Sees s0' own a (intL ns), fun i v => ∃ n t, ns[i]? = some n ∧ v = .int n t, fun i ys own => own = own₀ ∧ IntsAre ys ((ns.take i).map f), rfl, C1, ?_, ⟨rfl, .nil⟩, hlen, ?_, ?_, ?_⟩
  · exact Pull.ints hh _ a ns
  · rintro i ys own D ⟨rfl, _⟩
    rcases hsee with h | h
    · exact .inl h
    · exact .inr (List.mem_cons_of_mem _ (List.mem_cons_of_mem _ h))
  · rintro i ys own v s E Cf lc D hi' ⟨rfl, hys⟩ ⟨n, t, hn, rfl⟩ C
    refine wpAny_mono (turn n t s E Cf lc D _ i ys (List.mem_of_getElem? hn) C) (fun y s₃ h₃ => ?_) fun _ _ e => e
    obtain ⟨t', rfl, lc', C₃⟩ := h₃
    refine ⟨lc', _, ⟨rfl, ?_⟩, C₃⟩
    rw [List.take_add_one, hn, List.map_append]
    exact ints_snoc' hys rfl
  · rintro D ys own s' hl' ⟨rfl, hys⟩ C
    rw [List.take_length] at hys
    exact fin D s' (C.imp (i := 0) (P' := intL (ns.map f)) rfl (fun o ho => ⟨_, hys, lstX.weak _ ho⟩))

theorem enterCA {R : Result → Shared → Prop} {d : DefRec} {a : Addr} {args : List Value} {binds : List (Str × Value)} {k : Nat} (cells : Addr → List (Addr × Option Value)) (B : Base mg mb s.heap) (hd : d ∈ recsOf pw) (ha : mg d.name = some (.ref a)) (hroom : Room A (k + 1))
    (hbind : ∀ pm cd doc, bindArgs (docDef d.name d.params d.body d.scope pm cd doc) ⟨args, []⟩ = pure binds)
    (hkind : (binds.all fun y => d.scope.names.lookup y.1 == some .local || d.scope.names.lookup y.1 == some .cell) = true)
    (hl : ∀ L cd, bindL (envOfC d.name d.scope L a cd).kindOf binds (fun _ => none) = Lk l)
    (hcells : ∀ L cd, (cellsFrom (L + 1) d.scope.names []).map (fun p => (p.2, bindC (envOfC d.name d.scope L a cd).kindOf binds (fun _ => none) p.1)) = cells L)
    (hnd : ((cellsFrom 0 d.scope.names []).map (·.1)).Nodup)
    (h : ∀ L cd A1 s', Room A1 k → Cur s L l ((cells L).map fun p => (p.1, cellP p.2)) s' → wpAny (model prog w) A1 (execs d.body (envOfC d.name d.scope L a cd)) (fun f s' => R (.ok (.ret (match f with | .ret v => v | _ => .none))) s') (fun _ _ => False) s')
    (hco : d.scope.isCoroutine = false) (hgen : d.scope.isGenerator = false) (hk : d.scope.kind = .function) : codeAny (model prog w) A (.call (.ref a) ⟨args, []⟩) R s :=
  enterC cells B hd ha (hroom.le (by omega)) hbind hkind hl hcells hnd (fun L cd s' C => h L cd _ s' (hroom.deeper _) C) hco hgen hk
theorem Base.adr {h : Heap} (B : Base mg mb h) {d : DefRec} (hd : d ∈ recsOf pw) : ∃ f, mg d.name = some (.ref f) := let ⟨a, _, _, _, _, h1, _⟩ := B.fn d hd; ⟨a, h1⟩
theorem ints_app : ∀ {vs ws : List Value} {ns ms : List Int}, IntsAre vs ns → IntsAre ws ms → IntsAre (vs ++ ws) (ns ++ ms)
  | _, _, _, _, .nil, h => h
  | _, _, _, _, .cons n t r, h => .cons n t (ints_app r h)
theorem ints_drop : ∀ {vs : List Value} {ns : List Int} (k : Nat), IntsAre vs ns → IntsAre (vs.drop k) (ns.drop k)
  | _, _, 0, h => h
  | _, _, _ + 1, .nil => .nil
  | _, _, k + 1, .cons _ _ r => ints_drop k r
theorem ints_take : ∀ {vs : List Value} {ns : List Int} (k : Nat), IntsAre vs ns → IntsAre (vs.take k) (ns.take k)
  | _, _, 0, _ => .nil
  | _, _, _ + 1, .nil => .nil
  | _, _, k + 1, .cons n t r => .cons n t (ints_take k r)
theorem ints_cut {vs : List Value} {ns : List Int} (lo hi : Option Int) (h : IntsAre vs ns) : IntsAre (cut lo hi vs) (cut lo hi ns) := by
  rw [cut_eq, cut_eq, h.length]
  exact ints_take _ (ints_drop _ h)
theorem r_sliceI {value slice : Expr} {a sl : Addr} {ns : List Int} {vl vu : Value} {lo hi : Option Int} (C : Cur s0 L l own s) (hs : Sees s0 own a (intL ns)) (hm : (sl, sliceP vl vu) ∈ own) (pl : IsPart vl lo) (pu : IsPart vu hi) (hw : Within lo hi) (hn : ns.length ≤ 100000)
    (h : ∀ b s', Cur s0 L l ((b, intL (cut lo hi ns)) :: own) s' → Q (.ref b) s')
    (hss : subscripted slice false (.ref a) (.ref sl) = operate [.ref sl, .ref a] (getItem (.ref a) (.ref sl)) := by with_unfolding_all rfl) : wpAny (model prog w) A (subscriptTail value slice (.ref a) (.ref sl)) Q E s := by
  obtain ⟨o, h1, vs, hi', h2⟩ := C.sees hs
  have hvl := hi'.length
  obtain ⟨o3, h3, h4⟩ := C.has _ hm
  have hl := lst.isList h1 h2
  refine tail_any (id := "list.__getitem__") hl.typeIs slot_list_getitem.lookup (wpAny_getItem_list_slice (st := none) hl ⟨o3, h3, h4.1, h4.2⟩ pl pu .none (by simp) ?_ (by rw [sizeLine_eq]; simp; omega)) hss
  rw [slicePick_cut lo hi vs hw]
  exact h _ _ (C.push (P := intL (cut lo hi ns)) _ ⟨_, ints_cut lo hi hi', rfl, _, rfl⟩ s.toks)
theorem r_addI {a b : Addr} {ns ms : List Int} (C : Cur s0 L l own s) (ha : Sees s0 own a (intL ns)) (hb : Sees s0 own b (intL ms)) (hn : ns.length + ms.length < 2 ^ 20) (h : ∀ c s', Cur s0 L l ((c, intL (ns ++ ms)) :: own) s' → Q (.ref c) s') :
    wpAny (model prog w) A (binaryOp .Add (.ref a) (.ref b)) Q E s := by
  obtain ⟨⟨cls, dd, data, sl⟩, ho, vs, hi, hc, n, hd⟩ := C.sees ha
  obtain ⟨⟨cls2, dd2, data2, sl2⟩, ho2, ws, hi2, hc2, n2, hd2⟩ := C.sees hb
  have h1 := hi.length
  have h2 := hi2.length
  simp only at hc hd hc2 hd2
  subst hc hd hc2 hd2
  have e : vs.toArray ++ ws.toArray = (vs ++ ws).toArray := by simp
  refine concat_meets ⟨_, ho, rfl⟩ ⟨_, ho2, rfl⟩ noFill_list_add seq_list_add PySem.F.slot_list_add PySem.F.entry_list_add (PySem.F.args_list_add_2 _ _) (list_addW a b vs.toArray ws.toArray n n2 dd dd2 sl sl2 (by rw [sizeLine_eq]; simp; omega)) ⟨ho, ho2, ?_⟩
  rw [e]
  exact h _ _ (C.push (P := intL (ns ++ ms)) _ ⟨_, ints_app hi hi2, rfl, _, rfl⟩ _)
end
end Mine

namespace Mine
theorem sum_dm (b : Int) : ∀ l : List Int, l.sum = b * (l.map (· / b)).sum + (l.map (· % b)).sum
  | [] => by simp
  | x :: l => by
    have ih := sum_dm b l
    have := Int.mul_ediv_add_emod x b
    simp only [List.sum_cons, List.map_cons, Int.mul_add]
    omega
theorem sum_mod (b : Int) (hb : 0 < b) : ∀ l : List Int, 0 ≤ (l.map (· % b)).sum ∧ (l.map (· % b)).sum ≤ l.length * (b - 1)
  | [] => by simp
  | x :: l => by
    have ih := sum_mod b hb l
    have h1 := Int.emod_nonneg x (show b ≠ 0 by omega)
    have h2 := Int.emod_lt_of_pos x hb
    have e : ((l.length + 1 : Nat) : Int) * (b - 1) = (l.length : Int) * (b - 1) + (b - 1) := by rw [Int.natCast_add, Int.add_mul]; simp
    simp only [List.sum_cons, List.map_cons, List.length_cons]
    rw [e]
    omega
/-- one wheel's turn keeps kept + place * (carry + what is left) -/
theorem carry_step {kept P carry Sm b X i : Int} {D M : Int} (hS : Sm = b * D + M) (hi : i = carry + M) (h : kept + P * (carry + Sm) = X) : kept + i % b * P + P * b * (i / b + D) = X := by
  have h1 := Int.mul_ediv_add_emod i b
  have e1 : P * b * (i / b + D) = P * (b * (i / b)) + P * (b * D) := by rw [Int.mul_assoc, Int.mul_add, Int.mul_add]
  have e2 : P * (carry + Sm) = P * (i % b) + P * (b * (i / b)) + P * (b * D) := by
    rw [← Int.mul_add, ← Int.mul_add]
    congr 1
    omega
  rw [e1, Int.mul_comm (i % b) P]
  omega

section
variable {prog : Program} {w : World} {A : Around} {E : Value → Shared → Prop} {s : Shared} {Q : Value → Shared → Prop}
theorem tup2_ne_none {A : Around} {r : Addr} {o : Obj} {i j : Int} {t u : Tok} (h1 : s.heap.get? r = some o) (h2 : tup [.int i t, .int j u] o) (hu : A.units + 2 < cLine) : SeqAt.EqAt A s (.ref r) .none false := by
  obtain ⟨n, rfl⟩ := h2
  have e : false = PyData.eqv (.tuple [.int i, .int j]) .none := by simp [PyData.eqv]
  rw [e]
  exact SeqAt.eqAt_reads (.tuple [.int i, .int j]) .none A s _ _ _ _ (.tuple h1 rfl rfl (.cons (.int _ _) (.cons (.int _ _) .nil))) .none (by simp [PyData.canLay0, PyData.canLayAll0]) rfl (by simp [PyData.depth]; omega)
theorem r_noneIn {a : Addr} {b m : Nat} (h : Reads s.heap a b m) (hu : A.units + 10 < cLine) (hq : Q (.bool false) s) : wpAny (model prog w) A (compareOp .In .none (.ref a)) Q E s := by
  obtain ⟨vs, ⟨o, ho, hp⟩, hl, hv⟩ := h
  refine SeqAt.in_listAt (fun _ => false) (lst.isList ho hp) (fun y hy => ?_) ?_
  · rw [List.mem_toArray] at hy
    obtain ⟨i, hi, rfl⟩ := List.getElem_of_mem hy
    obtain ⟨r, o, t, u, h1, h2, h3⟩ := hv i (by omega)
    rw [List.getElem?_eq_getElem hi] at h1
    rw [Option.some.inj h1]
    exact tup2_ne_none h2 h3 (by show A.units + 1 + 2 < cLine; omega)
  · have : (vs.toArray.any fun _ => false) = false := by simp
    rw [this]; exact hq
theorem for_turnsL {R : Result → Shared → Prop} {env : Env} {target : Expr} {it : Value} {body orelse : List Stmt} {n : Nat} (Inv : Nat → Shared → Prop)
    (turn : ∀ i s (E : Value → Shared → Prop), i < n → Inv i s → wpAny (model prog w) A (pyNext it) (fun r s₁ => ∃ v, r = some v ∧ wpAny (model prog w) A (letOwnedTupleGo target it v) (fun _ s₁' => wpAny (model prog w) A (assign target env v) (fun _ s₂ => wpAny (model prog w) A (execs body env) (fun f s₃ => match f with
          | .next | .cont => Inv (i + 1) s₃
          | .brk => R (.ok .next) s₃
          | .ret v => R (.ok (.ret v)) s₃) E s₂) E s₁') E s₁) E s)
    (stop : ∀ s (E : Value → Shared → Prop), Inv n s → wpAny (model prog w) A (pyNext it) (fun r s₁ => r = none ∧ wpAny (model prog w) A (execs orelse env) (fun f s₃ => R (.ok f) s₃) E s₁) E s)
    (h : Inv 0 s) : codeAny (model prog w) A (.forLoop target it body orelse env) R s := by
  refine codeAny_forLoop_any (fun k s => ∃ i, i ≤ n ∧ k = n - i ∧ Inv i s) (fun k s hI => ?_) n ⟨0, Nat.zero_le _, rfl, h⟩
  obtain ⟨i, hi, rfl, hI⟩ := hI
  rcases Nat.lt_or_ge i n with hlt | hge
  · refine wpAny_mono (turn i s _ hlt hI) (fun r s₁ hr => ?_) fun _ _ e => e
    obtain ⟨v, rfl, hr⟩ := hr
    refine wpAny_mono hr (fun _ s₁' h₁ => wpAny_mono h₁ (fun _ s₂ h₂ => wpAny_mono h₂ (fun f s₃ h₃ => ?_) fun _ _ e => e) fun _ _ e => e) fun _ _ e => e
    cases f with
    | next => exact ⟨n - (i + 1), by omega, i + 1, hlt, rfl, h₃⟩
    | cont => exact ⟨n - (i + 1), by omega, i + 1, hlt, rfl, h₃⟩
    | brk => exact h₃
    | ret v => exact h₃
  · have e : i = n := by omega
    subst e
    refine wpAny_mono (stop s _ hI) (fun r s₁ hr => ?_) fun _ _ e => e
    obtain ⟨rfl, hr⟩ := hr
    exact hr
end
end Mine

namespace Mine
-- what a goal must be before the walk takes a rule
theorem gN (h : wpAny M A (eval (.Name x p) env) Q E s) : wpAny M A (eval (.Name x p) env) Q E s := h
theorem gS (h : wpAny M A (eval (.Constant (.str x) k p) env) Q E s) : wpAny M A (eval (.Constant (.str x) k p) env) Q E s := h
theorem gC (h : wpAny M A (eval (.Compare a b c p) env) Q E s) : wpAny M A (eval (.Compare a b c p) env) Q E s := h
theorem gM (h : wpAny M A (eval (.Call (.Attribute a x q) c d p) env) Q E s) : wpAny M A (eval (.Call (.Attribute a x q) c d p) env) Q E s := h
theorem gK (h : wpAny M A (eval (.Call a c d p) env) Q E s) : wpAny M A (eval (.Call a c d p) env) Q E s := h
theorem gAr (h : wpAny M A (spliced (backTo p (starEach (e :: l) env))) Q E s) : wpAny M A (spliced (backTo p (starEach (e :: l) env))) Q E s := h
theorem gB1 (h : wpAny M A (callWith p (.builtin i) [] l k) Q E s) : wpAny M A (callWith p (.builtin i) [] l k) Q E s := h
theorem gB2 (h : wpAny M A (callWith p (.builtin i) (v :: vs) l k) Q E s) : wpAny M A (callWith p (.builtin i) (v :: vs) l k) Q E s := h
theorem gT1 (h : wpAny M A (callWith p (.type i) [] l k) Q E s) : wpAny M A (callWith p (.type i) [] l k) Q E s := h
theorem gF1 (h : wpAny M A (callWith p (.ref i) [] l k) Q E s) : wpAny M A (callWith p (.ref i) [] l k) Q E s := h
theorem gTc (h : wpAny M A (PySem.isTrue (.Compare a b c p) env X) Q E s) : wpAny M A (PySem.isTrue (.Compare a b c p) env X) Q E s := h
theorem gTn (h : wpAny M A (PySem.isTrue (.Name x p) env X) Q E s) : wpAny M A (PySem.isTrue (.Name x p) env X) Q E s := h
theorem gPs (h : wpAny M A (binaryOp .Add (.str a t) (.str b u)) Q E s) : wpAny M A (binaryOp .Add (.str a t) (.str b u)) Q E s := h
theorem gXs (h : wpAny M A (binaryOp .Mult (.str a t) (.int b u)) Q E s) : wpAny M A (binaryOp .Mult (.str a t) (.int b u)) Q E s := h
theorem gJ (h : wpAny M A (call (.builtin "str.join") [v, .ref a]) Q E s) : wpAny M A (call (.builtin "str.join") [v, .ref a]) Q E s := h
theorem gL (h : wpAny M A (call (.builtin "len") [.str a t]) Q E s) : wpAny M A (call (.builtin "len") [.str a t]) Q E s := h
theorem gAs (h : wpAny M A (exec (.Assign [.Name x p] e q) env) Q E s) : wpAny M A (exec (.Assign [.Name x p] e q) env) Q E s := h
theorem gAu (h : wpAny M A (exec (.AugAssign (.Name x p) o e q) env) Q E s) : wpAny M A (exec (.AugAssign (.Name x p) o e q) env) Q E s := h
theorem gFo (h : wpAny M A (exec (.For a b c d p) env) Q E s) : wpAny M A (exec (.For a b c d p) env) Q E s := h
theorem gIt (h : wpAny M A (pyIter (.ref a)) Q E s) : wpAny M A (pyIter (.ref a)) Q E s := h
theorem gX (h : wpAny M A (binaryOp .Mult (.int a t) (.int b u)) Q E s) : wpAny M A (binaryOp .Mult (.int a t) (.int b u)) Q E s := h
theorem gD (h : wpAny M A (binaryOp .FloorDiv (.int a t) (.int b u)) Q E s) : wpAny M A (binaryOp .FloorDiv (.int a t) (.int b u)) Q E s := h
theorem gR (h : wpAny M A (binaryOp .Mod (.int a t) (.int b u)) Q E s) : wpAny M A (binaryOp .Mod (.int a t) (.int b u)) Q E s := h
theorem gLi (h : wpAny M A (call (.builtin "len") [.ref a]) Q E s) : wpAny M A (call (.builtin "len") [.ref a]) Q E s := h
theorem gAx (h : wpAny M A (exec (.AugAssign (.Subscript a b p) o e q) env) Q E s) : wpAny M A (exec (.AugAssign (.Subscript a b p) o e q) env) Q E s := h
theorem gE (h : wpAny M A (exec (.Expr e p) env) Q E s) : wpAny M A (exec (.Expr e p) env) Q E s := h
theorem gLn (h : wpAny M A (loadName env x) Q E s) : wpAny M A (loadName env x) Q E s := h
theorem gSt (h : wpAny M A (storeName env x v) Q E s) : wpAny M A (storeName env x v) Q E s := h
theorem gMx (h : wpAny M A (call (.builtin "max") [.int a t, .int b u]) Q E s) : wpAny M A (call (.builtin "max") [.int a t, .int b u]) Q E s := h
theorem gSu (h : wpAny M A (call (.builtin "sum") [.ref a]) Q E s) : wpAny M A (call (.builtin "sum") [.ref a]) Q E s := h
theorem gSb (h : wpAny M A (subscriptTail a b (.ref c) (.int i t)) Q E s) : wpAny M A (subscriptTail a b (.ref c) (.int i t)) Q E s := h
section
variable {prog : Program} {w : World} {A : Around} {E : Value → Shared → Prop} {s : Shared} {env : Env}
/-- what is left to do, made a name: a proof then does not bear it at each step -/
theorem gen {α : Type} {M : Model} {c : Sem α} {Q : α → Shared → Prop} (h : ∀ Q' : α → Shared → Prop, (∀ v s, Q v s → Q' v s) → wpAny M A c Q' E s) : wpAny M A c Q E s := h Q fun _ _ x => x
theorem for_turnsI {R : Result → Shared → Prop} {target : Expr} {it : Value} {body orelse : List Stmt} {n : Nat} (Inv : Nat → Shared → Prop)
    (turn : ∀ i s (E : Value → Shared → Prop) (I' : Shared → Prop), i < n → Inv i s → (∀ s', Inv (i + 1) s' → I' s') → wpAny (model prog w) A (pyNext it) (fun r s₁ => ∃ v, r = some v ∧ wpAny (model prog w) A (assign target env v) (fun _ s₂ => wpAny (model prog w) A (execs body env) (fun f s₃ => match f with
          | .next | .cont => I' s₃
          | .brk => R (.ok .next) s₃
          | .ret v => R (.ok (.ret v)) s₃) E s₂) E s₁) E s)
    (stop : ∀ s (E : Value → Shared → Prop), Inv n s → wpAny (model prog w) A (pyNext it) (fun r s₁ => r = none ∧ wpAny (model prog w) A (execs orelse env) (fun f s₃ => R (.ok f) s₃) E s₁) E s)
    (h : Inv 0 s) (ht : ∀ v, letOwnedTupleGo target it v = pure () := by intro _; rfl) : codeAny (model prog w) A (.forLoop target it body orelse env) R s :=
  for_turns Inv (fun i s E hi hI => turn i s E _ hi hI fun _ x => x) stop h ht
theorem for_turnsLI {R : Result → Shared → Prop} {target : Expr} {it : Value} {body orelse : List Stmt} {n : Nat} (Inv : Nat → Shared → Prop)
    (turn : ∀ i s (E : Value → Shared → Prop) (I' : Shared → Prop), i < n → Inv i s → (∀ s', Inv (i + 1) s' → I' s') → wpAny (model prog w) A (pyNext it) (fun r s₁ => ∃ v, r = some v ∧ wpAny (model prog w) A (letOwnedTupleGo target it v) (fun _ s₁' => wpAny (model prog w) A (assign target env v) (fun _ s₂ => wpAny (model prog w) A (execs body env) (fun f s₃ => match f with
          | .next | .cont => I' s₃
          | .brk => R (.ok .next) s₃
          | .ret v => R (.ok (.ret v)) s₃) E s₂) E s₁') E s₁) E s)
    (stop : ∀ s (E : Value → Shared → Prop), Inv n s → wpAny (model prog w) A (pyNext it) (fun r s₁ => r = none ∧ wpAny (model prog w) A (execs orelse env) (fun f s₃ => R (.ok f) s₃) E s₁) E s)
    (h : Inv 0 s) : codeAny (model prog w) A (.forLoop target it body orelse env) R s :=
  for_turnsL Inv (fun i s E hi hI => turn i s E _ hi hI fun _ x => x) stop h
theorem comp_turnsI {R : Result → Shared → Prop} {elt target iter : Expr} {scope : Scope} {pos : Pos} {it acc : Value} {n : Nat} (Inv : Nat → Shared → Prop)
    (turn : ∀ i s (E : Value → Shared → Prop) (I' : Shared → Prop), i < n → Inv i s → (∀ s', Inv (i + 1) s' → I' s') → wpAny (model prog w) A (pyNext it) (fun r s₁ => ∃ v, r = some v ∧ wpAny (model prog w) A (letOwnedTupleGo target it v) (fun _ s₁' => wpAny (model prog w) A (assign target env v) (fun _ s₂ =>
      wpAny (model prog w) A (eval elt env) (fun x s₃ => wpAny (model prog w) A (call (.builtin "list.append") [acc, x]) (fun _ s₄ => I' s₄) E s₃) E s₂) E s₁') E s₁) E s)
    (stop : ∀ s (E : Value → Shared → Prop), Inv n s → wpAny (model prog w) A (pyNext it) (fun r s₁ => r = none ∧ R (.ok .next) s₁) E s)
    (h : Inv 0 s) : codeAny (model prog w) A (.compLoop (.ListComp elt [⟨target, iter, [], 0⟩] scope pos) 0 it acc env) R s :=
  comp_turns Inv (fun i s E hi hI => turn i s E _ hi hI fun _ x => x) stop h
end
end Mine

namespace Mine
local macro_rules | `(tactic| walk_at "mem") => `(tactic| first | assumption | exact List.Mem.head _ | (refine List.Mem.tail _ ?_; walk_at "mem"))
local macro_rules | `(tactic| walk_at "sees") => `(tactic| first | exact Or.inr (by walk_at "mem") | exact Or.inl ⟨_, by assumption, by assumption⟩)
local macro_rules | `(tactic| walk_at "subl") => `(tactic| first | exact List.Sublist.refl _ | exact List.nil_sublist _ | (refine List.Sublist.cons_cons _ ?_; walk_at "subl") | (refine List.Sublist.cons _ ?_; walk_at "subl"))
local macro_rules | `(tactic| walk_at "lk") => `(tactic| first | exact Lk_put_eq _ _ _ | (refine Lk_put_ne (by decide) ?_; walk_at "lk") | assumption | exact rfl)
local macro_rules | `(tactic| walk_at "str") => `(tactic| first | exact K_257 | exact K_sq | exact K_e | exact K_q | exact K_257q | exact K_made | exact K_x | exact K_b | exact K_bb | exact K_sl | exact K_op | exact K_m | exact K_bm)
local macro_rules | `(tactic| walk_at "stc") => `(tactic| first | (refine r_stC (i := 0) (by assumption) rfl rfl ?_) | (refine r_stC (i := 1) (by assumption) rfl rfl ?_) | (refine r_stC (i := 2) (by assumption) rfl rfl ?_) | (refine r_stC (i := 3) (by assumption) rfl rfl ?_) | (refine r_stC (i := 4) (by assumption) rfl rfl ?_) | (refine r_stC (i := 5) (by assumption) rfl rfl ?_) | (refine r_stC (i := 6) (by assumption) rfl rfl ?_) | (refine r_stC (i := 7) (by assumption) rfl rfl ?_) | (refine r_stC (i := 8) (by assumption) rfl rfl ?_) | (refine r_stC (i := 9) (by assumption) rfl rfl ?_) | (refine r_stC (i := 10) (by assumption) rfl rfl ?_) | (refine r_stC (i := 11) (by assumption) rfl rfl ?_))
local macro_rules | `(tactic| walk_at "z") => `(tactic| first
  | ((with_reducible refine gN ?_); first | (refine r_loc (by assumption) (by walk_at "lk") ?_) | (refine r_bi (by assumption) (by assumption) (by walk_at "mem") ?_) | (refine r_gl (by assumption) (by assumption) (by assumption) ?_) | (refine r_cell (by assumption) rfl (by walk_at "mem") ?_))
  | ((with_reducible first | refine r_int (by assumption) ?_ | refine r_add (by assumption) ?_ | refine r_sub (by assumption) ?_ | refine r_neg (by assumption) ?_ | refine r_iadd (by assumption) ?_ | refine r_isub (by assumption) ?_ | refine r_range (by assumption) ?_ | refine r_count (by assumption) ?_); intro _ _ _)
  | ((with_reducible first | refine r_none (by assumption) ?_ | refine r_bool (by assumption) ?_); intro _ _)
  | (with_reducible first | refine wpAny_BinOp ?_ | refine wpAny_IfExp ?_ | refine wpAny_UnaryOp ?_ | refine Subscript_ ?_ | refine args_nil ?_ | refine r_ieq ?_ | refine r_ilt ?_ | refine r_truthy ?_ | refine wpAny_isTrue_BoolOp ?_ | refine wpAny_allTrue_Or_cons ?_ | refine wpAny_allTrue_Or_nil ?_ | refine r_ige ?_ | refine r_ine ?_ | refine r_seq ?_ | refine r_sne ?_ | refine r_sliceE ?_ | refine evalPart_none_step ?_ | refine evalPart_some_step ?_ | refine r_gmCount ?_ | refine r_gmJoin ?_ | refine r_tupD ?_ | refine wpAny_execs_cons ?_ | refine wpAny_execs_nil ?_ | refine wpAny_If ?_ | refine wpAny_Return_some ?_ | refine wpAny_While ?_ | refine wpAny_Break ?_ | refine r_listD ?_ | refine And.intro (Cur.grow (by assumption)) ?_)
  | ((with_reducible refine gS ?_); refine r_strS (by walk_at "str") (by assumption) ?_; intro _ _ _)
  | ((with_reducible refine gC ?_); refine wpAny_Compare1 ?_)
  | ((with_reducible refine gM ?_); refine MethodCall_ ?_)
  | ((with_reducible refine gK ?_); refine Call_ ?_)
  | ((with_reducible refine gAr ?_); refine args_cons ?_)
  | ((with_reducible refine gB1 ?_); refine PyProof.Rows.callWith_builtin1 ?_)
  | ((with_reducible refine gB2 ?_); refine r_cwb ?_)
  | ((with_reducible refine gT1 ?_); refine PyProof.Rows.callWith_type1 ?_)
  | ((with_reducible refine gF1 ?_); refine r_callf (by assumption) (by assumption) (by rfl) ?_)
  | ((with_reducible refine gTc ?_); refine wpAny_isTrue_Compare1 ?_)
  | ((with_reducible refine gTn ?_); refine wpAny_isTrue_value ?_)
  | ((with_reducible show ∃ s0 L l own, Cur s0 L l own _ ∧ ∀ _ _, _); refine ⟨_, _, _, _, (by assumption), ?_⟩; intro _ _ _)
  | ((with_reducible show wpAny _ _ (call _ ([_] ++ _)) _ _ _); dsimp only [List.cons_append, List.nil_append])
  | ((with_reducible refine gPs ?_); refine r_sadd (by assumption) (by first | omega | (simp <;> omega)) ?_; intro _ _ _)
  | ((with_reducible refine gXs ?_); refine r_smul (by assumption) (by first | omega | (simp <;> omega)) ?_; intro _ _ _)
  | ((with_reducible refine gJ ?_); refine r_join (by assumption) (by walk_at "sees") (by first | assumption | rfl) (by first | omega | (simp <;> omega)) ?_; intro _ _ _)
  | ((with_reducible refine gL ?_); refine r_slen (by assumption) (by first | omega | (simp <;> omega)) ?_; intro _ _ _)
  | ((with_reducible refine gAs ?_); refine wpAny_Assign_Name ?_)
  | ((with_reducible refine gAu ?_); refine wpAny_AugAssign_Name ?_)
  | ((with_reducible refine gFo ?_); refine wpAny_For ?_)
  | ((with_reducible refine gIt ?_); refine r_rangeIter rfl ?hrng (by assumption) ?_; (case hrng => omega); intro _ _ _)
  | ((with_reducible refine gX ?_); refine r_mul (by assumption) (by first | exact mul_ok (by omega) | exact mul_ok' (by omega)) ?_; intro _ _ _)
  | ((with_reducible refine gD ?_); refine r_div (by assumption) (by omega) ?_; intro _ _ _)
  | ((with_reducible refine gR ?_); refine r_mod (by assumption) (by omega) ?_; intro _ _ _)
  | ((with_reducible show ∃ s0 L l own, Cur s0 L l own _ ∧ _ ∧ _); refine ⟨_, _, _, _, (by assumption), Nat.le_of_ble_eq_true rfl, ?_⟩; intro _ _ _)
  | ((with_reducible refine gLi ?_); refine r_lenI (by assumption) (by walk_at "sees") (by omega) ?_; intro _ _ _)
  | ((with_reducible refine gAx ?_); refine wpAny_AugAssign_SubscriptAny ?_)
  | ((with_reducible refine gE ?_); refine wpAny_Expr ?_)
  | ((with_reducible refine gLn ?_); refine r_locn (by assumption) (by walk_at "lk") ?_)
  | ((with_reducible refine gSt ?_); first | (refine r_st (by assumption) ?_; intro _ _) | (walk_at "stc"; intro _ hC; dsimp only [List.set] at hC)))
local macro_rules | `(tactic| walk_at "zz") => `(tactic| (try dsimp only); (repeat (walk_at "z"; try dsimp only)))

section
variable {prog : Program} {w : World} {A : Around} {s : Shared} {mg mb : Str → Option Value} {R : Result → Shared → Prop}

noncomputable def choices (a : Int) (b : Nat) : Int := (List.range b).foldl (fun (told : Int) (k : Nat) => told * (a - (k : Int)) / ((k : Int) + 1)) 1
theorem choices_succ (a : Int) (i : Nat) : choices a (i + 1) = choices a i * (a - (i : Int)) / ((i : Int) + 1) := by
  unfold choices
  rw [List.range_succ, List.foldl_append]
  rfl

theorem choices_ok {a : Int} {t u : Tok} {b : Nat} {f : Addr} (B : Base mg mb s.heap) (hf : mg "_law_choices" = some (.ref f)) (hr : Room A 1) (hb : b < 100) (ha : -1000 ≤ a ∧ a ≤ 1000)
    (h : ∀ t s', Grow s s' → R (.ok (.ret (.int (choices a b) t))) s') : codeAny (model prog w) A (.call (.ref f) ⟨[.int a t, .int b u], []⟩) R s := by
  refine enter (binds := [("a", .int a t), ("b", .int b u)]) B (mem_of_at (i := 10) rfl) hf hr (fun _ _ _ => rfl) (by rfl) ?_ rfl rfl rfl (by decide)
  intro L cd s1 C
  try dsimp only
  repeat (walk_at "z"; try dsimp only)
  rename_i C
  refine for_range (J := fun i l own => own = [] ∧ Lk l "a" = some (.int a t) ∧ ∃ t', Lk l "told" = some (.int (choices a i) t')) hr.handled C ⟨rfl, by walk_at "lk", _, by walk_at "lk"⟩ ?_ ?_
  · rintro i l own tk s2 E hi ⟨rfl, h1, t2, h2⟩ C
    repeat (walk_at "z"; try dsimp only)
    rename_i C'
    refine ⟨_, _, ⟨rfl, ?_, ?_⟩, C'⟩
    · walk_at "lk"
    · exact ⟨_, by rw [choices_succ]; walk_at "lk"⟩
  · rintro l own s2 ⟨rfl, h1, t2, h2⟩ C
    try dsimp only
    repeat (walk_at "z"; try dsimp only)
    exact h _ _ C.grow

noncomputable def dueStep (n i j whole : Nat) (p : Int × Int) (k : Nat) : Int × Int :=
  (p.1 + p.2 * choices ((n : Int) + 1) k * choices ((n : Int) - 1 - (i : Int) + ((j : Int) + 1 - (k : Int)) * (whole : Int)) n, -p.2)
noncomputable def dueAt (n i j whole m : Nat) : Int × Int := (List.range m).foldl (dueStep n i j whole) (0, 1)
noncomputable def due (n i j whole : Nat) : Int := (dueAt n i j whole (j + 1)).1
theorem dueAt_succ (n i j whole m : Nat) : dueAt n i j whole (m + 1) = dueStep n i j whole (dueAt n i j whole m) m := by
  unfold dueAt
  rw [List.range_succ, List.foldl_append]
  rfl
theorem due_sign (n i j whole m : Nat) : (dueAt n i j whole m).2 = 1 ∨ (dueAt n i j whole m).2 = -1 := by
  induction m with
  | zero => exact .inl rfl
  | succ m ih =>
    rw [dueAt_succ]
    unfold dueStep
    rcases ih with h | h <;> simp [h]
theorem choices_small : ∀ n : Nat, n < 5 → ∀ k : Nat, k < 5 → -1000 ≤ choices ((n : Int) + 1) k ∧ choices ((n : Int) + 1) k ≤ 1000 := by decide +kernel

theorem due_ok {n i j whole : Nat} {t u v x : Tok} {f g : Addr} (B : Base mg mb s.heap) (hf : mg "_law_due" = some (.ref f)) (hg : mg "_law_choices" = some (.ref g)) (hr : Room A 2) (hn : n < 5) (hi : i < n) (hj : j < n) (hw : whole ≤ 200)
    (h : ∀ t s', Grow s s' → R (.ok (.ret (.int (due n i j whole) t))) s') : codeAny (model prog w) A (.call (.ref f) ⟨[.int n t, .int i u, .int j v, .int whole x], []⟩) R s := by
  refine enter (binds := [("n", .int n t), ("i", .int i u), ("j", .int j v), ("whole", .int whole x)]) B (mem_of_at (i := 11) rfl) hf (hr.le (by decide)) (fun _ _ _ => rfl) (by rfl) ?_ rfl rfl rfl (by decide)
  intro L cd s1 C
  try dsimp only
  repeat (walk_at "z"; try dsimp only)
  rename_i C2
  refine r_rangeIter (k := j + 1) ?_ (by omega) C2 ?_
  · omega
  intro I s2 C
  refine for_range (J := fun k l own => own = [] ∧ Lk l "n" = some (.int n t) ∧ Lk l "i" = some (.int i u) ∧ Lk l "j" = some (.int j v) ∧ Lk l "whole" = some (.int whole x) ∧ (∃ t', Lk l "due" = some (.int (dueAt n i j whole k).1 t')) ∧
    (∃ t', Lk l "sign" = some (.int (dueAt n i j whole k).2 t'))) hr.handled C ⟨rfl, by walk_at "lk", by walk_at "lk", by walk_at "lk", by walk_at "lk", ⟨_, by walk_at "lk"⟩, ⟨_, by walk_at "lk"⟩⟩ ?_ ?_
  · rintro k l own tk s2 E hk ⟨rfl, h1, h2, h3, h4, ⟨t5, h5⟩, t6, h6⟩ C
    have hsg := due_sign n i j whole k
    have hcs := choices_small n hn k (by omega)
    have hm : 0 ≤ ((j : Int) + 1 - (k : Int)) * (whole : Int) ∧ ((j : Int) + 1 - (k : Int)) * (whole : Int) ≤ 800 := by
      have e : (j : Int) + 1 - (k : Int) = 1 ∨ (j : Int) + 1 - (k : Int) = 2 ∨ (j : Int) + 1 - (k : Int) = 3 ∨ (j : Int) + 1 - (k : Int) = 4 := by omega
      rcases e with e | e | e | e <;> rw [e] <;> omega
    have hp : -1000 ≤ (dueAt n i j whole k).2 * choices ((n : Int) + 1) k ∧ (dueAt n i j whole k).2 * choices ((n : Int) + 1) k ≤ 1000 := by
      rcases hsg with e | e <;> rw [e] <;> omega
    refine gen fun Q1 hQ1 => ?_
    repeat (walk_at "z"; try dsimp only)
    rename_i C3
    refine wpAny_call (choices_ok (B.keeps C3.grow.keep) hg (hr.deeper _) (by omega) (by omega) ?_)
    intro t7 s7 g7
    have C7 := C3.call g7
    try dsimp only
    repeat (walk_at "z"; try dsimp only)
    rename_i C8
    refine wpAny_call (choices_ok (B.keeps C8.grow.keep) hg (hr.deeper _) (by omega) (by omega) ?_)
    intro t9 s9 g9
    have C9 := C8.call g9
    try dsimp only
    repeat (walk_at "z"; try dsimp only)
    rename_i C10
    refine hQ1 _ _ ?_
    refine ⟨_, _, ⟨rfl, ?_, ?_, ?_, ?_, ?_, ?_⟩, C10⟩
    · walk_at "lk"
    · walk_at "lk"
    · walk_at "lk"
    · walk_at "lk"
    · exact ⟨_, by rw [dueAt_succ]; walk_at "lk"⟩
    · exact ⟨_, by rw [dueAt_succ]; walk_at "lk"⟩
  · rintro l own s2 ⟨rfl, h1, h2, h3, h4, ⟨t5, h5⟩, h6⟩ C
    try dsimp only
    repeat (walk_at "z"; try dsimp only)
    exact h _ _ C.grow
end

section
variable {prog : Program} {w : World} {A : Around} {s : Shared} {mg mb : Str → Option Value} {R : Result → Shared → Prop}

noncomputable def addAt (g : List Int) (i : Nat) (v : Int) : List Int := g.set i (g.getD i 0 + v)
theorem addAt_length (g : List Int) (i : Nat) (v : Int) : (addAt g i v).length = g.length := by simp [addAt]
noncomputable def innerAt (ws : List Int) (t : Nat) (g : List Int) (m : Nat) : List Int := (List.range m).foldl (fun g d => addAt g (t + d) (ws.getD t 0)) g
noncomputable def growAt (base : Nat) (ws : List Int) (m : Nat) : List Int := (List.range m).foldl (fun g t => innerAt ws t g base) (List.replicate (ws.length + base - 1) 0)
noncomputable def waysAt (base : Nat) : Nat → List Int
  | 0 => [1]
  | n + 1 => growAt base (waysAt base n) (waysAt base n).length
theorem innerAt_succ (ws : List Int) (t : Nat) (g : List Int) (m : Nat) : innerAt ws t g (m + 1) = addAt (innerAt ws t g m) (t + m) (ws.getD t 0) := by
  unfold innerAt; rw [List.range_succ, List.foldl_append]; rfl
theorem growAt_succ (base : Nat) (ws : List Int) (m : Nat) : growAt base ws (m + 1) = innerAt ws m (growAt base ws m) base := by
  unfold growAt; rw [List.range_succ, List.foldl_append]; rfl
theorem innerAt_length (ws : List Int) (t : Nat) (g : List Int) (m : Nat) : (innerAt ws t g m).length = g.length := by
  induction m with
  | zero => rfl
  | succ m ih => rw [innerAt_succ, addAt_length, ih]
theorem growAt_length (base : Nat) (ws : List Int) (m : Nat) : (growAt base ws m).length = ws.length + base - 1 := by
  induction m with
  | zero => simp [growAt]
  | succ m ih => rw [growAt_succ, innerAt_length, ih]
theorem waysAt_length (base : Nat) : ∀ n, (waysAt base n).length = n * (base - 1) + 1 ∨ base = 0
  | 0 => .inl (by simp [waysAt])
  | n + 1 => by
    rcases waysAt_length base n with h | h
    · by_cases hb : base = 0
      · exact .inr hb
      · left
        show (growAt base (waysAt base n) (waysAt base n).length).length = _
        rw [growAt_length, h, Nat.add_mul]
        obtain ⟨b, rfl⟩ := Nat.exists_eq_succ_of_ne_zero hb
        show n * b + 1 + b = n * b + 1 * b + 1
        rw [Nat.one_mul, Nat.add_right_comm]
    · exact .inr h
theorem rep_ints (n : Int) (t : Tok) : ∀ k, IntsAre (List.replicate k (.int n t)) (List.replicate k n)
  | 0 => .nil
  | k + 1 => .cons n t (rep_ints n t k)

theorem ways_ok {base n : Nat} {t u : Tok} {f : Addr} (B : Base mg mb s.heap) (hf : mg "_law_ways" = some (.ref f)) (hr : Room A 1) (hb : 1 ≤ base ∧ base < 10) (hn : n < 10)
    (h : ∀ a s' o, Grow s s' → s.heap.get? a = none → s'.heap.get? a = some o → intL (waysAt base n) o → R (.ok (.ret (.ref a))) s') : codeAny (model prog w) A (.call (.ref f) ⟨[.int base t, .int n u], []⟩) R s := by
  refine enter (binds := [("base", .int base t), ("n", .int n u)]) B (mem_of_at (i := 7) rfl) hf hr (fun _ _ _ => rfl) (by rfl) ?_ rfl rfl rfl (by decide)
  intro L cd s1 C
  try dsimp only
  repeat (walk_at "z"; try dsimp only)
  rename_i Wa s2 C2 s3 C3 rr s4 C4 I s5 C5
  have C6 := C5.imp (i := 1) (P' := intL [1]) rfl (fun o ho => ⟨_, .cons _ _ .nil, lstX.weak _ ho⟩)
  have hlen : ∀ i, i ≤ n → (waysAt base i).length ≤ 100 := fun i hi => by
    rcases waysAt_length base i with e | e
    · rw [e]
      have : i * (base - 1) ≤ 9 * 9 := Nat.mul_le_mul (by omega) (by omega)
      omega
    · omega
  refine for_range (J := fun i l own => ∃ Wa, own = [(Wa, intL (waysAt base i))] ∧ Lk l "base" = some (.int base t) ∧ Lk l "n" = some (.int n u) ∧ Lk l "ways" = some (.ref Wa)) hr.handled C6 ⟨Wa, rfl, by walk_at "lk", by walk_at "lk", by walk_at "lk"⟩ ?_ ?_
  · rintro k l own tk s6 E hk ⟨Wa, rfl, h1, h2, h3⟩ C
    refine gen fun Q1 hQ1 => ?_
    have hl := hlen k (by omega)
    try dsimp only
    repeat (walk_at "z"; try dsimp only)
    rename_i C7
    refine r_mulL C7 (by walk_at "mem") (by omega) ?_
    intro G s8 C8
    have C9 := (C8.drop (own' := [(G, _), (I, _), (Wa, _)]) (by walk_at "subl")).imp (i := 0) (P' := intL (growAt base (waysAt base k) 0)) rfl (fun o ho => ⟨_, rep_ints 0 _ _, by
      have e : ((waysAt base k).length : Int) + (base : Int) - 1 = (((waysAt base k).length + base - 1 : Nat) : Int) := by omega
      rw [e, Int.toNat_natCast] at ho
      exact lstX.weak _ ho⟩)
    dsimp only [List.set] at C9
    clear C8 C7
    repeat (walk_at "z"; try dsimp only)
    rename_i I1 _ C10
    refine for_range (J := fun i l own => own = [(G, intL (growAt base (waysAt base k) i)), (I, (· = rngIt (k + 1 : Nat) ((n : Int) - (k + 1 : Nat)))), (Wa, intL (waysAt base k))] ∧ Lk l "base" = some (.int base t) ∧ Lk l "n" = some (.int n u) ∧ Lk l "ways" = some (.ref Wa) ∧ Lk l "grown" = some (.ref G)) hr.handled C10 ⟨rfl, by walk_at "lk", by walk_at "lk", by walk_at "lk", by walk_at "lk"⟩ ?_ ?_
    · rintro i l own tk s6 E hi ⟨rfl, h1, h2, h3, h4⟩ C
      refine gen fun Q2 hQ2 => ?_
      try dsimp only
      repeat (walk_at "z"; try dsimp only)
      rename_i I2 _ C11
      have hgl := growAt_length base (waysAt base k) i
      refine for_range (J := fun d l own => own = [(I1, (· = rngIt (i + 1 : Nat) (((waysAt base k).length : Int) - (i + 1 : Nat)))), (G, intL (innerAt (waysAt base k) i (growAt base (waysAt base k) i) d)), (I, (· = rngIt (k + 1 : Nat) ((n : Int) - (k + 1 : Nat)))), (Wa, intL (waysAt base k))] ∧ Lk l "base" = some (.int base t) ∧ Lk l "n" = some (.int n u) ∧ Lk l "ways" = some (.ref Wa) ∧ Lk l "grown" = some (.ref G) ∧ Lk l "total" = some (.int i tk)) hr.handled C11 ⟨rfl, by walk_at "lk", by walk_at "lk", by walk_at "lk", by walk_at "lk", by walk_at "lk"⟩ ?_ ?_
      · rintro d l own tk' s6 E hd ⟨rfl, h1, h2, h3, h4, h5⟩ C
        refine gen fun Q3 hQ3 => ?_
        have hil := innerAt_length (waysAt base k) i (growAt base (waysAt base k) i) d
        try dsimp only
        repeat (walk_at "z"; try dsimp only)
        rename_i C12
        have hv : (innerAt (waysAt base k) i (growAt base (waysAt base k) i) d)[((i : Int) + (d : Int)).toNat]? = some ((innerAt (waysAt base k) i (growAt base (waysAt base k) i) d).getD (i + d) 0) := by
          rw [show ((i : Int) + (d : Int)).toNat = i + d by omega, List.getD_eq_getElem?_getD, List.getElem?_eq_getElem (by omega)]; rfl
        refine r_atI C12 (by walk_at "sees") (by omega) hv ?_
        intro t1
        repeat (walk_at "z"; try dsimp only)
        have hv2 : (waysAt base k)[((i : Int)).toNat]? = some ((waysAt base k).getD i 0) := by
          rw [Int.toNat_natCast, List.getD_eq_getElem?_getD, List.getElem?_eq_getElem (by omega)]; rfl
        refine r_subI C12 (by walk_at "sees") (by omega) hv2 ?_
        intro t2
        repeat (walk_at "z"; try dsimp only)
        rename_i C13
        refine r_setI (i := 2) C13 rfl (by omega) (by omega) ?_
        intro s9 C14
        rw [show ((i : Int) + (d : Int)).toNat = i + d by omega] at C14
        dsimp only [List.set] at C14
        repeat (walk_at "z"; try dsimp only)
        refine hQ3 _ _ ?_
        refine ⟨_, _, ⟨rfl, ?_, ?_, ?_, ?_, ?_⟩, by rw [innerAt_succ]; exact C14⟩
        all_goals walk_at "lk"
      · rintro l own s6 ⟨rfl, h1, h2, h3, h4, h5⟩ C
        try dsimp only
        repeat (walk_at "z"; try dsimp only)
        refine hQ2 _ _ ?_
        refine ⟨_, _, ⟨rfl, ?_, ?_, ?_, ?_⟩, by rw [growAt_succ]; exact C⟩
        all_goals walk_at "lk"
    · rintro l own s6 ⟨rfl, h1, h2, h3, h4⟩ C
      try dsimp only
      repeat (walk_at "z"; try dsimp only)
      rename_i C11
      refine hQ1 _ _ ?_
      refine ⟨_, _, ⟨_, rfl, ?_, ?_, ?_⟩, ((C11.perm (List.Perm.swap _ _ _)).drop (own' := [_, (G, intL (waysAt base (k + 1)))]) (by walk_at "subl"))⟩
      · walk_at "lk"
      · walk_at "lk"
      · walk_at "lk"
  · rintro l own s2 ⟨Wa, rfl, h1, h2, h3⟩ C
    try dsimp only
    repeat (walk_at "z"; try dsimp only)
    obtain ⟨o, ho, hp⟩ := C.has _ List.mem_cons_self
    exact h _ _ o C.grow (C.new _ List.mem_cons_self) ho hp
end

section
variable {prog : Program} {w : World} {A : Around} {s : Shared} {mg mb : Str → Option Value} {R : Result → Shared → Prop}

noncomputable def rowAt (base n i m : Nat) : List Int := (List.range m).foldl (fun g t => addAt g ((i + t) / base) ((waysAt base n).getD t 0)) (List.replicate n 0)
noncomputable def rowM (base n i : Nat) : List Int := rowAt base n i (waysAt base n).length
noncomputable def tableM (base n : Nat) : List (List Int) := (List.range n).map (rowM base n)
theorem rowAt_succ (base n i m : Nat) : rowAt base n i (m + 1) = addAt (rowAt base n i m) ((i + m) / base) ((waysAt base n).getD m 0) := by
  unfold rowAt; rw [List.range_succ, List.foldl_append]; rfl
theorem rowAt_length (base n i m : Nat) : (rowAt base n i m).length = n := by
  induction m with
  | zero => simp [rowAt]
  | succ m ih => rw [rowAt_succ, addAt_length, ih]

theorem table_ok {base n : Nat} {t u : Tok} {f g Rd : Addr} (B : Base mg mb s.heap) (hf : mg "_law_table" = some (.ref f)) (hg : mg "_law_ways" = some (.ref g)) (hr : Room A 2) (hb : 1 ≤ base ∧ base < 10) (hn : 1 ≤ n ∧ n < 10) (hR : Reads s.heap Rd base (n * base))
    (h : ∀ a s', Grow s s' → MatNew s.heap s'.heap a (tableM base n) → R (.ok (.ret (.ref a))) s') : codeAny (model prog w) A (.call (.ref f) ⟨[.ref Rd, .int base t, .int n u], []⟩) R s := by
  refine enter (binds := [("readings", .ref Rd), ("base", .int base t), ("n", .int n u)]) B (mem_of_at (i := 8) rfl) hf (hr.le (by decide)) (fun _ _ _ => rfl) (by rfl) ?_ rfl rfl rfl (by decide)
  intro L cd s1 C
  try dsimp only
  repeat (walk_at "z"; try dsimp only)
  refine wpAny_call (ways_ok (B.keeps (Cur.grow (by assumption)).keep) hg (hr.deeper _) hb (by omega) ?_)
  intro Wa s2 o g2 hn2 ho2 hP2
  have C2 := C.add g2 (by assumption) ho2 hP2
  clear hn2 ho2 hP2 C g2
  try dsimp only
  repeat (walk_at "z"; try dsimp only)
  rename_i Ro s5 C5 s6 C6 rr s7 C7 I s8 C8
  have hlw : (waysAt base n).length ≤ n * (base - 1) + 1 := by
    rcases waysAt_length base n with e | e <;> omega
  have hnb : n * (base - 1) + n = n * base := by
    obtain ⟨b, rfl⟩ : ∃ b, base = b + 1 := ⟨base - 1, by omega⟩
    rw [Nat.add_sub_cancel, Nat.mul_add]; omega
  have hnb2 : n * base ≤ 81 := Nat.mul_le_mul (show n ≤ 9 by omega) (show base ≤ 9 by omega)
  obtain ⟨vs, ⟨oR, hoR, hvs⟩, hvl, hva⟩ := hR
  refine for_range (J := fun i l own => ∃ (rs : List Addr) (own1 : Own), own = (Ro, lstX (rs.map .ref)) :: own1 ∧ rs.length = i ∧ (Wa, intL (waysAt base n)) ∈ own1 ∧ (∀ k r, rs[k]? = some r → (r, intL (rowM base n k)) ∈ own1) ∧ Lk l "readings" = some (.ref Rd) ∧ Lk l "n" = some (.int n u) ∧ Lk l "ways" = some (.ref Wa) ∧ Lk l "rows" = some (.ref Ro)) hr.handled C8 ⟨[], _, rfl, rfl, by walk_at "mem", by simp, by walk_at "lk", by walk_at "lk", by walk_at "lk", by walk_at "lk"⟩ ?_ ?_
  · rintro i l own tk s6 E hi ⟨rs, own1, rfl, hrl, hW, hrs, h1, h2, h3, h4⟩ C
    refine gen fun Q1 hQ1 => ?_
    try dsimp only
    repeat (walk_at "z"; try dsimp only)
    rename_i C9
    refine r_mulL C9 (by walk_at "mem") (by omega) ?_
    intro G s8 C10
    have C11 := (C10.drop (own' := (G, _) :: (I, _) :: (Ro, _) :: own1) (by walk_at "subl")).imp (i := 0) (P' := intL (rowAt base n i 0)) rfl (fun o ho => ⟨_, rep_ints 0 _ _, by
      rw [Int.toNat_natCast] at ho
      exact lstX.weak _ ho⟩)
    dsimp only [List.set] at C11
    clear C9 C10
    repeat (walk_at "z"; try dsimp only)
    rename_i I1 _ C12
    refine for_range (J := fun m l own => own = (G, intL (rowAt base n i m)) :: (I, (· = rngIt (i + 1 : Nat) ((n : Int) - (i + 1 : Nat)))) :: (Ro, lstX (rs.map .ref)) :: own1 ∧ Lk l "readings" = some (.ref Rd) ∧ Lk l "n" = some (.int n u) ∧ Lk l "ways" = some (.ref Wa) ∧ Lk l "rows" = some (.ref Ro) ∧ Lk l "row" = some (.ref G) ∧ Lk l "i" = some (.int i tk)) hr.handled C12 ⟨rfl, by walk_at "lk", by walk_at "lk", by walk_at "lk", by walk_at "lk", by walk_at "lk", by walk_at "lk"⟩ ?_ ?_
    · rintro m l own tk' s6 E hm ⟨rfl, h1, h2, h3, h4, h5, h6⟩ C
      refine gen fun Q2 hQ2 => ?_
      try dsimp only
      obtain ⟨rd, ord, td, ud, hrd, hord, hpd⟩ := hva (i + m) (by omega)
      have hq : (i + m) / base < n := by
        rw [Nat.div_lt_iff_lt_mul (by omega)]; omega
      generalize hqe : (i + m) / base = q at hpd hq
      have hrl := rowAt_length base n i m
      repeat (walk_at "z"; try dsimp only)
      rename_i C13
      have e1 : ((i : Int) + (m : Int)).toNat = i + m := by omega
      refine r_subL (v := .ref rd) C13 (.inl ⟨_, hoR, hvs⟩) (by omega) (by rw [e1]; exact hrd) ?_
      repeat (walk_at "z"; try dsimp only)
      rename_i C14
      refine r_subT C14 (.inl ⟨_, hord, hpd⟩) (by omega) (by simp) rfl ?_
      have hv : (rowAt base n i m)[((q : Nat) : Int).toNat]? = some ((rowAt base n i m).getD q 0) := by
        rw [Int.toNat_natCast, List.getD_eq_getElem?_getD, List.getElem?_eq_getElem (by omega)]; rfl
      refine r_atI C14 (by walk_at "sees") (by omega) hv ?_
      intro t1
      repeat (walk_at "z"; try dsimp only)
      have hv2 : (waysAt base n)[((m : Int)).toNat]? = some ((waysAt base n).getD m 0) := by
        rw [Int.toNat_natCast, List.getD_eq_getElem?_getD, List.getElem?_eq_getElem (by omega)]; rfl
      refine r_subI C14 (by walk_at "sees") (by omega) hv2 ?_
      intro t2
      repeat (walk_at "z"; try dsimp only)
      rename_i C15
      refine r_setI (i := 1) C15 rfl (by omega) (by omega) ?_
      intro s9 C16
      rw [Int.toNat_natCast] at C16
      dsimp only [List.set] at C16
      repeat (walk_at "z"; try dsimp only)
      refine hQ2 _ _ ?_
      refine ⟨_, _, ⟨rfl, ?_, ?_, ?_, ?_, ?_, ?_⟩, by rw [rowAt_succ, hqe]; exact C16⟩
      all_goals walk_at "lk"
    · rintro l own s6 ⟨rfl, h1, h2, h3, h4, h5, h6⟩ C
      try dsimp only
      repeat (walk_at "z"; try dsimp only)
      refine r_gmAppend (vs := rs.map Value.ref) C (by walk_at "mem") ?_
      try dsimp only
      repeat (walk_at "z"; try dsimp only)
      refine r_append (i := 2) (vs := rs.map Value.ref) C rfl (by simp; omega) ?_
      intro s9 C15
      dsimp only [List.set] at C15
      try dsimp only
      repeat (walk_at "z"; try dsimp only)
      refine hQ1 _ _ ?_
      refine ⟨l, _, ⟨rs ++ [G], (G, intL (rowM base n i)) :: own1, rfl, by simp [hrl], by walk_at "mem", fun k r e => ?_, ?_, ?_, ?_, ?_⟩, ?_⟩
      · by_cases hk : k < rs.length
        · rw [List.getElem?_append_left hk] at e
          exact List.mem_cons_of_mem _ (hrs k r e)
        · rw [List.getElem?_append_right (by omega)] at e
          have h0 : k - rs.length = 0 := by
            rcases Nat.eq_zero_or_pos (k - rs.length) with h | h
            · exact h
            · rw [List.getElem?_eq_none (by simp; omega)] at e; cases e
          rw [h0] at e
          cases e
          have : k = i := by omega
          subst this
          exact List.mem_cons_self
      · assumption
      · assumption
      · assumption
      · assumption
      · rw [List.map_append]
        exact Cur.put_in (pre := [_, _]) C15
  · rintro l own s2 ⟨rs, own1, rfl, hrl, hW, hrs, h1, h2, h3, h4⟩ C
    try dsimp only
    repeat (walk_at "z"; try dsimp only)
    obtain ⟨oo, hoo, hpp⟩ := C.has _ List.mem_cons_self
    refine h _ _ C.grow ⟨rs, ⟨oo, hoo, hpp.weak⟩, C.new _ List.mem_cons_self, by simp [tableM, hrl], fun i r e => ?_⟩
    have hm := List.mem_cons_of_mem (Ro, lstX (rs.map Value.ref)) (hrs i r e)
    refine ⟨C.new _ hm, ?_⟩
    obtain ⟨o3, ho3, hp3⟩ := C.has _ hm
    have hi : i < n := by rw [← hrl]; exact (List.getElem?_eq_some_iff.mp e).1
    refine ⟨o3, ho3, ?_⟩
    have ee : (tableM base n).getD i [] = rowM base n i := by simp [tableM, hi]
    rw [ee]; exact hp3
end

section
variable {prog : Program} {w : World} {A : Around} {s : Shared} {mg mb : Str → Option Value} {R : Result → Shared → Prop}

noncomputable def mulM (n : Nat) (M N : List (List Int)) : List (List Int) := M.map fun row => (List.range n).map fun j => ((List.range n).map fun k => row.getD k 0 * (N.getD k []).getD j 0).sum

theorem ints_snoc : ∀ {vs : List Value} {ns : List Int} {a b : Int} {t : Tok}, IntsAre vs ns → a = b → IntsAre (vs ++ [.int a t]) (ns ++ [b])
  | _, _, a, _, t, .nil, e => by subst e; exact .cons a t .nil
  | _, _, _, _, _, .cons m u h, e => .cons m u (ints_snoc h e)
theorem snoc_at {α : Type} {l : List α} {x : α} {k : Nat} {r : α} (e : (l ++ [x])[k]? = some r) : l[k]? = some r ∨ (k = l.length ∧ r = x) := by
  by_cases hk : k < l.length
  · rw [List.getElem?_append_left hk] at e; exact .inl e
  · rw [List.getElem?_append_right (by omega)] at e
    have h0 : k - l.length = 0 := by
      rcases Nat.eq_zero_or_pos (k - l.length) with h | h
      · exact h
      · rw [List.getElem?_eq_none (by simp; omega)] at e; cases e
    rw [h0] at e
    exact .inr ⟨by omega, by cases e; rfl⟩

theorem product_ok {n : Nat} {M N : List (List Int)} {f Lf Rt : Addr} (B : Base mg mb s.heap) (hf : mg "_law_product" = some (.ref f)) (hr : Room A 1) (hn : n < 10) (hM : Mat s.heap Lf M) (hN : Mat s.heap Rt N)
    (hl : M.length = n) (hl2 : N.length = n) (hrow : ∀ r ∈ M, r.length = n) (hrow2 : ∀ r ∈ N, r.length = n) (hb : ∀ r ∈ N, ∀ x ∈ r, -(2 ^ 60) ≤ x ∧ x ≤ 2 ^ 60)
    (h : ∀ a s', Grow s s' → MatNew s.heap s'.heap a (mulM n M N) → R (.ok (.ret (.ref a))) s') : codeAny (model prog w) A (.call (.ref f) ⟨[.ref Lf, .ref Rt], []⟩) R s := by
  refine enterC (l := [("left", .ref Lf)]) (binds := [("left", .ref Lf), ("right", .ref Rt)]) (fun L => [(L + 2, none), (L + 1, some (.ref Rt))]) B (mem_of_at (i := 9) rfl) hf hr (fun _ _ _ => rfl) (by rfl) ?_ ?_ ?_ ?_ rfl rfl rfl
  · intro L cd; exact put_Lk "left" (.ref Lf) []
  · intro L cd; rfl
  · decide
  intro L cd s1 C
  obtain ⟨rsM, ⟨oM, hoM, hpM⟩, hlM, hM⟩ := hM
  obtain ⟨rsN, ⟨oN, hoN, hpN⟩, hlN, hN⟩ := hN
  dsimp only [List.map] at C
  try dsimp only
  repeat (walk_at "z"; try dsimp only)
  refine r_lenL C (.inl ⟨_, hoN, hpN⟩) (by simp; omega) ?_
  intro t1 s2 C2
  refine r_stC (i := 0) C2 rfl rfl ?_
  intro s3 C3
  dsimp only [List.set] at C3
  try dsimp only
  repeat (walk_at "z"; try dsimp only)
  have hln : (rsN.map Value.ref).length = n := by simp [hlN, hl2]
  rw [hln] at C3
  refine r_compC (cl := [("right", L + 1), ("n", L + 2)]) rfl (fun _ => rfl) (fun _ => rfl) rfl (by decide) (fun _ _ => rfl) ?_
  repeat (walk_at "z"; try dsimp only)
  refine r_listIter C3 (.inl ⟨_, hoM, hpM⟩) ?_
  intro I s4 C4
  refine ⟨_, _, _, _, _, (rsM.map Value.ref).length, lstIt Lf, fun s0 own => Sees s0 own Lf (lst (rsM.map Value.ref)), fun i v => (rsM.map Value.ref)[i]? = some v, fun i ys own => ∃ rs : List Addr, ys = rs.map .ref ∧ rs.length = i ∧ (L + 2, cellP (some (.int n t1))) ∈ own ∧ (L + 1, cellP (some (.ref Rt))) ∈ own ∧ (∀ (k : Nat) r, rs[k]? = some r → (r, intL ((mulM n M N).getD k [])) ∈ own), rfl, C4, (by refine Pull.list ?_ _ Lf _; exact hr.handled), ⟨[], rfl, rfl, by walk_at "mem", by walk_at "mem", by simp⟩, by simp; omega, fun _ _ _ _ _ _ _ => Or.inl ⟨_, hoM, hpM⟩, ?_, ?_⟩
  · rintro i ys own v s5 E Cf lc D c hi ⟨rs, rfl, hrl, h1, h2, h3⟩ hv C
    refine gen fun Q1 hQ1 => ?_
    obtain ⟨rw_, hrw, rfl⟩ : ∃ r, rsM[i]? = some r ∧ v = .ref r := by
      rw [List.getElem?_map] at hv
      cases e : rsM[i]? with
      | none => rw [e] at hv; cases hv
      | some r => rw [e] at hv; exact ⟨r, rfl, by cases hv; rfl⟩
    have hi' : i < n := by simp at hi; omega
    obtain ⟨oW, hoW, hpW⟩ := hM i rw_ hrw
    have hlrow : (M.getD i []).length = n := by
      rw [List.getD_eq_getElem?_getD, List.getElem?_eq_getElem (by omega)]
      exact hrow _ (List.getElem_mem _)
    generalize hrowi : M.getD i [] = row at hpW hlrow
    refine r_compC (cl := [("row", c), ("right", L + 1), ("n", L + 2)]) rfl (fun _ => rfl) (fun _ => rfl) rfl (by decide) (fun _ _ => rfl) ?_
    repeat (walk_at "z"; try dsimp only)
    rename_i I2 s6 C2
    refine ⟨_, _, _, _, _, n, fun i o => o = rngIt i ((n : Int) - i), fun _ _ => True, fun i v => ∃ t, v = .int i t, fun m ys own2 => own2 = (I, lstIt Lf (i + 1)) :: (D, lstX (rs.map Value.ref)) :: (L, NsP (Lk _)) :: (c, cellP (some (.ref rw_))) :: own ∧ IntsAre ys ((List.range m).map fun j => ((List.range n).map fun k => row.getD k 0 * (N.getD k []).getD j 0).sum), rfl, by simpa using C2, (by refine Pull.range ?_ _ _; exact hr.handled), ⟨rfl, .nil⟩, by omega, fun _ _ _ _ _ _ _ => trivial, ?_, ?_⟩
    · rintro j ys2 own2 v2 s7 E2 Cf2 lc2 D2 c2 hj ⟨rfl, hI2⟩ ⟨tj, rfl⟩ C
      refine gen fun Q2 hQ2 => ?_
      repeat (walk_at "z"; try dsimp only)
      refine r_comp (cl := [("row", c), ("right", L + 1), ("j", c2)]) rfl (by decide) rfl (by decide) rfl ?_
      repeat (walk_at "z"; try dsimp only)
      rename_i I3 s8 C3
      refine ⟨_, _, _, _, _, n, fun i o => o = rngIt i ((n : Int) - i), fun _ _ => True, fun i v => ∃ t, v = .int i t, fun m ys own2 => own2 = (I2, (· = rngIt (j + 1 : Nat) ((n : Int) - (j + 1 : Nat)))) :: (D2, lstX ys2) :: (Cf, NsP (Lk _)) :: (c2, cellP (some (.int j tj))) :: (I, lstIt Lf (i + 1)) :: (D, lstX (rs.map Value.ref)) :: (L, NsP (Lk _)) :: (c, cellP (some (.ref rw_))) :: own ∧ IntsAre ys ((List.range m).map fun k => row.getD k 0 * (N.getD k []).getD j 0), rfl, by simpa using C3, (by refine Pull.range ?_ _ _; exact hr.handled), ⟨rfl, .nil⟩, by omega, fun _ _ _ _ _ => trivial, ?_, ?_⟩
      · rintro k ys3 own3 v3 s9 E3 Cf3 lc3 D3 hk ⟨rfl, hI3⟩ ⟨tk, rfl⟩ C
        refine gen fun Q3 hQ3 => ?_
        have hkN : k < rsN.length := by omega
        obtain ⟨oV, hoV, hpV⟩ := hN k rsN[k] (List.getElem?_eq_getElem hkN)
        have hmem : N.getD k [] ∈ N := by
          rw [List.getD_eq_getElem?_getD, List.getElem?_eq_getElem (by omega)]
          exact List.getElem_mem _
        have hlV := hrow2 _ hmem
        have hbV := hb _ hmem
        generalize hrowk : N.getD k [] = rowk at hpV hlV hbV
        have hv1 : row[((k : Int)).toNat]? = some (row.getD k 0) := by
          rw [Int.toNat_natCast, List.getD_eq_getElem?_getD, List.getElem?_eq_getElem (by omega)]; rfl
        have hv2 : rowk[((j : Int)).toNat]? = some (rowk.getD j 0) := by
          rw [Int.toNat_natCast, List.getD_eq_getElem?_getD, List.getElem?_eq_getElem (by omega)]; rfl
        have hb2 := hbV _ (List.mem_of_getElem? hv2)
        repeat (walk_at "z"; try dsimp only)
        refine r_subI C (.inl ⟨_, hoW, hpW⟩) (by omega) hv1 ?_
        intro t2
        try dsimp only
        repeat (walk_at "z"; try dsimp only)
        refine r_subL (v := .ref rsN[k]) C (.inl ⟨_, hoN, hpN⟩) (by omega) (by simp [hkN]) ?_
        try dsimp only
        repeat (walk_at "z"; try dsimp only)
        refine r_subI C (.inl ⟨_, hoV, hpV⟩) (by omega) hv2 ?_
        intro t3
        try dsimp only
        refine r_mul C (mul_ok' hb2) ?_
        intro t4 s10 C10
        refine hQ3 _ _ ?_
        refine ⟨_, _, ⟨rfl, ?_⟩, C10⟩
        rw [List.range_succ, List.map_append]
        exact ints_snoc hI3 (by rw [← hrowk])
      · rintro D3 ys3 own3 s9 hyl3 ⟨rfl, hI3⟩ C
        repeat (walk_at "z"; try dsimp only)
        have C5 := C.imp (i := 0) (P' := intL _) rfl (fun o ho => ⟨_, hI3, lstX.weak _ ho⟩)
        dsimp only [List.set] at C5
        refine r_sum C5 hr.handled (by walk_at "sees") ?_
        intro t5 s11 C11
        refine hQ2 _ _ ?_
        refine ⟨_, _, ⟨rfl, ?_⟩, C11.tail⟩
        rw [List.range_succ, List.map_append]
        exact ints_snoc hI2 rfl
    · rintro D2 ys2 own2 s7 hyl2 ⟨rfl, hI2⟩ C
      have C5 := C.imp (i := 0) (P' := intL _) rfl (fun o ho => ⟨_, hI2, lstX.weak _ ho⟩)
      dsimp only [List.set] at C5
      refine hQ1 _ _ ?_
      refine ⟨_, _, ⟨rs ++ [D2], by simp, by simp [hrl], ?_, ?_, fun k r e => ?_⟩, Cur.put_in (pre := [_, _, _, _]) C5⟩
      · exact List.mem_cons_of_mem _ h1
      · exact List.mem_cons_of_mem _ h2
      · rcases snoc_at e with e | ⟨rfl, rfl⟩
        · exact List.mem_cons_of_mem _ (h3 k r e)
        · refine List.mem_cons.mpr (.inl ?_)
          rw [hrl]
          have hi2 : i < M.length := by omega
          simp only [mulM, List.getD_eq_getElem?_getD, List.getElem?_map, List.getElem?_eq_getElem hi2, Option.map_some, Option.getD_some] at hrowi ⊢
          rw [hrowi]
  · rintro D ys own s5 hyl ⟨rs, rfl, hrl, h1, h2, h3⟩ C
    try dsimp only
    repeat (walk_at "z"; try dsimp only)
    obtain ⟨oo, hoo, hpp⟩ := C.has _ List.mem_cons_self
    refine h _ _ C.grow ⟨rs, ⟨oo, hoo, hpp.weak⟩, C.new _ List.mem_cons_self, by simp [mulM, hrl, hlM], fun i r e => ?_⟩
    have hm := List.mem_cons_of_mem (D, lstX (rs.map Value.ref)) (h3 i r e)
    exact ⟨C.new _ hm, C.has _ hm⟩
end

section
variable {prog : Program} {w : World} {A : Around} {s : Shared} {mg mb : Str → Option Value} {R : Result → Shared → Prop}

noncomputable def scan : List Nat → List Nat
  | [] => []
  | [c] => if c = 34 then [] else [c]
  | c :: d :: r => if c = 34 then (if d = 34 then 34 :: scan r else []) else c :: scan (d :: r)
theorem scan_other {c : Nat} (h : c ≠ 34) : ∀ r, scan (c :: r) = c :: scan r
  | [] => by simp [scan, h]
  | d :: r => by simp [scan, h]
theorem scan_qq (r : List Nat) : scan (34 :: 34 :: r) = 34 :: scan r := by simp [scan]
theorem scan_qo {d : Nat} (h : d ≠ 34) (r : List Nat) : scan (34 :: d :: r) = [] := by simp [scan, h]

set_option maxHeartbeats 4000000 in
theorem parse_ok {t : Tok} {f : Addr} {rest : List Nat} (B : Base mg mb s.heap) (hf : mg "parse257" = some (.ref f)) (hr : Room A 1) (hn : rest.length < 1000)
    (h : ∀ t s', Grow s s' → R (.ok (.ret (.str (S (scan rest)) t))) s') : codeAny (model prog w) A (.call (.ref f) ⟨[.str (S ([50, 53, 55, 32, 34] ++ rest)) t], []⟩) R s := by
  refine enter (binds := [("resp", .str (S ([50, 53, 55, 32, 34] ++ rest)) t)]) B (mem_of_at (i := 0) rfl) hf hr (fun _ _ _ => rfl) (by rfl) ?_ rfl rfl rfl (by decide)
  intro L cd s1 C
  walk_at "zz"
  rename_i C1
  refine r_sliceS (lo := none) (hi := some (3, _)) C1 (by walk_at "mem") (by simp [Within]) (by simp; omega) ?_
  intro t2 s2 C2
  rw [cut_eq]
  dsimp only [List.drop, List.cons_append, loOf, hiOf, Option.map]
  walk_at "zz"
  rw [if_neg (by simp)]
  walk_at "zz"
  rename_i C3
  refine r_sliceS (lo := some (3, _)) (hi := some (5, _)) C3 (by walk_at "mem") (by simp [Within]) (by simp; omega) ?_
  intro t4 s4 C4
  rw [cut_eq]
  walk_at "zz"
  rw [if_neg (by simp [loOf, hiOf])]
  walk_at "zz"
  rename_i C5
  have hFl : ([50, 53, 55, 32, 34] ++ rest).length = rest.length + 5 := by simp
  have hF : ∀ k, ([50, 53, 55, 32, 34] ++ rest)[k + 5]? = rest[k]? := fun k => by simp
  generalize [50, 53, 55, 32, 34] ++ rest = F at *
  refine codeAny_whileLoop (fun m s' => ∃ (l : Locs) (k : Nat) (acc : List Nat), Cur s L l [] s' ∧ m = rest.length - k ∧ k ≤ rest.length ∧ Lk l "resp" = some (.str (S F) t) ∧ (∃ t, Lk l "i" = some (.int ((k : Int) + 5) t)) ∧ (∃ t, Lk l "n" = some (.int (rest.length + 5 : Nat) t)) ∧ (∃ t, Lk l "dirname" = some (.str (S acc) t)) ∧ acc ++ scan (rest.drop k) = scan rest ∧ acc.length ≤ k) ?_ rest.length ⟨_, 0, [], C5.drop (List.nil_sublist _), rfl, Nat.zero_le _, by walk_at "lk", ⟨_, by walk_at "lk"⟩, ⟨_, by rw [← hFl]; walk_at "lk"⟩, ⟨_, by walk_at "lk"⟩, rfl, Nat.le_refl _⟩
  rintro m s6 ⟨l, k, acc, C, rfl, hk, h1, ⟨ti, h2⟩, ⟨tn, h3⟩, ⟨td, h4⟩, hsc, hal⟩
  walk_at "zz"
  by_cases hlt : k < rest.length
  · rw [if_pos (by simp; omega)]
    refine gen fun Q1 hQ1 => ?_
    have hc : F[((k : Int) + 5).toNat]? = some rest[k] := by
      rw [show ((k : Int) + 5).toNat = k + 5 by omega, hF, List.getElem?_eq_getElem hlt]
    have hd : rest.drop k = rest[k] :: rest.drop (k + 1) := List.drop_eq_getElem_cons hlt
    generalize rest[k] = c at hc hd
    walk_at "zz"
    refine r_sitem C (by omega) hc ?_
    intro tc s7 C7
    walk_at "zz"
    by_cases hq : c = 34
    · subst hq
      rw [if_pos (by simp)]
      walk_at "zz"
      by_cases he : k + 1 < rest.length
      · rw [if_neg (by simp; omega)]
        have hc2 : F[((k : Int) + 5 + 1).toNat]? = some rest[k + 1] := by
          rw [show ((k : Int) + 5 + 1).toNat = (k + 1) + 5 by omega, hF, List.getElem?_eq_getElem he]
        have hd2 : rest.drop (k + 1) = rest[k + 1] :: rest.drop (k + 2) := List.drop_eq_getElem_cons he
        generalize rest[k + 1] = d at hc2 hd2
        walk_at "zz"
        rename_i C8
        refine r_sitem C8 (by omega) hc2 ?_
        intro te s9 C9
        walk_at "zz"
        by_cases hq2 : d = 34
        · subst hq2
          rw [if_neg (by simp)]
          walk_at "zz"
          rw [if_neg (by simp)]
          walk_at "zz"
          rename_i C12
          refine hQ1 _ _ ?_
          refine ⟨rest.length - (k + 2), by omega, _, k + 2, acc ++ [34], C12, rfl, by omega, by walk_at "lk", ?_, ⟨_, by walk_at "lk"⟩, ⟨_, by walk_at "lk"⟩, ?_, by simp; omega⟩
          · exact ⟨_, by rw [show (((k + 2 : Nat) : Int) + 5) = (k : Int) + 5 + 1 + 1 by omega]; walk_at "lk"⟩
          · rw [← hsc, hd, hd2, scan_qq]; simp
        · rw [if_pos (by simp [hq2])]
          walk_at "zz"
          rw [if_pos rfl]
          walk_at "zz"
          have e : acc = scan rest := by rw [← hsc, hd, hd2, scan_qo hq2]; simp
          subst e
          refine hQ1 _ _ ?_
          walk_at "zz"
          exact h _ _ (Cur.grow (by assumption))
      · rw [if_pos (by simp; omega)]
        walk_at "zz"
        rw [if_pos rfl]
        walk_at "zz"
        have e : acc = scan rest := by rw [← hsc, hd, List.drop_of_length_le (by omega)]; simp [scan]
        subst e
        refine hQ1 _ _ ?_
        walk_at "zz"
        exact h _ _ (Cur.grow (by assumption))
    · rw [if_neg (by simp [hq])]
      walk_at "zz"
      rename_i C12
      refine hQ1 _ _ ?_
      refine ⟨rest.length - (k + 1), by omega, _, k + 1, acc ++ [c], C12, rfl, by omega, by walk_at "lk", ?_, ⟨_, by walk_at "lk"⟩, ⟨_, by walk_at "lk"⟩, ?_, by simp; omega⟩
      · exact ⟨_, by rw [show (((k + 1 : Nat) : Int) + 5) = (k : Int) + 5 + 1 by omega]; walk_at "lk"⟩
      · rw [← hsc, hd, scan_other hq]; simp
  · rw [if_neg (by simp; omega)]
    walk_at "zz"
    have e : acc = scan rest := by rw [← hsc, List.drop_of_length_le (by omega)]; simp [scan]
    subst e
    exact h _ _ C.grow
end

section
variable {prog : Program} {w : World} {A : Around} {s : Shared} {mg mb : Str → Option Value} {R : Result → Shared → Prop}

theorem scan_app (r : List Nat) : ∀ p : List Nat, (∀ c ∈ p, c ≠ 34) → scan (p ++ r) = p ++ scan r
  | [], _ => rfl
  | c :: p, h => by
    rw [List.cons_append, scan_other (h c List.mem_cons_self), scan_app r p fun c hc => h c (List.mem_cons_of_mem _ hc)]; rfl
theorem scan_quotes (r : List Nat) : ∀ h : Nat, scan (List.replicate h 34 ++ 120 :: 34 :: 32 :: r) = List.replicate (h / 2) 34 ++ List.replicate (1 - h % 2) 120
  | 0 => by rw [List.replicate_zero, List.nil_append, scan_other (by decide), scan_qo (by decide)]; rfl
  | 1 => by show scan (34 :: 120 :: _) = _; rw [scan_qo (by decide)]; rfl
  | h + 2 => by
    show scan (34 :: 34 :: (List.replicate h 34 ++ _)) = _
    rw [scan_qq, scan_quotes r h, Nat.add_div_right h (show 0 < 2 by decide), Nat.add_mod_right h 2]
    rfl

set_option maxHeartbeats 4000000 in
theorem quotes_ok {h : Nat} {t : Tok} {f g Ld : Addr} {ys : List (List Nat)} (B : Base mg mb s.heap) (hf : mg "_law_by_quotes" = some (.ref f)) (hg : mg "parse257" = some (.ref g)) (hr : Room A 2) (hh : h < 100)
    (hy : ys.flatten.length ≤ 100) (hy1 : ∀ c ∈ ys.flatten, c ≠ 34 ∧ c ≠ 120) (hLd : ∃ o, s.heap.get? Ld = some o ∧ strL ys o)
    (hq : ∀ a s' o t u, Grow s s' → s.heap.get? a = none → s'.heap.get? a = some o → tup [.int (h / 2 : Nat) t, .int (h % 2 : Nat) u] o → R (.ok (.ret (.ref a))) s') : codeAny (model prog w) A (.call (.ref f) ⟨[.int h t, .ref Ld], []⟩) R s := by
  refine enter (binds := [("height", .int h t), ("lead", .ref Ld)]) B (mem_of_at (i := 3) rfl) hf (hr.le (by decide)) (fun _ _ _ => rfl) (by rfl) ?_ rfl rfl rfl (by decide)
  intro L cd s1 C
  obtain ⟨oL, hoL, hpL⟩ := hLd
  have hsc := scan_app (List.replicate h 34 ++ 120 :: 34 :: 32 :: [109, 97, 100, 101]) ys.flatten (fun c hc => (hy1 c hc).1)
  rw [scan_quotes] at hsc
  obtain ⟨p, hp⟩ : ∃ p, ys.flatten = p := ⟨_, rfl⟩
  rw [hp] at hy hy1 hsc
  walk_at "zz"
  rename_i C1
  have e1 : [50, 53, 55, 32, 34] ++ p ++ List.replicate ((h : Nat) : Int).toNat 34 ++ [120, 34, 32, 109, 97, 100, 101] = [50, 53, 55, 32, 34] ++ (p ++ (List.replicate h 34 ++ 120 :: 34 :: 32 :: [109, 97, 100, 101])) := by simp
  rw [e1]
  refine wpAny_call (parse_ok (B.keeps C1.grow.keep) hg (hr.deeper _) (by simp; omega) ?_)
  intro t2 s2 g2
  have C2 := C1.call g2
  rw [hsc]
  have hc1 : (p ++ (List.replicate (h / 2) 34 ++ List.replicate (1 - h % 2) 120)).count 34 = h / 2 := by
    rw [List.count_append, List.count_append, List.count_replicate_self, List.count_eq_zero_of_not_mem (fun hm => (hy1 34 hm).1 rfl), List.count_replicate]
    simp
  have hc2 : (p ++ (List.replicate (h / 2) 34 ++ List.replicate (1 - h % 2) 120)).count 120 = 1 - h % 2 := by
    rw [List.count_append, List.count_append, List.count_replicate_self, List.count_eq_zero_of_not_mem (fun hm => (hy1 120 hm).2 rfl), List.count_replicate]
    simp
  have hlen : (p ++ (List.replicate (h / 2) 34 ++ List.replicate (1 - h % 2) 120)).length ≤ 300 := by simp; omega
  have hT : p ++ List.replicate (h / 2) 34 ++ List.replicate (1 - h % 2) 120 = p ++ (List.replicate (h / 2) 34 ++ List.replicate (1 - h % 2) 120) := List.append_assoc ..
  generalize p ++ (List.replicate (h / 2) 34 ++ List.replicate (1 - h % 2) 120) = T at hc1 hc2 hT hlen ⊢
  clear C1 C
  walk_at "zz"
  have e3 : (1 : Int) - (1 - (T.count 120 : Nat)) = (1 - h % 2 : Nat) := by rw [hc2]; omega
  rw [if_neg (by rw [e3, Int.toNat_natCast, Int.toNat_natCast, hc1, hT]; simp)]
  walk_at "zz"
  rename_i Ta s9 C9
  obtain ⟨o, ho, hpo⟩ := C9.has _ List.mem_cons_self
  have e4 : (1 : Int) - (T.count 120 : Nat) = (h % 2 : Nat) := by rw [hc2]; omega
  rw [hc1, e4] at hpo
  exact hq _ _ o _ _ C9.grow (C9.new _ List.mem_cons_self) ho hpo
end

section
variable {prog : Program} {w : World} {A : Around} {s : Shared} {mg mb : Str → Option Value} {R : Result → Shared → Prop}

def IsI (n : Int) : Item := fun v ov => ov = [] ∧ ∃ t, v = .int n t

theorem gi_while {K : Addr} {n : Int} {env : Env} {k : Nat} {p1 p2 p3 p4 : Pos} {fs : List Frame} (hfs : splitAtGen fs = none) (hgu : fs.any Frame.guarded = false) (hL : env.locals = K) (hk : env.scope.kind = .function) (hl : env.kindOf "last_interval" = some .local)
    (hco : env.scope.isCoroutine = false) (hi : interactive env = false) : ∀ (m : Nat) (z s : Shared) (lc : Locs) (oi : Own) (t : Tok), Cur z K lc oi s → Lk lc "last_interval" = some (.int n t) →
    Stp (model prog w) A (fun e s' => ∃ v l k c p fs, e = .susp v false l k c p fs ∧ fs.any Frame.guarded = false ∧ ∃ lc' oi' ov, IsI n v ov ∧ Cur z K lc' (ov ++ oi') s' ∧ Will prog w A mg mb false (List.replicate m (IsI n)) K lc' oi' e.genState)
      (.whileLoop (.Constant (.bool true) k p1) [.Expr (.Yield (some (.Name "last_interval" p2)) p3) p4] [] env) ((model prog w).den (.whileLoop (.Constant (.bool true) k p1) [.Expr (.Yield (some (.Name "last_interval" p2)) p3) p4] [] env)) fs s := by
  intro m
  induction m with
  | zero =>
    intro z s lc oi t C hv
    refine stp_whileLoop fun H => wpAny_isTrue_value (r_bool C fun s1 C1 => r_truthy ⟨rfl, ?_⟩)
    refine stp_cons (stp_Yield hfs rfl (r_loc C1 hv ?_ hL hk hl) hco hi)
    intro l k p hk
    exact ⟨_, _, _, _, _, _, rfl, hgu, lc, oi, [], ⟨rfl, _, rfl⟩, C1, fun h => by cases h⟩
  | succ m ih =>
    intro z s lc oi t C hv
    refine stp_whileLoop fun H => wpAny_isTrue_value (r_bool C fun s1 C1 => r_truthy ⟨rfl, ?_⟩)
    refine stp_cons (stp_Yield hfs rfl (r_loc C1 hv ?_ hL hk hl) hco hi)
    intro l k p hk
    refine ⟨_, _, _, _, _, _, rfl, hgu, lc, oi, [], ⟨rfl, _, rfl⟩, C1, ?_⟩
    intro z' s' _ C'
    exact hk _ _ (stp_nil (stp_again (ih z' s' lc oi t C' hv)))

theorem gi_ok {once size : Int} {t u v : Tok} {f X : Addr} (B : Base mg mb s.heap) (hf : mg "_grouping_intervals" = some (.ref f)) (hr : Room A 1) (hO : once ≠ 127 ∧ once ≠ 0) (hS : size ≠ 127 ∧ size ≠ 0)
    (h : ∀ G K lc gs s', Made s s' G K lc gs → gs.bare = true → (∀ A' m, A'.handled = none → Will prog w A' mg mb false (IsI once :: List.replicate (m + 1) (IsI size)) K lc [(X, lstX [.int once t, .int size u, .int 0 v])] gs) → R (.ok (.ret (.ref G))) s') :
    codeAny (model prog w) A (.call (.ref f) ⟨[.ref X], []⟩) R s := by
  refine enterGen (binds := [("grouping", .ref X)]) B (mem_of_at (i := 2) rfl) hf hr (fun _ _ _ => rfl) (by rfl) ?_ rfl rfl rfl (by decide)
  intro G K cd s' hM
  refine h G K _ _ s' hM rfl fun A' m hh => ?_
  intro z s1 Bz C
  have C := C.imp (i := 0) (P' := lst _) rfl lstX.weak
  dsimp only [List.set] at C
  refine stp_func fun H => stp_cons (stp_stmt ?_)
  walk_at "zz"
  rename_i C2
  refine stp_cons (stp_For ?_)
  walk_at "zz"
  refine r_listIter C2 (by walk_at "sees") ?_
  intro I s3 C3 p k' l hk'
  refine stp_forLoop fun E H => ?_
  refine r_nextL C3 (by walk_at "sees") (v := .int once t) rfl fun s4 C4 => ?_
  refine wpAny_pure (r_as C4 (fun s5 C5 => ?_))
  refine stp_cons (stp_stmt ?_)
  obtain ⟨tc, hcm⟩ := Bz.cmax
  walk_at "zz"
  rw [if_neg (by simpa using hO.1)]
  walk_at "zz"
  refine stp_cons (stp_If ?_)
  walk_at "zz"
  rw [if_neg (by simpa using hO.2)]
  refine stp_nil ?_
  try dsimp only
  refine stp_cons (stp_Yield rfl rfl ?_)
  walk_at "zz"
  rename_i C6
  intro l1 k1 p1 hk1
  refine ⟨_, _, _, _, _, _, rfl, rfl, _, _, [], ⟨rfl, _, rfl⟩, C6, ?_⟩
  clear C C2 C3 C4 C5 C6 hcm
  intro z2 s6 Bz2 C
  refine hk1 _ _ (stp_cons (stp_stmt ?_))
  walk_at "zz"
  rename_i C7
  refine stp_nil (stp_again (stp_forLoop fun E H => ?_))
  refine r_nextL C7 (by walk_at "sees") (v := .int size u) rfl fun s4 C4 => ?_
  refine wpAny_pure (r_as C4 (fun s5 C5 => ?_))
  refine stp_cons (stp_stmt ?_)
  obtain ⟨tc, hcm⟩ := Bz2.cmax
  walk_at "zz"
  rw [if_neg (by simpa using hS.1)]
  walk_at "zz"
  refine stp_cons (stp_If ?_)
  walk_at "zz"
  rw [if_neg (by simpa using hS.2)]
  refine stp_nil ?_
  try dsimp only
  refine stp_cons (stp_Yield rfl rfl ?_)
  walk_at "zz"
  rename_i C6
  intro l2 k2 p2 hk2
  refine ⟨_, _, _, _, _, _, rfl, rfl, _, _, [], ⟨rfl, _, rfl⟩, C6, ?_⟩
  cases m with
  | zero => exact fun h => by cases h
  | succ m =>
    clear C C4 C5 C6 C7 hcm
    intro z3 s7 Bz3 C
    refine hk2 _ _ (stp_cons (stp_stmt ?_))
    walk_at "zz"
    rename_i C7
    refine stp_nil (stp_again (stp_forLoop fun E H => ?_))
    refine r_nextL C7 (by walk_at "sees") (v := .int 0 v) rfl fun s4 C4 => ?_
    refine wpAny_pure (r_as C4 (fun s5 C5 => ?_))
    refine stp_cons (stp_stmt ?_)
    obtain ⟨tc, hcm⟩ := Bz3.cmax
    walk_at "zz"
    rw [if_neg (by simp)]
    walk_at "zz"
    refine stp_cons (stp_If ?_)
    walk_at "zz"
    rename_i C8
    rw [if_pos (by simp)]
    refine stp_cons (stp_stmt ?_)
    walk_at "zz"
    refine is_int_none ?_
    walk_at "zz"
    rw [if_neg (by simp)]
    walk_at "zz"
    rename_i C9
    refine stp_cons (stp_While fun p3 k3 hk3 => ?_)
    exact gi_while (n := size) rfl rfl rfl rfl rfl rfl rfl m _ _ _ _ u C9 (by walk_at "lk")
end

section
variable {prog : Program} {w : World} {A : Around} {s : Shared} {mg mb : Str → Option Value} {R : Result → Shared → Prop}

set_option maxHeartbeats 4000000 in
theorem sizes_ok {h size : Nat} {once : Int} {t u v : Tok} {f g : Addr} (B : Base mg mb s.heap) (hf : mg "_law_by_sizes" = some (.ref f)) (hg : mg "_grouping_intervals" = some (.ref g)) (hr : Room A 2) (hh : h < 100)
    (hs : 1 ≤ size ∧ size < 100) (ho : 1 ≤ once ∧ once ≠ 127 ∧ once < 1000)
    (hq : ∀ a s' o t u, Grow s s' → s.heap.get? a = none → s'.heap.get? a = some o → tup [.int (h / size : Nat) t, .int (h % size : Nat) u] o → R (.ok (.ret (.ref a))) s') : codeAny (model prog w) A (.call (.ref f) ⟨[.int h t, .int size u, .int once v], []⟩) R s := by
  refine enterA (k := 1) (binds := [("height", .int h t), ("size", .int size u), ("once", .int once v)]) B (mem_of_at (i := 5) rfl) hf hr (fun _ _ _ => rfl) (by rfl) ?_ rfl rfl rfl (by decide)
  intro L cd A0 s1 hr1 C
  walk_at "zz"
  rename_i t0 _ _ X s2 C2
  refine wpAny_call (gi_ok (once := once) (size := size) (t := v) (u := u) (v := t0) (B.keeps C2.grow.keep) hg hr1 (by omega) (by omega) ?_)
  intro G K lc gs s3 hM hb hW
  obtain ⟨C3, hgs, hsz⟩ := C2.addGen hM hb
  generalize s2.gens.size = gn at C3 hgs hsz
  have C3 := C3.perm (List.Perm.cons _ (List.Perm.swap _ _ _))
  try dsimp only
  have hWW := hW A0.in1 (h / size + 2) hr1.handled
  obtain ⟨oG, hoG, hpG⟩ := C3.has (G, genP gn) (by walk_at "mem")
  refine wpAny_pyIter_gen (genP.isGen hoG hpG) ?_
  let items : Nat → List Item := fun i => match i with | 0 => IsI once :: List.replicate (h / size + 3) (IsI size) | i + 1 => List.replicate (h / size + 3 - i) (IsI size)
  let hgt : Nat → Int := fun i => match i with | 0 => h + once | i + 1 => (h : Int) - (size : Int) * i
  let stp : Nat → Int := fun i => match i with | 0 => once | i + 1 => size
  refine for_turnsI (n := h / size + 2) (fun i s' => i ≤ h / size + 1 ∧ ∃ l lc oi gs, Cur s L l ((K, NsP (Lk lc)) :: (oi ++ [(G, genP gn)])) s' ∧ s'.gens[gn]? = some gs ∧ Will prog w A0.in1 mg mb false (items i) K lc oi gs ∧
    (∃ t, Lk l "height" = some (.int (hgt i) t)) ∧ (∃ t, Lk l "carried" = some (.int ((i : Int) - 1) t))) ?_ ?_ ⟨Nat.zero_le _, _, _, [_], gs, C3, hgs, hWW, ⟨_, by walk_at "lk"⟩, ⟨_, by walk_at "lk"⟩⟩
  · rintro i s4 E I' hi ⟨hile, l, lc, oi, gs, C4, hgs4, W4, ⟨th, h1⟩, ⟨tc, h2⟩⟩ hI'
    have hit : items i = IsI (stp i) :: items (i + 1) := by
      cases i with
      | zero => rfl
      | succ i =>
        show List.replicate _ _ = IsI size :: List.replicate _ _
        rw [stepdown (show i < h / size + 3 from Nat.lt_of_lt_of_le (Nat.lt_of_succ_lt hi) (Nat.le_succ _))]; rfl
    rw [hit] at W4
    refine r_nextGen hr1.handled (by have := hr1.depth; omega) B (by walk_at "mem") C4 hsz hgs4 W4 ?_
    rintro v s5 lc' oi' ov gs' ⟨rfl, tv, rfl⟩ C5 hgs5 W5
    refine ⟨_, rfl, r_as C5.rebase fun s6 C6 => ?_⟩
    have hdm : size * (h / size) + h % size = h := Nat.div_add_mod h size
    have hml : h % size < size := Nat.mod_lt _ (by omega)
    have hcar : ((i : Int) - 1) + 1 = ((i + 1 : Nat) : Int) - 1 := by omega
    have hsub : i ≤ h / size → hgt i - stp i = hgt (i + 1) ∧ ¬ hgt i < stp i := fun hl => by
      cases i with
      | zero => simp [hgt, stp]; omega
      | succ j =>
        have : size * (j + 1) ≤ size * (h / size) := Nat.mul_le_mul_left _ hl
        have e1 : (size : Int) * ((j + 1 : Nat) : Int) = (size : Int) * (j : Int) + size := by rw [Int.natCast_add, Int.mul_add]; simp
        have e2 : ((size * (j + 1) : Nat) : Int) = (size : Int) * ((j + 1 : Nat) : Int) := Int.natCast_mul _ _
        simp only [hgt, stp]
        omega
    walk_at "zz"
    by_cases hl : i ≤ h / size
    · rw [if_neg (by simpa using (hsub hl).2)]
      walk_at "zz"
      rename_i C7
      refine hI' _ ⟨by omega, _, _, _, _, C7.unbase C5.grow.gens, C7.grow.gens.1 _ _ hgs5, W5, ?_, ?_⟩
      · exact ⟨_, by rw [← (hsub hl).1]; walk_at "lk"⟩
      · exact ⟨_, by rw [← hcar]; walk_at "lk"⟩
    · have ei : i = h / size + 1 := by omega
      subst ei
      have e2 : ((size * (h / size) : Nat) : Int) = (size : Int) * ((h / size : Nat) : Int) := Int.natCast_mul _ _
      have e3 : hgt (h / size + 1) = (h % size : Nat) := by simp only [hgt]; omega
      rw [e3]
      have e4 : stp (h / size + 1) = size := rfl
      rw [e4, if_pos (by rw [decide_eq_true_eq]; omega)]
      walk_at "zz"
      rename_i Ta s9 C9
      obtain ⟨o, ho, hpo⟩ := C9.has _ List.mem_cons_self
      have C10 := C9.unbase C5.grow.gens
      have e5 : (((h / size + 1 : Nat) : Int) - 1) = (h / size : Nat) := by omega
      rw [e5, e3] at hpo
      exact hq _ _ o _ _ C10.grow (C10.new _ List.mem_cons_self) ho hpo
  · rintro s4 E ⟨hile, _⟩
    omega
end

section
variable {prog : Program} {w : World} {A : Around} {s : Shared} {mg mb : Str → Option Value} {R : Result → Shared → Prop}

def PhiW (prog : Program) (w : World) (A : Around) (mg mb : Str → Option Value) (z : Shared) (K : Addr) : List Item → End → Shared → Prop
  | [], e, s' => e = .ret (.ok (.ret .none)) ∧ Grow z s'
  | P :: r, e, s' => ∃ v l k c p fs, e = .susp v false l k c p fs ∧ fs.any Frame.guarded = false ∧ ∃ lc' oi' ov, P v ov ∧ Cur z K lc' (ov ++ oi') s' ∧ Will prog w A mg mb true r K lc' oi' e.genState
theorem will_of {items : List Item} {K : Addr} {lc : Locs} {oi : Own} {gs : GenState} (h : ∀ z s, Base mg mb z.heap → Cur z K lc oi s → GoOn (model prog w) A gs (PhiW prog w A mg mb z K items) s) : Will prog w A mg mb true items K lc oi gs := by
  cases items with
  | nil => exact fun _ z s B C => h z s B C
  | cons P r => exact fun z s B C => h z s B C

noncomputable def iec : Bool → Nat → List Nat → List (Nat × List Nat)
  | false, _, [] => []
  | true, p, [] => [(p - 1, [92])]
  | true, p, c :: r => (p, [92, c]) :: iec false (p + 1) r
  | false, p, c :: r => if c = 92 then iec true (p + 1) r else (p, [c]) :: iec false (p + 1) r
def IsP (q : Nat × List Nat) : Item := fun v ov => ∃ a t u, v = .ref a ∧ ov = [(a, tup [.int q.1 t, .str (S q.2) u])]

set_option maxHeartbeats 8000000 in
theorem iec_ok {str : List Nat} {t : Tok} {f : Addr} (B : Base mg mb s.heap) (hf : mg "_iter_escaped_chars" = some (.ref f)) (hr : Room A 1) (hn : str.length < 1000)
    (h : ∀ G K lc gs s', Made s s' G K lc gs → gs.bare = true → (∀ A', A'.handled = none → Will prog w A' mg mb true ((iec false 0 str).map IsP) K lc [] gs) → R (.ok (.ret (.ref G))) s') :
    codeAny (model prog w) A (.call (.ref f) ⟨[.str (S str) t], []⟩) R s := by
  refine enterGen (binds := [("addr", .str (S str) t)]) B (mem_of_at (i := 1) rfl) hf hr (fun _ _ _ => rfl) (by rfl) ?_ rfl rfl rfl (by decide)
  intro G K cd s' hM
  refine h G K _ _ s' hM rfl fun A' hh => will_of ?_
  intro z s1 Bz C
  refine stp_func fun H => stp_cons (stp_stmt ?_)
  walk_at "zz"
  refine stp_cons (stp_stmt ?_)
  walk_at "zz"
  refine stp_cons (stp_For ?_)
  walk_at "zz"
  rename_i C2
  refine r_enum C2 fun e it s3 C3 => ?_
  refine r_iterEnum C3 ?_
  intro p k' l hk'
  generalize hcode : Code.forLoop _ _ _ _ _ = code
  generalize hfs : [Frame.ret _ _ _ _ _ _ _] = fs
  have Lp : ∀ (r : List Nat) (i : Nat) (esc : Bool) (z s : Shared) (lc : Locs), Base mg mb z.heap → Cur z K lc [(e, enumP it i), (it, sitP (S str) t i)] s → str.drop i = r → i ≤ str.length →
      Lk lc "escape" = some (.bool esc) → (∃ t, Lk lc "pos" = some (.int ((i - 1 : Nat) : Int) t)) → Stp (model prog w) A' (PhiW prog w A' mg mb z K ((iec esc i r).map IsP)) code ((model prog w).den code) fs s := by
    intro r
    induction r with
    | nil =>
      intro i esc z s lc Bz C hr hi h1 h2
      have hil : i = str.length := by
        have := congrArg List.length hr
        simp at this; omega
      subst hcode hfs
      refine stp_forLoop fun E H => ?_
      refine r_endEnum hh C (by rw [hil]; exact (S_len str).symm) fun s4 C4 => ?_
      refine stp_block ?_
      rw [hk']
      try dsimp only
      obtain ⟨tp, h2⟩ := h2
      refine stp_cons (stp_If ?_)
      walk_at "zz"
      cases esc with
      | true =>
        rw [if_pos rfl]
        refine stp_cons (stp_Yield rfl rfl ?_)
        walk_at "zz"
        rename_i Ta s9 C9
        intro l1 k1 p1 hk1
        refine ⟨_, _, _, _, _, _, rfl, rfl, _, [], [_], ⟨Ta, _, _, rfl, rfl⟩, C9, will_of ?_⟩
        intro z2 s2 Bz2 C
        exact hk1 _ _ (stp_nil (stp_nil (stp_end (.ok (.ret .none)) ⟨rfl, C.grow⟩)))
      | false =>
        rw [if_neg (by simp)]
        exact stp_nil (stp_nil (stp_end (.ok (.ret .none)) ⟨rfl, Cur.grow (by assumption)⟩))
    | cons c r ih =>
      intro i esc z s lc Bz C hr hi h1 h2
      have hil : i < str.length := by
        have := congrArg List.length hr
        simp at this; omega
      have hc : str[i]? = some c := by
        have := congrArg (·[0]?) hr
        simpa using this
      have hr' : str.drop (i + 1) = r := by
        rw [← List.drop_drop, hr]; rfl
      have key : ∀ esc z s lc, Base mg mb z.heap → Cur z K lc [(e, enumP it (i + 1)), (it, sitP (S str) t (i + 1))] s → Lk lc "escape" = some (.bool esc) → (∃ t, Lk lc "pos" = some (.int (i : Int) t)) → Stp (model prog w) A' (PhiW prog w A' mg mb z K ((iec esc (i + 1) r).map IsP)) code ((model prog w).den code) fs s :=
        fun esc z s lc Bz C h1 h2 => ih (i + 1) esc z s lc Bz C hr' hil h1 h2
      clear ih h2
      subst hcode hfs
      refine stp_forLoop fun E H => ?_
      refine r_nextEnum hh C (c := c) (by simpa using hc) fun T t1 u1 s4 C4 => ?_
      refine r_letEnum C4 fun s5 C5 => ?_
      refine r_unpack hh C5 (by walk_at "sees") fun s6 C6 => ?_
      have C6 := C6.tail
      refine r_st C6 fun s7 C7 => r_st C7 fun s8 C8 => ?_
      clear C C4 C5 C6 C7
      refine stp_cons (stp_If ?_)
      walk_at "zz"
      cases esc with
      | true =>
        rw [if_pos rfl]
        refine stp_cons (stp_Yield rfl rfl ?_)
        walk_at "zz"
        rename_i Ta s9 C9
        intro l1 k1 p1 hk1
        refine ⟨_, _, _, _, _, _, rfl, rfl, _, [(e, enumP it (i + 1)), (it, sitP (S str) t (i + 1))], [_], ⟨Ta, _, _, rfl, rfl⟩, C9, will_of ?_⟩
        clear C9
        intro z2 s2 Bz2 C
        refine hk1 _ _ (stp_cons (stp_stmt ?_))
        walk_at "zz"
        rename_i C3
        exact stp_nil (stp_nil (stp_again (key false _ _ _ Bz2 C3 (by walk_at "lk") ⟨_, by walk_at "lk"⟩)))
      | false =>
        rw [if_neg (by simp)]
        refine stp_cons (stp_If ?_)
        walk_at "zz"
        by_cases hb : c = 92
        · subst hb
          rw [if_pos (by simp)]
          refine stp_cons (stp_stmt ?_)
          walk_at "zz"
          rename_i C3
          have ee : iec false i (92 :: r) = iec true (i + 1) r := by simp [iec]
          rw [ee]
          exact stp_nil (stp_nil (stp_nil (stp_again (key true _ _ _ Bz C3 (by walk_at "lk") ⟨_, by walk_at "lk"⟩))))
        · rw [if_neg (by simpa using hb)]
          refine stp_cons (stp_Yield rfl rfl ?_)
          walk_at "zz"
          rename_i Ta s9 C9
          have ee : iec false i (c :: r) = (i, [c]) :: iec false (i + 1) r := by simp [iec, hb]
          rw [ee]
          intro l1 k1 p1 hk1
          refine ⟨_, _, _, _, _, _, rfl, rfl, _, [(e, enumP it (i + 1)), (it, sitP (S str) t (i + 1))], [_], ⟨Ta, _, _, rfl, rfl⟩, C9, will_of ?_⟩
          clear C9
          intro z2 s2 Bz2 C
          exact hk1 _ _ (stp_nil (stp_nil (stp_nil (stp_again (key false _ _ _ Bz2 C (by walk_at "lk") ⟨_, by walk_at "lk"⟩)))))
  exact Lp str 0 false _ _ _ Bz C3 rfl (Nat.zero_le _) (by walk_at "lk") ⟨_, by walk_at "lk"⟩
end

section
variable {prog : Program} {w : World} {A : Around} {s : Shared} {mg mb : Str → Option Value} {R : Result → Shared → Prop}

def Part (x : List Nat) : Prop := (∃ c, c ≠ 92 ∧ x = [c]) ∨ (∃ c, c ≠ 92 ∧ x = [92, c])
noncomputable def dues : Nat → List (List Nat) → List (Nat × List Nat)
  | _, [] => []
  | p, x :: r => (p + x.length - 1, x) :: dues (p + x.length) r
theorem iec_parts : ∀ (ys : List (List Nat)) (p : Nat) (rest : List Nat), (∀ x ∈ ys, Part x) → iec false p (ys.flatten ++ rest) = dues p ys ++ iec false (p + ys.flatten.length) rest
  | [], p, rest, _ => by simp [dues]
  | x :: ys, p, rest, h => by
    have ih := fun p => iec_parts ys p rest (fun x hx => h x (List.mem_cons_of_mem _ hx))
    rcases h x List.mem_cons_self with ⟨c, hc, rfl⟩ | ⟨c, hc, rfl⟩
    · rw [List.flatten_cons, List.append_assoc]
      show iec false p (c :: (ys.flatten ++ rest)) = _
      simp only [iec, hc, if_false, ih, dues, List.length_cons, List.length_nil, List.length_append, List.cons_append]
      congr 2
      congr 1
      omega
    · rw [List.flatten_cons, List.append_assoc]
      show iec false p (92 :: c :: (ys.flatten ++ rest)) = _
      simp only [iec, if_true, ih, dues, List.length_cons, List.length_nil, List.length_append, List.cons_append]
      congr 2
      congr 1
      omega
theorem iec_backs : ∀ (h p : Nat), iec false p (List.replicate h 92) = dues p (List.replicate (h / 2) [92, 92] ++ List.replicate (h % 2) [92])
  | 0, p => rfl
  | 1, p => by simp [iec, dues]
  | h + 2, p => by
    rw [Nat.add_div_right h (show 0 < 2 by decide), Nat.add_mod_right h 2]
    show iec false p (92 :: 92 :: List.replicate h 92) = dues p ([92, 92] :: (List.replicate (h / 2) [92, 92] ++ List.replicate (h % 2) [92]))
    simp only [iec, if_true, dues, iec_backs h]
    rfl
theorem dues_app : ∀ (a b : List (List Nat)) (p : Nat), dues p (a ++ b) = dues p a ++ dues (p + a.flatten.length) b
  | [], b, p => by simp [dues]
  | x :: a, b, p => by
    rw [List.cons_append]
    simp only [dues, dues_app a b, List.cons_append, List.flatten_cons, List.length_append]
    congr 2
    congr 1
    omega
theorem dues_at : ∀ (z : List (List Nat)) (p k : Nat), (dues p z)[k]? = z[k]?.map fun x => (p + (z.take k).flatten.length + x.length - 1, x)
  | [], p, k => by simp [dues]
  | x :: z, p, 0 => by simp [dues]
  | x :: z, p, k + 1 => by
    show (dues (p + x.length) z)[k]? = z[k]?.map _
    rw [dues_at z]
    cases z[k]? with
    | none => rfl
    | some y => simp [Nat.add_assoc]
theorem dues_length : ∀ (z : List (List Nat)) (p : Nat), (dues p z).length = z.length
  | [], _ => rfl
  | x :: z, p => by simp [dues, dues_length z]
theorem dues_snd : ∀ (z : List (List Nat)) (p : Nat), (dues p z).map (·.2) = z
  | [], _ => rfl
  | x :: z, p => by simp [dues, dues_snd z]
theorem iec_all {ys : List (List Nat)} (h : ∀ x ∈ ys, Part x) (n : Nat) : iec false 0 (ys.flatten ++ List.replicate n 92) = dues 0 (ys ++ (List.replicate (n / 2) [92, 92] ++ List.replicate (n % 2) [92])) := by
  rw [iec_parts ys 0 _ h, iec_backs, dues_app ys]
theorem part_ne {x : List Nat} (h : Part x) : x ≠ [92, 92] ∧ x ≠ [92] ∧ 1 ≤ x.length ∧ x.length ≤ 2 := by
  rcases h with ⟨c, hc, rfl⟩ | ⟨c, hc, rfl⟩
  · simp [hc]
  · simp [hc]
theorem strs_snoc : ∀ {vs : List Value} {ys : List Str} {y : Str} {t : Tok}, StrsAre vs ys → StrsAre (vs ++ [.str y t]) (ys ++ [y])
  | _, _, y, t, .nil => .cons y t .nil
  | _, _, _, _, .cons z u h => .cons z u (strs_snoc h)
theorem strs_app : ∀ {vs ws : List Value} {ys zs : List Str}, StrsAre vs ys → StrsAre ws zs → StrsAre (vs ++ ws) (ys ++ zs)
  | _, _, _, _, .nil, h => h
  | _, _, _, _, .cons z u h, h2 => .cons z u (strs_app h h2)
theorem strs_rep (y : Str) (t : Tok) : ∀ k, StrsAre (List.replicate k (.str y t)) (List.replicate k y)
  | 0 => .nil
  | k + 1 => .cons y t (strs_rep y t k)

theorem strs_len : ∀ {vs : List Value} {ys : List Str}, StrsAre vs ys → vs.length = ys.length
  | _, _, .nil => rfl
  | _, _, .cons _ _ h => by simp [strs_len h]
theorem strs_at : ∀ {vs : List Value} {ys : List (List Nat)} {i : Nat} {v : Value}, StrsAre vs (ys.map S) → vs[i]? = some v → ∃ x u, ys[i]? = some x ∧ v = .str (S x) u
  | [], _, i, v, _, e => by simp at e
  | _ :: _, [], i, v, h, _ => by cases h
  | _ :: _, y :: ys, 0, v, h, e => by
    cases h with
    | cons z u h => cases e; exact ⟨y, u, rfl, rfl⟩
  | _ :: _, y :: ys, i + 1, v, h, e => by
    cases h with
    | cons z u h => exact strs_at (ys := ys) (i := i) h e
theorem shuffle {α : Type} (D K a L G : α) (o t : List α) : (D :: K :: (a :: o ++ (L :: G :: t))).Perm (K :: (o ++ (D :: L :: G :: a :: t))) := by
  refine List.Perm.trans ?_ (List.perm_middle (l₁ := K :: o)).symm
  refine List.Perm.cons _ ?_
  refine List.Perm.trans (List.Perm.swap _ _ _) ?_
  have := (List.perm_middle (a := a) (l₁ := K :: (o ++ [L, G])) (l₂ := t)).symm
  simpa using this

set_option maxHeartbeats 8000000 in
theorem backs_ok {h : Nat} {t : Tok} {f g Ld : Addr} {ys : List (List Nat)} (B : Base mg mb s.heap) (hf : mg "_law_by_backslashes" = some (.ref f)) (hg : mg "_iter_escaped_chars" = some (.ref g)) (hr : Room A 2) (hh : h < 100)
    (hy : ys.flatten.length ≤ 100) (hyl : ys.length ≤ 100) (hy1 : ∀ x ∈ ys, Part x) (hy2 : ∀ x ∈ ys, ∀ c ∈ x, c < 128) (hLd : ∃ o, s.heap.get? Ld = some o ∧ strL ys o)
    (hq : ∀ a s' o t u, Grow s s' → s.heap.get? a = none → s'.heap.get? a = some o → tup [.int (h / 2 : Nat) t, .int (h % 2 : Nat) u] o → R (.ok (.ret (.ref a))) s') : codeAny (model prog w) A (.call (.ref f) ⟨[.int h t, .ref Ld], []⟩) R s := by
  refine enterA (k := 1) (binds := [("height", .int h t), ("lead", .ref Ld)]) B (mem_of_at (i := 4) rfl) hf hr (fun _ _ _ => rfl) (by rfl) ?_ rfl rfl rfl (by decide)
  intro L cd A0 s1 hr1 C
  obtain ⟨oL, hoL, hpL⟩ := hLd
  obtain ⟨p, hp⟩ : ∃ p, ys.flatten = p := ⟨_, rfl⟩
  have hie := iec_all hy1 h
  rw [hp] at hy hie
  refine wpAny_execs_cons ?_
  refine r_compAsF (cl := []) rfl rfl (by decide) rfl (by decide) rfl rfl ?_
  walk_at "zz"
  rename_i C1
  rw [Int.toNat_natCast]
  refine wpAny_call (iec_ok (B.keeps C1.grow.keep) hg hr1 (by simp; omega) ?_)
  intro G K lc gs s3 hM hb hW
  obtain ⟨gn, C3, hgs, hsz⟩ : ∃ gn, Cur s L _ ((K, NsP (Lk lc)) :: (G, genP gn) :: []) s3 ∧ s3.gens[gn]? = some gs ∧ s.gens.size ≤ gn := ⟨_, C1.addGen hM hb⟩
  rw [hie] at hW
  have hW := hW A0.in1 hr1.handled
  generalize hqs : dues 0 (ys ++ (List.replicate (h / 2) [92, 92] ++ List.replicate (h % 2) [92])) = qs at hW
  have hql : qs.length ≤ 300 := by rw [← hqs, dues_length]; simp; omega
  try dsimp only
  obtain ⟨oG, hoG, hpG⟩ := C3.has (G, genP _) (by walk_at "mem")
  refine wpAny_pyIter_gen (genP.isGen hoG hpG) ?_
  refine ⟨s, _, _, G, rfl, C3, fun s₃ Q E hk hQ => wpAny_pyIter_gen (genP.isGen (hk _ _ hoG) hpG) hQ, ?_⟩
  intro D Cf s4 C4 hg4
  rw [← hg4] at hgs
  have C4 : Cur s Cf [] [(D, lstX []), (L, NsP (Lk [("lead", .ref Ld), ("height", .int h t)])), (K, NsP (Lk lc)), (G, genP gn)] s4 := C4
  refine comp_turnsI (n := qs.length) (fun i s' => ∃ lcf lc oi gs, ∃ (rs : List Addr) (ownT : Own), Cur s Cf lcf ((K, NsP (Lk lc)) :: (oi ++ ((D, lstX (rs.map Value.ref)) :: (L, NsP (Lk [("lead", .ref Ld), ("height", .int h t)])) :: (G, genP gn) :: ownT))) s' ∧ s'.gens[gn]? = some gs ∧ Will prog w A0.in1 mg mb true ((qs.drop i).map IsP) K lc oi gs ∧
    rs.length = i ∧ ∀ (k : Nat) r q, rs[k]? = some r → qs[k]? = some q → ∃ t u, (r, tup [.int q.1 t, .str (S q.2) u]) ∈ ownT) ?_ ?_ ⟨[], lc, [], gs, [], [], C4.perm ?_, hgs, hW, rfl, by simp⟩
  · rintro i s5 E I' hi ⟨lcf, lc, oi, gs, rs, ownT, C5, hgs5, W5, hrl, hrs⟩ hI'
    have hd : qs.drop i = qs[i] :: qs.drop (i + 1) := List.drop_eq_getElem_cons hi
    have hqi : qs[i]? = some qs[i] := List.getElem?_eq_getElem hi
    generalize qs[i] = q at hd hqi
    rw [hd] at W5
    refine r_nextGen hr1.handled (by have := hr1.depth; omega) B (by walk_at "mem") C5 hsz hgs5 W5 ?_
    rintro v s6 lc' oi' ov gs' ⟨a, ta, ua, rfl, rfl⟩ C6 hgs6 W6
    refine ⟨_, rfl, wpAny_pure (r_as C6.rebase fun s7 C7 => r_loc C7 (by walk_at "lk") ?_)⟩
    have C8 := C7.perm (List.perm_middle (l₁ := (K, _) :: ([(a, _)] ++ oi')))
    refine r_append (i := 0) (vs := rs.map Value.ref) C8 rfl (by simp; omega) fun s8 C9 => ?_
    have C10 := C9.perm (shuffle _ _ _ _ _ _ _)
    have C11 := C10.unbase C6.grow.gens
    refine hI' _ ⟨_, lc', oi', gs', rs ++ [a], (a, tup [.int q.1 ta, .str (S q.2) ua]) :: ownT, by rw [List.map_append]; exact C11, C10.grow.gens.1 _ _ hgs6, W6, by simp [hrl], fun k r q' e e2 => ?_⟩
    rcases snoc_at e with e | ⟨rfl, rfl⟩
    · obtain ⟨t1, u1, hm⟩ := hrs k r q' e e2
      exact ⟨t1, u1, List.mem_cons_of_mem _ hm⟩
    · rw [hrl, hqi] at e2
      cases e2
      exact ⟨_, _, List.mem_cons_self⟩
  · rintro s5 E ⟨lcf, lc, oi, gs, rs, ownT, C5, hgs5, W5, hrl, hrs⟩
    rw [List.drop_length] at W5
    refine r_endGen hr1.handled (by have := hr1.depth; omega) B (by walk_at "mem") C5 hsz hgs5 W5 fun s6 C6 => ⟨rfl, rfl, ?_⟩
    have C7 := (C6.perm (List.Perm.swap _ _ _)).focus
    refine ⟨_, _, _, _, C7, fun s7 C8 => ?_⟩
    obtain ⟨z, gz, C9, hz⟩ := (C8.drop (own' := []) (List.nil_sublist _)).freeze
    have hP : PairsAt z.heap D qs := by
      obtain ⟨o, h1, h2⟩ := C8.has _ List.mem_cons_self
      refine ⟨rs, ⟨o, hz _ o h1 (C8.ne _ List.mem_cons_self) (by simp), h2.weak⟩, hrl, fun i r q e1 e2 => ?_⟩
      obtain ⟨t1, u1, hm⟩ := hrs i r q e1 e2
      have hm := List.mem_cons_of_mem (D, lstX (rs.map Value.ref)) (List.mem_cons_of_mem (G, genP gn) hm)
      obtain ⟨o, h3, h4⟩ := C8.has _ hm
      exact ⟨o, t1, u1, hz _ o h3 (C8.ne _ hm) (by simp), h4⟩
    have Bz := B.keeps gz.keep
    obtain ⟨oLz, hoLz, hpLz⟩ : ∃ o, z.heap.get? Ld = some o ∧ strL ys o := ⟨_, gz.keep _ _ hoL, hpL⟩
    have C9 : Cur z L _ [] s7 := C9
    clear C1 C3 C4 C5 C6 C7 C8 W5 hW hgs hgs5 hoG hpG hM hb hrs hz hoL hpL hie hrl hg4 hsz C rs ownT
    refine wpAny_execs_cons ?_
    refine r_compAsF (cl := []) rfl rfl (by decide) rfl (by decide) rfl rfl ?_
    walk_at "zz"
    obtain ⟨rs, ⟨oD, hoD, hpD⟩, hrl, hrs⟩ := hP
    refine r_listIter C9 (.inl ⟨_, hoD, hpD⟩) fun I s8 C10 => ?_
    obtain ⟨oI, hoI, hpI⟩ := C10.has _ List.mem_cons_self
    refine ⟨z, _, _, I, rfl, C10, fun s₃ Q E hk hQ => wpAny_pyIter_listiter (i := 0) ⟨oI, hk _ _ hoI, hpI.1, hpI.2⟩ hQ, ?_⟩
    intro D2 Cf2 s9 C11 _
    have C11 : Cur z Cf2 [] [(D2, lstX []), (L, NsP (Lk (put "told" (.ref D) [("lead", .ref Ld), ("height", .int h t)]))), (I, lstIt D 0)] s9 := C11
    refine comp_turnsI (n := qs.length) (fun i s' => ∃ lcf vs, Cur z Cf2 lcf [(I, lstIt D i), (D2, lstX vs), (L, NsP (Lk (put "told" (.ref D) [("lead", .ref Ld), ("height", .int h t)])))] s' ∧ StrsAre vs (((qs.take i).map (·.2)).map S) ∧ vs.length = i) ?_ ?_ ⟨[], [], C11.perm ?_, .nil, rfl⟩
    · rintro i s10 E I' hi ⟨lcf, vs, C, hvs, hvl⟩ hI'
      have hqi : qs[i]? = some qs[i] := List.getElem?_eq_getElem hi
      have hri : rs[i]? = some (rs[i]'(by omega)) := List.getElem?_eq_getElem (by omega)
      generalize qs[i] = q at hqi
      generalize rs[i]'(by omega) = r at hri
      obtain ⟨oT, tT, uT, hoT, hpT⟩ := hrs i r q hri hqi
      refine r_nextL C (.inl ⟨_, hoD, hpD⟩) (v := .ref r) (by simp [hri]) fun s11 C12 => ?_
      obtain ⟨oI, hoI, hpI⟩ := C12.has _ List.mem_cons_self
      refine ⟨_, rfl, wpAny_letOwnedTupleGo_listiter ⟨oI, hoI, hpI.1, hpI.2⟩ ?_⟩
      refine r_unpack hr1.handled C12 (.inl ⟨_, hoT, hpT⟩) fun s12 C13 => ?_
      refine r_st C13 fun s13 C14 => r_st C14 fun s14 C15 => r_loc C15 (by walk_at "lk") ?_
      refine r_append (i := 1) C15 rfl (by omega) fun s15 C16 => hI' _ ⟨_, _, C16, ?_, by simp [hvl]⟩
      rw [List.take_add_one, hqi, List.map_append, List.map_append]
      exact strs_snoc hvs
    · rintro s10 E ⟨lcf, vs, C, hvs, hvl⟩
      rw [List.take_length] at hvs
      have hdone := (Pull.list (prog := prog) (w := w) (A := A0) hr1.handled I D (rs.map Value.ref)).done
      rw [List.length_map, hrl] at hdone
      refine hdone _ _ _ _ _ _ _ C (.inl ⟨_, hoD, hpD⟩) fun s11 C12 => ⟨rfl, rfl, ?_⟩
      have C13 := (C12.perm (List.Perm.swap _ _ _)).focus
      refine ⟨_, _, _, _, C13, fun s12 C14 => ?_⟩
      have C14 : Cur z L _ [(D2, lstX vs)] s12 := C14
      clear C C9 C10 C11 C12 C13 hoI hdone
      rw [← hqs, dues_snd] at hvs
      have hc1 : (ys ++ (List.replicate (h / 2) [92, 92] ++ List.replicate (h % 2) [92])).count [92, 92] = h / 2 := by
        rw [List.count_append, List.count_append, List.count_replicate_self, List.count_eq_zero_of_not_mem (fun hm => (part_ne (hy1 _ hm)).1 rfl), List.count_replicate]
        simp
      have hc2 : (ys ++ (List.replicate (h / 2) [92, 92] ++ List.replicate (h % 2) [92])).count [92] = h % 2 := by
        rw [List.count_append, List.count_append, List.count_replicate_self, List.count_eq_zero_of_not_mem (fun hm => (part_ne (hy1 _ hm)).2.1 rfl), List.count_replicate]
        simp
      walk_at "zz"
      refine r_gmLCount (vs := vs) C14 (by walk_at "sees") ?_
      walk_at "zz"
      rename_i C15
      refine r_lcount C15 (by walk_at "sees") hvs fun t16 s16 C16 => ?_
      rw [hc1]
      walk_at "zz"
      rename_i C17
      refine r_gmLCount (vs := vs) C17 (by walk_at "sees") ?_
      walk_at "zz"
      rename_i C18
      refine r_lcount C18 (by walk_at "sees") hvs fun t19 s19 C19 => ?_
      rw [hc2]
      walk_at "zz"
      rename_i Du _ _ _ _ _ _ _ _ _ _ _ _ tA _ _ X1 _ C20
      obtain ⟨vsL, hvL, hlL⟩ := hpLz
      have hvLl := strs_len hvL
      rw [List.length_map] at hvLl
      refine r_mulL C20 (by walk_at "mem") (by omega) fun M1 s21 C21 => ?_
      have C21 := C21.imp (i := 0) (P' := lst _) rfl lstX.weak
      dsimp only [List.set] at C21
      refine r_addL C21 (.inl ⟨_, hoLz, hlL⟩) (by walk_at "sees") (by simp; omega) fun X2 s22 C22 => ?_
      have C22 := C22.imp (i := 0) (P' := lst _) rfl lstX.weak
      dsimp only [List.set] at C22
      walk_at "zz"
      rename_i tB _ _ X3 _ C23
      refine r_mulL C23 (by walk_at "mem") (by omega) fun M2 s24 C24 => ?_
      have C24 := C24.imp (i := 0) (P' := lst _) rfl lstX.weak
      dsimp only [List.set] at C24
      refine r_addL C24 (by walk_at "sees") (by walk_at "sees") (by simp; omega) fun Ys s25 C25 => ?_
      have C25 := C25.imp (i := 0) (P' := lst _) rfl lstX.weak
      dsimp only [List.set] at C25
      rw [Int.toNat_natCast, Int.toNat_natCast] at C25
      have hZ := strs_app (strs_app hvL (strs_rep (S [92, 92]) tA (h / 2))) (strs_rep (S [92]) tB (h % 2))
      have C26 := C25.drop (own' := [(Ys, _), (Du, _)]) (by walk_at "subl")
      have hZe : (ys ++ (List.replicate (h / 2) [92, 92] ++ List.replicate (h % 2) [92])).map S = ys.map S ++ List.replicate (h / 2) (S [92, 92]) ++ List.replicate (h % 2) (S [92]) := by simp
      rw [← hZe] at hZ
      generalize vsL ++ List.replicate (h / 2) (Value.str (S [92, 92]) tA) ++ List.replicate (h % 2) (Value.str (S [92]) tB) = vsZ at C26 hZ
      clear C14 C15 C16 C17 C18 C19 C20 C21 C22 C23 C24 C25
      refine r_listIter C26 (by walk_at "sees") fun I2 s27 C27 => ?_
      have hvZ := strs_len hZ
      rw [List.length_map, ← dues_length _ 0, hqs] at hvZ
      clear C26
      have C27 := C27.perm (List.Perm.cons _ (List.Perm.swap _ _ _))
      refine for_pull (Pull.list hr1.handled I2 Ys vsZ) (fun k l own => ∃ (rs2 : List Addr) (ownU : Own), own = (Du, lstX (rs2.map Value.ref)) :: (Ys, lst vsZ) :: ownU ∧ rs2.length = k ∧ (∀ (i : Nat) r q, rs2[i]? = some r → qs[i]? = some q → ∃ t u, (r, tup [.int q.1 t, .str (S q.2) u]) ∈ ownU) ∧
        Lk l "told" = some (.ref D) ∧ Lk l "due" = some (.ref Du) ∧ Lk l "pairs" = some (.int (h / 2 : Nat) t16) ∧ Lk l "rest" = some (.int (h % 2 : Nat) t19) ∧
        ∃ t, Lk l "place" = some (.int ((((ys ++ (List.replicate (h / 2) [92, 92] ++ List.replicate (h % 2) [92])).take k).flatten.length : Nat) - 1) t)) C27 ⟨[], [], rfl, rfl, by simp, by walk_at "lk", by walk_at "lk", by walk_at "lk", by walk_at "lk", _, by walk_at "lk"⟩ ?_ ?_ ?_
      · rintro i l own ⟨rs2, ownU, rfl, _⟩
        exact .inr (by walk_at "mem")
      · rintro i l own v s28 E hi ⟨rs2, ownU, rfl, hrl2, hrs2, h1, h2, h3, h4, tp, h5⟩ hv C28
        refine gen fun Q1 hQ1 => ?_
        obtain ⟨x, u, hx, rfl⟩ := strs_at hZ hv
        have hqi := dues_at (ys ++ (List.replicate (h / 2) [92, 92] ++ List.replicate (h % 2) [92])) 0 i
        rw [hqs, hx] at hqi
        have hxl : 1 ≤ x.length ∧ x.length ≤ 2 := by
          rcases List.mem_append.mp (List.mem_of_getElem? hx) with hm | hm
          · exact (part_ne (hy1 x hm)).2.2
          · rcases List.mem_append.mp hm with hm | hm
            · rw [(List.mem_replicate.mp hm).2]; simp
            · rw [(List.mem_replicate.mp hm).2]; simp
        walk_at "zz"
        rename_i C29
        refine r_gmAppend (vs := rs2.map Value.ref) C29 (by walk_at "mem") ?_
        walk_at "zz"
        rename_i Ta s30 C30
        refine r_append (i := 2) (vs := rs2.map Value.ref) C30 rfl (by simp; omega) fun s31 C31 => ?_
        dsimp only [List.set] at C31
        have hpl : ((((ys ++ (List.replicate (h / 2) [92, 92] ++ List.replicate (h % 2) [92])).take i).flatten.length : Nat) : Int) - 1 + (x.length : Nat) = ((((ys ++ (List.replicate (h / 2) [92, 92] ++ List.replicate (h % 2) [92])).take (i + 1)).flatten.length : Nat) : Int) - 1 := by
          rw [List.take_add_one, hx]
          simp; omega
        have hpq : ((((ys ++ (List.replicate (h / 2) [92, 92] ++ List.replicate (h % 2) [92])).take i).flatten.length : Nat) : Int) - 1 + (x.length : Nat) = ((0 + ((ys ++ (List.replicate (h / 2) [92, 92] ++ List.replicate (h % 2) [92])).take i).flatten.length + x.length - 1 : Nat) : Int) := by omega
        walk_at "zz"
        refine hQ1 _ _ ?_
        refine ⟨_, _, ⟨rs2 ++ [Ta], (Ta, _) :: ownU, rfl, by simp [hrl2], fun k r q e e2 => ?_, ?_, ?_, ?_, ?_, ?_⟩, by rw [List.map_append]; exact Cur.put_in (pre := [_, _, _]) C31⟩
        · rcases snoc_at e with e | ⟨rfl, rfl⟩
          · obtain ⟨t1, u1, hm⟩ := hrs2 k r q e e2
            exact ⟨t1, u1, List.mem_cons_of_mem _ hm⟩
          · rw [hrl2, hqi] at e2
            cases e2
            rw [hpq]
            exact ⟨_, _, List.mem_cons_self⟩
        · walk_at "lk"
        · walk_at "lk"
        · walk_at "lk"
        · walk_at "lk"
        · exact ⟨_, by rw [← hpl]; walk_at "lk"⟩
      · rintro l own s28 ⟨rs2, ownU, rfl, hrl2, hrs2, h1, h2, h3, h4, tp, h5⟩ C28
        walk_at "zz"
        have hP2 : PairsAt s28.heap Du qs := by
          obtain ⟨o, h1, h2⟩ := C28.has _ List.mem_cons_self
          refine ⟨rs2, ⟨o, h1, h2.weak⟩, by omega, fun i r q e1 e2 => ?_⟩
          obtain ⟨t1, u1, hm⟩ := hrs2 i r q e1 e2
          obtain ⟨o, h3, h4⟩ := C28.has _ (List.mem_cons_of_mem _ (List.mem_cons_of_mem _ hm))
          exact ⟨o, t1, u1, h3, h4⟩
        have hP1 : PairsAt s28.heap D qs := ⟨rs, ⟨oD, C28.grow.keep _ _ hoD, hpD⟩, hrl, fun i r q e1 e2 => let ⟨o, t1, u1, h3, h4⟩ := hrs i r q e1 e2; ⟨o, t1, u1, C28.grow.keep _ _ h3, h4⟩⟩
        have hq128 : ∀ q ∈ qs, ∀ c ∈ q.2, c < 128 := fun q hq c hc => by
          have hm : q.2 ∈ ys ++ (List.replicate (h / 2) [92, 92] ++ List.replicate (h % 2) [92]) := by
            rw [← dues_snd (ys ++ (List.replicate (h / 2) [92, 92] ++ List.replicate (h % 2) [92])) 0, hqs]
            exact List.mem_map_of_mem hq
          rcases List.mem_append.mp hm with hm | hm
          · exact hy2 _ hm c hc
          · rcases List.mem_append.mp hm with hm | hm
            · rw [(List.mem_replicate.mp hm).2] at hc; simp at hc; omega
            · rw [(List.mem_replicate.mp hm).2] at hc; simp at hc; omega
        refine r_pairsNe hP1 hP2 hq128 (by have := hr1.units; omega) ?_
        walk_at "zz"
        rw [if_neg (by simp)]
        walk_at "zz"
        rename_i Ta s29 C29
        obtain ⟨o, ho, hpo⟩ := C29.has _ List.mem_cons_self
        have g := gz.trans C29.grow
        exact hq _ _ o _ _ g (gz.fresh (C29.new _ List.mem_cons_self)) ho hpo
    · exact List.Perm.trans (List.Perm.cons _ (List.Perm.swap _ _ _)) (List.Perm.trans (List.Perm.swap _ _ _) (List.Perm.refl _))
  · exact List.Perm.trans (List.Perm.trans (List.Perm.cons _ (List.Perm.swap _ _ _)) (List.Perm.swap _ _ _)) (List.Perm.cons _ (List.Perm.refl _))
end

section
variable {prog : Program} {w : World} {A : Around} {s : Shared} {mg mb : Str → Option Value} {R : Result → Shared → Prop}

structure LeadOk (ys : List (List Nat)) : Prop where
  len : ys.length ≤ 20
  part : ∀ x ∈ ys, Part x
  ok : ∀ x ∈ ys, ∀ c ∈ x, c ≠ 34 ∧ c ≠ 120 ∧ c < 128
theorem LeadOk.flat {ys : List (List Nat)} (h : LeadOk ys) : ys.flatten.length ≤ 40 := by
  have : ∀ zs : List (List Nat), (∀ x ∈ zs, Part x) → zs.flatten.length ≤ 2 * zs.length := by
    intro zs
    induction zs with
    | nil => intro _; simp
    | cons z zs ih =>
      intro h
      have := ih fun x hx => h x (List.mem_cons_of_mem _ hx)
      have := (part_ne (h z List.mem_cons_self)).2.2
      rw [List.flatten_cons, List.length_append, List.length_cons]; omega
  have := this ys h.part
  have := h.len
  omega

theorem reading_ok {wh h : Nat} {once : Int} {t u v : Tok} {f g1 g2 g3 g4 g5 g6 Ld : Addr} {ys : List (List Nat)} (B : Base mg mb s.heap) (hf : mg "_law_reading" = some (.ref f)) (hg1 : mg "_law_by_quotes" = some (.ref g1)) (hg2 : mg "_law_by_backslashes" = some (.ref g2)) (hg3 : mg "_law_by_sizes" = some (.ref g3))
    (hg4 : mg "parse257" = some (.ref g4)) (hg5 : mg "_iter_escaped_chars" = some (.ref g5)) (hg6 : mg "_grouping_intervals" = some (.ref g6)) (hr : Room A 3) (hh : h < 100) (hw : wh < 100) (ho : 1 ≤ once ∧ once ≠ 127 ∧ once < 1000)
    (hy : LeadOk ys) (hLd : ∃ o, s.heap.get? Ld = some o ∧ strL ys o)
    (hq : ∀ a s' o t u, Grow s s' → s.heap.get? a = none → s'.heap.get? a = some o → tup [.int (h / max 2 wh : Nat) t, .int (h % max 2 wh : Nat) u] o → R (.ok (.ret (.ref a))) s') : codeAny (model prog w) A (.call (.ref f) ⟨[.int wh t, .int h u, .ref Ld, .int once v], []⟩) R s := by
  refine enterA (k := 2) (binds := [("wheel", .int wh t), ("height", .int h u), ("lead", .ref Ld), ("once", .int once v)]) B (mem_of_at (i := 6) rfl) hf hr (fun _ _ _ => rfl) (by rfl) ?_ rfl rfl rfl (by decide)
  intro L cd A0 s1 hr1 C
  have hfl := hy.flat
  have hl := hy.len
  obtain ⟨oL, hoL, hpL⟩ := hLd
  walk_at "zz"
  by_cases h0 : wh = 0
  · rw [if_pos (by simpa using h0)]
    walk_at "zz"
    rename_i C1
    refine wpAny_call (quotes_ok (B.keeps C1.grow.keep) hg1 hg4 hr1 hh (by omega) (fun c hc => ?_) ⟨oL, C1.grow.keep _ _ hoL, hpL⟩ ?_)
    · obtain ⟨x, hx, hcx⟩ := List.mem_flatten.mp hc
      have := hy.ok x hx c hcx
      exact ⟨this.1, this.2.1⟩
    · intro a s2 o t1 u1 g hn ho hp
      rw [show max 2 wh = 2 by omega] at hq
      exact hq _ _ o _ _ (C1.grow.trans g) (C1.grow.fresh hn) ho hp
  · rw [if_neg (by simpa using h0)]
    walk_at "zz"
    by_cases h1 : wh = 1
    · rw [if_pos (by simp; omega)]
      walk_at "zz"
      rename_i C1
      refine wpAny_call (backs_ok (B.keeps C1.grow.keep) hg2 hg5 hr1 hh (by omega) (by omega) hy.part (fun x hx c hc => (hy.ok x hx c hc).2.2) ⟨oL, C1.grow.keep _ _ hoL, hpL⟩ ?_)
      intro a s2 o t1 u1 g hn ho hp
      rw [show max 2 wh = 2 by omega] at hq
      exact hq _ _ o _ _ (C1.grow.trans g) (C1.grow.fresh hn) ho hp
    · rw [if_neg (by simp; omega)]
      walk_at "zz"
      rename_i C1
      refine wpAny_call (sizes_ok (B.keeps C1.grow.keep) hg3 hg6 hr1 hh (by omega) ho ?_)
      intro a s2 o t1 u1 g hn ho hp
      rw [show max 2 wh = wh by omega] at hq
      exact hq _ _ o _ _ (C1.grow.trans g) (C1.grow.fresh hn) ho hp
end

local macro_rules | `(tactic| walk_at "z") => `(tactic| first
  | ((with_reducible refine gMx ?_); refine r_max2 (by assumption) (Room.handled (by assumption)) ?_; intro _ _ _)
  | ((with_reducible refine gSu ?_); refine r_sum (by assumption) (Room.handled (by assumption)) (by walk_at "sees") ?_; intro _ _ _)
  | ((with_reducible refine gSb ?_); refine r_subI (by assumption) (by walk_at "sees") (by omega) (by first | rfl | assumption) ?_; intro _))

section
variable {prog : Program} {w : World} {A : Around} {s : Shared} {mg mb : Str → Option Value} {R : Result → Shared → Prop}

noncomputable def forB (d : DefRec) : List Stmt := match d.body[16]? with | some (Stmt.For _ _ b _ _) => b | _ => []
theorem tab_small : ∀ n : Nat, n < 5 → ∀ b : Nat, b < 6 → ∀ r ∈ tableM b n, ∀ x ∈ r, -(2 ^ 60) ≤ x ∧ x ≤ 2 ^ 60 := by decide +kernel

theorem Cur.apart {s0 s : Shared} {L : Addr} {l : Locs} {own : Own} (C : Cur s0 L l own s) {r : Addr} (h : s.heap.get? r = none) : r ≠ L ∧ ∀ p ∈ own, p.1 ≠ r := by
  refine ⟨fun e => ?_, fun p hp e => ?_⟩
  · obtain ⟨o, ho, _⟩ := nsP_of C.ns
    rw [← e, h] at ho; cases ho
  · obtain ⟨o, ho, _⟩ := C.has p hp
    rw [e, h] at ho; cases ho
theorem MatNew.into {h0 h1 h2 : Heap} {a : Addr} {M : List (List Int)} (m : MatNew h0 h1 a M) (k : ∀ r o, h0.get? r = none → h1.get? r = some o → h2.get? r = some o) : Mat h2 a M :=
  let ⟨rs, ⟨o, h3, h4⟩, h5, h6, h7⟩ := m
  ⟨rs, ⟨o, k _ _ h5 h3, h4⟩, h6, fun i r e => let ⟨h8, o, h9, h10⟩ := h7 i r e; ⟨o, k _ _ h8 h9, h10⟩⟩

set_option maxHeartbeats 40000000 in
theorem law_turn {d : DefRec} (hd : (recsOf pw)[12]? = some d) {z : Shared} (B : Base mg mb z.heap) {A0 : Around} (hr1 : Room A0 4) {n : Nat} (hn : 2 ≤ n ∧ n ≤ 4) {wh b : Nat} (hb : b = max 2 wh) (hw6 : wh < 6)
    {once : Int} (ho : 1 ≤ once ∧ once ≠ 127 ∧ once < 1000) {ys : List (List Nat)} (hy : LeadOk ys) {L f Ld Nm Lf Tb : Addr} {cd : Value} {l : Locs} {v5 : Option Value} {tw tb tO tn t4 t5 t6 : Tok} {e1 e2 e3 e4 e5 : Addr × (Obj → Prop)} {lf : List Int} {M : List (List Int)} {kept carry : Int} {P : Nat}
    (hL : ∃ o, z.heap.get? Ld = some o ∧ strL ys o) (hLf : ∃ o, z.heap.get? Lf = some o ∧ intL lf o) (hT : Mat z.heap Tb M) (hfl : lf.length = n) (hM1 : M.length = n) (hM2 : ∀ r ∈ M, r.length = n)
    {s1 : Shared} (C : Cur z L l [e1, e2, e3, e4, e5, (L + 6, cellP (some (.int b tb))), (L + 5, cellP v5), (L + 4, cellP (some (.int wh tw))), (L + 3, cellP (some (.ref Ld))), (L + 2, cellP (some (.int once tO))), (L + 1, cellP (some (.int n tn)))] s1)
    (m1 : Lk l "numbers" = some (.ref Nm)) (m2 : Lk l "left" = some (.ref Lf)) (m3 : Lk l "tables" = some (.ref Tb)) (m4 : Lk l "kept" = some (.int kept t4)) (m5 : Lk l "place" = some (.int P t5)) (m6 : Lk l "carry" = some (.int carry t6)) (hP : P < 1000) (hc0 : 0 ≤ carry) (hcn : carry < n)
    {Q : Flow → Shared → Prop} {E : Value → Shared → Prop}
    (h : ∀ z' l' Lf' Tb' s', Grow z z' → Cur z' L l' [e1, e2, e3, e4, e5, (L + 6, cellP (some (.int b tb))), (L + 5, cellP v5), (L + 4, cellP (some (.int wh tw))), (L + 3, cellP (some (.ref Ld))), (L + 2, cellP (some (.int once tO))), (L + 1, cellP (some (.int n tn)))] s' →
      (∃ o, z'.heap.get? Lf' = some o ∧ intL (lf.map (· / (b : Int))) o) → Mat z'.heap Tb' (mulM n M (tableM b n)) → Lk l' "numbers" = some (.ref Nm) → Lk l' "left" = some (.ref Lf') → Lk l' "tables" = some (.ref Tb') →
      (∃ t, Lk l' "kept" = some (.int (kept + (carry + (lf.map (· % (b : Int))).sum) % b * P) t)) → (∃ t, Lk l' "place" = some (.int ((P : Int) * b) t)) → (∃ t, Lk l' "carry" = some (.int ((carry + (lf.map (· % (b : Int))).sum) / b) t)) → Q .next s') :
    wpAny (model prog w) A0 (execs (forB d) (envOfC d.name d.scope L f cd)) Q E s1 := by
  obtain ⟨q1, hq1⟩ := B.adr (mem_of_at (i := 3) rfl)
  obtain ⟨q2, hq2⟩ := B.adr (mem_of_at (i := 4) rfl)
  obtain ⟨q3, hq3⟩ := B.adr (mem_of_at (i := 5) rfl)
  obtain ⟨q4, hq4⟩ := B.adr (mem_of_at (i := 0) rfl)
  obtain ⟨q5, hq5⟩ := B.adr (mem_of_at (i := 1) rfl)
  obtain ⟨q6, hq6⟩ := B.adr (mem_of_at (i := 2) rfl)
  obtain ⟨q7, hq7⟩ := B.adr (mem_of_at (i := 6) rfl)
  obtain ⟨q8, hq8⟩ := B.adr (mem_of_at (i := 7) rfl)
  obtain ⟨q9, hq9⟩ := B.adr (mem_of_at (i := 8) rfl)
  obtain ⟨q10, hq10⟩ := B.adr (mem_of_at (i := 9) rfl)
  dsimp only at hq1 hq2 hq3 hq4 hq5 hq6 hq7 hq8 hq9 hq10
  cases hd
  have hb5 : 2 ≤ b ∧ b < 6 := by omega
  have hnb : n * b ≤ 20 := Nat.le_trans (Nat.mul_le_mul hn.2 (show b ≤ 5 by omega)) (by decide)
  obtain ⟨oL, hoL, hpL⟩ := hL
  obtain ⟨oF, hoF, hpF⟩ := hLf
  dsimp only [forB, List.getElem?_cons_succ, List.getElem?_cons_zero]
  refine wpAny_execs_cons ?_
  refine r_compAs (cl := [("wheel", L + 4), ("once", L + 2), ("lead", L + 3)]) rfl rfl (by decide) rfl (by decide) rfl rfl rfl ?_
  walk_at "zz"
  rename_i I s3 C3
  generalize hOB : [e1, e2, e3, e4, e5, (L + 6, cellP (some (.int b tb))), (L + 5, cellP v5), (L + 4, cellP (some (.int wh tw))), (L + 3, cellP (some (.ref Ld))), (L + 2, cellP (some (.int once tO))), (L + 1, cellP (some (.int n tn)))] = ownB at C3
  have C3 : Cur z L l ((I, fun o => o = rngIt ((0 : Nat) : Int) (((n * b : Nat) : Int) - ((0 : Nat) : Int))) :: ownB) s3 := by simpa using C3
  refine ⟨z, l, ownB, I, n * b, fun i o => o = rngIt i (((n * b : Nat) : Int) - i), fun _ _ => True, fun i v => ∃ t, v = .int i t, fun i ys own => ∃ (rs : List Addr) (ownT : Own), ys = rs.map .ref ∧ rs.length = i ∧ own = ownT ++ ownB ∧ ∀ (k : Nat) r, rs[k]? = some r → ∃ t u, (r, tup [.int (k / b : Nat) t, .int (k % b : Nat) u]) ∈ ownT,
    rfl, C3, (by refine Pull.range ?_ _ _; exact hr1.handled), ⟨[], [], rfl, rfl, rfl, by simp⟩, by omega, fun _ _ _ _ _ => trivial, ?_, ?_⟩
  · rintro i ys own v s4 E Cf lc D hi ⟨rs, ownT, rfl, hrl, rfl, hrs⟩ ⟨th, rfl⟩ C4
    refine gen fun Q1 hQ1 => ?_
    have hc4 : (L + 4, cellP (some (.int wh tw))) ∈ ownT ++ ownB := List.mem_append_right _ (by rw [← hOB]; walk_at "mem")
    have hc3 : (L + 3, cellP (some (.ref Ld))) ∈ ownT ++ ownB := List.mem_append_right _ (by rw [← hOB]; walk_at "mem")
    have hc2 : (L + 2, cellP (some (.int once tO))) ∈ ownT ++ ownB := List.mem_append_right _ (by rw [← hOB]; walk_at "mem")
    walk_at "zz"
    refine wpAny_call (reading_ok (B.keeps C4.grow.keep) hq7 hq1 hq2 hq3 hq4 hq5 hq6 (hr1.le (by decide)) (by omega) (by omega) ho hy ⟨oL, C4.grow.keep _ _ hoL, hpL⟩ ?_)
    intro a s5 o t u g hn5 ho5 hp5
    rw [← hb] at hp5
    have C5 := C4.add g hn5 ho5 hp5
    refine hQ1 _ _ ?_
    refine ⟨_, _, ⟨rs ++ [a], (a, _) :: ownT, by simp, by simp [hrl], rfl, fun k r e => ?_⟩, Cur.put_in (pre := [_, _, _]) C5⟩
    rcases snoc_at e with e | ⟨rfl, rfl⟩
    · obtain ⟨t1, u1, hm⟩ := hrs k r e
      exact ⟨t1, u1, List.mem_cons_of_mem _ hm⟩
    · rw [hrl]
      exact ⟨_, _, List.mem_cons_self⟩
  · rintro D ys own s4 hyl ⟨rs, ownT, rfl, hrl, rfl, hrs⟩ C4
    obtain ⟨z2, g2, C5, hz2⟩ := (C4.drop (own' := ownB) ((List.sublist_append_right ownT ownB).trans (List.sublist_cons_self _ _))).freeze
    have nd := C4.nd
    rw [List.map_cons, List.nodup_cons, List.map_append, List.nodup_append] at nd
    have hRd : Reads z2.heap D b (n * b) := by
      obtain ⟨o, h1, h2⟩ := C4.has _ List.mem_cons_self
      refine ⟨rs.map .ref, ⟨o, hz2 _ o h1 (C4.ne _ List.mem_cons_self) fun p hp e => ?_, h2.weak⟩, by simpa using hrl, fun i hi => ?_⟩
      · exact nd.1 (List.mem_append_right _ (e ▸ List.mem_map_of_mem (f := (·.1)) hp))
      · have hri : rs[i]? = some (rs[i]'(by omega)) := List.getElem?_eq_getElem (by omega)
        generalize rs[i]'(by omega) = r at hri
        obtain ⟨t1, u1, hm⟩ := hrs i r hri
        have hm2 := List.mem_cons_of_mem (D, lstX (rs.map Value.ref)) (List.mem_append_left ownB hm)
        obtain ⟨o, h3, h4⟩ := C4.has _ hm2
        refine ⟨r, o, t1, u1, by rw [List.getElem?_map, hri]; rfl, hz2 _ o h3 (C4.ne _ hm2) fun p hp e => ?_, h4⟩
        exact nd.2.2.2 _ (List.mem_map_of_mem (f := (·.1)) hm) _ (List.mem_map_of_mem (f := (·.1)) hp) e.symm
    have C5 : Cur z2 L _ _ s4 := C5
    subst hOB
    clear C C3 C4 nd hz2 hrs hrl hyl rs ownT
    have B2 := B.keeps g2.keep
    have hoF2 := g2.keep _ _ hoF
    have hT2 := hT.keeps g2.keep
    have hu := hr1.units
    walk_at "zz"
    rename_i C6
    refine r_noneIn (hRd.keeps C6.grow.keep) (by omega) ?_
    walk_at "zz"
    rw [if_neg (by simp)]
    walk_at "zz"
    refine PyProof.Rows.Assign_Tuple ?_
    walk_at "zz"
    refine r_compInts (cl := [("base", L + 6)]) rfl (by decide) rfl (by decide) rfl hr1.handled ?_
    walk_at "zz"
    refine ⟨z2, L, _, _, Lf, lf, fun x => x % b, rfl, C6, .inl ⟨_, hoF2, hpF⟩, by omega, fun x t s5 E Cf lc Dd I i ys _ C7 => ?_, fun Dr s5 C7 => ?_⟩
    · refine gen fun Q2 hQ2 => ?_
      walk_at "zz"
      exact hQ2 _ _ ⟨_, rfl, _, by assumption⟩
    walk_at "zz"
    rename_i C8
    have hsm := sum_mod (b : Int) (by omega) lf
    rw [hfl] at hsm
    have enb : (n : Int) * ((b : Int) - 1) + n = ((n * b : Nat) : Int) := by rw [Int.natCast_mul, Int.mul_sub]; omega
    obtain ⟨ix, hix⟩ : ∃ ix : Nat, carry + (lf.map (· % (b : Int))).sum = ix := ⟨(carry + (lf.map (· % (b : Int))).sum).toNat, by omega⟩
    have hixb : ix < n * b := by omega
    obtain ⟨vR, ⟨oR, hoR, hpR⟩, hvl, hvR⟩ := hRd
    obtain ⟨r, o2, tq, tr, hr1', hr2', hr3'⟩ := hvR ix hixb
    rw [hix]
    refine r_subL (v := .ref r) C8 (.inl ⟨_, hoR, hpR⟩) (by omega) (by simpa using hr1') ?_
    refine r_unpack hr1.handled C8 (.inl ⟨_, hr2', hr3'⟩) fun s9 C9 => ?_
    refine r_st C9 fun s10 C10 => r_st C10 fun s11 C11 => ?_
    have eq1 : ((ix / b : Nat) : Int) = (ix : Int) / b := Int.natCast_ediv _ _
    have eq2 : ((ix % b : Nat) : Int) = (ix : Int) % b := Int.natCast_emod _ _
    rw [eq1, eq2] at C11
    have C11 := C11.tail
    clear C6 C7 C8 C9 C10
    walk_at "zz"
    rename_i C12
    refine r_compIntsAs (cl := [("base", L + 6)]) rfl rfl (by decide) rfl (by decide) rfl rfl rfl hr1.handled ?_
    walk_at "zz"
    refine ⟨z2, _, _, Lf, lf, fun x => x / b, rfl, C12, .inl ⟨_, hoF2, hpF⟩, by omega, fun x t s5 E Cf lc Dd I i ys _ C7 => ?_, fun Df s13 C13 => ?_⟩
    · refine gen fun Q2 hQ2 => ?_
      walk_at "zz"
      exact hQ2 _ _ ⟨_, rfl, _, by assumption⟩
    have C13 : Cur z2 L _ _ s13 := C13
    clear C11 C12
    walk_at "zz"
    rename_i C14
    refine wpAny_call (table_ok (B2.keeps C14.grow.keep) hq9 hq8 (hr1.le (by decide)) (by omega) (by omega) ⟨vR, ⟨oR, C14.grow.keep _ _ hoR, hpR⟩, hvl, fun i hi => let ⟨r, o, t, u, e1, e2, e3⟩ := hvR i hi; ⟨r, o, t, u, e1, C14.grow.keep _ _ e2, e3⟩⟩ ?_)
    intro Ta s15 g15 hMN
    have C15 := C14.call g15
    clear C14
    walk_at "zz"
    have hMT : Mat s15.heap Ta (tableM b n) := hMN.mat
    refine wpAny_call (product_ok (B2.keeps C15.grow.keep) hq10 (hr1.le (by decide)) (by omega) (hT2.keeps C15.grow.keep) hMT hM1 (by simp [tableM]) hM2 (fun r hr => ?_) (fun r hr => tab_small n (by omega) b hb5.2 r hr) ?_)
    · obtain ⟨i, _, rfl⟩ := List.mem_map.mp hr
      exact rowAt_length _ _ _ _
    intro Tn s16 g16 hMN2
    have C16 := C15.call g16
    have C16 : Cur z2 L _ _ s16 := C16
    obtain ⟨z3, g3, C17, hz3⟩ := C16.tail.freeze
    have C17 : Cur z3 L _ _ s16 := C17
    have hT3 : Mat z3.heap Tn (mulM n M (tableM b n)) := hMN2.into fun r o e1 e2 => by
      have := C15.apart e1
      exact hz3 r o e2 this.1 fun p hp => this.2 p (List.mem_cons_of_mem _ hp)
    have hF3 : ∃ o, z3.heap.get? Df = some o ∧ intL (lf.map (· / (b : Int))) o := by
      obtain ⟨o, h1, h2⟩ := C16.has _ List.mem_cons_self
      have nd := C16.nd
      rw [List.map_cons, List.nodup_cons] at nd
      exact ⟨o, hz3 _ o h1 (C16.ne _ List.mem_cons_self) fun p hp e => nd.1 (e ▸ List.mem_map_of_mem (f := (·.1)) hp), h2⟩
    clear C13 C15 C16 hz3
    walk_at "zz"
    rename_i C18
    refine h _ _ Df Tn _ (g2.trans g3) C18 hF3 hT3 ?_ ?_ ?_ ?_ ?_ ?_
    · walk_at "lk"
    · walk_at "lk"
    · walk_at "lk"
    · exact ⟨_, by rw [hix]; walk_at "lk"⟩
    · exact ⟨_, by walk_at "lk"⟩
    · exact ⟨_, by rw [hix]; walk_at "lk"⟩
end

section
variable {prog : Program} {w : World} {A : Around} {s : Shared} {mg mb : Str → Option Value} {R : Result → Shared → Prop}

noncomputable def idM (n : Nat) : List (List Int) := (List.range n).map fun i => (List.range n).map fun j => if i = j then 1 else 0
noncomputable def bas (ws : List Nat) : List Nat := ws.map (max 2)
noncomputable def prodB (ws : List Nat) (k : Nat) : Nat := ((bas ws).take k).foldl (· * ·) 1
noncomputable def matK (n : Nat) (ws : List Nat) (k : Nat) : List (List Int) := ((bas ws).take k).foldl (fun M b => mulM n M (tableM b n)) (idM n)
noncomputable def dueM (n whole : Nat) : List (List Int) := (List.range n).map fun i => (List.range n).map fun j => due n i j whole

set_option maxHeartbeats 40000000 in
theorem law_for {d : DefRec} (hd : (recsOf pw)[12]? = some d) (B : Base mg mb s.heap) {A0 : Around} (hr1 : Room A0 4) {n : Nat} (hn : 2 ≤ n ∧ n ≤ 4) {ws : List Nat} (hws : ws.length = 4) (hw6 : ∀ x ∈ ws, x < 6) {xs : List Int} (hxl : xs.length = n) (hxb : ∀ x ∈ xs, 0 ≤ x ∧ x < prodB ws 4)
    {once : Int} (ho : 1 ≤ once ∧ once ≠ 127 ∧ once < 1000) {ys : List (List Nat)} (hy : LeadOk ys) {L f Ww Wb Ld Nm Tb : Addr} {cd : Value} {l : Locs} {v6 v4 : Option Value} {tw tO tn tk tp tc : Tok}
    (hW : ∃ o, s.heap.get? Ww = some o ∧ intL (ws.map fun (x : Nat) => (x : Int)) o) (hB : ∃ o, s.heap.get? Wb = some o ∧ intL ((bas ws).map fun (x : Nat) => (x : Int)) o) (hL : ∃ o, s.heap.get? Ld = some o ∧ strL ys o) (hN : ∃ o, s.heap.get? Nm = some o ∧ intL xs o) (hT : Mat s.heap Tb (idM n))
    {s1 : Shared} (C : Cur s L l [(L + 6, cellP v6), (L + 5, cellP (some (.int (prodB ws 4 : Nat) tw))), (L + 4, cellP v4), (L + 3, cellP (some (.ref Ld))), (L + 2, cellP (some (.int once tO))), (L + 1, cellP (some (.int n tn)))] s1)
    (l1 : Lk l "wheels" = some (.ref Ww)) (l2 : Lk l "bases" = some (.ref Wb)) (l3 : Lk l "numbers" = some (.ref Nm)) (l4 : Lk l "left" = some (.ref Nm)) (l5 : Lk l "kept" = some (.int 0 tk)) (l6 : Lk l "place" = some (.int 1 tp)) (l7 : Lk l "carry" = some (.int 0 tc)) (l8 : Lk l "tables" = some (.ref Tb))
    (hfin : matK n ws 4 = dueM n (prodB ws 4)) (hP2 : prodB ws 4 ≤ 200)
    (h : ∀ s', Grow s s' → R (.ok (.ret (.bool true))) s') :
    wpAny (model prog w) A0 (execs (d.body.drop 16) (envOfC d.name d.scope L f cd)) (fun f s' => R (.ok (.ret (match f with | .ret v => v | _ => .none))) s') (fun _ _ => False) s1 := by
  obtain ⟨q1, hq1⟩ := B.adr (mem_of_at (i := 3) rfl)
  obtain ⟨q2, hq2⟩ := B.adr (mem_of_at (i := 4) rfl)
  obtain ⟨q3, hq3⟩ := B.adr (mem_of_at (i := 5) rfl)
  obtain ⟨q4, hq4⟩ := B.adr (mem_of_at (i := 0) rfl)
  obtain ⟨q5, hq5⟩ := B.adr (mem_of_at (i := 1) rfl)
  obtain ⟨q6, hq6⟩ := B.adr (mem_of_at (i := 2) rfl)
  obtain ⟨q7, hq7⟩ := B.adr (mem_of_at (i := 6) rfl)
  obtain ⟨q8, hq8⟩ := B.adr (mem_of_at (i := 7) rfl)
  obtain ⟨q9, hq9⟩ := B.adr (mem_of_at (i := 8) rfl)
  obtain ⟨q10, hq10⟩ := B.adr (mem_of_at (i := 9) rfl)
  obtain ⟨q11, hq11⟩ := B.adr (mem_of_at (i := 10) rfl)
  obtain ⟨q12, hq12⟩ := B.adr (mem_of_at (i := 11) rfl)
  dsimp only at hq1 hq2 hq3 hq4 hq5 hq6 hq7 hq8 hq9 hq10 hq11 hq12
  cases hd
  dsimp only [List.drop]
  walk_at "zz"
  obtain ⟨oW, hoW, vW, hiW, hlW⟩ := hW
  obtain ⟨oB, hoB, vB, hiB, hlB⟩ := hB
  have hvWl := hiW.length
  have hvBl := hiB.length
  rw [List.length_map] at hvWl hvBl
  refine r_zip C ⟨oW, hoW, hlW⟩ ⟨oB, hoB, hlB⟩ fun zz TI TO i1 i2 s2 C2 => ?_
  refine r_iterZip C2 ?_
  have hbl : (bas ws).length = 4 := by simp [bas, hws]
  refine for_turnsLI (n := 4) (fun k s' => ∃ z l lf, ∃ (Lf Tb : Addr) (kept carry : Int) (v6 v4 : Option Value), Grow s z ∧ Cur z L l (zown zz TI TO i1 i2 Ww Wb .none k ++ [(L + 6, cellP v6), (L + 5, cellP (some (.int (prodB ws 4 : Nat) tw))), (L + 4, cellP v4), (L + 3, cellP (some (.ref Ld))), (L + 2, cellP (some (.int once tO))), (L + 1, cellP (some (.int n tn)))]) s' ∧
    (∃ o, z.heap.get? Lf = some o ∧ intL lf o) ∧ Mat z.heap Tb (matK n ws k) ∧ Lk l "numbers" = some (.ref Nm) ∧ Lk l "left" = some (.ref Lf) ∧ Lk l "tables" = some (.ref Tb) ∧ (∃ t, Lk l "kept" = some (.int kept t)) ∧ (∃ t, Lk l "place" = some (.int (prodB ws k : Nat) t)) ∧ (∃ t, Lk l "carry" = some (.int carry t)) ∧
    lf = xs.map (· / (prodB ws k : Int)) ∧ kept + (prodB ws k : Int) * (carry + lf.sum) = xs.sum ∧ 0 ≤ carry ∧ carry < n) ?_ ?_ ⟨s, l, xs, Nm, Tb, 0, 0, v6, v4, .refl _, C2, hN, hT, l3, l4, l8, ⟨_, l5⟩, ⟨_, l6⟩, ⟨_, l7⟩, by simp [prodB], by simp [prodB], by omega, by omega⟩
  · rintro k s3 E I' hk ⟨z, l, lf, Lf, Tb, kept, carry, v6, v4, gz, C3, hLf, hTb, m1, m2, m3, ⟨t4, m4⟩, ⟨t5, m5⟩, ⟨t6, m6⟩, hlf, hinv, hc0, hcn⟩ hI'
    clear C C2 l1 l2 l3 l4 l5 l6 l7 l8 hT
    have hkw : ws[k]? = some (ws[k]'(by omega)) := List.getElem?_eq_getElem (by omega)
    have hw6k := hw6 _ (List.getElem_mem (show k < ws.length by omega))
    generalize ws[k]'(by omega) = wh at hkw hw6k
    have hkb : (bas ws)[k]? = some (max 2 wh) := by unfold bas; rw [List.getElem?_map, hkw]; rfl
    have hPk : prodB ws (k + 1) = prodB ws k * max 2 wh := by
      unfold prodB; rw [List.take_add_one, hkb, Option.toList_some, List.foldl_append]; rfl
    have hMk : matK n ws (k + 1) = mulM n (matK n ws k) (tableM (max 2 wh) n) := by
      unfold matK; rw [List.take_add_one, hkb, Option.toList_some, List.foldl_append]; rfl
    obtain ⟨tw1, hvw⟩ := hiW.get k wh (by rw [List.getElem?_map, hkw]; rfl)
    obtain ⟨tb1, hvb⟩ := hiB.get k (max 2 wh : Nat) (by rw [List.getElem?_map, hkb]; rfl)
    refine r_nextZip C3 ⟨oW, gz.keep _ _ hoW, hlW⟩ ⟨oB, gz.keep _ _ hoB, hlB⟩ hvw hvb fun T s4 C4 => ⟨_, rfl, ?_⟩
    refine r_letZip C4 fun s5 C5 => ?_
    refine r_unpack hr1.handled C5 (by walk_at "sees") fun s6 C6 => ?_
    have C6 := C6.tail
    refine r_stC (i := 7) C6 rfl rfl fun s7 C7 => ?_
    dsimp only [List.set, List.cons_append, List.nil_append] at C7
    refine r_stC (i := 5) C7 rfl rfl fun s8 C8 => ?_
    dsimp only [List.set] at C8
    clear C3 C4 C5 C6 C7 hvw hvb
    have hPle : prodB ws k < 1000 := by
      have hp : ∀ (l : List Nat), (∀ x ∈ l, x < 6) → l.foldl (· * ·) 1 ≤ 5 ^ l.length := by
        intro l
        suffices ∀ a, l.foldl (· * ·) a ≤ a * 5 ^ l.length ∨ ¬ (∀ x ∈ l, x < 6) by
          intro h
          rcases this 1 with h1 | h1
          · simpa using h1
          · exact absurd h h1
        induction l with
        | nil => intro a; simp
        | cons y l ih =>
          intro a
          by_cases hl : ∀ x ∈ y :: l, x < 6
          · left
            rcases ih (a * y) with h1 | h1
            · refine Nat.le_trans h1 ?_
              rw [List.length_cons, Nat.pow_succ, Nat.mul_comm (5 ^ l.length) 5, ← Nat.mul_assoc]
              exact Nat.mul_le_mul_right _ (Nat.mul_le_mul_left _ (by have := hl y List.mem_cons_self; omega))
            · exact absurd (fun x hx => hl x (List.mem_cons_of_mem _ hx)) h1
          · exact .inr hl
      have h1 := hp ((bas ws).take k) fun x hx => by
        have := List.mem_of_mem_take hx
        obtain ⟨y, hy, rfl⟩ := List.mem_map.mp this
        have := hw6 y hy
        omega
      have h2 : ((bas ws).take k).length ≤ 4 := by rw [List.length_take]; omega
      have h3 : 5 ^ ((bas ws).take k).length ≤ 5 ^ 4 := Nat.pow_le_pow_right (by decide) h2
      unfold prodB
      omega
    have hMd : ∀ k, (matK n ws k).length = n ∧ ∀ r ∈ matK n ws k, r.length = n := by
      intro k
      have : ∀ (l : List Nat) (M : List (List Int)), (M.length = n ∧ ∀ r ∈ M, r.length = n) → (l.foldl (fun M b => mulM n M (tableM b n)) M).length = n ∧ ∀ r ∈ l.foldl (fun M b => mulM n M (tableM b n)) M, r.length = n := by
        intro l
        induction l with
        | nil => intro M h; exact h
        | cons b l ih =>
          intro M h
          refine ih _ ⟨by simp [mulM, h.1], fun r hr => ?_⟩
          obtain ⟨x, _, rfl⟩ := List.mem_map.mp hr
          simp
      exact this _ _ ⟨by simp [idM], fun r hr => by obtain ⟨x, _, rfl⟩ := List.mem_map.mp hr; simp⟩
    have hLz : ∃ o, z.heap.get? Ld = some o ∧ strL ys o := let ⟨o, h1, h2⟩ := hL; ⟨o, gz.keep _ _ h1, h2⟩
    refine law_turn rfl (B.keeps gz.keep) hr1 hn (b := max 2 wh) rfl hw6k ho hy hLz hLf hTb (by rw [hlf]; simpa using hxl) (hMd k).1 (hMd k).2 C8 m1 m2 m3 m4 m5 m6 hPle hc0 hcn ?_
    intro z' l' Lf' Tb' s' g' C' hLf' hTb' k1 k2 k3 ⟨u4, k4⟩ ⟨u5, k5⟩ ⟨u6, k6⟩
    have hsm := sum_mod ((max 2 wh : Nat) : Int) (by omega) lf
    have hlfl : lf.length = n := by rw [hlf]; simpa using hxl
    rw [hlfl] at hsm
    have enb : (n : Int) * (((max 2 wh : Nat) : Int) - 1) + n = ((max 2 wh : Nat) : Int) * n := by rw [Int.mul_sub, Int.mul_comm]; omega
    refine hI' _ ⟨z', l', lf.map (· / ((max 2 wh : Nat) : Int)), Lf', Tb', _, _, _, _, gz.trans g', C', hLf', by rw [hMk]; exact hTb', k1, k2, k3, ⟨_, k4⟩, ⟨u5, by rw [hPk, Int.natCast_mul]; exact k5⟩, ⟨_, k6⟩, ?_, ?_, ?_, ?_⟩
    · rw [hlf, List.map_map, hPk]
      refine List.map_congr_left fun x _ => ?_
      show x / _ / _ = _
      rw [Int.ediv_ediv_of_nonneg (Int.natCast_nonneg _), Int.natCast_mul]
    · rw [hPk, Int.natCast_mul]
      exact carry_step (sum_dm _ lf) rfl hinv
    · exact Int.ediv_nonneg (by omega) (by omega)
    · exact Int.ediv_lt_of_lt_mul (by omega) (by rw [Int.mul_comm]; omega)
  · rintro s3 E ⟨z, l, lf, Lf, Tb, kept, carry, v6, v4, gz, C3, hLf, hTb, m1, m2, m3, ⟨t4, m4⟩, ⟨t5, m5⟩, ⟨t6, m6⟩, hlf, hinv, hc0, hcn⟩
    refine r_endZip hr1.handled C3 ⟨oW, gz.keep _ _ hoW, hlW⟩ ⟨oB, gz.keep _ _ hoB, hlB⟩ (List.getElem?_eq_none (by omega)) fun s4 C4 => ⟨rfl, wpAny_execs_nil ?_⟩
    clear C C2 C3 l1 l2 l3 l4 l5 l6 l7 l8 hT
    obtain ⟨oN, hoN, hpN⟩ := hN
    have hoN := gz.keep _ _ hoN
    have Bz := B.keeps gz.keep
    have hz0 : lf.sum = 0 := by
      rw [hlf]
      have : ∀ ys : List Int, (∀ x ∈ ys, 0 ≤ x ∧ x < prodB ws 4) → (ys.map (· / (prodB ws 4 : Int))).sum = 0 := by
        intro ys
        induction ys with
        | nil => intro _; rfl
        | cons y ys ih =>
          intro hh
          have h1 := hh y List.mem_cons_self
          rw [List.map_cons, List.sum_cons, ih fun x hx => hh x (List.mem_cons_of_mem _ hx), Int.ediv_eq_zero_of_lt h1.1 h1.2]; rfl
      exact this xs hxb
    rw [hz0] at hinv
    rw [hfin] at hTb
    generalize prodB ws 4 = P at *
    walk_at "zz"
    rw [if_neg (by simp; rw [Int.mul_comm]; simpa using hinv)]
    walk_at "zz"
    refine r_compC (cl := [("whole", L + 5), ("n", L + 1)]) rfl (fun _ => rfl) (fun _ => rfl) rfl (by decide) (fun _ _ => rfl) ?_
    walk_at "zz"
    rename_i I s5 C5
    generalize hOB : [(L + 6, cellP v6), (L + 5, cellP (some (.int P tw))), (L + 4, cellP v4), (L + 3, cellP (some (.ref Ld))), (L + 2, cellP (some (.int once tO))), (L + 1, cellP (some (.int n tn)))] = ownB at C5
    have C5 : Cur z L l ((I, fun o => o = rngIt ((0 : Nat) : Int) ((n : Int) - ((0 : Nat) : Int))) :: ownB) s5 := by simpa using C5
    refine ⟨z, L, l, ownB, I, n, fun i o => o = rngIt i ((n : Int) - i), fun _ _ => True, fun i v => ∃ t, v = .int i t, fun i ys own => ∃ (rs : List Addr) (ownT : Own), ys = rs.map .ref ∧ rs.length = i ∧ own = ownT ++ ownB ∧ ∀ (k : Nat) r, rs[k]? = some r → (r, intL ((dueM n P).getD k [])) ∈ ownT,
      rfl, C5, (by refine Pull.range ?_ _ _; exact hr1.handled), ⟨[], [], rfl, rfl, rfl, by simp⟩, by omega, fun _ _ _ _ _ _ _ => trivial, ?_, ?_⟩
    · rintro i ys own v s6 E2 Cf lc D c hi ⟨rs, ownT, rfl, hrl, rfl, hrs⟩ ⟨ti, rfl⟩ C6
      refine gen fun Q1 hQ1 => ?_
      have hc5 : (L + 5, cellP (some (.int P tw))) ∈ ownT ++ ownB := List.mem_append_right _ (by rw [← hOB]; walk_at "mem")
      have hc1 : (L + 1, cellP (some (.int n tn))) ∈ ownT ++ ownB := List.mem_append_right _ (by rw [← hOB]; walk_at "mem")
      refine r_comp (cl := [("whole", L + 5), ("n", L + 1), ("i", c)]) rfl (by decide) rfl (by decide) rfl ?_
      walk_at "zz"
      rename_i I2 s7 C7
      refine ⟨z, _, _, _, I2, n, fun i o => o = rngIt i ((n : Int) - i), fun _ _ => True, fun i v => ∃ t, v = .int i t, fun m ys own2 => own2 = (I, fun o => o = rngIt ((i + 1 : Nat) : Int) ((n : Int) - ((i + 1 : Nat) : Int))) :: (D, lstX (rs.map Value.ref)) :: (L, NsP (Lk l)) :: (c, cellP (some (.int i ti))) :: (ownT ++ ownB) ∧ IntsAre ys ((List.range m).map fun j => due n i j P),
        rfl, by simpa using C7, (by refine Pull.range ?_ _ _; exact hr1.handled), ⟨rfl, .nil⟩, by omega, fun _ _ _ _ _ => trivial, ?_, ?_⟩
      · rintro j ys2 own2 v2 s8 E3 Cf2 lc2 D2 hj ⟨rfl, hI2⟩ ⟨tj, rfl⟩ C8
        refine gen fun Q2 hQ2 => ?_
        walk_at "zz"
        refine wpAny_call (due_ok (Bz.keeps C8.grow.keep) hq12 hq11 (hr1.le (by decide)) (by omega) hi hj hP2 ?_)
        intro td s9 g9
        refine hQ2 _ _ ?_
        refine ⟨_, _, ⟨rfl, ?_⟩, C8.call g9⟩
        rw [List.range_succ, List.map_append]
        exact ints_snoc hI2 rfl
      · rintro D2 ys2 own2 s8 hyl2 ⟨rfl, hI2⟩ C8
        have C9 := C8.imp (i := 0) (P' := intL _) rfl (fun o ho => ⟨_, hI2, lstX.weak _ ho⟩)
        dsimp only [List.set] at C9
        refine hQ1 _ _ ?_
        refine ⟨_, _, ⟨rs ++ [D2], (D2, intL _) :: ownT, by simp, by simp [hrl], rfl, fun k r e => ?_⟩, Cur.put_in (pre := [_, _, _, _]) C9⟩
        rcases snoc_at e with e | ⟨rfl, rfl⟩
        · exact List.mem_cons_of_mem _ (hrs k r e)
        · refine List.mem_cons.mpr (.inl ?_)
          rw [hrl]
          simp [dueM, hi]
    · rintro D ys own s6 hyl ⟨rs, ownT, rfl, hrl, rfl, hrs⟩ C6
      have hD : Mat s6.heap D (dueM n P) := by
        obtain ⟨o, h1, h2⟩ := C6.has _ List.mem_cons_self
        refine ⟨rs, ⟨o, h1, h2.weak⟩, by simp [dueM, hrl], fun i r e => ?_⟩
        exact C6.has _ (List.mem_cons_of_mem (D, lstX (rs.map Value.ref)) (List.mem_append_left ownB (hrs i r e)))
      have hu := hr1.units
      refine r_matEq (hTb.keeps C6.grow.keep) hD (by omega) ?_
      exact h _ (gz.trans C6.grow)
end

section
variable {prog : Program} {w : World} {A : Around} {s : Shared} {mg mb : Str → Option Value} {R : Result → Shared → Prop}

theorem Cur.freezeTo {s0 s : Shared} {L : Addr} {l : Locs} {pre cells : Own} (C : Cur s0 L l (pre ++ cells) s) : ∃ z, Grow s0 z ∧ Cur z L l cells s ∧ ∀ p ∈ pre, ∃ o, z.heap.get? p.1 = some o ∧ p.2 o := by
  obtain ⟨z, g, C2, hz⟩ := (C.drop (List.sublist_append_right pre cells)).freeze
  have nd := C.nd
  rw [List.map_append, List.nodup_append] at nd
  refine ⟨z, g, C2, fun p hp => ?_⟩
  obtain ⟨o, h1, h2⟩ := C.has p (List.mem_append_left _ hp)
  exact ⟨o, hz _ o h1 (C.ne p (List.mem_append_left _ hp)) fun q hq e => nd.2.2 _ (List.mem_map_of_mem (f := (·.1)) hp) _ (List.mem_map_of_mem (f := (·.1)) hq) e.symm, h2⟩
noncomputable def wsOf (t p q : Nat) : List Nat := match t with | 0 => [0, 1, p, q] | 1 => [1, p, 0, q] | _ => [p, 0, 1, q]
theorem rotW {t : Nat} (h : t < 3) (p q : Nat) : cut (some (t : Int)) none [0, 1, (p : Int)] ++ cut none (some (t : Int)) [0, 1, (p : Int)] ++ [(q : Int)] = (wsOf t p q).map fun (x : Nat) => (x : Int) := by
  rw [cut_eq, cut_eq]
  rcases (by decide : ∀ t : Nat, t < 3 → t = 0 ∨ t = 1 ∨ t = 2) t h with rfl | rfl | rfl <;> simp [loOf, hiOf, wsOf]
theorem wsOf_four (t p q : Nat) : ∃ w0 w1 w2 w3, wsOf t p q = [w0, w1, w2, w3] := by
  unfold wsOf
  split <;> exact ⟨_, _, _, _, rfl⟩
noncomputable def lawB (n t p q : Nat) : Bool := decide (matK n (wsOf t p q) 4 = dueM n (prodB (wsOf t p q) 4)) && decide (prodB (wsOf t p q) 4 ≤ 200) && decide (0 < prodB (wsOf t p q) 4) && (wsOf t p q).all fun x => decide (x < 6)
noncomputable def rowB (n t : Nat) : Bool := [2, 3, 4, 5].all fun p => [0, 1, 2, 3, 4, 5].all fun q => lawB n t p q
/- the plain law: the tables multiplied are what is due; in nine parts, each a short kernel step -/
theorem plain20 : rowB 2 0 = true := by decide +kernel
theorem plain21 : rowB 2 1 = true := by decide +kernel
theorem plain22 : rowB 2 2 = true := by decide +kernel
theorem plain30 : rowB 3 0 = true := by decide +kernel
theorem plain31 : rowB 3 1 = true := by decide +kernel
theorem plain32 : rowB 3 2 = true := by decide +kernel
theorem plain40 : rowB 4 0 = true := by decide +kernel
theorem plain41 : rowB 4 1 = true := by decide +kernel
theorem plain42 : rowB 4 2 = true := by decide +kernel
theorem plainB {n t : Nat} (hn : 2 ≤ n ∧ n ≤ 4) (ht : t < 3) : rowB n t = true := by
  rcases (by decide : ∀ n : Nat, n < 5 → 2 ≤ n → n = 2 ∨ n = 3 ∨ n = 4) n (Nat.lt_succ_of_le hn.2) hn.1 with rfl | rfl | rfl <;> rcases (by decide : ∀ t : Nat, t < 3 → t = 0 ∨ t = 1 ∨ t = 2) t ht with rfl | rfl | rfl
  · exact plain20
  · exact plain21
  · exact plain22
  · exact plain30
  · exact plain31
  · exact plain32
  · exact plain40
  · exact plain41
  · exact plain42
theorem plain {n t p q : Nat} (hn : 2 ≤ n ∧ n ≤ 4) (ht : t < 3) (hp : 2 ≤ p ∧ p < 6) (hq : q < 6) : matK n (wsOf t p q) 4 = dueM n (prodB (wsOf t p q) 4) ∧ prodB (wsOf t p q) 4 ≤ 200 ∧ 0 < prodB (wsOf t p q) 4 ∧ ∀ x ∈ wsOf t p q, x < 6 := by
  have h3 := List.all_eq_true.mp (plainB hn ht) p ((by decide : ∀ p : Nat, p < 6 → 2 ≤ p → p ∈ [2, 3, 4, 5]) p hp.2 hp.1)
  have h4 := List.all_eq_true.mp h3 q ((by decide : ∀ q : Nat, q < 6 → q ∈ [0, 1, 2, 3, 4, 5]) q hq)
  unfold lawB at h4
  simp only [Bool.and_eq_true, decide_eq_true_eq, List.all_eq_true] at h4
  exact ⟨h4.1.1.1, h4.1.1.2, h4.1.2, h4.2⟩
end

section
variable {prog : Program} {w : World} {A : Around} {s : Shared} {mg mb : Str → Option Value} {R : Result → Shared → Prop}

set_option maxHeartbeats 40000000 in
theorem law_mid {d : DefRec} (hd : (recsOf pw)[12]? = some d) (B : Base mg mb s.heap) {A0 : Around} (hr1 : Room A0 4) {n t p q : Nat} (hn : 2 ≤ n ∧ n ≤ 4) (ht : t < 3) (hp : 2 ≤ p ∧ p < 6) (hq : q < 6) {a0 a1 a2 a3 a4 a5 a6 a7 : Int}
    (h1 : 2 + a1 % 4 = (p : Int)) (h3 : a3 % 6 = (q : Int)) {once : Int} (ho : 1 ≤ once ∧ once ≠ 127 ∧ once < 1000) {ys : List (List Nat)} (hy : LeadOk ys) {L f Ld D2 : Addr} {cd : Value} {l : Locs} {tO tn tt : Tok} {s1 : Shared}
    (C : Cur s L l [(Ld, strL ys), (D2, intL [a0, a1, a2, a3, a4, a5, a6, a7]), (L + 6, cellP none), (L + 5, cellP none), (L + 4, cellP none), (L + 3, cellP (some (.ref Ld))), (L + 2, cellP (some (.int once tO))), (L + 1, cellP (some (.int n tn)))] s1)
    (l1 : Lk l "drawn" = some (.ref D2)) (l2 : Lk l "turn" = some (.int t tt))
    (h : ∀ s', Grow s s' → R (.ok (.ret (.bool true))) s') :
    wpAny (model prog w) A0 (execs (d.body.drop 6) (envOfC d.name d.scope L f cd)) (fun f s' => R (.ok (.ret (match f with | .ret v => v | _ => .none))) s') (fun _ _ => False) s1 := by
  cases hd
  dsimp only [List.drop]
  walk_at "zz"
  rename_i Wl _ _ s2 C2 sl s3 C3
  rw [h1] at C3
  have C4 := C3.imp (i := 1) (P' := intL [0, 1, (p : Int)]) rfl (fun o ho => ⟨_, .cons _ _ (.cons _ _ (.cons _ _ .nil)), lstX.weak _ ho⟩)
  dsimp only [List.set] at C4
  refine r_sliceI C4 (by walk_at "sees") (by walk_at "mem") (.int t _) .none (by simp [Within]) (by simp) fun W1 s5 C5 => ?_
  clear C C2 C3 C4
  walk_at "zz"
  rename_i sl2 s6 C6
  refine r_sliceI (ns := [0, 1, (p : Int)]) C6 (by walk_at "sees") (by walk_at "mem") .none (.int t _) (by simp [Within]) (by simp) fun W2 s7 C7 => ?_
  refine r_addI C7 (by walk_at "sees") (by walk_at "sees") (by refine Nat.lt_of_le_of_lt (Nat.add_le_add (cut_len _ _ _) (cut_len _ _ _)) ?_; show 3 + 3 < 2 ^ 20; decide) fun W3 s8 C8 => ?_
  clear C5 C6 C7
  walk_at "zz"
  rename_i W4 s9 C9
  rw [h3] at C9
  have C9 := C9.imp (i := 0) (P' := intL [(q : Int)]) rfl (fun o ho => ⟨_, .cons _ _ .nil, lstX.weak _ ho⟩)
  dsimp only [List.set] at C9
  refine r_addI C9 (by walk_at "sees") (by walk_at "sees") (by rw [List.length_append]; refine Nat.lt_of_le_of_lt (Nat.add_le_add_right (Nat.add_le_add (cut_len _ _ _) (cut_len _ _ _)) _) ?_; show 3 + 3 + 1 < 2 ^ 20; decide) fun Ww s10 C10 => ?_
  rw [rotW ht p q] at C10
  obtain ⟨w0, w1, w2, w3, hws⟩ := wsOf_four t p q
  have hpl := plain hn ht hp hq
  rw [hws] at C10 hpl
  have C10 := C10.drop (own' := (Ww, _) :: [(Ld, strL ys), (D2, intL [a0, a1, a2, a3, a4, a5, a6, a7]), (L + 6, cellP none), (L + 5, cellP none), (L + 4, cellP none), (L + 3, cellP (some (.ref Ld))), (L + 2, cellP (some (.int once tO))), (L + 1, cellP (some (.int n tn)))]) (by walk_at "subl")
  clear C8 C9
  walk_at "zz"
  rename_i C11
  refine r_compIntsAs (cl := []) rfl rfl (by decide) rfl (by decide) rfl rfl rfl hr1.handled ?_
  walk_at "zz"
  refine ⟨s, _, _, Ww, _, fun x => max 2 x, rfl, C11, by walk_at "sees", by simp, fun x t s5 E Cf lc Dd I i ys _ C7 => ?_, fun Wb s12 C12 => ?_⟩
  · refine gen fun Q2 hQ2 => ?_
    walk_at "zz"
    exact hQ2 _ _ ⟨_, rfl, _, by assumption⟩
  have C12 : Cur s L _ _ s12 := C12
  have hbm : (([w0, w1, w2, w3].map fun (x : Nat) => (x : Int)).map fun x => max 2 x) = [((max 2 w0 : Nat) : Int), ((max 2 w1 : Nat) : Int), ((max 2 w2 : Nat) : Int), ((max 2 w3 : Nat) : Int)] := by
    have e : ∀ x : Nat, max (2 : Int) (x : Int) = ((max 2 x : Nat) : Int) := fun x => (Lean.Omega.Int.ofNat_max 2 x).symm
    simp only [List.map_cons, List.map_nil, e]
  rw [hbm] at C12
  have hw6 := hpl.2.2.2
  have g0 := hw6 w0 (by simp)
  have g1 := hw6 w1 (by simp)
  have g2 := hw6 w2 (by simp)
  have g3 := hw6 w3 (by simp)
  clear C10 C11
  walk_at "zz"
  rename_i tw _ _ s13 C13
  have hP : ((max 2 w0 : Nat) : Int) * ((max 2 w1 : Nat) : Int) * ((max 2 w2 : Nat) : Int) * ((max 2 w3 : Nat) : Int) = ((prodB [w0, w1, w2, w3] 4 : Nat) : Int) := by
    simp only [prodB, bas, List.map_cons, List.map_nil, List.take, List.foldl_cons, List.foldl_nil, Int.natCast_mul]; simp
  obtain ⟨hfin, hP2, hP0, _⟩ := hpl
  obtain ⟨P, hPe⟩ : ∃ P, P = prodB [w0, w1, w2, w3] 4 := ⟨_, rfl⟩
  rw [hP, ← hPe] at C13
  rw [← hPe] at hP0
  have C13 : Cur s L _ ([(Wb, intL [((max 2 w0 : Nat) : Int), ((max 2 w1 : Nat) : Int), ((max 2 w2 : Nat) : Int), ((max 2 w3 : Nat) : Int)]), (Ww, intL ([w0, w1, w2, w3].map fun (x : Nat) => (x : Int))), (Ld, strL ys), (D2, intL [a0, a1, a2, a3, a4, a5, a6, a7]), (L + 6, cellP none), (L + 5, cellP (some (.int P tw))), (L + 4, cellP none), (L + 3, cellP (some (.ref Ld))), (L + 2, cellP (some (.int once tO))), (L + 1, cellP (some (.int n tn)))]) s13 := C13
  clear C12
  refine r_compIntsAs (cl := [("whole", L + 5)]) rfl rfl (by decide) rfl (by decide) rfl rfl rfl hr1.handled ?_
  walk_at "zz"
  rename_i sl3 s14 C14
  refine r_sliceI C14 (by walk_at "sees") (by walk_at "mem") (.int 4 _) (.int (4 + n) _) (by simp [Within]; omega) (by simp) fun X1 s15 C15 => ?_
  have hxl : (cut (some (4 : Int)) (some (4 + (n : Int))) [a0, a1, a2, a3, a4, a5, a6, a7]).length = n := by
    rw [cut_eq, List.length_take, List.length_drop]
    show min ((4 + (n : Int)).toNat - 4) 4 = n
    rw [show (4 + (n : Int)).toNat = 4 + n from Int.toNat_natCast (4 + n), Nat.add_sub_cancel_left]
    exact Nat.min_eq_left hn.2
  generalize cut (some (4 : Int)) (some (4 + (n : Int))) [a0, a1, a2, a3, a4, a5, a6, a7] = xs at C15 hxl
  refine ⟨s, _, _, X1, xs, fun x => x % P, rfl, C15, by walk_at "sees", by omega, fun x t s5 E Cf lc Dd I i ys _ C7 => ?_, fun Nm s16 C16 => ?_⟩
  · refine gen fun Q2 hQ2 => ?_
    walk_at "zz"
    exact hQ2 _ _ ⟨_, rfl, _, by assumption⟩
  have C16 : Cur s L _ _ s16 := C16
  clear C13 C14 C15
  have hxb : ∀ x ∈ xs.map (· % (P : Int)), 0 ≤ x ∧ x < P := fun x hx => by
    obtain ⟨y, _, rfl⟩ := List.mem_map.mp hx
    exact ⟨Int.emod_nonneg _ (by omega), Int.emod_lt_of_pos _ (by omega)⟩
  walk_at "zz"
  rename_i tk _ _ _ _ tp _ _ _ _ tc _ _ s17 C17
  obtain ⟨l17, C18, k1, k2, k3, k4, k5, k6, k7⟩ : ∃ l17, Cur s L l17 [(Nm, intL (xs.map (· % (P : Int)))), (Wb, intL [((max 2 w0 : Nat) : Int), ((max 2 w1 : Nat) : Int), ((max 2 w2 : Nat) : Int), ((max 2 w3 : Nat) : Int)]), (Ww, intL ([w0, w1, w2, w3].map fun (x : Nat) => (x : Int))), (Ld, strL ys), (D2, intL [a0, a1, a2, a3, a4, a5, a6, a7]), (L + 6, cellP none), (L + 5, cellP (some (.int P tw))), (L + 4, cellP none), (L + 3, cellP (some (.ref Ld))), (L + 2, cellP (some (.int once tO))), (L + 1, cellP (some (.int n tn)))] s17 ∧
    Lk l17 "wheels" = some (.ref Ww) ∧ Lk l17 "bases" = some (.ref Wb) ∧ Lk l17 "numbers" = some (.ref Nm) ∧ Lk l17 "left" = some (.ref Nm) ∧ Lk l17 "kept" = some (.int 0 tk) ∧ Lk l17 "place" = some (.int 1 tp) ∧ Lk l17 "carry" = some (.int 0 tc) := by
    refine ⟨_, C17.drop (by walk_at "subl"), ?_, ?_, ?_, ?_, ?_, ?_, ?_⟩
    all_goals walk_at "lk"
  clear C16 C17
  refine r_compAsC (cl := [("n", L + 1)]) rfl rfl (fun _ => rfl) (fun _ => rfl) rfl (by decide) (fun _ _ => rfl) rfl rfl ?_
  walk_at "zz"
  rename_i I s18 C19
  have C20 : Cur s L l17 ((I, fun o => o = rngIt ((0 : Nat) : Int) ((n : Int) - ((0 : Nat) : Int))) :: ([(Nm, intL (xs.map (· % (P : Int)))), (Wb, intL [((max 2 w0 : Nat) : Int), ((max 2 w1 : Nat) : Int), ((max 2 w2 : Nat) : Int), ((max 2 w3 : Nat) : Int)]), (Ww, intL ([w0, w1, w2, w3].map fun (x : Nat) => (x : Int))), (Ld, strL ys), (D2, intL [a0, a1, a2, a3, a4, a5, a6, a7])] ++ [(L + 6, cellP none), (L + 5, cellP (some (.int P tw))), (L + 4, cellP none), (L + 3, cellP (some (.ref Ld))), (L + 2, cellP (some (.int once tO))), (L + 1, cellP (some (.int n tn)))])) s18 := by simpa using C19
  clear C18 C19
  generalize hpre : [(Nm, intL (xs.map (· % (P : Int)))), (Wb, intL [((max 2 w0 : Nat) : Int), ((max 2 w1 : Nat) : Int), ((max 2 w2 : Nat) : Int), ((max 2 w3 : Nat) : Int)]), (Ww, intL ([w0, w1, w2, w3].map fun (x : Nat) => (x : Int))), (Ld, strL ys), (D2, intL [a0, a1, a2, a3, a4, a5, a6, a7])] = preL at C20
  generalize hcel : [(L + 6, cellP none), (L + 5, cellP (some (.int P tw))), (L + 4, cellP none), (L + 3, cellP (some (.ref Ld))), (L + 2, cellP (some (.int once tO))), (L + 1, cellP (some (.int n tn)))] = cel at C20
  refine ⟨s, l17, preL ++ cel, I, n, fun i o => o = rngIt i ((n : Int) - i), fun _ _ => True, fun i v => ∃ t, v = .int i t, fun i ys own => ∃ (rs : List Addr) (ownT : Own), ys = rs.map .ref ∧ rs.length = i ∧ own = ownT ++ (preL ++ cel) ∧ ∀ (k : Nat) r, rs[k]? = some r → (r, intL ((idM n).getD k [])) ∈ ownT,
    rfl, C20, (by refine Pull.range ?_ _ _; exact hr1.handled), ⟨[], [], rfl, rfl, rfl, by simp⟩, by omega, fun _ _ _ _ _ _ _ => trivial, ?_, ?_⟩
  · rintro i ys' own v s6 E2 Cf lc D c hi ⟨rs, ownT, rfl, hrl, rfl, hrs⟩ ⟨ti, rfl⟩ C6
    refine gen fun Q1 hQ1 => ?_
    have C6 : Cur s Cf lc ((I, fun o => o = rngIt ((i + 1 : Nat) : Int) ((n : Int) - ((i + 1 : Nat) : Int))) :: (D, lstX (rs.map Value.ref)) :: (L, NsP (Lk l17)) :: (c, cellP (some (.int i ti))) :: (ownT ++ (preL ++ cel))) s6 := C6
    have hc1 : (L + 1, cellP (some (.int n tn))) ∈ ownT ++ (preL ++ cel) := List.mem_append_right _ (List.mem_append_right _ (by rw [← hcel]; walk_at "mem"))
    refine r_comp (cl := [("i", c)]) rfl (by decide) rfl (by decide) rfl ?_
    walk_at "zz"
    rename_i I2 s7 C7
    refine ⟨s, _, _, _, I2, n, fun i o => o = rngIt i ((n : Int) - i), fun _ _ => True, fun i v => ∃ t, v = .int i t, fun m ys2 own2 => own2 = (I, fun o => o = rngIt ((i + 1 : Nat) : Int) ((n : Int) - ((i + 1 : Nat) : Int))) :: (D, lstX (rs.map Value.ref)) :: (L, NsP (Lk l17)) :: (c, cellP (some (.int i ti))) :: (ownT ++ (preL ++ cel)) ∧ IntsAre ys2 ((List.range m).map fun j => if i = j then (1 : Int) else 0),
      rfl, by simpa using C7, (by refine Pull.range ?_ _ _; exact hr1.handled), ⟨rfl, .nil⟩, by omega, fun _ _ _ _ _ => trivial, ?_, ?_⟩
    · rintro j ys2 own2 v2 s8 E3 Cf2 lc2 D2 hj ⟨rfl, hI2⟩ ⟨tj, rfl⟩ C8
      refine gen fun Q2 hQ2 => ?_
      walk_at "zz"
      by_cases hij : i = j
      · rw [if_pos (by rw [decide_eq_true_eq]; omega)]
        walk_at "zz"
        rename_i C9
        refine hQ2 _ _ ?_
        refine ⟨_, _, ⟨rfl, ?_⟩, C9⟩
        rw [List.range_succ, List.map_append]
        exact ints_snoc hI2 (by simp [hij])
      · rw [if_neg (by rw [decide_eq_true_eq]; omega)]
        walk_at "zz"
        rename_i C9
        refine hQ2 _ _ ?_
        refine ⟨_, _, ⟨rfl, ?_⟩, C9⟩
        rw [List.range_succ, List.map_append]
        exact ints_snoc hI2 (by simp [hij])
    · rintro D2 ys2 own2 s8 hyl2 ⟨rfl, hI2⟩ C8
      have C9 := C8.imp (i := 0) (P' := intL _) rfl (fun o ho => ⟨_, hI2, lstX.weak _ ho⟩)
      dsimp only [List.set] at C9
      refine hQ1 _ _ ?_
      refine ⟨_, _, ⟨rs ++ [D2], (D2, intL _) :: ownT, by simp, by simp [hrl], rfl, fun k r e => ?_⟩, Cur.put_in (pre := [_, _, _, _]) C9⟩
      rcases snoc_at e with e | ⟨rfl, rfl⟩
      · exact List.mem_cons_of_mem _ (hrs k r e)
      · refine List.mem_cons.mpr (.inl ?_)
        rw [hrl]
        simp [idM, hi]
  · rintro D ys' own s6 hyl ⟨rs, ownT, rfl, hrl, rfl, hrs⟩ C6
    have C7 : Cur s L (put "tables" (.ref D) l17) ((((D, lstX (rs.map Value.ref)) :: ownT) ++ preL) ++ cel) s6 := by
      rw [List.append_assoc]; exact C6
    obtain ⟨z, gz, C8, hz⟩ := C7.freezeTo
    have hz1 : ∀ p ∈ preL, ∃ o, z.heap.get? p.1 = some o ∧ p.2 o := fun p hp => hz p (List.mem_append_right _ hp)
    have hT : Mat z.heap D (idM n) := by
      obtain ⟨o, h1, h2⟩ := hz (D, lstX (rs.map Value.ref)) (by simp)
      exact ⟨rs, ⟨o, h1, h2.weak⟩, by simp [idM, hrl], fun i r e => hz (r, _) (List.mem_append_left _ (List.mem_cons_of_mem _ (hrs i r e)))⟩
    subst hpre hcel
    subst hPe
    refine law_for rfl (B.keeps gz.keep) hr1 hn (ws := [w0, w1, w2, w3]) rfl hw6 (xs := xs.map (· % ((prodB [w0, w1, w2, w3] 4 : Nat) : Int))) (by simpa using hxl) hxb ho hy (Ww := Ww) (Wb := Wb) (Ld := Ld) (Nm := Nm) (Tb := D) (tk := tk) (tp := tp) (tc := tc) (hz1 (Ww, _) (by walk_at "mem")) (hz1 (Wb, _) (by walk_at "mem")) (hz1 (Ld, _) (by walk_at "mem")) (hz1 (Nm, _) (by walk_at "mem")) hT C8 ?_ ?_ ?_ ?_ ?_ ?_ ?_ ?_ hfin hP2 (fun s' g => h s' (gz.trans g))
    all_goals walk_at "lk"
end

section
variable {prog : Program} {w : World} {A : Around} {s : Shared} {mg mb : Str → Option Value} {R : Result → Shared → Prop}

noncomputable def pickL (x : Int) : List Nat := [[47], [40], [109], [92, 109]].getD (x % 4).toNat []
theorem pickL_ok (xs : List Int) (h : xs.length ≤ 20) : LeadOk (xs.map pickL) := by
  have hp : ∀ x : Int, pickL x = [47] ∨ pickL x = [40] ∨ pickL x = [109] ∨ pickL x = [92, 109] := by
    intro x
    have := mod4 x
    unfold pickL
    rcases this with e | e | e | e <;> rw [e] <;> simp
  refine ⟨by simpa using h, fun y hy => ?_, fun y hy c hc => ?_⟩
  · obtain ⟨x, _, rfl⟩ := List.mem_map.mp hy
    rcases hp x with e | e | e | e <;> rw [e]
    · exact .inl ⟨_, by decide, rfl⟩
    · exact .inl ⟨_, by decide, rfl⟩
    · exact .inl ⟨_, by decide, rfl⟩
    · exact .inr ⟨_, by decide, rfl⟩
  · obtain ⟨x, _, rfl⟩ := List.mem_map.mp hy
    rcases hp x with e | e | e | e <;> rw [e] at hc <;> simp at hc <;> omega

theorem pick_at (x : Int) (p q r u : Tok) : ∃ t, [Value.str (S [47]) p, .str (S [40]) q, .str (S [109]) r, .str (S [92, 109]) u][(x % 4).toNat]? = some (.str (S (pickL x)) t) := by
  have := mod4 x
  unfold pickL
  rcases this with e | e | e | e <;> rw [e]
  · exact ⟨p, rfl⟩
  · exact ⟨q, rfl⟩
  · exact ⟨r, rfl⟩
  · exact ⟨u, rfl⟩
set_option maxHeartbeats 40000000 in
theorem law_ok {ns : List Int} {f Sc : Addr} (B : Base mg mb s.heap) (hf : mg "law" = some (.ref f)) (hr : Room A 5) (hSc : ∃ o, s.heap.get? Sc = some o ∧ intL ns o) (hn : ns.length ≤ 1000)
    (h : ∀ s', Grow s s' → R (.ok (.ret (.bool true))) s') : codeAny (model prog w) A (.call (.ref f) ⟨[.ref Sc], []⟩) R s := by
  refine enterCA (k := 4) (l := [("script", .ref Sc)]) (binds := [("script", .ref Sc)]) (fun L => [(L + 6, none), (L + 5, none), (L + 4, none), (L + 3, none), (L + 2, none), (L + 1, none)]) B (mem_of_at (i := 12) rfl) hf hr (fun _ _ _ => rfl) (by rfl) ?_ ?_ ?_ ?_ rfl rfl rfl
  · intro L cd; exact put_Lk "script" (.ref Sc) []
  · intro L cd; rfl
  · decide
  intro L cd A0 s1 hr1 C
  dsimp only [List.map] at C
  obtain ⟨oS, hoS, hpS⟩ := hSc
  refine wpAny_execs_cons ?_
  refine r_compIntsAs (cl := []) rfl rfl (by decide) rfl (by decide) rfl rfl rfl hr1.handled ?_
  walk_at "zz"
  rename_i C1
  refine r_sliceI C1 (.inl ⟨_, hoS, hpS⟩) (by walk_at "mem") .none (.int 8 _) (by simp [Within]) (by omega) fun b s2 C2 => ?_
  refine ⟨s, _, _, b, _, fun x => x % 1000000, rfl, C2, by walk_at "sees", Nat.lt_of_le_of_lt (Nat.le_trans (cut_len _ _ _) hn) (by decide), fun x t s3 E Cf lc Dd I i ys _ C3 => ?_, fun Dr s3 C3 => ?_⟩
  · refine gen fun Q2 hQ2 => ?_
    walk_at "zz"
    exact hQ2 _ _ ⟨_, rfl, _, by assumption⟩
  have C3 : Cur s L _ _ s3 := C3
  have C3 := C3.drop (own' := (Dr, _) :: [(L + 6, cellP none), (L + 5, cellP none), (L + 4, cellP none), (L + 3, cellP none), (L + 2, cellP none), (L + 1, cellP none)]) (by walk_at "subl")
  have hd8 : ((cut none (some 8) ns).map (· % 1000000)).length ≤ 8 := by rw [List.length_map, cut_eq, List.length_take]; exact Nat.le_trans (Nat.min_le_left _ _) (Nat.sub_le _ _)
  have hdb : ∀ x ∈ (cut none (some 8) ns).map (· % 1000000), 0 ≤ x ∧ x < 1000000 := by
    intro x hx
    obtain ⟨y, _, rfl⟩ := List.mem_map.mp hx
    omega
  generalize (cut none (some 8) ns).map (· % 1000000) = d0 at C3 hd8 hdb
  clear C C1 C2
  walk_at "zz"
  rename_i Cl _ _ _ _ _ sl _ C5
  have C5 := C5.imp (i := 1) (P' := intL [1, 1, 0, 5, 47, 34, 21, 52]) rfl (fun o ho => ⟨_, .cons _ _ (.cons _ _ (.cons _ _ (.cons _ _ (.cons _ _ (.cons _ _ (.cons _ _ (.cons _ _ .nil))))))), lstX.weak _ ho⟩)
  dsimp only [List.set] at C5
  refine r_sliceI C5 (by walk_at "sees") (by walk_at "mem") (.int d0.length _) .none (by simp [Within]) (by simp) fun b2 s6 C6 => ?_
  refine r_addI C6 (by walk_at "sees") (by walk_at "sees") (Nat.lt_of_le_of_lt (Nat.add_le_add hd8 (cut_len _ _ _)) (by decide)) fun D2 s7 C7 => ?_
  have hl8 : (d0 ++ cut (some (d0.length : Int)) none [1, 1, 0, 5, 47, 34, 21, 52]).length = 8 := by rw [cut_eq]; simp [loOf, hiOf]; omega
  have hb8 : ∀ x ∈ d0 ++ cut (some (d0.length : Int)) none [1, 1, 0, 5, 47, 34, 21, 52], 0 ≤ x ∧ x < 1000000 := by
    intro x hx
    rcases List.mem_append.mp hx with hx | hx
    · exact hdb x hx
    · rw [cut_eq] at hx
      have := List.mem_of_mem_drop (List.mem_of_mem_take hx)
      exact (by decide : ∀ y ∈ ([1, 1, 0, 5, 47, 34, 21, 52] : List Int), 0 ≤ y ∧ y < 1000000) x this
  generalize d0 ++ cut (some (d0.length : Int)) none [1, 1, 0, 5, 47, 34, 21, 52] = dr at C7 hl8 hb8
  obtain ⟨a0, a1, a2, a3, a4, a5, a6, a7, rfl⟩ : ∃ a0 a1 a2 a3 a4 a5 a6 a7, dr = [a0, a1, a2, a3, a4, a5, a6, a7] := eight hl8
  have C7 := C7.drop (own' := (D2, _) :: [(L + 6, cellP none), (L + 5, cellP none), (L + 4, cellP none), (L + 3, cellP none), (L + 2, cellP none), (L + 1, cellP none)]) (by walk_at "subl")
  have h0 := hb8 a0 (by simp)
  have h1 := hb8 a1 (by simp)
  have h2 := hb8 a2 (by simp)
  have h3 := hb8 a3 (by simp)
  have h4 := hb8 a4 (by simp)
  have h5 := hb8 a5 (by simp)
  have h6 := hb8 a6 (by simp)
  have h7 := hb8 a7 (by simp)
  clear hb8 hl8 C3 C5 C6 hdb
  walk_at "zz"
  rename_i s9 C8
  obtain ⟨tn, tO, tt, C9⟩ : ∃ tn tO tt, Cur s L (put "turn" (.int (a2 % 3) tt) (put "drawn" (.ref D2) (put "drawn" (.ref Dr) [("script", .ref Sc)]))) [(D2, intL [a0, a1, a2, a3, a4, a5, a6, a7]), (L + 6, cellP none), (L + 5, cellP none), (L + 4, cellP none), (L + 3, cellP none), (L + 2, cellP (some (.int (1 + a2 % 101) tO))), (L + 1, cellP (some (.int (2 + a0 % 3) tn)))] s9 := ⟨_, _, _, C8⟩
  clear C7 C8
  refine r_comp (cl := []) rfl (by decide) rfl (by decide) rfl ?_
  walk_at "zz"
  rename_i C10
  refine r_sliceI C10 (by walk_at "sees") (by walk_at "mem") (.int 4 _) .none (by simp [Within]) (by simp) fun b3 s11 C11 => ?_
  rw [show cut (some (4 : Int)) none [a0, a1, a2, a3, a4, a5, a6, a7] = [a4, a5, a6, a7] by rw [cut_eq]; rfl] at C11
  refine r_intsIter C11 (by walk_at "sees") fun I s12 C12 => ?_
  refine ⟨s, L, _, _, I, 4, lstIt b3, fun s0' own => Sees s0' own b3 (intL [a4, a5, a6, a7]), fun i v => ∃ n t, [a4, a5, a6, a7][i]? = some n ∧ v = .int n t, fun i ys own => own = (b3, intL [a4, a5, a6, a7]) :: (_ :: [(D2, intL [a0, a1, a2, a3, a4, a5, a6, a7]), (L + 6, cellP none), (L + 5, cellP none), (L + 4, cellP none), (L + 3, cellP none), (L + 2, cellP (some (.int (1 + a2 % 101) tO))), (L + 1, cellP (some (.int (2 + a0 % 3) tn)))]) ∧ StrsAre ys (((([a4, a5, a6, a7] : List Int).take i).map pickL).map S), rfl, C12, Pull.ints hr1.handled I b3 [a4, a5, a6, a7], ⟨rfl, .nil⟩, by decide, ?_, ?_, ?_⟩
  · rintro i ys own D ⟨rfl, _⟩
    exact .inr (by walk_at "mem")
  · rintro i ys own v s13 E Cf lc D hi ⟨rfl, hys⟩ ⟨x, t, hx, rfl⟩ C13
    refine gen fun Q1 hQ1 => ?_
    have hx4 : 0 ≤ x % 4 ∧ x % 4 < 4 := ⟨Int.emod_nonneg x (by decide), Int.emod_lt_of_pos x (by decide)⟩
    walk_at "zz"
    rename_i p0 _ _ q0 _ _ r0 _ _ u0 _ _ Lx _ _ c0 _ _ tx s14 C14
    obtain ⟨ux, hvv⟩ := pick_at x p0 q0 r0 u0
    have C15 := C14.imp (i := 0) (P' := lst _) rfl lstX.weak
    dsimp only [List.set] at C15
    refine r_subL C15 (by walk_at "sees") (by omega) hvv ?_
    refine hQ1 _ _ ?_
    refine ⟨_, _, ⟨rfl, ?_⟩, C15.tail⟩
    rw [List.take_add_one, hx, List.map_append, List.map_append]
    exact strs_snoc hys
  · rintro D ys own s13 hl ⟨rfl, hys⟩ C13
    have C14 := C13.imp (i := 0) (P' := strL ([a4, a5, a6, a7].map pickL)) rfl (fun o ho => ⟨_, hys, lstX.weak _ ho⟩)
    dsimp only [List.set] at C14
    have C15 := C14.drop (own' := (D, _) :: [(D2, intL [a0, a1, a2, a3, a4, a5, a6, a7]), (L + 6, cellP none), (L + 5, cellP none), (L + 4, cellP none), (L + 3, cellP none), (L + 2, cellP (some (.int (1 + a2 % 101) tO))), (L + 1, cellP (some (.int (2 + a0 % 3) tn)))]) (by walk_at "subl")
    refine r_stC (i := 5) C15 rfl rfl fun s16 C16 => ?_
    dsimp only [List.set] at C16
    clear C9 C10 C11 C12 C13 C14 C15
    obtain ⟨n, hn⟩ : ∃ n : Nat, 2 + a0 % 3 = n := nat_of (Int.add_nonneg (by decide) (Int.emod_nonneg a0 (by decide)))
    obtain ⟨t, ht⟩ : ∃ t : Nat, a2 % 3 = t := nat_of (Int.emod_nonneg a2 (by decide))
    obtain ⟨p, hp⟩ : ∃ p : Nat, 2 + a1 % 4 = p := nat_of (Int.add_nonneg (by decide) (Int.emod_nonneg a1 (by decide)))
    obtain ⟨q, hq⟩ : ∃ q : Nat, a3 % 6 = q := nat_of (Int.emod_nonneg a3 (by decide))
    rw [hn, ht] at C16
    refine law_mid rfl B hr1 (n := n) (t := t) (p := p) (q := q) (by omega) (by omega) (by omega) (by omega) hp hq (tt := tt) (once := 1 + a2 % 101) (by omega) (pickL_ok [a4, a5, a6, a7] (by simp)) C16 ?_ ?_ h
    · walk_at "lk"
    · walk_at "lk"
end

end Mine
namespace Mine
theorem bb1 : bootBuiltins "len" = some (.builtin "len") := by kernel_rfl
theorem bb2 : bootBuiltins "range" = some (.type "range") := by kernel_rfl
theorem bb3 : bootBuiltins "zip" = some (.type "zip") := by kernel_rfl
theorem bb4 : bootBuiltins "sum" = some (.builtin "sum") := by kernel_rfl
theorem bb5 : bootBuiltins "max" = some (.builtin "max") := by kernel_rfl
theorem bb6 : bootBuiltins "enumerate" = some (.type "enumerate") := by kernel_rfl
theorem base_of {q : Program} {mean : ExcName → Option Value} {mg mb : Str → Option Value} {h : Heap} (recs_eq : recsOf q = recsOf pw) (val_eq : valOf q "CHAR_MAX" = some (.int 127))
    (apart : (bis.all fun p => !startupNames.contains p.1 && !(looseW q []).contains p.1 && !((recsOf q).map (·.name)).contains p.1 && !((litsOf q).map (·.1)).contains p.1 && !((clssOf q (looseW q [])).map (·.name)).contains p.1) = true)
    (T : Top q (looseW q []) mean mg mb h) : Base mg mb h where
  g := T.g
  b := T.b
  nolimit := T.nolimit
  bi := fun p hp => by
    have ha := List.all_eq_true.mp apart p hp
    have nm : ∀ l : List Str, l.contains p.1 = false → p.1 ∉ l := fun l h hm => by
      rw [List.contains_iff_mem.mpr hm] at h; cases h
    simp only [Bool.and_eq_true, Bool.not_eq_true'] at ha
    refine ⟨T.free p.1 (nm _ ha.1.1.1.1) (nm _ ha.1.1.1.2) (nm _ ha.1.1.2) (nm _ ha.1.2) (nm _ ha.2), ?_⟩
    have hne : p.1 ≠ "__name__" := by
      rintro e
      exact nm _ ha.1.1.1.1 (by rw [e]; decide)
    rw [T.builtins p.1 hne]
    simp only [bis, List.mem_cons, List.not_mem_nil, or_false] at hp
    rcases hp with rfl | rfl | rfl | rfl | rfl | rfl
    · exact bb1
    · exact bb2
    · exact bb3
    · exact bb4
    · exact bb5
    · exact bb6
  fn := fun d hd => T.fn d (by rw [recs_eq]; exact hd)
  cmax := by
    obtain ⟨v, h1, h2⟩ := T.const _ _ val_eq
    have := h2 h
    cases this with
    | int i t => exact ⟨t, h1⟩
end Mine
set_option maxHeartbeats 8000000 in
theorem PySem.Challenge.cw_xo0003_01_holds : PySem.Challenge.rw_xo0003_01.Holds := by
  w_on
  o_law
  o_head Hook.none
  (case hw => w_witness2)
  intro w s₀ s₁ mg mb G Y fa o pm cd doc dV kV ho hd hcd hD hmg hg args vals as hpre hlay hrd hwl hlo
  clear ho hd hcd hD Y
  refine Ground.open G ?_
  intro T B D TE TW
  wrow_args hpre hlay hrd hwl hlo
  rename_i ns _ _ _ _ _ _ _ Sc vs _ hL _ _ _ hI _ hlen _
  refine enter_call ?_
  refine Mine.law_ok (ns := ns) (Mine.base_of (by kernel_rfl) (by kernel_rfl) (by decide +kernel) T) hmg ⟨by decide, by decide, rfl⟩ (Mine.lst.of hL |>.elim fun o h => ⟨o, h.1, vs, hI, h.2⟩) (by omega) fun s' g => ?_
  refine ⟨.inl ⟨.bool true, .bool true, [], rfl, fun cls => ?_, .bool true, ?_, fun _ => ⟨.nil, fun _ h => nomatch h⟩⟩, .of_keep g.keep, g.os, g.gens.2 (.of_eq hg)⟩
  · rfl
  · refine postW_of (r := PySem.Challenge.rw_xo0003_01.row.toRowW) (X := true) ?_ ?_ rfl
    · first | rfl | (show WShape.has _ (.bool true) .bool = true; simp [WShape.has])
    · show WTm.value _ (.eq .res (.lit (.bool true))) _ = _
      first | rfl | simp [WTm.value, PySem.W.same]
