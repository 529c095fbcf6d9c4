import PyProof.Rows.All
import Wide.All
import OpenK.AllK
import Wide.FinOn
import Flt.RightMore
import Flt.Zero
import Lean
import PySem.Challenge.RW_wu0012_01
set_option Elab.async false
set_option maxRecDepth 100000
set_option linter.unusedVariables false
set_option genInjectivity false
set_option genSizeOf false

local macro_rules | `(tactic| walk_at $s:str) => `(tactic| k_extra $s)

local macro_rules | `(tactic| k_room) => `(tactic| k_extra "k_room")

local macro_rules | `(tactic| k_inst) => `(tactic| k_extra "k_inst")

local macro_rules | `(tactic| k_all) => `(tactic| k_extra "k_all")

local macro_rules | `(tactic| k_head) => `(tactic| k_extra "k_head")

section
set_option linter.unusedVariables false
set_option genInjectivity false
set_option genSizeOf false
namespace Mine
/-- sums with whole coefficients: of numbers from nought up -/
inductive EN where
  | v (i : Nat)
  | n (k : Nat)
  | a (x y : EN)
  | m (k : Nat) (x : EN)
  | r (x : EN) (k : Nat)
/-- and of whole numbers -/
inductive EZ where
  | v (i : Nat)
  | n (k : Int)
  | a (x y : EZ)
  | s (x y : EZ)
  | m (k : Int) (x : EZ)
  | r (x : EZ) (k : Int)
  | g (x : EZ)
  | c (x : EN)
inductive EF where
  | le (x y : EZ)
  | lt (x y : EZ)
  | eq (x y : EZ)
  | leN (x y : EN)
  | ltN (x y : EN)
  | eqN (x y : EN)
noncomputable abbrev nthL {α : Type} (d : α) (l : List α) : Nat → α :=
  @List.rec α (fun _ => Nat → α) (fun _ => d) (fun x _ ih i => @Nat.rec (fun _ => α) x (fun j _ => ih j) i) l
noncomputable abbrev EN.den (ns : List Nat) (e : EN) : Nat :=
  @EN.rec (fun _ => Nat) (fun i => nthL 0 ns i) (fun k => k) (fun _ _ a b => a + b) (fun k _ a => k * a) (fun _ k a => a * k) e
noncomputable abbrev EZ.den (zs : List Int) (ns : List Nat) (e : EZ) : Int :=
  @EZ.rec (fun _ => Int) (fun i => nthL 0 zs i) (fun k => k) (fun _ _ a b => a + b) (fun _ _ a b => a - b) (fun k _ a => k * a) (fun _ k a => a * k) (fun _ a => -a)
    (fun x => ((x.den ns : Nat) : Int)) e
noncomputable abbrev EF.den (zs : List Int) (ns : List Nat) (f : EF) : Prop :=
  @EF.rec (fun _ => Prop) (fun x y => x.den zs ns ≤ y.den zs ns) (fun x y => x.den zs ns < y.den zs ns) (fun x y => x.den zs ns = y.den zs ns)
    (fun x y => x.den ns ≤ y.den ns) (fun x y => x.den ns < y.den ns) (fun x y => x.den ns = y.den ns) f
noncomputable abbrev EDen (zs : List Int) (ns : List Nat) (fs : List EF) : Prop :=
  @List.rec EF (fun _ => Prop) False (fun f _ ih => f.den zs ns → ih) fs
/-- coefficients of the whole numbers, of the others, and what is left -/
structure ELin where
  z : List Int
  n : List Int
  k : Int
noncomputable def addL : List Int → List Int → List Int
  | [], y => y
  | x, [] => x
  | a :: x, b :: y => (a + b) :: addL x y
noncomputable def dotL : List Int → List Int → Int
  | a :: x, b :: y => a * b + dotL x y
  | _, _ => 0
noncomputable def unitL : Nat → List Int
  | 0 => [1]
  | i + 1 => 0 :: unitL i
noncomputable def ELin.add (x y : ELin) : ELin := ⟨addL x.z y.z, addL x.n y.n, x.k + y.k⟩
noncomputable def ELin.mul (c : Int) (x : ELin) : ELin := ⟨x.z.map (c * ·), x.n.map (c * ·), c * x.k⟩
noncomputable def ELin.den (zs : List Int) (ns : List Nat) (x : ELin) : Int := dotL x.z zs + dotL x.n (ns.map Int.ofNat) + x.k
theorem dotL_nil : ∀ c : List Int, dotL [] c = 0
  | [] => rfl
  | _ :: _ => rfl
theorem dotL_add : ∀ x y c : List Int, dotL (addL x y) c = dotL x c + dotL y c
  | [], y, c => by
    show dotL y c = dotL [] c + dotL y c
    rw [dotL_nil, Int.zero_add]
  | a :: x, [], c => by
    show dotL (a :: x) c = dotL (a :: x) c + dotL [] c
    rw [dotL_nil, Int.add_zero]
  | a :: x, b :: y, [] => rfl
  | a :: x, b :: y, d :: c => by
    show (a + b) * d + dotL (addL x y) c = a * d + dotL x c + (b * d + dotL y c)
    rw [dotL_add x y c, Int.add_mul, Int.add_assoc, Int.add_assoc, Int.add_left_comm (b * d)]
theorem dotL_map (k : Int) : ∀ x c : List Int, dotL (x.map (k * ·)) c = k * dotL x c
  | [], c => by cases c <;> exact (Int.mul_zero k).symm
  | a :: x, [] => (Int.mul_zero k).symm
  | a :: x, d :: c => by
    show k * a * d + dotL (x.map (k * ·)) c = k * (a * d + dotL x c)
    rw [dotL_map k x c, Int.mul_add, Int.mul_assoc]
theorem dotL_unit : ∀ (i : Nat) (c : List Int), dotL (unitL i) c = nthL 0 c i
  | 0, [] => rfl
  | i + 1, [] => rfl
  | 0, d :: c => by
    show 1 * d + dotL [] c = d
    rw [Int.one_mul]
    cases c <;> exact Int.add_zero d
  | i + 1, d :: c => by
    show 0 * d + dotL (unitL i) c = nthL 0 c i
    rw [dotL_unit i c, Int.zero_mul, Int.zero_add]
theorem nthL_map : ∀ (ns : List Nat) (i : Nat), nthL 0 (ns.map Int.ofNat) i = Int.ofNat (nthL 0 ns i)
  | [], _ => rfl
  | x :: _, 0 => rfl
  | _ :: l, i + 1 => nthL_map l i
theorem add4 (a b c d : Int) : a + b + (c + d) = a + c + (b + d) := by rw [Int.add_assoc, Int.add_left_comm b, ← Int.add_assoc]
theorem ELin.den_add (zs : List Int) (ns : List Nat) (x y : ELin) : (x.add y).den zs ns = x.den zs ns + y.den zs ns := by
  show dotL (addL x.z y.z) zs + dotL (addL x.n y.n) (ns.map Int.ofNat) + (x.k + y.k) = _
  rw [dotL_add, dotL_add, add4 (dotL x.z zs), add4]
  rfl
theorem ELin.den_mul (zs : List Int) (ns : List Nat) (c : Int) (x : ELin) : (x.mul c).den zs ns = c * x.den zs ns := by
  show dotL (x.z.map (c * ·)) zs + dotL (x.n.map (c * ·)) (ns.map Int.ofNat) + c * x.k = _
  rw [dotL_map, dotL_map, ← Int.mul_add, ← Int.mul_add]
  rfl
noncomputable def EN.lin : EN → ELin
  | .v i => ⟨[], unitL i, 0⟩
  | .n k => ⟨[], [], Int.ofNat k⟩
  | .a x y => x.lin.add y.lin
  | .m k x => x.lin.mul (Int.ofNat k)
  | .r x k => x.lin.mul (Int.ofNat k)
noncomputable def EZ.lin : EZ → ELin
  | .v i => ⟨unitL i, [], 0⟩
  | .n k => ⟨[], [], k⟩
  | .a x y => x.lin.add y.lin
  | .s x y => x.lin.add (y.lin.mul (-1))
  | .m k x => x.lin.mul k
  | .r x k => x.lin.mul k
  | .g x => x.lin.mul (-1)
  | .c x => x.lin
theorem EN.lin_den (zs : List Int) (ns : List Nat) : ∀ x : EN, x.lin.den zs ns = Int.ofNat (x.den ns)
  | .v i => by
    show dotL [] zs + dotL (unitL i) (ns.map Int.ofNat) + 0 = _
    rw [dotL_nil, dotL_unit, nthL_map, Int.zero_add, Int.add_zero]; try rfl
  | .n k => by
    show dotL [] zs + dotL [] (ns.map Int.ofNat) + Int.ofNat k = _
    rw [dotL_nil, dotL_nil, Int.zero_add, Int.zero_add]; try rfl
  | .a x y => by
    show (x.lin.add y.lin).den zs ns = _
    rw [ELin.den_add, EN.lin_den zs ns x, EN.lin_den zs ns y]; try rfl
  | .m k x => by
    show (x.lin.mul (Int.ofNat k)).den zs ns = _
    rw [ELin.den_mul, EN.lin_den zs ns x]; try rfl
  | .r x k => by
    show (x.lin.mul (Int.ofNat k)).den zs ns = _
    rw [ELin.den_mul, EN.lin_den zs ns x, Int.mul_comm]; try rfl
theorem EZ.lin_den (zs : List Int) (ns : List Nat) : ∀ x : EZ, x.lin.den zs ns = x.den zs ns
  | .v i => by
    show dotL (unitL i) zs + dotL [] (ns.map Int.ofNat) + 0 = _
    rw [dotL_nil, dotL_unit, Int.add_zero, Int.add_zero]; try rfl
  | .n k => by
    show dotL [] zs + dotL [] (ns.map Int.ofNat) + k = _
    rw [dotL_nil, dotL_nil, Int.zero_add, Int.zero_add]; try rfl
  | .a x y => by
    show (x.lin.add y.lin).den zs ns = _
    rw [ELin.den_add, EZ.lin_den zs ns x, EZ.lin_den zs ns y]; try rfl
  | .s x y => by
    show (x.lin.add (y.lin.mul (-1))).den zs ns = x.den zs ns - y.den zs ns
    rw [ELin.den_add, ELin.den_mul, EZ.lin_den zs ns x, EZ.lin_den zs ns y, Int.neg_one_mul]; try rfl
  | .m k x => by
    show (x.lin.mul k).den zs ns = _
    rw [ELin.den_mul, EZ.lin_den zs ns x]; try rfl
  | .r x k => by
    show (x.lin.mul k).den zs ns = _
    rw [ELin.den_mul, EZ.lin_den zs ns x, Int.mul_comm]; try rfl
  | .g x => by
    show (x.lin.mul (-1)).den zs ns = - x.den zs ns
    rw [ELin.den_mul, EZ.lin_den zs ns x, Int.neg_one_mul]
  | .c x => EN.lin_den zs ns x
/-- the upper side less the lower -/
noncomputable def EF.lin : EF → ELin
  | .le x y => y.lin.add (x.lin.mul (-1))
  | .lt x y => (y.lin.add (x.lin.mul (-1))).add ⟨[], [], -1⟩
  | .eq x y => y.lin.add (x.lin.mul (-1))
  | .leN x y => y.lin.add (x.lin.mul (-1))
  | .ltN x y => (y.lin.add (x.lin.mul (-1))).add ⟨[], [], -1⟩
  | .eqN x y => y.lin.add (x.lin.mul (-1))
noncomputable def EF.any : EF → Bool
  | .eq _ _ => true
  | .eqN _ _ => true
  | _ => false
noncomputable def nonneg : Int → Bool
  | .ofNat _ => true
  | .negSucc _ => false
noncomputable def linSum : List EF → List Int → ELin
  | f :: fs, w :: ws => (f.lin.mul w).add (linSum fs ws)
  | _, _ => ⟨[], [], 0⟩
noncomputable def linOk : List EF → List Int → Bool
  | f :: fs, w :: ws => (f.any || nonneg w) && linOk fs ws
  | _, _ => true
noncomputable def linChk (fs : List EF) (ws : List Int) : Bool :=
  linOk fs ws && (linSum fs ws).z.all (fun c => nonneg c && nonneg (-c)) && (linSum fs ws).n.all (fun c => nonneg (-c)) && !nonneg (linSum fs ws).k
theorem nonneg_iff {w : Int} (h : nonneg w = true) : 0 ≤ w := by
  cases w with
  | ofNat k => exact Int.natCast_nonneg k
  | negSucc k => cases h
theorem sub_form (zs : List Int) (ns : List Nat) (x y : ELin) : (y.add (x.mul (-1))).den zs ns = y.den zs ns - x.den zs ns := by
  rw [ELin.den_add, ELin.den_mul, Int.neg_one_mul]; try rfl
theorem one_den (zs : List Int) (ns : List Nat) : (⟨[], [], -1⟩ : ELin).den zs ns = -1 := by
  show dotL [] zs + dotL [] (ns.map Int.ofNat) + -1 = -1
  rw [dotL_nil, dotL_nil]; rfl
theorem le_form {zs : List Int} {ns : List Nat} {x y : ELin} {a b : Int} (hx : x.den zs ns = a) (hy : y.den zs ns = b) (h : a ≤ b) : 0 ≤ (y.add (x.mul (-1))).den zs ns := by
  rw [sub_form, hx, hy]; exact Int.sub_nonneg_of_le h
theorem lt_form {zs : List Int} {ns : List Nat} {x y : ELin} {a b : Int} (hx : x.den zs ns = a) (hy : y.den zs ns = b) (h : a < b) : 0 ≤ ((y.add (x.mul (-1))).add ⟨[], [], -1⟩).den zs ns := by
  rw [ELin.den_add, sub_form, hx, hy, one_den]
  have k := Int.sub_nonneg_of_le (Int.add_one_le_of_lt h)
  rw [← Int.sub_sub] at k
  exact k
theorem eq_form {zs : List Int} {ns : List Nat} {x y : ELin} {a b : Int} (hx : x.den zs ns = a) (hy : y.den zs ns = b) (h : a = b) : (y.add (x.mul (-1))).den zs ns = 0 := by
  rw [sub_form, hx, hy, h]; exact Int.sub_self b
theorem EF.sound (zs : List Int) (ns : List Nat) : ∀ f : EF, f.den zs ns → 0 ≤ f.lin.den zs ns ∧ (f.any = true → f.lin.den zs ns = 0)
  | .le x y, h => ⟨le_form (x.lin_den zs ns) (y.lin_den zs ns) h, fun e => nomatch e⟩
  | .lt x y, h => ⟨lt_form (x.lin_den zs ns) (y.lin_den zs ns) h, fun e => nomatch e⟩
  | .eq x y, h => ⟨Int.le_of_eq (eq_form (x.lin_den zs ns) (y.lin_den zs ns) h).symm, fun _ => eq_form (x.lin_den zs ns) (y.lin_den zs ns) h⟩
  | .leN x y, h => ⟨le_form (x.lin_den zs ns) (y.lin_den zs ns) (Int.ofNat_le.mpr h), fun e => nomatch e⟩
  | .ltN x y, h => ⟨lt_form (x.lin_den zs ns) (y.lin_den zs ns) (Int.ofNat_lt.mpr h), fun e => nomatch e⟩
  | .eqN x y, h => ⟨Int.le_of_eq (eq_form (x.lin_den zs ns) (y.lin_den zs ns) (congrArg Int.ofNat h)).symm, fun _ => eq_form (x.lin_den zs ns) (y.lin_den zs ns) (congrArg Int.ofNat h)⟩
theorem nought_of {a : Int} (h1 : nonneg a = true) (h2 : nonneg (-a) = true) : a = 0 :=
  Int.le_antisymm (Int.neg_nonneg.mp (nonneg_iff h2)) (nonneg_iff h1)
theorem dot_nought : ∀ (x c : List Int), x.all (fun c => nonneg c && nonneg (-c)) = true → dotL x c = 0
  | [], c, _ => dotL_nil c
  | a :: x, [], _ => rfl
  | a :: x, d :: c, h => by
    rw [List.all_cons, Bool.and_eq_true, Bool.and_eq_true] at h
    have : a = 0 := nought_of h.1.1 h.1.2
    show a * d + dotL x c = 0
    rw [dot_nought x c h.2, this, Int.zero_mul]; try rfl
theorem dot_below : ∀ (x : List Int) (ns : List Nat), x.all (fun c => nonneg (-c)) = true → dotL x (ns.map Int.ofNat) ≤ 0
  | [], c, _ => by rw [dotL_nil]; exact Int.le_refl 0
  | a :: x, [], _ => Int.le_refl 0
  | a :: x, d :: c, h => by
    rw [List.all_cons, Bool.and_eq_true] at h
    have a1 := nonneg_iff h.1
    have i := dot_below x c h.2
    show a * Int.ofNat d + dotL x (c.map Int.ofNat) ≤ 0
    exact Int.add_le_add (Int.mul_nonpos_of_nonpos_of_nonneg (Int.neg_nonneg.mp a1) (Int.natCast_nonneg d)) i
theorem linD (zs : List Int) (ns : List Nat) : ∀ (fs : List EF) (ws : List Int) (acc : Int), 0 ≤ acc → linOk fs ws = true → acc + (linSum fs ws).den zs ns < 0 → EDen zs ns fs
  | [], ws, acc, ha, _, hs => by
    have : (linSum [] ws).den zs ns = 0 := by
      show dotL [] zs + dotL [] (ns.map Int.ofNat) + 0 = 0
      rw [dotL_nil, dotL_nil]; try rfl
    rw [this] at hs
    exact absurd ha (Int.not_le.mpr (by rw [Int.add_zero] at hs; exact hs))
  | f :: fs, [], acc, ha, _, hs => by
    have : (linSum (f :: fs) []).den zs ns = 0 := by
      show dotL [] zs + dotL [] (ns.map Int.ofNat) + 0 = 0
      rw [dotL_nil, dotL_nil]; try rfl
    rw [this] at hs
    exact absurd ha (Int.not_le.mpr (by rw [Int.add_zero] at hs; exact hs))
  | f :: fs, w :: ws, acc, ha, ho, hs => by
    intro hf
    obtain ⟨s1, s2⟩ := f.sound zs ns hf
    have ho : ((f.any || nonneg w) && linOk fs ws) = true := ho
    rw [Bool.and_eq_true, Bool.or_eq_true] at ho
    have hs : acc + ((f.lin.mul w).add (linSum fs ws)).den zs ns < 0 := hs
    rw [ELin.den_add, ELin.den_mul] at hs
    refine linD zs ns fs ws (acc + w * f.lin.den zs ns) ?_ ho.2 (by rw [Int.add_assoc]; exact hs)
    rcases ho.1 with e | e
    · rw [s2 e, Int.mul_zero, Int.add_zero]; exact ha
    · exact Int.add_nonneg ha (Int.mul_nonneg (nonneg_iff e) s1)
/-- facts whose sum is below nought do not hold together -/
theorem lin (fs : List EF) (ws : List Int) (h : linChk fs ws = true) {zs : List Int} {ns : List Nat} : EDen zs ns fs := by
  unfold linChk at h
  rw [Bool.and_eq_true, Bool.and_eq_true, Bool.and_eq_true] at h
  obtain ⟨⟨⟨h1, h2⟩, h3⟩, h4⟩ := h
  refine linD zs ns fs ws 0 (Int.le_refl 0) h1 ?_
  have a := dot_nought _ zs h2
  have b := dot_below _ ns h3
  have c : (linSum fs ws).k < 0 := by
    cases e : (linSum fs ws).k with
    | ofNat k => rw [e] at h4; cases h4
    | negSucc k => exact Int.negSucc_lt_zero k
  show 0 + (dotL (linSum fs ws).z zs + dotL (linSum fs ws).n (ns.map Int.ofNat) + (linSum fs ws).k) < 0
  rw [a, Int.zero_add, Int.zero_add]
  exact Int.add_neg_of_nonpos_of_neg b c
theorem sub_lo (a b : Nat) : a ≤ (a - b) + b := Nat.sub_le_iff_le_add.mp (Nat.le_refl _)
end Mine
end

section
open PySem PySem.W PyProof.Rows
set_option Elab.async false
set_option maxRecDepth 100000
set_option maxHeartbeats 8000000
namespace Mine
set_option hygiene false in
local macro_rules | `(tactic| o_head ($_ $_ $b $c)) => `(tactic| o_head (kmHook (value_of% Mine.tp.heap_39) $b $c [70, 77]))
open_top tp for PySem.Challenge.rw_wu0012_01
end Mine
end

section
open PySem PySem.W PyProof.Rows PySem.Calls
set_option Elab.async false
set_option maxRecDepth 100000
namespace Mine
open PySem.Flt
/-- the greatest of three floats, as max takes them in turn -/
noncomputable def fmax3 (a b c : UInt64) : UInt64 := if (Float64.cmp a b == some .lt) = true then (if (Float64.cmp b c == some .lt) = true then c else b) else (if (Float64.cmp a c == some .lt) = true then c else a)
noncomputable def fmin3 (a b c : UInt64) : UInt64 := if (Float64.cmp b a == some .lt) = true then (if (Float64.cmp c b == some .lt) = true then c else b) else (if (Float64.cmp c a == some .lt) = true then c else a)

theorem ltV_ff (a b : UInt64) (t u : Tok) : ltV (.float a t) (.float b u) = (Float64.cmp a b == some .lt) := rfl
theorem max3_ff {prog : Program} {w : World} {A : Around} {E : Value → Shared → Prop} {s : Shared} {Q : Value → Shared → Prop} {x y z : UInt64} {t u v : Tok} {h₀ : Heap} {L : Addr} {m : Str → Option Value} {news : List (Addr × Obj)}
    (hh : A.handled = none) (F : Fr h₀ L s.heap m) (N : News h₀ L s.heap news)
    (h : ∀ h' tk q, Fr h₀ L h' m → News h₀ L h' news → Q (.float (fmax3 x y z) q) { s with heap := h', toks := tk }) :
    wpAny (model prog w) A (call (.builtin "max") [.float x t, .float y u, .float z v]) Q E s := by
  have hT : (s.heap.push { cls := .type "tuple", data := .seq #[.float x t, .float y u, .float z v] }).IsTuple s.heap.objs.size #[.float x t, .float y u, .float z v] := ⟨_, Heap.get?_push_size _ rfl, rfl, 0, rfl⟩
  refine call_max_three (wpAny_pyIter_tuple hT ?_)
  have hsz : (s.heap.push { cls := .type "tuple", data := .seq #[.float x t, .float y u, .float z v] }).objs.size = s.heap.objs.size + 1 := Heap.size_push ..
  refine ⟨_, [_, s.heap.objs.size], [_], _, _, _, _, rfl, Walks.tuple (A := A.in1) hh _ s.heap.objs.size (by rw [hsz]; exact Nat.ne_of_lt (Nat.lt_succ_self _)) #[.float x t, .float y u, .float z v],
    ⟨⟨_, Heap.get?_push_size _ rfl, rfl, rfl⟩, hT.push _⟩, fun d hd => ?_, by simp, cmpOf_gt #[.float x t, .float y u, .float z v] (by simp [NumV.float]), fun r h' tk hP hk => ?_⟩
  · show d < ((s.heap.push _).push _).objs.size
    rw [Heap.size_push, hsz]
    rcases List.mem_cons.mp hd with rfl | hd
    · rw [hsz]; exact Nat.lt_succ_self _
    · rcases List.mem_cons.mp hd with rfl | hd
      · exact Nat.lt_succ_of_lt (Nat.lt_succ_self _)
      · cases hd
  · have hold : ∀ d o, s.heap.get? d = some o → h'.get? d = some o := fun d o e => by
      refine hk d o (fun hm => ?_) (Heap.get?_push_of_some _ (Heap.get?_push_of_some _ e))
      rcases List.mem_cons.mp hm with e1 | hm
      · have := Heap.lt_size e; rw [e1, hsz] at this; exact Nat.lt_irrefl _ (Nat.lt_of_succ_lt this)
      · cases hm
    have hv : ∃ q, r = Value.float (fmax3 x y z) q := by
      unfold fmax3
      cases h1 : (Float64.cmp x y == some .lt) <;> cases h2 : (Float64.cmp y z == some .lt) <;> cases h3 : (Float64.cmp x z == some .lt) <;>
        simp [argBest, ltV_ff, h1, h2, h3] at hP ⊢ <;> exact ⟨_, hP.symm⟩
    obtain ⟨q, rfl⟩ := hv
    exact h h' tk q (F.grownK hold) (N.grown hold)

theorem min3_ff {prog : Program} {w : World} {A : Around} {E : Value → Shared → Prop} {s : Shared} {Q : Value → Shared → Prop} {x y z : UInt64} {t u v : Tok} {h₀ : Heap} {L : Addr} {m : Str → Option Value} {news : List (Addr × Obj)}
    (hh : A.handled = none) (F : Fr h₀ L s.heap m) (N : News h₀ L s.heap news)
    (h : ∀ h' tk q, Fr h₀ L h' m → News h₀ L h' news → Q (.float (fmin3 x y z) q) { s with heap := h', toks := tk }) :
    wpAny (model prog w) A (call (.builtin "min") [.float x t, .float y u, .float z v]) Q E s := by
  have hT : (s.heap.push { cls := .type "tuple", data := .seq #[.float x t, .float y u, .float z v] }).IsTuple s.heap.objs.size #[.float x t, .float y u, .float z v] := ⟨_, Heap.get?_push_size _ rfl, rfl, 0, rfl⟩
  refine call_min_three (wpAny_pyIter_tuple hT ?_)
  have hsz : (s.heap.push { cls := .type "tuple", data := .seq #[.float x t, .float y u, .float z v] }).objs.size = s.heap.objs.size + 1 := Heap.size_push ..
  refine ⟨_, [_, s.heap.objs.size], [_], _, _, _, _, rfl, Walks.tuple (A := A.in1) hh _ s.heap.objs.size (by rw [hsz]; exact Nat.ne_of_lt (Nat.lt_succ_self _)) #[.float x t, .float y u, .float z v],
    ⟨⟨_, Heap.get?_push_size _ rfl, rfl, rfl⟩, hT.push _⟩, fun d hd => ?_, by simp, cmpOf_lt #[.float x t, .float y u, .float z v] (by simp [NumV.float]), fun r h' tk hP hk => ?_⟩
  · show d < ((s.heap.push _).push _).objs.size
    rw [Heap.size_push, hsz]
    rcases List.mem_cons.mp hd with rfl | hd
    · rw [hsz]; exact Nat.lt_succ_self _
    · rcases List.mem_cons.mp hd with rfl | hd
      · exact Nat.lt_succ_of_lt (Nat.lt_succ_self _)
      · cases hd
  · have hold : ∀ d o, s.heap.get? d = some o → h'.get? d = some o := fun d o e => by
      refine hk d o (fun hm => ?_) (Heap.get?_push_of_some _ (Heap.get?_push_of_some _ e))
      rcases List.mem_cons.mp hm with e1 | hm
      · have := Heap.lt_size e; rw [e1, hsz] at this; exact Nat.lt_irrefl _ (Nat.lt_of_succ_lt this)
      · cases hm
    have hv : ∃ q, r = Value.float (fmin3 x y z) q := by
      unfold fmin3
      cases h1 : (Float64.cmp y x == some .lt) <;> cases h2 : (Float64.cmp z y == some .lt) <;> cases h3 : (Float64.cmp z x == some .lt) <;>
        simp [argBest, ltV_ff, h1, h2, h3] at hP ⊢ <;> exact ⟨_, hP.symm⟩
    obtain ⟨q, rfl⟩ := hv
    exact h h' tk q (F.grownK hold) (N.grown hold)
end Mine
end

section
open PySem PySem.W PyProof.Rows PySem.Calls
set_option Elab.async false
set_option maxRecDepth 100000
namespace Mine
theorem runs_toks {M : Model} {Γ : Ctx} {p : Pos} {t : Sem Fin} {fs : List Frame} {s : Shared} {e : End} {s' : Shared} (h : Runs M Γ p t fs s e s') : s.toks ≤ s'.toks := by
  induction h <;> (try simp only [Shared.setGen] at *) <;> (first | exact Nat.le_refl _ | assumption | omega)
theorem wakes_toks {M : Model} {Γ : Ctx} {p : Pos} {g : Nat} {r : Resume} {s : Shared} {res : GenResult} {s' : Shared} (h : Wakes M Γ p g r s res s') : s.toks ≤ s'.toks := by
  unfold Wakes at h
  split at h
  · exact h.elim
  · split at h
    · obtain ⟨e₁, s₁, hr, _, _, rfl⟩ := h
      have := runs_toks hr
      simpa [Shared.setGen] using this
    · obtain ⟨_, rfl⟩ := h; exact Nat.le_refl _
    · obtain ⟨_, rfl⟩ := h; exact Nat.le_refl _
  · obtain ⟨e₁, s₁, hr, _, _, rfl⟩ := h
    have := runs_toks hr
    simpa [Shared.setGen] using this
  · obtain ⟨_, rfl⟩ := h; exact Nat.le_refl _
  · obtain ⟨_, rfl⟩ := h; exact Nat.le_refl _
theorem returns_toks {M : Model} {Γ : Ctx} {p : Pos} {s s' : Shared} {r : Result} (h : Returns M Γ p s r s') : s.toks ≤ s'.toks := runs_toks h
theorem wp_toks {α : Type} {M : Model} {Γ : Ctx} (n : Nat) (t : Sem α) : ∀ {Q : α → Pos → Shared → Prop} {E : Value → Pos → Shared → Prop} {p : Pos} {s : Shared},
    n ≤ s.toks → Sem.wp M Γ t (fun a p' s' => n ≤ s'.toks → Q a p' s') (fun e p' s' => n ≤ s'.toks → E e p' s') p s → Sem.wp M Γ t Q E p s := by
  induction t with
  | pure a => intro Q E p s hn h; rw [Sem.wp] at h ⊢; exact h hn
  | raise e => intro Q E p s hn h; rw [Sem.wp] at h ⊢; exact h hn
  | unsupported w => intro Q E p s hn h; rw [Sem.wp] at h; exact h.elim
  | finish w => intro Q E p s hn h; rw [Sem.wp] at h; exact h.elim
  | rule tag k ih => intro Q E p s hn h; rw [Sem.wp] at h ⊢; exact ih _ hn h
  | «at» pos k ih => intro Q E p s hn h; rw [Sem.wp] at h ⊢; exact ih _ hn h
  | load a part k ih => intro Q E p s hn h; rw [Sem.wp] at h ⊢; obtain ⟨o, ho, h⟩ := h; exact ⟨o, ho, ih _ hn h⟩
  | update a part f k ih => intro Q E p s hn h; rw [Sem.wp] at h ⊢; exact ⟨h.1, ih _ hn h.2⟩
  | alloc o k ih => intro Q E p s hn h; rw [Sem.wp] at h ⊢; exact ih _ hn h
  | loadIfAlive a k ih => intro Q E p s hn h; rw [Sem.wp] at h ⊢; exact ih _ hn h
  | point l k ih => intro Q E p s hn h; rw [Sem.wp] at h ⊢; exact ih _ hn h
  | register a k ih => intro Q E p s hn h; rw [Sem.wp] at h; exact h.elim
  | fresh k ih => intro Q E p s hn h; rw [Sem.wp] at h ⊢; exact ih _ (Nat.le_succ_of_le hn) h
  | ask k ih => intro Q E p s hn h; rw [Sem.wp] at h ⊢; exact ih _ hn h
  | choose src m k ih => intro Q E p s hn h; rw [Sem.wp] at h ⊢; exact ⟨h.1, ih _ hn h.2⟩
  | os q l k ih => intro Q E p s hn h; rw [Sem.wp] at h ⊢; exact ih _ hn h
  | call c hd g l k ih =>
    intro Q E p s hn h; rw [Sem.wp] at h ⊢
    obtain ⟨r, s', hr, h⟩ := h
    exact ⟨r, s', hr, ih _ (Nat.le_trans hn (returns_toks hr)) h⟩
  | handled own k ih => intro Q E p s hn h; rw [Sem.wp] at h ⊢; exact ih _ hn h
  | newGen c k ih => intro Q E p s hn h; rw [Sem.wp] at h ⊢; exact ih _ hn h
  | genState g k ih => intro Q E p s hn h; rw [Sem.wp] at h ⊢; obtain ⟨o, ho, h⟩ := h; exact ⟨o, ho, ih _ hn h⟩
  | resume g r l k ih =>
    intro Q E p s hn h; rw [Sem.wp] at h ⊢
    obtain ⟨r, s', hr, h⟩ := h
    exact ⟨r, s', hr, ih _ (Nat.le_trans hn (wakes_toks hr)) h⟩
  | yield v g l k ih => intro Q E p s hn h; rw [Sem.wp] at h; exact h.elim
  | stack k ih => intro Q E p s hn h; rw [Sem.wp] at h ⊢; exact ih _ hn h
  | fork c k ih => intro Q E p s hn h; rw [Sem.wp] at h; exact h.elim
  | thread k ih => intro Q E p s hn h; rw [Sem.wp] at h ⊢; exact ih _ hn h
  | await a f d l k ih => intro Q E p s hn h; rw [Sem.wp] at h; exact h.elim
/-- tokens only grow: what is shown behind a tree may use it -/
theorem toks_up {α : Type} {M : Model} {A : Around} {t : Sem α} {Q : α → Shared → Prop} {E : Value → Shared → Prop} {s : Shared}
    (h : wpAny M A t (fun a s' => s.toks ≤ s'.toks → Q a s') (fun e s' => s.toks ≤ s'.toks → E e s') s) : wpAny M A t Q E s :=
  fun Γ p hΓ => wp_toks s.toks t (Nat.le_refl _) (h Γ p hΓ)
end Mine
end

section
open PySem PySem.W PyProof.Rows PySem.Calls
set_option Elab.async false
set_option maxRecDepth 100000
set_option maxHeartbeats 8000000
namespace Mine
theorem fillK : PySem.Challenge.rw_wu0012_01 = PySem.Challenge.rw_wu0012_01 ∧ tp.heap_39 = tp.heap_39 := by
  k_fill
  exact ⟨rfl, rfl⟩

/-- the floats 2.0, 4.0, 0.5, 6.0, 1.0 -/
noncomputable abbrev f2 : UInt64 := 4611686018427387904
noncomputable abbrev f4 : UInt64 := 4616189618054758400
noncomputable abbrev fh : UInt64 := 4602678819172646912
noncomputable abbrev f6 : UInt64 := 4618441417868443648
noncomputable abbrev f1 : UInt64 := 4607182418800017408
noncomputable def rangeF (r g b : UInt64) : UInt64 := Float64.sub (fmax3 r g b) (fmin3 r g b)
noncomputable def lightF (r g b : UInt64) : UInt64 := Float64.div (Float64.add (fmax3 r g b) (fmin3 r g b)) f2
noncomputable def flatF (r g b : UInt64) : Bool := Float64.cmp (fmin3 r g b) (fmax3 r g b) == some .eq
noncomputable def dimF (r g b : UInt64) : Bool := Float64.cmp (lightF r g b) fh == some .lt || Float64.cmp (lightF r g b) fh == some .eq
noncomputable def shareF (r g b x : UInt64) : UInt64 := Float64.div (Float64.sub (fmax3 r g b) x) (rangeF r g b)
noncomputable def turnF (r g b : UInt64) : UInt64 :=
  if (Float64.cmp r (fmax3 r g b) == some .eq) = true then Float64.sub (shareF r g b b) (shareF r g b g)
  else if (Float64.cmp g (fmax3 r g b) == some .eq) = true then Float64.sub (Float64.add f2 (shareF r g b r)) (shareF r g b b)
  else Float64.sub (Float64.add f4 (shareF r g b g)) (shareF r g b r)
noncomputable def hueF (r g b : UInt64) : UInt64 := if flatF r g b = true then 0 else (Float64.divmod (Float64.div (turnF r g b) f6) f1).2
noncomputable def satF (r g b : UInt64) : UInt64 :=
  if flatF r g b = true then 0 else if dimF r g b = true then Float64.div (rangeF r g b) (Float64.add (fmax3 r g b) (fmin3 r g b))
  else Float64.div (rangeF r g b) (Float64.sub (Float64.sub f2 (fmax3 r g b)) (fmin3 r g b))
/-- no division by nought -/
structure HlsOk (r g b : UInt64) : Prop where
  range : flatF r g b = false → ¬ Float64.isZero (rangeF r g b) = true
  sum : flatF r g b = false → dimF r g b = true → ¬ Float64.isZero (Float64.add (fmax3 r g b) (fmin3 r g b)) = true
  rest : flatF r g b = false → dimF r g b = false → ¬ Float64.isZero (Float64.sub (Float64.sub f2 (fmax3 r g b)) (fmin3 r g b)) = true

noncomputable abbrev hlsObj (r g b : UInt64) (t1 t2 t3 : Tok) : Obj := { cls := .type "tuple", data := .seq #[.float (hueF r g b) t1, .float (lightF r g b) t2, .float (satF r g b) t3] }
section
variable {r g b : UInt64}
theorem hue_flat (c : flatF r g b = true) : hueF r g b = 0 := by unfold hueF; rw [if_pos c]
theorem sat_flat (c : flatF r g b = true) : satF r g b = 0 := by unfold satF; rw [if_pos c]
theorem sat_dim (c : flatF r g b = false) (d : dimF r g b = true) : satF r g b = Float64.div (rangeF r g b) (Float64.add (fmax3 r g b) (fmin3 r g b)) := by unfold satF; rw [if_neg (by rw [c]; decide), if_pos d]
theorem sat_lit (c : flatF r g b = false) (d : dimF r g b = false) : satF r g b = Float64.div (rangeF r g b) (Float64.sub (Float64.sub f2 (fmax3 r g b)) (fmin3 r g b)) := by unfold satF; rw [if_neg (by rw [c]; decide), if_neg (by rw [d]; decide)]
theorem hue_r (c : flatF r g b = false) (d : (Float64.cmp r (fmax3 r g b) == some .eq) = true) : hueF r g b = (Float64.divmod (Float64.div (Float64.sub (shareF r g b b) (shareF r g b g)) f6) f1).2 := by
  unfold hueF turnF; rw [if_neg (by rw [c]; decide), if_pos d]
theorem hue_g (c : flatF r g b = false) (d : (Float64.cmp r (fmax3 r g b) == some .eq) = false) (e : (Float64.cmp g (fmax3 r g b) == some .eq) = true) : hueF r g b = (Float64.divmod (Float64.div (Float64.sub (Float64.add f2 (shareF r g b r)) (shareF r g b b)) f6) f1).2 := by
  unfold hueF turnF; rw [if_neg (by rw [c]; decide), if_neg (by rw [d]; decide), if_pos e]
theorem hue_b (c : flatF r g b = false) (d : (Float64.cmp r (fmax3 r g b) == some .eq) = false) (e : (Float64.cmp g (fmax3 r g b) == some .eq) = false) : hueF r g b = (Float64.divmod (Float64.div (Float64.sub (Float64.add f4 (shareF r g b g)) (shareF r g b r)) f6) f1).2 := by
  unfold hueF turnF; rw [if_neg (by rw [c]; decide), if_neg (by rw [d]; decide), if_neg (by rw [e]; decide)]
end
section
variable {h₀ : Heap} {L : Addr} {m : Str → Option Value} {news : List (Addr × Obj)} {s : Shared} {Q : Value → Shared → Prop} {r g b : UInt64}
abbrev HlsRet (h₀ : Heap) (L : Addr) (m : Str → Option Value) (news : List (Addr × Obj)) (s : Shared) (Q : Value → Shared → Prop) (r g b : UInt64) : Prop :=
  ∀ (x : Addr) (t1 t2 t3 : Tok) h' tk', 0 < t1 → 0 < t2 → s.toks ≤ tk' → Fr h₀ L h' m → News h₀ L h' ((x, hlsObj r g b t1 t2 t3) :: news) → (∀ p ∈ news, p.1 < x) → Q (.ref x) { s with heap := h', toks := tk' }
theorem hls_end {x : Addr} {v1 v2 v3 : UInt64} {t1 t2 t3 : Tok} {h' : Heap} {tk' : Nat} (ret : HlsRet h₀ L m news s Q r g b) (F : Fr h₀ L h' m) (N : News h₀ L h' ((x, { cls := .type "tuple", data := .seq #[.float v1 t1, .float v2 t2, .float v3 t3] }) :: news)) (l : ∀ p ∈ news, p.1 < x)
    (p1 : 0 < t1) (p2 : 0 < t2) (p3 : s.toks ≤ tk') (e1 : hueF r g b = v1) (e2 : lightF r g b = v2) (e3 : satF r g b = v3) : Q (.ref x) { s with heap := h', toks := tk' } := by
  subst e1 e2 e3
  exact ret x t1 t2 t3 h' tk' p1 p2 p3 F N l
end
theorem kw1 : True := by
  k_with_none
  k_with "call builtin:max" =>
    (((with_reducible show wpAny _ _ (call _ [Value.float _ _, Value.float _ _, Value.float _ _]) _ _ _); (rename News _ _ _ _ => N'); (rename Fr _ _ _ _ => F'); refine max3_ff rfl F' N' ?_; clear N'; intro _ _ _ _ _))
  trivial
theorem kw2 : True := by
  k_with "call builtin:min" =>
    (((with_reducible show wpAny _ _ (call _ [Value.float _ _, Value.float _ _, Value.float _ _]) _ _ _); (rename News _ _ _ _ => N'); (rename Fr _ _ _ _ => F'); refine min3_ff rfl F' N' ?_; clear N'; intro _ _ _ _ _))
  trivial
theorem hls_walk {w : World} {pp : Program} {loose : List Str} {mean : ExcName → Option Value} {mg mb : Str → Option Value} {r g b : UInt64} {tr tg tb : Tok}
    {dp un : Nat} {gd : Option (List Code)} {cn : Str} {cs : Scope} {a : Addr} {ccd : Value} {cl : List (Str × Addr)} {outer : List Env} {A₀ : Around} {base h₀ : Heap} {L : Addr} {m : Str → Option Value} {news : List (Addr × Obj)} {s : Shared} {Q E : Value → Shared → Prop}
    (ok : HlsOk r g b) (htk : 3 ≤ s.toks)
    (B : Below A₀ base outer h₀) (F : Fr h₀ L s.heap m) (X₀ : (tp.heap_39 w.params).In h₀) (N : News h₀ L s.heap news) (T : Top pp loose mean mg mb h₀) (hk : cs.kind = .function)
    (hdp : dp + 1 < recursionLimit) (hun : un + 8 < cLine)
    (ret : HlsRet h₀ L m news s Q r g b) :
    wpAny (model PySem.Challenge.rw_wu0012_01.row.prog w) (ktrTop dp un gd cn cs L a ccd cl outer) (call (.ref 28) [.float r tr, .float g tg, .float b tb]) Q E s := by
  obtain ⟨ok1, ok2, ok3⟩ := ok
  unfold flatF rangeF at ok1
  unfold flatF dimF lightF at ok2 ok3
  refine toks_up ?_
  refine wpAny_call ?_
  k_dflt cell_enter
  k_steps
  all_goals (rename (Shared.toks _ ≤ _) => htk')
  all_goals first
    | (exfalso; exact (ok1 (by assumption)) (by assumption))
    | (exfalso; exact (ok2 (by assumption) (by assumption)) (by assumption))
    | (exfalso; exact (ok3 (by assumption) (by assumption)) (by assumption))
    | (refine hls_end ret (by assumption) (by assumption) (by assumption) (by first | exact Nat.succ_pos _ | ((try dsimp only at htk'); (show @LT.lt Nat _ 0 _); (try dsimp only); omega)) (by first | exact Nat.succ_pos _ | ((try dsimp only at htk'); (show @LT.lt Nat _ 0 _); (try dsimp only); omega)) htk' ?_ rfl ?_
       · first | exact hue_flat (by assumption) | exact hue_r (by assumption) (by assumption) | exact hue_g (by assumption) (by assumption) (by assumption) | exact hue_b (by assumption) (by assumption) (by assumption)
       · first | exact sat_flat (by assumption) | exact sat_dim (by assumption) (by assumption) | exact sat_lit (by assumption) (by assumption))
end Mine
end

section
open PySem PySem.W PyProof.Rows PySem.Calls
set_option Elab.async false
set_option maxRecDepth 100000
set_option maxHeartbeats 8000000
set_option linter.unusedVariables false
namespace Mine
theorem fillK2 : PySem.Challenge.rw_wu0012_01 = PySem.Challenge.rw_wu0012_01 ∧ tp.heap_39 = tp.heap_39 := by
  k_fill
  exact ⟨rfl, rfl⟩
/-- the float next to the quotient of two ints -/
noncomputable def fl (a b : Int) : UInt64 := Float64.ofFrac false a.natAbs b.natAbs
theorem fl_of {a b : Int} (ha : 0 < a) (hb : 0 < b) : Float64.ofFrac (decide (a < 0) != decide (b < 0)) a.natAbs b.natAbs = fl a b := by
  unfold fl
  rw [decide_eq_false (by omega), decide_eq_false (by omega)]
  rfl
theorem float_end {h₀ h' : Heap} {L : Addr} {m : Str → Option Value} {news : List (Addr × Obj)} {s : Shared} {Q : Value → Shared → Prop} {u v : UInt64} {t : Tok} {tk' : Nat}
    (ret : ∀ t h' tk', s.toks ≤ tk' → Fr h₀ L h' m → News h₀ L h' news → Q (.float v t) { s with heap := h', toks := tk' }) (k : s.toks ≤ tk') (F : Fr h₀ L h' m) (N : News h₀ L h' news) (e : u = v) : Q (.float u t) { s with heap := h', toks := tk' } := by
  subst e
  exact ret t h' tk' k F N
theorem kw3 : True := by
  k_with_none
  k_with "k_room" =>
    (ktr_room)
  trivial
theorem div_walk {w : World} {pp : Program} {loose : List Str} {mean : ExcName → Option Value} {mg mb : Str → Option Value} {x y : Int} {tx ty : Tok}
    {dp un : Nat} {gd : Option (List Code)} {cn : Str} {cs : Scope} {a : Addr} {ccd : Value} {cl : List (Str × Addr)} {outer : List Env} {A₀ : Around} {base h₀ : Heap} {L : Addr} {m : Str → Option Value} {news : List (Addr × Obj)} {s : Shared} {Q E : Value → Shared → Prop}
    (hx : 0 < x) (hy : 0 < y) (hf : Float64.isInf (fl x y) = false)
    (B : Below A₀ base outer h₀) (F : Fr h₀ L s.heap m) (X₀ : (tp.heap_39 w.params).In h₀) (N : News h₀ L s.heap news) (T : Top pp loose mean mg mb h₀) (hk : cs.kind = .function)
    (hdp : dp + 1 < recursionLimit) (hun : un + 8 < cLine)
    (ret : ∀ t h' tk', s.toks ≤ tk' → Fr h₀ L h' m → News h₀ L h' news → Q (.float (fl x y) t) { s with heap := h', toks := tk' }) :
    wpAny (model PySem.Challenge.rw_wu0012_01.row.prog w) (ktrTop dp un gd cn cs L a ccd cl outer) (call (.ref 119) [.int x tx, .int y ty]) Q E s := by
  refine toks_up ?_
  refine wpAny_call ?_
  k_dflt cell_enter
  k_steps
  all_goals (rename (Shared.toks _ ≤ _) => htk')
  all_goals first
    | (exfalso; rename (_ = (0:Int)) => hq; omega)
    | (exfalso; rename Float64.isInf _ = true => hq; rw [fl_of hx hy, hf] at hq; cases hq)
    | exact float_end ret htk' (by assumption) (by assumption) (fl_of hx hy)
end Mine
end

section
open PySem PySem.W PyProof.Rows PySem.Calls
set_option Elab.async false
set_option maxRecDepth 100000
namespace Mine
open PySem.SeqAt
theorem ns_none_of {K : Frag} {h : Heap} {a : Addr} {mc : Str → Option Value} {n : Str} (X : K.In h) (G : h.Ns a mc) (e : nsIn K a n = some none) : mc n = none := by
  obtain ⟨o, es, ep, ho, hd, _, hf⟩ := G
  unfold nsIn at e
  split at e
  · rename_i c d es' n' sl q
    have := X _ _ q
    rw [ho] at this
    cases this
    cases hd
    split at e
    · cases e
    · rename_i he
      rw [← hf]
      unfold nsFind findBy
      rw [← Array.find?_toList, he]
      rfl
  · cases e
theorem booked_of {K : Frag} {h : Heap} (X : K.In h) (l : h.NoLimit) (e : nsIn K cStatics sharingNotToldKey = some none) : NoneBooked h := by
  obtain ⟨mc, hns, _⟩ := l
  exact ⟨mc, hns, ns_none_of X hns e⟩
theorem eq_float_same {A : Around} {s : Shared} {x : UInt64} {t u : Tok} (hx : Float64.cmp x x == some .eq) (hn : Float64.isNaN x = false) (ht : 0 < t) (hu : 0 < u) (hb : NoneBooked s.heap) : EqAt A s (.float x t) (.float x u) true := fun prog w E Q h => by
  unfold eqBool
  refine wpAny_holding ?_
  refine wpAny_ite_split (fun _ => ?_) (fun hab => ?_)
  · exact wpAny_bind (wpAny_rule (wpAny_pure h))
  · dsimp only
    refine wpAny_bind ?_
    show wpAny _ A (isSame.created (x == x && !Float64.isNaN x) t u) _ E s
    have ht' : (t == 0 || u == 0) = false := by
      have h1 : @LT.lt Nat _ 0 t := ht
      have h2 : @LT.lt Nat _ 0 u := hu
      rw [Bool.or_eq_false_iff]
      exact ⟨beq_false_of_ne (Nat.ne_of_gt h1), beq_false_of_ne (Nat.ne_of_gt h2)⟩
    have key : ∀ b : Bool, wpAny (model prog w) A (if b = true then pure true else do truthOfDropped (← richCompare .Eq (.float x t) (.float x u))) Q E s := by
      intro b
      cases b
      · refine wpAny_bind (AutoFloatOps.eq_0 ?_)
        rw [hx]
        exact wpAny_truthy_bool h
      · exact wpAny_pure h
    unfold isSame.created
    refine wpAny_ite ?_
    rw [ht', if_neg Bool.false_ne_true]
    refine wpAny_ite ?_
    split
    · exact wpAny_pure (key _)
    refine wpAny_ite ?_
    split
    · exact wpAny_pure (key _)
    refine wpAny_bind (wpAny_sharingNotTold_none hb ?_)
    first | rw [if_neg Bool.false_ne_true] | simp only [Bool.false_eq_true, if_false]
    refine wpAny_bind (wpAny_sharingNotTold_none hb ?_)
    first | rw [if_neg Bool.false_ne_true] | simp only [Bool.false_eq_true, if_false]
    exact wpAny_bind (wpAny_rule (wpAny_bind (wpAny_askSetting (wpAny_pure (key _)))))
/-- a tuple of two floats and an int beside one of the same -/
theorem ne_tuple3 {prog : Program} {w : World} {A : Around} {E : Value → Shared → Prop} {s : Shared} {Q : Value → Shared → Prop} {h₀ : Heap} {L : Addr} {news : List (Addr × Obj)}
    {a b : Addr} {x1 x2 y1 y2 : UInt64} {i j : Int} {t1 t2 t3 u1 u2 u3 : Tok} {n1 n2 : Nat}
    (N : News h₀ L s.heap news) (ha : (a, { cls := .type "tuple", data := .seq #[.float x1 t1, .float y1 t2, .int i t3] n1 }) ∈ news) (hb : (b, { cls := .type "tuple", data := .seq #[.float x2 u1, .float y2 u2, .int j u3] n2 }) ∈ news)
    (e1 : x1 = x2) (e2 : y1 = y2) (e3 : i = j) (c1 : Float64.cmp x2 x2 == some .eq) (c2 : Float64.cmp y2 y2 == some .eq) (n1 : Float64.isNaN x2 = false) (n2 : Float64.isNaN y2 = false)
    (p1 : 0 < t1) (p2 : 0 < t2) (q1 : 0 < u1) (q2 : 0 < u2) (nb : NoneBooked s.heap) (hu : A.units < cLine) (h : Q (.bool false) s) :
    wpAny (model prog w) A (compareOp .NotEq (.ref a) (.ref b)) Q E s := by
  subst e1 e2 e3
  have hl : s.heap.IsTuple a #[.float x1 t1, .float y1 t2, .int i t3] := ⟨_, (N _ ha).1, rfl, _, rfl⟩
  have hr : s.heap.IsTuple b #[.float x1 u1, .float y1 u2, .int i u3] := ⟨_, (N _ hb).1, rfl, _, rfl⟩
  refine RcNeAt.tuples (e := fun _ => true) hl hr hu (fun k h1 h2 => ?_) prog w E Q ?_
  · match k, h1, h2 with
    | 0, _, _ => exact eq_float_same c1 n1 p1 q1 nb
    | 1, _, _ => exact eq_float_same c2 n2 p2 q2 nb
    | 2, _, _ => have := EqAt.int_int (A := A.in1) (s := s) i t3 i u3; simpa using this
    | k + 3, h1, _ => exact absurd h1 (by simp)
  · exact h
end Mine
end

section
open PySem PySem.W PyProof.Rows PySem.Calls
set_option Elab.async false
set_option maxRecDepth 100000
set_option maxHeartbeats 16000000
namespace Mine
theorem room1 {a k m c : Nat} (h : a + m < c) (hk : k ≤ m) : a + k < c := Nat.lt_of_le_of_lt (Nat.add_le_add_left hk a) h
theorem room2 {a j k m c : Nat} (h : a + m < c) (hk : j + k ≤ m) : a + j + k < c := Nat.lt_of_le_of_lt (Nat.le_of_eq (Nat.add_assoc a j k)) (room1 h hk)
local macro_rules | `(tactic| omega) => `(tactic| first | decide | with_reducible exact room2 (by assumption) (by decide) | with_reducible exact room1 (by assumption) (by decide) | lia | omega +splitDisjunctions)
theorem fillK3 : PySem.Challenge.rw_wu0012_01 = PySem.Challenge.rw_wu0012_01 ∧ tp.heap_39 = tp.heap_39 := by
  k_fill
  exact ⟨rfl, rfl⟩
noncomputable abbrev hue3 (x y z M : Int) : UInt64 := hueF (fl x M) (fl y M) (fl z M)
noncomputable abbrev light3 (x y z M : Int) : UInt64 := lightF (fl x M) (fl y M) (fl z M)
noncomputable abbrev sat3 (x y z M : Int) : UInt64 := satF (fl x M) (fl y M) (fl z M)
/-- the hue told in thirds -/
noncomputable abbrev thirds (h : UInt64) : Int := Flt.toInt Float64.truncOf (Float64.add (Float64.mul (Float64.mul h 4613937818241073152) (Float64.ofInt (2 ^ Int.toNat 30))) 4602678819172646912) + (2 ^ Int.toNat 30 : Int).fdiv 2
theorem divmod_told {prog : Program} {w : World} {A : Around} {E : Value → Shared → Prop} {s : Shared} {Q : Value → Shared → Prop} {h₀ : Heap} {L : Addr} {m : Str → Option Value} {news : List (Addr × Obj)} {a near off : Int} {t u : Tok}
    (ha : a.fdiv (2 ^ Int.toNat 30) = near) (ho : a.fmod (2 ^ Int.toNat 30) = off) (F : Fr h₀ L s.heap m) (N : News h₀ L s.heap news)
    (h : ∀ h', Fr h₀ L h' m → News h₀ L h' ((s.heap.objs.size, { cls := .type "tuple", data := .seq #[.int near s.toks, .int off (s.toks + 1)] }) :: news) →
      Q (.ref s.heap.objs.size) { s with toks := s.toks + 1 + 1, heap := h' }) :
    wpAny (model prog w) A (call (.builtin "divmod") [.int a t, .int (2 ^ Int.toNat 30) u]) Q E s := by
  subst ha ho
  exact divmod_N F N (by decide) h
/-- what is known of three numbers that are told -/
structure ToldIn (x y z most least near off : Int) (out : Str) : Prop where
  x0 : 0 < x
  y0 : 0 < y
  z0 : 0 < z
  m0 : 0 < most
  mx : ∀ M, (M = x ∨ M = y ∨ M = z) → (x ≤ M ∧ y ≤ M ∧ z ≤ M) → M = most
  mn : ∀ M, (M = x ∨ M = y ∨ M = z) → (M ≤ x ∧ M ≤ y ∧ M ≤ z) → M = least
  fin : ∀ v M, (v = x ∨ v = y ∨ v = z) → (M = most ∨ M = 2 * most) → Float64.isInf (fl v M) = false
  ok1 : HlsOk (fl x most) (fl y most) (fl z most)
  ok2 : HlsOk (fl x (2 * most)) (fl y (2 * most)) (fl z (2 * most))
  same1 : hue3 x y z (2 * most) = hue3 x y z most
  same2 : Float64.mul 4611686018427387904 (light3 x y z (2 * most)) = light3 x y z most
  same3 : Flt.toInt Float64.truncOf (Float64.add (Float64.mul (sat3 x y z (2 * most)) (Float64.ofInt (most + least))) 4602678819172646912) = most - least
  num1 : (Float64.cmp (hue3 x y z most) (hue3 x y z most) == some .eq) = true ∧ Float64.isNaN (hue3 x y z most) = false
  sat0 : least = most → (Float64.cmp (sat3 x y z most) 0 != some .eq) = false
  sat1 : least ≠ most → (Float64.cmp (sat3 x y z most) 4607182418800017408 != some .eq) = false
  fit : ¬ (2 ^ 1024 - 2 ^ 970 ≤ (most + least).natAbs)
  nan3 : Float64.isNaN (Float64.add (Float64.mul (sat3 x y z (2 * most)) (Float64.ofInt (most + least))) 4602678819172646912) = false
  inf3 : Float64.isInf (Float64.add (Float64.mul (sat3 x y z (2 * most)) (Float64.ofInt (most + least))) 4602678819172646912) = false
  nan4 : Float64.isNaN (Float64.add (Float64.mul (Float64.mul (hue3 x y z most) 4613937818241073152) (Float64.ofInt (2 ^ Int.toNat 30))) 4602678819172646912) = false
  inf4 : Float64.isInf (Float64.add (Float64.mul (Float64.mul (hue3 x y z most) 4613937818241073152) (Float64.ofInt (2 ^ Int.toNat 30))) 4602678819172646912) = false
  pale : (Float64.cmp (light3 x y z most) 4604930618986332160 == some .gt) = true → Str.ofString "" = out
  more : (Float64.cmp (light3 x y z most) 4604930618986332160 == some .gt) = false → (2 ^ Int.toNat 30 : Int).fdiv 2 < off → Txt.item (Str.ofString "rgb") ((near + 1).fmod 3) ++ Txt.item (Str.ofString "rgb") (near.fmod 3) = out
  less : (Float64.cmp (light3 x y z most) 4604930618986332160 == some .gt) = false → ¬ (2 ^ Int.toNat 30 : Int).fdiv 2 < off → Txt.item (Str.ofString "rgb") ((near + 2).fmod 3) ++ Txt.item (Str.ofString "rgb") (near.fmod 3) = out
  near0 : (thirds (hue3 x y z most)).fdiv (2 ^ Int.toNat 30) = near
  off0 : (thirds (hue3 x y z most)).fmod (2 ^ Int.toNat 30) = off
  num2 : (Float64.cmp (light3 x y z most) (light3 x y z most) == some .eq) = true ∧ Float64.isNaN (light3 x y z most) = false
theorem text_end {h₀ h' : Heap} {L : Addr} {m : Str → Option Value} {news : List (Addr × Obj)} {s : Shared} {Q : Value → Shared → Prop} {u v : Str} {t : Tok} {tk' : Nat}
    (ret : ∀ t h' tk', Fr h₀ L h' m → News h₀ L h' news → Q (.str v t) { s with heap := h', toks := tk' }) (F : Fr h₀ L h' m) (N : News h₀ L h' news) (e : u = v) : Q (.str u t) { s with heap := h', toks := tk' } := by
  subst e
  exact ret t h' tk' F N
theorem ToldIn.num {x y z most least near off : Int} {out : Str} (h : ToldIn x y z most least near off out) : 0 < x ∧ 0 < y ∧ 0 < z ∧ 0 < most := ⟨h.x0, h.y0, h.z0, h.m0⟩
theorem kw4 : True := by
  k_with_none
  k_with "k_room" =>
    (ktr_room)
  trivial
theorem kw5 : True := by
  k_with "call builtin:max" =>
    ((k_here; (with_reducible show wpAny _ _ (call (Value.builtin _) [Value.ref _]) _ _ _); (with_unfolding_all refine' kso_max ?k1 ?k2 ?k3 ?k4 ?k5 ?k6 ?_; (case k1 => k_asm); (case k2 => k_asm); (case k3 => kso_list); (case k4 => l_ints); (case k5 => kso_len); (case k6 => with_unfolding_all rfl); k_whole); intro h' M' t' k' F' N' a' b'; (try kso_open a'); (try kso_open b'); (rename ToldIn _ _ _ _ _ _ _ _ => hT'); (have e' := hT'.mx _ a' b'); subst e'; clear a' b'; (try k_sweep)))
  trivial
theorem kw6 : True := by
  k_with "call builtin:min" =>
    ((k_here; (with_reducible show wpAny _ _ (call (Value.builtin _) [Value.ref _]) _ _ _); (with_unfolding_all refine' kso_min ?k1 ?k2 ?k3 ?k4 ?k5 ?k6 ?_; (case k1 => k_asm); (case k2 => k_asm); (case k3 => kso_list); (case k4 => l_ints); (case k5 => kso_len); (case k6 => with_unfolding_all rfl); k_whole); intro h' M' t' k' F' N' a' b'; (try kso_open a'); (try kso_open b'); (rename ToldIn _ _ _ _ _ _ _ _ => hT'); (have e' := hT'.mn _ a' b'); subst e'; clear a' b'; (try k_sweep)))
  trivial

theorem ToldIn.fx {x y z most least near off : Int} {out : Str} (h : ToldIn x y z most least near off out) : Float64.isInf (fl x most) = false ∧ Float64.isInf (fl x (2 * most)) = false := ⟨h.fin _ _ (.inl rfl) (.inl rfl), h.fin _ _ (.inl rfl) (.inr rfl)⟩
theorem ToldIn.fy {x y z most least near off : Int} {out : Str} (h : ToldIn x y z most least near off out) : Float64.isInf (fl y most) = false ∧ Float64.isInf (fl y (2 * most)) = false := ⟨h.fin _ _ (.inr (.inl rfl)) (.inl rfl), h.fin _ _ (.inr (.inl rfl)) (.inr rfl)⟩
theorem ToldIn.fz {x y z most least near off : Int} {out : Str} (h : ToldIn x y z most least near off out) : Float64.isInf (fl z most) = false ∧ Float64.isInf (fl z (2 * most)) = false := ⟨h.fin _ _ (.inr (.inr rfl)) (.inl rfl), h.fin _ _ (.inr (.inr rfl)) (.inr rfl)⟩
theorem ToldIn.m2 {x y z most least near off : Int} {out : Str} (h : ToldIn x y z most least near off out) : 0 < 2 * most := by have := h.m0; omega
theorem div_walkV {w : World} {pp : Program} {loose : List Str} {mean : ExcName → Option Value} {mg mb : Str → Option Value} {x v y : Int} {tx ty : Tok}
    {dp un : Nat} {gd : Option (List Code)} {cn : Str} {cs : Scope} {a : Addr} {ccd : Value} {cl : List (Str × Addr)} {outer : List Env} {A₀ : Around} {base h₀ : Heap} {L : Addr} {m : Str → Option Value} {news : List (Addr × Obj)} {s : Shared} {Q E : Value → Shared → Prop}
    (hv : x = v) (hx : 0 < v) (hy : 0 < y) (hf : Float64.isInf (fl v y) = false)
    (B : Below A₀ base outer h₀) (F : Fr h₀ L s.heap m) (X₀ : (tp.heap_39 w.params).In h₀) (N : News h₀ L s.heap news) (T : Top pp loose mean mg mb h₀) (hk : cs.kind = .function)
    (hdp : dp + 1 < recursionLimit) (hun : un + 8 < cLine)
    (ret : ∀ t h' tk', s.toks ≤ tk' → Fr h₀ L h' m → News h₀ L h' news → Q (.float (fl v y) t) { s with heap := h', toks := tk' }) :
    wpAny (model PySem.Challenge.rw_wu0012_01.row.prog w) (ktrTop dp un gd cn cs L a ccd cl outer) (call (.ref 119) [.int x tx, .int y ty]) Q E s := by
  subst hv
  exact div_walk hx hy hf B F X₀ N T hk hdp hun ret
theorem kw7 : True := by
  k_with "call ref" =>
    ((k_here; (with_reducible show wpAny _ _ (call (Value.ref 119) [Value.int _ _, Value.int _ _]) _ _ _); (rename ToldIn _ _ _ _ _ _ _ _ => hT'); k_dflt ((first | (refine' div_walkV ?hv (ToldIn.x0 hT') (ToldIn.m0 hT') (ToldIn.fx hT').1 ?k1 ?k2 ?k3 ?k4 ?k5 ?k6 ?k7 ?k8 ?_; (case hv => exact rfl)) | (refine' div_walkV ?hv (ToldIn.y0 hT') (ToldIn.m0 hT') (ToldIn.fy hT').1 ?k1 ?k2 ?k3 ?k4 ?k5 ?k6 ?k7 ?k8 ?_; (case hv => exact rfl)) | (refine' div_walkV ?hv (ToldIn.z0 hT') (ToldIn.m0 hT') (ToldIn.fz hT').1 ?k1 ?k2 ?k3 ?k4 ?k5 ?k6 ?k7 ?k8 ?_; (case hv => exact rfl)) | (refine' div_walkV ?hv (ToldIn.x0 hT') (ToldIn.m2 hT') (ToldIn.fx hT').2 ?k1 ?k2 ?k3 ?k4 ?k5 ?k6 ?k7 ?k8 ?_; (case hv => exact rfl)) | (refine' div_walkV ?hv (ToldIn.y0 hT') (ToldIn.m2 hT') (ToldIn.fy hT').2 ?k1 ?k2 ?k3 ?k4 ?k5 ?k6 ?k7 ?k8 ?_; (case hv => exact rfl)) | (refine' div_walkV ?hv (ToldIn.z0 hT') (ToldIn.m2 hT') (ToldIn.fz hT').2 ?k1 ?k2 ?k3 ?k4 ?k5 ?k6 ?k7 ?k8 ?_; (case hv => exact rfl))); (case k1 => k_asm); (case k2 => k_asm); (case k3 => k_asm); (case k4 => k_asm); (case k5 => k_asm); (case k6 => exact rfl); (case k7 => ktr_room); (case k8 => ktr_units); k_whole); intro t' h' tk' kt' F' N'; (try dsimp only at kt'); (try dsimp only)))
  trivial
theorem kw8 : True := by
  k_with "call ref" =>
    ((k_here; (with_reducible show wpAny _ _ (call (Value.ref 28) [Value.float _ _, Value.float _ _, Value.float _ _]) _ _ _); (rename ToldIn _ _ _ _ _ _ _ _ => hT'); k_dflt ((first | refine' hls_walk (ToldIn.ok1 hT') ?k0 ?k1 ?k2 ?k3 ?k4 ?k5 ?k6 ?k7 ?k8 ?_ | refine' hls_walk (ToldIn.ok2 hT') ?k0 ?k1 ?k2 ?k3 ?k4 ?k5 ?k6 ?k7 ?k8 ?_); (case k0 => ((try dsimp only at *); omega)); (case k1 => k_asm); (case k2 => k_asm); (case k3 => k_asm); (case k4 => k_asm); (case k5 => k_asm); (case k6 => exact rfl); (case k7 => ktr_room); (case k8 => ktr_units); k_whole); intro x' t1' t2' t3' h' tk' p1' p2' kt' F' N' l1; (try dsimp only at kt'); (try k_lt l1); (try dsimp only)))
  trivial
theorem kw9 : True := by
  k_with "compareOp NotEq ref ref" =>
    ((k_here; (with_reducible show wpAny _ _ (compareOp CmpOp.NotEq (Value.ref _) (Value.ref _)) _ _ _); (rename ToldIn _ _ _ _ _ _ _ _ => hT'); (rename Top _ _ _ _ _ _ => hTop'); (with_reducible rename Fr _ _ _ _ => kF); k_dflt (refine' ne_tuple3 ?N ?ha ?hb (ToldIn.same1 hT') (ToldIn.same2 hT') (ToldIn.same3 hT') (ToldIn.num1 hT').1 (ToldIn.num2 hT').1 (ToldIn.num1 hT').2 (ToldIn.num2 hT').2 ?p1 ?p2 ?q1 ?q2 (booked_of (by k_in) (hTop'.nolimit.keeps kF.keep) (by k_is)) ?hu ?_; (case N => k_asm); (case ha => k_mem); (case hb => k_mem); (case p1 => first | assumption | exact Nat.succ_pos _); (case p2 => first | assumption | exact Nat.succ_pos _); (case q1 => first | assumption | exact Nat.succ_pos _); (case q2 => first | assumption | exact Nat.succ_pos _); (case hu => ktr_units); k_whole)))
  trivial
theorem kw10 : True := by
  k_with "call builtin:divmod" =>
    ((k_here; (rename ToldIn _ _ _ _ _ _ _ _ => hT'); (refine' divmod_told (ToldIn.near0 hT') (ToldIn.off0 hT') ?k1 ?k2 ?_; (case k1 => k_asm); (case k2 => k_asm)); intro h' F' N'; (try dsimp only)))
  trivial
theorem kw11 : True := by
  k_with "subscriptTail Constant BinOp str int" =>
    ((refine item_str_fmod (by decide) (by decide) (by decide) ?_; intro _; (try dsimp only)))
  trivial
set_option linter.unusedVariables false in
theorem told_walk {w : World} {pp : Program} {loose : List Str} {mean : ExcName → Option Value} {mg mb : Str → Option Value} {x y z most least near off : Int} {out : Str} {tx ty tz : Tok} {ep : Nat} {l : Addr}
    {dp un : Nat} {gd : Option (List Code)} {cn : Str} {cs : Scope} {a : Addr} {ccd : Value} {cl : List (Str × Addr)} {outer : List Env} {A₀ : Around} {base h₀ : Heap} {L : Addr} {m : Str → Option Value} {news : List (Addr × Obj)} {s : Shared} {Q E : Value → Shared → Prop}
    (hT : ToldIn x y z most least near off out)
    (B : Below A₀ base outer h₀) (F : Fr h₀ L s.heap m) (X₀ : (tp.heap_39 w.params).In h₀) (N : News h₀ L s.heap ((l, { cls := .type "list", data := .seq #[.int x tx, .int y ty, .int z tz] ep }) :: news)) (T : Top pp loose mean mg mb h₀) (hk : cs.kind = .function)
    (hdp : dp + 2 < recursionLimit) (hun : un + 16 < cLine)
    (ret : ∀ t h' tk', Fr h₀ L h' m → News h₀ L h' ((l, { cls := .type "list", data := .seq #[.int x tx, .int y ty, .int z tz] ep }) :: news) → Q (.str out t) { s with heap := h', toks := tk' }) :
    wpAny (model PySem.Challenge.rw_wu0012_01.row.prog w) (ktrTop dp un gd cn cs L a ccd cl outer) (call (.ref 145) [.ref l]) Q E s := by
  refine wpAny_call ?_
  k_dflt cell_enter
  repeat' (first | (k_unfold; (try dsimp only)) | (k_end; wrow_close) | (walk1; all_goals (try dsimp only)) | (leave1; walk_say "STEP leave1"; try dsimp only) | fail "no step")
  all_goals (with_reducible rename ToldIn _ _ _ _ _ _ _ _ => hT')
  all_goals first
    | with_reducible exact absurd ((ToldIn.sat0 hT' (by assumption)).symm.trans (show _ = true by assumption)) Bool.false_ne_true
    | with_reducible exact absurd ((ToldIn.sat1 hT' (by assumption)).symm.trans (show _ = true by assumption)) Bool.false_ne_true
    | with_reducible exact absurd ((ToldIn.nan3 hT').symm.trans (show _ = true by assumption)) Bool.false_ne_true
    | with_reducible exact absurd ((ToldIn.inf3 hT').symm.trans (show _ = true by assumption)) Bool.false_ne_true
    | with_reducible exact absurd ((ToldIn.nan4 hT').symm.trans (show _ = true by assumption)) Bool.false_ne_true
    | with_reducible exact absurd ((ToldIn.inf4 hT').symm.trans (show _ = true by assumption)) Bool.false_ne_true
    | with_reducible exact absurd (by assumption) (ToldIn.fit hT')
    | skip
  all_goals (with_reducible refine text_end ret (by assumption) ?_ ?_)
  all_goals first
    | with_reducible exact ToldIn.pale hT' (by assumption)
    | with_reducible exact ToldIn.more hT' (by assumption) (by assumption)
    | with_reducible exact ToldIn.less hT' (by assumption) (by assumption)
    | (refine cb_drop (by with_reducible assumption) (fun p hp => ?_); repeat (first | exact hp | refine List.mem_cons_of_mem _ ?_))
end Mine
end

section
open PySem PySem.W PyProof.Rows PySem.Calls
set_option Elab.async false
set_option maxRecDepth 100000
set_option maxHeartbeats 4000000
set_option linter.unusedVariables false
namespace Mine
local macro_rules | `(tactic| omega) => `(tactic| first | decide | lia | omega +splitDisjunctions)
theorem fillK4 : PySem.Challenge.rw_wu0012_01 = PySem.Challenge.rw_wu0012_01 ∧ tp.heap_39 = tp.heap_39 := by
  k_fill
  exact ⟨rfl, rfl⟩
theorem kw12 : True := by
  k_with_none
  k_with "k_room" =>
    (ktr_room)
  trivial
theorem kw13 : True := by
  k_with "cell_enterC" =>
    ((refine' code_defC ?k1 ?k2 ?k3 ?k4 ?k5 ?kA ?kF ?kK ?k6 ?k7 ?k8 ?k9 ?kB ?kD ?_ ?c2 ?c3 ?c4; (case kA => exact rfl); (case kF => exact rfl); (case kK => assumption); (case k1 => k_asm); (case k2 => k_asm); (case k3 => k_asm); (case k4 => k_asm); (case k5 => k_asm); (case k6 => k_is); (case k7 => k_is); (case k8 => ktr_room); (case k9 => exact BindsTo.of_eq rfl); (case kB => exact rfl); (case kD => decide +kernel); (case c2 => exact rfl); (case c3 => exact rfl); (case c4 => exact rfl); k_whole; intro g' L' h' tk' cells' FG' F' N' Y' B' X' T' l1; (try k_lt l1); k_cells Y'; (try simp only [List.cons_append, List.nil_append] at N'); (try dsimp only); (try k_lift B'); (try k_fold)))
  trivial
/-- the addresses of a part of the ledger lie below -/
def Under (b : Nat) (news : List (Addr × Obj)) : Prop := AllLt b news
theorem lt_of_all {d : Nat} {l : List (Addr × Obj)} (h : AllLt d l) : ∀ p ∈ l, @LT.lt Nat _ p.1 d := by
  induction l with
  | nil => intro p hp; cases hp
  | cons q r ih =>
    intro p hp
    rcases List.mem_cons.mp hp with e | hp
    · rw [e]; exact h.1
    · exact ih h.2 p hp
theorem ne_under {news : List (Addr × Obj)} {b d : Nat} (h : Under b news) (hb : b ≤ d) : ∀ p ∈ news, p.1 ≠ d := fun p hp e => by
  have h1 : @LT.lt Nat _ p.1 b := lt_of_all h p hp
  exact absurd (Nat.lt_of_lt_of_le h1 hb) (by rw [e]; exact Nat.lt_irrefl _)
noncomputable abbrev tri (a b c : Int) (t1 t2 t3 : Tok) (ep : Nat) : Obj := { cls := .type "list", data := .seq #[.int a t1, .int b t2, .int c t3] ep }
theorem int3 {ys : List Value} {a b c : Int} (h : IntsAre ys [a, b, c]) : ∃ t1 t2 t3, ys = [.int a t1, .int b t2, .int c t3] := by
  cases h with
  | cons _ t1 h => cases h with
    | cons _ t2 h => cases h with
      | cons _ t3 h => cases h; exact ⟨t1, t2, t3, rfl⟩
theorem off_all {D : Addr} : ∀ {l : List (Addr × Obj)}, LCg.Off1 D l → ∀ p ∈ l, p.1 ≠ D := by
  intro l
  induction l with
  | nil => intro _ p hp; cases hp
  | cons q r ih =>
    intro h p hp
    rcases List.mem_cons.mp hp with e | hp
    · rw [e]; exact h.1
    · exact ih h.2 p hp
abbrev MovedRet (h₀ : Heap) (L : Addr) (m : Str → Option Value) (news : List (Addr × Obj)) (s : Shared) (Q : Value → Shared → Prop) (a b c : Int) : Prop :=
  ∀ l' t1 t2 t3 h' tk', Fr h₀ L h' m → News h₀ L h' ((l', tri a b c t1 t2 t3 3) :: news) → (∀ p ∈ news, p.1 ≠ l') → Q (.ref l') { s with heap := h', toks := tk' }
theorem moved_end {h₀ h' : Heap} {L : Addr} {m : Str → Option Value} {news : List (Addr × Obj)} {s : Shared} {Q : Value → Shared → Prop} {a b c : Int} {ys : List Value} {l' : Addr} {tk' : Nat}
    (ret : MovedRet h₀ L m news s Q a b c) (hI : IntsAre ys [a, b, c]) (F : Fr h₀ L h' m) (N : News h₀ L h' ((l', LCg.lst ys) :: news)) (o : ∀ p ∈ news, p.1 ≠ l') : Q (.ref l') { s with heap := h', toks := tk' } := by
  obtain ⟨t1, t2, t3, rfl⟩ := int3 hI
  exact ret l' t1 t2 t3 h' tk' F N o
theorem index_at {prog : Program} {w : World} {A : Around} {E : Value → Shared → Prop} {s : Shared} {x y : Str} {t u : Tok} {Q : Value → Shared → Prop} (i : Int) (hA : A.handled = none) (hf : Txt.find x y = i) (hi : 0 ≤ i)
    (h : Q (.int i s.toks) { s with toks := s.toks + 1 }) : wpAny (model prog w) A (call (.builtin "str.index") [.str x t, .str y u]) Q E s := by
  subst hf
  exact index_or hA (fun e => absurd e (by omega)) (fun _ _ => h)
theorem kw14 : True := by
  k_with "call builtin:str.index" =>
    ((k_here; first | refine index_at 0 rfl (by decide +kernel) (by decide) ?_ | refine index_at 1 rfl (by decide +kernel) (by decide) ?_ | refine index_at 2 rfl (by decide +kernel) (by decide) ?_))
  trivial
theorem kw15 : True := by
  k_with "k_all" =>
    (exact ne_under (by with_reducible assumption) (by omega))
  trivial
theorem moved_r {w : World} {pp : Program} {loose : List Str} {mean : ExcName → Option Value} {mg mb : Str → Option Value} {x y z : Int} {tx ty tz tl : Tok} {ep : Nat} {l : Addr}
    {dp un : Nat} {gd : Option (List Code)} {cn : Str} {cs : Scope} {a : Addr} {ccd : Value} {cl : List (Str × Addr)} {outer : List Env} {A₀ : Around} {base h₀ : Heap} {L : Addr} {m : Str → Option Value} {news : List (Addr × Obj)} {s : Shared} {Q E : Value → Shared → Prop}
    (hx : 0 < x ∧ x < 2 ^ 60) (hy : 0 < y ∧ y < 2 ^ 60) (hz : 0 < z ∧ z < 2 ^ 60)
    (B : Below A₀ base outer h₀) (F : Fr h₀ L s.heap m) (X₀ : (tp.heap_39 w.params).In h₀) (N : News h₀ L s.heap ((l, tri x y z tx ty tz ep) :: news)) (T : Top pp loose mean mg mb h₀) (hk : cs.kind = .function)
    (hdp : dp + 2 < recursionLimit) (hun : un + 16 < cLine)
    (ret : MovedRet h₀ L m ((l, tri x y z tx ty tz ep) :: news) s Q (y * z - x) y z) :
    wpAny (model PySem.Challenge.rw_wu0012_01.row.prog w) (ktrTop dp un gd cn cs L a ccd cl outer) (call (.ref 138) [.ref l, .str (Str.ofString "r") tl]) Q E s := by
  refine wpAny_call ?_
  k_dflt k_extra "cell_enterC"
  (with_reducible rename (_ ∧ AllLt _ _) => hq)
  obtain ⟨hq1, hq2⟩ := hq
  replace hq2 : Under _ _ := hq2
  repeat' (first | (k_unfold; (try dsimp only)) | (k_end; wrow_close) | (walk1; all_goals (try dsimp only)) | (leave1; walk_say "STEP leave1"; try dsimp only) | fail "no step")
  (with_reducible rename IntsAre _ _ => hI)
  (with_reducible rename (_ ∧ _ ∧ _ ∧ _ ∧ LCg.Off1 _ _) => ho)
  refine moved_end ret hI (by with_reducible assumption) (cb_drop (by with_reducible assumption) ?_) ?_
  · intro p hp
    rcases List.mem_cons.mp hp with e | hp
    · rw [e]; exact .head _
    · exact .tail _ (.tail _ (.tail _ (.tail _ hp)))
  · intro p hp
    rcases List.mem_cons.mp hp with e | hp
    · rw [e]; exact ho.2.2.2.1
    · exact off_all ho.2.2.2.2 p hp
theorem moved_g {w : World} {pp : Program} {loose : List Str} {mean : ExcName → Option Value} {mg mb : Str → Option Value} {x y z : Int} {tx ty tz tl : Tok} {ep : Nat} {l : Addr}
    {dp un : Nat} {gd : Option (List Code)} {cn : Str} {cs : Scope} {a : Addr} {ccd : Value} {cl : List (Str × Addr)} {outer : List Env} {A₀ : Around} {base h₀ : Heap} {L : Addr} {m : Str → Option Value} {news : List (Addr × Obj)} {s : Shared} {Q E : Value → Shared → Prop}
    (hx : 0 < x ∧ x < 2 ^ 60) (hy : 0 < y ∧ y < 2 ^ 60) (hz : 0 < z ∧ z < 2 ^ 60)
    (B : Below A₀ base outer h₀) (F : Fr h₀ L s.heap m) (X₀ : (tp.heap_39 w.params).In h₀) (N : News h₀ L s.heap ((l, tri x y z tx ty tz ep) :: news)) (T : Top pp loose mean mg mb h₀) (hk : cs.kind = .function)
    (hdp : dp + 2 < recursionLimit) (hun : un + 16 < cLine)
    (ret : MovedRet h₀ L m ((l, tri x y z tx ty tz ep) :: news) s Q x (z * x - y) z) :
    wpAny (model PySem.Challenge.rw_wu0012_01.row.prog w) (ktrTop dp un gd cn cs L a ccd cl outer) (call (.ref 138) [.ref l, .str (Str.ofString "g") tl]) Q E s := by
  refine wpAny_call ?_
  k_dflt k_extra "cell_enterC"
  (with_reducible rename (_ ∧ AllLt _ _) => hq)
  obtain ⟨hq1, hq2⟩ := hq
  replace hq2 : Under _ _ := hq2
  repeat' (first | (k_unfold; (try dsimp only)) | (k_end; wrow_close) | (walk1; all_goals (try dsimp only)) | (leave1; walk_say "STEP leave1"; try dsimp only) | fail "no step")
  (with_reducible rename IntsAre _ _ => hI)
  (with_reducible rename (_ ∧ _ ∧ _ ∧ _ ∧ LCg.Off1 _ _) => ho)
  refine moved_end ret hI (by with_reducible assumption) (cb_drop (by with_reducible assumption) ?_) ?_
  · intro p hp
    rcases List.mem_cons.mp hp with e | hp
    · rw [e]; exact .head _
    · exact .tail _ (.tail _ (.tail _ (.tail _ hp)))
  · intro p hp
    rcases List.mem_cons.mp hp with e | hp
    · rw [e]; exact ho.2.2.2.1
    · exact off_all ho.2.2.2.2 p hp
theorem moved_b {w : World} {pp : Program} {loose : List Str} {mean : ExcName → Option Value} {mg mb : Str → Option Value} {x y z : Int} {tx ty tz tl : Tok} {ep : Nat} {l : Addr}
    {dp un : Nat} {gd : Option (List Code)} {cn : Str} {cs : Scope} {a : Addr} {ccd : Value} {cl : List (Str × Addr)} {outer : List Env} {A₀ : Around} {base h₀ : Heap} {L : Addr} {m : Str → Option Value} {news : List (Addr × Obj)} {s : Shared} {Q E : Value → Shared → Prop}
    (hx : 0 < x ∧ x < 2 ^ 60) (hy : 0 < y ∧ y < 2 ^ 60) (hz : 0 < z ∧ z < 2 ^ 60)
    (B : Below A₀ base outer h₀) (F : Fr h₀ L s.heap m) (X₀ : (tp.heap_39 w.params).In h₀) (N : News h₀ L s.heap ((l, tri x y z tx ty tz ep) :: news)) (T : Top pp loose mean mg mb h₀) (hk : cs.kind = .function)
    (hdp : dp + 2 < recursionLimit) (hun : un + 16 < cLine)
    (ret : MovedRet h₀ L m ((l, tri x y z tx ty tz ep) :: news) s Q x y (x * y - z)) :
    wpAny (model PySem.Challenge.rw_wu0012_01.row.prog w) (ktrTop dp un gd cn cs L a ccd cl outer) (call (.ref 138) [.ref l, .str (Str.ofString "b") tl]) Q E s := by
  refine wpAny_call ?_
  k_dflt k_extra "cell_enterC"
  (with_reducible rename (_ ∧ AllLt _ _) => hq)
  obtain ⟨hq1, hq2⟩ := hq
  replace hq2 : Under _ _ := hq2
  repeat' (first | (k_unfold; (try dsimp only)) | (k_end; wrow_close) | (walk1; all_goals (try dsimp only)) | (leave1; walk_say "STEP leave1"; try dsimp only) | fail "no step")
  (with_reducible rename IntsAre _ _ => hI)
  (with_reducible rename (_ ∧ _ ∧ _ ∧ _ ∧ LCg.Off1 _ _) => ho)
  refine moved_end ret hI (by with_reducible assumption) (cb_drop (by with_reducible assumption) ?_) ?_
  · intro p hp
    rcases List.mem_cons.mp hp with e | hp
    · rw [e]; exact .head _
    · exact .tail _ (.tail _ (.tail _ (.tail _ hp)))
  · intro p hp
    rcases List.mem_cons.mp hp with e | hp
    · rw [e]; exact ho.2.2.2.1
    · exact off_all ho.2.2.2.2 p hp
end Mine
end

section
open PySem PySem.W PyProof.Rows PySem.Calls
open Builtin Builtin.ObjectAttr Builtin.Getset_descriptor
set_option Elab.async false
set_option maxRecDepth 100000
set_option maxHeartbeats 4000000
set_option linter.unusedVariables false
namespace Mine
/-- the accumulator: a list of its class, with a dict of its own -/
noncomputable abbrev accObj (dx : Addr) (items : Array Value) (ep : Nat) : Obj := { cls := .ref 108, dict := some dx, data := .seq items ep }
noncomputable abbrev noneDict : Obj := { cls := .type "dict", data := .dict #[] }
section
variable {w : World} {h : Heap}
noncomputable abbrev KM (w : World) : Frag := tp.heap_39 w.params
noncomputable abbrev MM (w : World) : Model := model PySem.Challenge.rw_wu0012_01.row.prog w
theorem acc_cls (X : (KM w).In h) : ∃ oc od cd sl, h.get? 108 = some ⟨oc, od, .cls cd, sl⟩ ∧ cd.abstract = false ∧ cd.hasDel = false ∧ cd.mro = [.ref 108, .type "list", .type "object"] ∧ sl[4]? = some (some (.builtin "list.__new__")) ∧ cd.hasDict = true ∧ oc = .type "type" :=
  ⟨_, _, _, _, X 108 _ rfl, rfl, rfl, rfl, rfl, rfl, rfl⟩
theorem acc_mro (X : (KM w).In h) : Looks (MM w) h (mroOf (.ref 108)) [.ref 108, .type "list", .type "object"] := by
  obtain ⟨oc, od, cd, sl, hC, e1, e2, e3, e4, e5⟩ := acc_cls X
  have := ((Looks.ld (M := MM w) (part := none) hC).andThen (f := fun o => match o.data with | .cls c => pure c.mro | _ => pure []) .now)
  have hm : Looks (MM w) h (mroOf (.ref 108)) cd.mro := ((Looks.ld (part := none) hC).andThen .now).andThen .now
  rwa [e3] at hm
theorem acc_madeBy (X : (KM w).In h) : Looks (MM w) h (Bind.madeBy (.ref 108)) (some "list.__new__") := by
  obtain ⟨oc, od, cd, sl, hC, e1, e2, e3, e4, e5⟩ := acc_cls X
  intro A Q E s k q
  unfold Bind.madeBy
  refine wpAny_bind (acc_mro X A _ E s k ?_)
  rw [List.forIn_cons]
  refine wpAny_bind (wpAny_bind (wpAny_bind (wpAny_bind (wpAny_loadPart (k _ _ hC) (wpAny_pure ?_)))))
  dsimp only
  rw [e4]
  exact wpAny_pure (wpAny_pure (wpAny_pure q))
theorem acc_base (X : (KM w).In h) : Looks (MM w) h (Bind.staticBase (.ref 108)) (.ref 108) := by
  intro A Q E s k q
  unfold Bind.staticBase
  refine wpAny_bind (acc_mro X A _ E s k ?_)
  rw [List.forIn_cons]
  exact wpAny_bind (wpAny_bind (wpAny_bind (acc_madeBy X A _ E s k (wpAny_pure (wpAny_pure (wpAny_pure q))))))
theorem acc_sub (X : (KM w).In h) : Looks (MM w) h (isSubtype (.ref 108) (.ref 108)) true := looks_mroIn X rfl
theorem acc_list (X : (KM w).In h) : Looks (MM w) h (isSubtype (.ref 108) (.type "list")) true := looks_mroIn X rfl
theorem acc_call (X : (KM w).In h) : Looks (MM w) h (specialOf (.ref 108) "__call__") (some (.builtin "type.__call__")) := looks_specialIn X (by kernel_rfl)
theorem acc_typ (X : (KM w).In h) : Looks (MM w) h (isInstance (.ref 108) (.type "type")) true := looks_instIn X (by kernel_rfl)
theorem acc_isType (X : (KM w).In h) : Looks (MM w) h (isType (.ref 108)) true := by
  obtain ⟨oc, od, cd, sl, hC, e1, e2, e3, e4, e5⟩ := acc_cls X
  intro A Q E s k q
  unfold isType
  repeat (first | exact q | with_reducible refine wpAny_load (k _ _ hC) ?_ | with_reducible refine wpAny_loadPart (k _ _ hC) ?_ | lk)
theorem ln_kind : builtinKind "list.__new__" = some .builtinFn := by decide +kernel
theorem ln_split : splitId "list.__new__" = some ("list", "__new__") := by decide +kernel
theorem ln_args (a b : Value) : argsOk "list.__new__" ⟨[a, b], []⟩ := by unfold argsOk; kernel_rfl
theorem ln_canon : (Manifest.canonical "list.__new__" != Manifest.canonical "list.__new__") = false := bne_self_eq_false _
variable {A : Around} {R : Result → Shared → Prop} {g : Array GenState} {d : Drawn} {t : Nat} {os : OsState}
theorem acc_new {v : Value} (X : (KM w).In h)
    (hq : R (.ok (.ret (.ref (h.objs.size + 1)))) ⟨(h.push noneDict).push (accObj h.objs.size #[] 0), g, d, t, os⟩) :
    codeAny (MM w) A (.call (.builtin "list.__new__") ⟨[.ref 108, v], []⟩) R ⟨h, g, d, t, os⟩ := by
  have f1 := acc_isType X
  have f2 := acc_list X
  have f3 := acc_base X
  have f4 := acc_madeBy X
  obtain ⟨oc, od, cd, sl, hC, e1, e2, e3, e4, e5, e6⟩ := acc_cls X
  refine codeAny_call_builtin_code (Code.quiet_builtin _ (by decide +kernel)) ?_
  have ha := ln_args (.ref 108) v
  simp only [checkBuiltinCall, ln_kind, ln_split]
  repeat (first | simp only [ln_canon, beq_self_eq_true, Bool.not_true, Bool.false_eq_true, if_false, if_true] | lk)
  refine codeAny_builtin_stack PySem.F.entry_list_new rfl fun p st => ?_
  rw [Around.under_plainId PySem.F.plain_list_new _]
  simp only [owner_list_new]
  repeat (first | simp only [Bool.not_true, Bool.false_eq_true, if_false] | lk)
  refine nd_load (Heap.get?_push_of_some _ (Heap.get?_push_of_some _ hC)) ?_
  repeat (first | simp only [e2, Bool.false_eq_true, if_false] | lk)
  show R _ _
  rw [Heap.size_push]
  exact hq
theorem acc_make {v : Value} (X : (KM w).In h)
    (hq : codeAny (MM w) (A.under (.builtin "type.__call__" ⟨[.ref 108, v], []⟩)) (.call (.ref 45) ⟨[.ref (h.objs.size + 1), v], []⟩) (InitBack (h.objs.size + 1) R) ⟨(h.push noneDict).push (accObj h.objs.size #[] 0), g, d, t, os⟩) :
    codeAny (MM w) A (.call (.ref 108) ⟨[v], []⟩) R ⟨h, g, d, t, os⟩ := by
  have call := acc_call X
  have typ := acc_typ X
  have hm := acc_mro X
  have self := acc_sub X
  have made := acc_madeBy X
  have hb := acc_base X
  have hi : Looks (MM w) h (typeLookup (.ref 108) "__init__") (some (.ref 45)) := looks_findIn X (by kernel_rfl)
  have hn : Looks (MM w) h (typeLookup (.ref 108) "__new__") (some (.builtin "list.__new__")) := looks_findIn X (by kernel_rfl)
  obtain ⟨oc, od, cd, sl, hC, e1, e2, e3, e4, e5, e6⟩ := acc_cls X
  refine codeAny_of_tree ?_
  show wpAny _ _ (callAny (.ref 108) _) _ _ _
  refine nd_load hC ?_
  show wpAny _ _ (callAny.viaDunder (.ref 108) _) _ _ _
  unfold callAny.viaDunder
  refine wpAny_bind (call.at ?_)
  dsimp only
  rw [tc_bind]
  refine wpAny_bind (wpAny_pure (wpAny_bind (wpAny_pure ?_)))
  refine wpAny_pure (a := Fin.again (.call (.builtin "type.__call__") ⟨[.ref 108, v], []⟩)) (And.intro rfl ?_)
  refine codeAny_call_builtin_at (Code.quiet_builtin _ (by decide +kernel)) entry_typeCall (check_slot tc_kind tc_split typ (tc_args _ _ _) ?_)
  unfold Builtin.«type.__call__»
  repeat (first | simp only [Bool.false_eq_true, if_false] | with_reducible refine wpAny_call ?_ | lk)
  refine acc_new X ?_
  have k : ∀ b o, h.get? b = some o → ((h.push noneDict).push (accObj h.objs.size #[] 0)).get? b = some o := fun b o e => Heap.get?_push_of_some _ (Heap.get?_push_of_some _ e)
  have hx : ((h.push noneDict).push (accObj h.objs.size #[] 0)).get? (h.objs.size + 1) = some (accObj h.objs.size #[] 0) := by heap_get
  have t1 : Looks (MM w) ((h.push noneDict).push (accObj h.objs.size #[] 0)) (typeOf (.ref (h.objs.size + 1))) (.ref 108) := (Looks.ld hx).andThen .now
  have s1 := self.keeps k
  have i1 := hi.keeps k
  have b1 : Looks (MM w) ((h.push noneDict).push (accObj h.objs.size #[] 0)) (bindSpecial (.ref 45) (.ref (h.objs.size + 1))) (.ref 45, [.ref (h.objs.size + 1)]) := (bind_fn X (.ref (h.objs.size + 1)) (by kernel_rfl)).keeps k
  dsimp only
  unfold isInstance callSpecial? specialOf
  repeat (first | with_reducible refine wpAny_call ?_ | lk)
  refine codeAny_mono hq fun r s' z => ?_
  rcases r with e | (v | _ | _ | _) <;> first | exact z | exact z.elim | skip
  obtain ⟨rfl, z⟩ := z
  exact wpAny_pure (wpAny_pure z)
end
end Mine
end

section
open PySem PySem.W PyProof.Rows PySem.Calls
open Builtin Builtin.ObjectAttr Builtin.Getset_descriptor
set_option Elab.async false
set_option maxRecDepth 100000
set_option maxHeartbeats 400000
set_option linter.unusedVariables false
set_option linter.unusedSimpArgs false
namespace Mine
theorem inst_seq {h₀ h : Heap} {L x C dx : Addr} {news : List (Addr × Obj)} {od : Obj} {its : Array Value} {ep : Nat} {sl : Array (Option Value)} (N : News h₀ L h news) (h1 : (x, (⟨.ref C, some dx, .seq its ep, sl⟩ : Obj)) ∈ news) (h2 : (dx, od) ∈ news) :
    InstAt h x ⟨.ref C, some dx, .seq its ep, sl⟩ C (some od) := ⟨(N _ h1).1, rfl, rfl, (N _ h2).1⟩
theorem wd_entry : entryFor table "wrapper_descriptor.__get__" = some Builtin.«wrapper_descriptor.__get__» := entryFor_of_tree (by kernel_rfl)
theorem wd_split : splitId "wrapper_descriptor.__get__" = some ("wrapper_descriptor", "__get__") := by decide +kernel
theorem wd_args (a b c : Value) : argsOk "wrapper_descriptor.__get__" ⟨[a, b, c], []⟩ := by unfold argsOk; kernel_rfl
theorem md_entry : entryFor table "method_descriptor.__get__" = some Builtin.«method_descriptor.__get__» := entryFor_of_tree (by kernel_rfl)
theorem md_split : splitId "method_descriptor.__get__" = some ("method_descriptor", "__get__") := by decide +kernel
theorem md_args (a b c : Value) : argsOk "method_descriptor.__get__" ⟨[a, b, c], []⟩ := by unfold argsOk; kernel_rfl
theorem typ_len : typeOf (.builtin "list.__len__") = pure (.type "wrapper_descriptor") := by show builtinType _ = _; rw [builtinType_eq_fast]; kernel_rfl
theorem typ_init : typeOf (.builtin "list.__init__") = pure (.type "wrapper_descriptor") := by show builtinType _ = _; rw [builtinType_eq_fast]; kernel_rfl
theorem typ_pop : typeOf (.builtin "list.pop") = pure (.type "method_descriptor") := by show builtinType _ = _; rw [builtinType_eq_fast]; kernel_rfl
theorem typ_append : typeOf (.builtin "list.append") = pure (.type "method_descriptor") := by show builtinType _ = _; rw [builtinType_eq_fast]; kernel_rfl
theorem sub_wd : isSubtype (.type "wrapper_descriptor") (.type "wrapper_descriptor") = pure true := by rw [isSubtype_type]; kernel_rfl
theorem sub_md : isSubtype (.type "method_descriptor") (.type "method_descriptor") = pure true := by rw [isSubtype_type]; kernel_rfl
theorem get_wd : typeLookup (.type "wrapper_descriptor") "__get__" = pure (some (.builtin "wrapper_descriptor.__get__")) := by rw [typeLookup_type, builtinLookup_eq_fast]; kernel_rfl
theorem get_md : typeLookup (.type "method_descriptor") "__get__" = pure (some (.builtin "method_descriptor.__get__")) := by rw [typeLookup_type, builtinLookup_eq_fast]; kernel_rfl
theorem told_pop : Manifest.toldItsClass.contains "list.pop" = false := by decide +kernel
theorem slot_wd : Slot "wrapper_descriptor" "__get__" "wrapper_descriptor.__get__" := 
  (Slot.of (T := "wrapper_descriptor") (name := "__get__") (owner := "wrapper_descriptor") (n := "__get__") get_wd wd_split (by decide +kernel) (by decide +kernel) (.inl (by decide +kernel)) sub_wd)
theorem slot_md : Slot "method_descriptor" "__get__" "method_descriptor.__get__" := 
  (Slot.of (T := "method_descriptor") (name := "__get__") (owner := "method_descriptor") (n := "__get__") get_md md_split (by decide +kernel) (by decide +kernel) (.inl (by decide +kernel)) sub_md)
section
variable {w : World} {h : Heap} {A : Around} {E : Value → Shared → Prop} {g : Array GenState} {d : Drawn} {t : Nat} {os : OsState} {x dx : Addr} {its : Array Value} {ep : Nat}
/-- the bound method that super() hands out -/
noncomputable abbrev boundObj (cls id : String) (x : Addr) : Obj := { cls := .type cls, data := .fields #[.builtin id, .ref x] }
theorem x_list (X : (KM w).In h) (hx : h.get? x = some (accObj dx its ep)) : Looks (MM w) h (isInstance (.ref x) (.type "list")) true :=
  ((Looks.ld hx).andThen .now).andThen (acc_list X)
/-- the two kinds of bound built-ins -/
inductive BKind : String → String → String → String → Prop where
  | len : BKind "list.__len__" "wrapper_descriptor" "wrapper_descriptor.__get__" "method-wrapper"
  | init : BKind "list.__init__" "wrapper_descriptor" "wrapper_descriptor.__get__" "method-wrapper"
  | pop : BKind "list.pop" "method_descriptor" "method_descriptor.__get__" "builtin_function_or_method"
theorem b_get {id ty gid cls : String} (b : BKind id ty gid cls) (X : (KM w).In h) (hx : h.get? x = some (accObj dx its ep)) {Q : Value → Shared → Prop}
    (hq : Q (.ref h.objs.size) ⟨h.push (boundObj cls id x), g, d, t, os⟩) :
    wpAny (MM w) A (call (.builtin gid) [.builtin id, .ref x, .ref 108]) Q E ⟨h, g, d, t, os⟩ := by
  have f1 : ∀ c : String, c = "list" → Looks (MM w) h (isInstance (.ref x) (.type c)) true := fun c e => e ▸ x_list X hx
  cases b
  · refine wpAny_call_entry slot_wd (show typeOf _ = _ from typ_len) wd_entry ?_ (wd_args _ _ _)
    unfold Builtin.«wrapper_descriptor.__get__»
    repeat (first | simp only [Bool.not_true, Bool.false_eq_true, if_false] | (with_reducible refine Looks.at (f1 _ ?_) ?_; (decide +kernel)) | lk)
    exact ⟨_, rfl, hq⟩
  · refine wpAny_call_entry slot_wd (show typeOf _ = _ from typ_init) wd_entry ?_ (wd_args _ _ _)
    unfold Builtin.«wrapper_descriptor.__get__»
    repeat (first | simp only [Bool.not_true, Bool.false_eq_true, if_false] | (with_reducible refine Looks.at (f1 _ ?_) ?_; (decide +kernel)) | lk)
    exact ⟨_, rfl, hq⟩
  · refine wpAny_call_entry slot_md (show typeOf _ = _ from typ_pop) md_entry ?_ (md_args _ _ _)
    delta Builtin.«method_descriptor.__get__»
    have f2 := told_pop
    repeat (first | simp only [f2, Bool.not_true, Bool.false_eq_true, if_false] | (with_reducible refine Looks.at (f1 _ ?_) ?_; (decide +kernel)) | lk)
    exact ⟨_, rfl, hq⟩

theorem b_super_ga {id ty gid cls : String} {name : Str} {so : Addr} {tk : Tok} (b : BKind id ty gid cls) (X : (KM w).In h) (hx : h.get? x = some (accObj dx its ep)) (hso : h.get? so = some (ks_superObj 108 x 108))
    (ho : nsIn (KM w) cStatics "thirdparty.any" = some none) (hf : alongIn (KM w) name [.type "list", .type "object"] = some (some (.builtin id))) (hn : (name == ("__class__" : Str)) = false) {Q : Fin → Shared → Prop}
    (hxC : x ≠ 108)
    (hq : Q (.done (.ret (.ref h.objs.size))) ⟨h.push (boundObj cls id x), g, d, t, os⟩) :
    wpAny (MM w) A (Builtin.«super.__getattribute__» ⟨[.ref so, .str name tk], []⟩) Q E ⟨h, g, d, t, os⟩ := by
  have hno : Looks (MM w) h (opaqueClassAbove (.ref 108)) none := looks_opaque X ho
  have hC := acc_mro X
  have hne : (Value.ref x == Value.ref 108) = false := by simp [hxC]
  have hdt : (ks_superObj 108 x 108).data = .fields #[.ref 108, .ref x, .ref 108] := rfl
  have f0 : (#[.ref 108, .ref x, .ref 108] : Array Value)[0]? = some (.ref 108) := rfl
  have f1 : (#[.ref 108, .ref x, .ref 108] : Array Value)[1]? = some (.ref x) := rfl
  have f2 : (#[.ref 108, .ref x, .ref 108] : Array Value)[2]? = some (.ref 108) := rfl
  have hl : ([.ref 108, .type "list", .type "object"].dropWhile (· != Value.ref 108)).drop 1 = [.type "list", .type "object"] := rfl
  have hT : typeOf (.builtin id) = pure (.type ty) := by cases b; exact typ_len; exact typ_init; exact typ_pop
  have hlk : typeLookup (.type ty) "__get__" = pure (some (.builtin gid)) := by cases b; exact get_wd; exact get_wd; exact get_md
  unfold Builtin.«super.__getattribute__»
  repeat (first
    | (with_reducible refine wpAny_field hso hdt f0 ?_) | (with_reducible refine wpAny_field hso hdt f1 ?_) | (with_reducible refine wpAny_field hso hdt f2 ?_)
    | (with_reducible refine ks_wpAny_notOpaque hno ?_)
    | (with_reducible refine Looks.at hC ?_; rw [hl])
    | (refine ks_forIn_along X (fun _ _ => rfl) rfl ?_ hf)
    | (with_reducible refine wpAny_of_eq hT (wpAny_pure ?_))
    | (with_reducible refine b_get b X hx ?_)
    | (with_reducible refine ⟨_, rfl, ?_⟩)
    | (simp only [hn, hne, Bool.or_false, Bool.false_eq_true, if_false])
    | wp_step
    | dsimp only)
  all_goals exact hq
end
end Mine
end

section
open PySem PySem.W PyProof.Rows PySem.Calls
open Builtin Builtin.ObjectAttr Builtin.Getset_descriptor
set_option Elab.async false
set_option maxRecDepth 100000
set_option maxHeartbeats 400000
set_option linter.unusedVariables false
set_option linter.unusedSimpArgs false
namespace Mine
section
variable {w : World} {A : Around} {E : Value → Shared → Prop} {x dx : Addr} {its : Array Value} {ep : Nat} {s : Shared} {h₀ : Heap} {L : Addr} {m : Str → Option Value} {news : List (Addr × Obj)}
theorem b_super {id ty gid cls : String} {name : Str} {so : Addr} {pl : Sem Bool} {Q : Value × List Value → Shared → Prop} (b : BKind id ty gid cls) (F : Fr h₀ L s.heap m) (X₀ : (KM w).In h₀) (N : News h₀ L s.heap news) (hx : (x, accObj dx its ep) ∈ news) (hso : (so, ks_superObj 108 x 108) ∈ news)
    (ho : nsIn (KM w) cStatics "thirdparty.any" = some none) (hf : alongIn (KM w) name [.type "list", .type "object"] = some (some (.builtin id))) (hn : (name == ("__class__" : Str)) = false) (hx2 : (KM w).lookup 108 ≠ none)
    (hq : ∀ q h', Fr h₀ L h' m → News h₀ L h' ((q, boundObj cls id x) :: news) → (∀ p ∈ news, p.1 < q) → Q (.ref q, []) { s with heap := h', toks := s.toks + 1 }) :
    wpAny (MM w) A (getMethod (.ref so) name pl) Q E s := by
  have X := X₀.keeps F.keep
  have hx' := (N _ hx).1
  have hso' := (N _ hso).1
  have hxC : x ≠ 108 := by
    rintro rfl
    have h1 := (N _ hx).2.2
    cases hk : (KM w).lookup 108 with
    | none => exact hx2 hk
    | some o => have := X₀ _ _ hk; rw [h1] at this; cases this
  obtain ⟨hh, g, d, t, os⟩ := s
  have hlk := PySem.F.ks_slot_super_ga.lookup
  have hcan := PySem.F.ks_canon_super_ga
  have hT : ∀ t', (⟨hh, g, d, t', os⟩ : Shared).TypeIs (.ref so) "super" := fun _ => ⟨_, hso', rfl⟩
  unfold getMethod
  refine wpAny_bind (wpAny_specialOf (hT _) hlk ?_)
  show wpAny _ _ (if (Manifest.canonical "super.__getattribute__" != "object.__getattribute__") = true then _ else _) _ _ _
  rw [if_pos hcan]
  unfold getAttr getAttrBy
  refine wpAny_bind (wpAny_bind (wpAny_mkText (wpAny_holding (wpAny_bind (wpAny_typeOf (hT _) (wpAny_bind (wpAny_of_eq hlk ?_)))))))
  show wpAny _ _ (getAttrByItsOwn (.ref so) (.str name t) (.type "super") (.builtin "super.__getattribute__") true false) _ _ _
  unfold getAttrByItsOwn hookBefore callGetattribute boundAndCalled
  refine wpAny_bind (wpAny_of_eq (show (if onTheHeap (.type "super") then typeLookup (.type "super") "__getattr__" else pure none) = pure none from rfl) ?_)
  refine wpAny_bind (wpAny_attempt (wpAny_holding ?_))
  show wpAny _ _ (bindSpecial (.builtin "super.__getattribute__") (.ref so) >>= _) _ _ _
  refine wpAny_bind (wpAny_of_eq (PySem.F.ks_slot_super_ga.bind _) ?_)
  refine wpAny_mono (Q := fun v s' => v = .ref hh.objs.size ∧ s' = ⟨hh.push (boundObj cls id x), g, d, t + 1, os⟩) (E := fun _ _ => False)
    (wpAny_call_entry PySem.F.ks_slot_super_ga (hT _) PySem.F.ks_entry_super_ga (b_super_ga b X hx' hso' ho hf hn hxC ⟨_, rfl, rfl, rfl⟩) (PySem.F.ks_gaArgs_super _ _)) (fun v s' hv => ?_) fun _ _ z => z.elim
  obtain ⟨rfl, rfl⟩ := hv
  refine wpAny_pure (wpAny_pure ?_)
  obtain ⟨F', N', l'⟩ := ks_newsPush (s := ⟨hh, g, d, t, os⟩) (o := boundObj cls id x) F N rfl (Heap.get?_push_at rfl rfl) (fun b o e => Heap.get?_push_of_some _ e)
  exact hq _ _ F' N' l'
def BoundAt (q : Addr) (id cls : String) (x : Addr) (h : Heap) : Prop := h.get? q = some (boundObj cls id x)
theorem keeps_B {q : Addr} {id cls ty gid : String} (b : BKind id ty gid cls) (h : Heap) (X : BoundAt q id cls x h) : ∃ k, (k = Keeper.frame ∨ k = Keeper.machine ∨ k = Keeper.boundFrame) ∧ Looks (MM w) h (keeperOf (.ref q)) k := by
  cases b <;> exact ⟨.machine, .inr (.inl rfl), (Looks.ld (part := none) X).andThen .now⟩
theorem b_with0 {id ty gid cls : String} {q : Addr} {pos : Pos} {env : Env} {Q : Value → Shared → Prop} (b : BKind id ty gid cls) (N : News h₀ L s.heap news) (hq : (q, boundObj cls id x) ∈ news)
    (h : wpAny (MM w) A (call (.ref q) []) Q E s) : wpAny (MM w) A (callWith pos (.ref q) [] (backTo pos (starEach [] env)) []) Q E s :=
  callWith_of (P := BoundAt q id cls x) rfl (keeps_B b) (evalArgs_nil3 ⟨(N _ hq).1, h⟩)
theorem b_load {id ty gid cls : String} {q : Addr} {R : Result → Shared → Prop} (b : BKind id ty gid cls) (hq : s.heap.get? q = some (boundObj cls id x))
    (h : wpAny (MM w) A.in1 (checkBoundCall id ⟨[.ref x], []⟩) (fun _ s' => codeAny (MM w) A (.builtin id ⟨[.ref x], []⟩) R s') (fun e s' => R (.error e) s') s) :
    codeAny (MM w) A (.call (.ref q) ⟨[], []⟩) R s := by
  refine codeAny_of_tree ?_
  show wpAny _ A.in1 (callAny (.ref q) _) _ _ _
  unfold callAny
  refine wpAny_bind (wpAny_load hq ?_)
  cases b <;> exact wpAny_bind (wpAny_mono h (fun _ s₁ h₁ => wpAny_pure (And.intro (Code.quiet_builtin _ (by decide +kernel)) h₁)) fun _ _ z => z)

theorem len_args (v : Value) : argsOk "list.__len__" ⟨[v], []⟩ := by unfold argsOk; kernel_rfl
theorem init_args (v : Value) : argsOk "list.__init__" ⟨[v], []⟩ := by unfold argsOk; kernel_rfl
theorem len_kind : builtinKind "list.__len__" = some .slot := by decide +kernel
theorem init_kind : builtinKind "list.__init__" = some .slot := by decide +kernel
theorem check_bound_slot {id : String} {Q : Unit → Shared → Prop} {E' : Value → Shared → Prop} (hk : builtinKind id = some .slot) (ha : argsOk id ⟨[.ref x], []⟩) (h : Q () s) : wpAny (MM w) A (checkBoundCall id ⟨[.ref x], []⟩) Q E' s := by
  delta checkBoundCall
  cases hs : Manifest.signature? id with
  | none => exact wpAny_pure h
  | some sig =>
    have h2 : Bind.checkArgs id sig ⟨[.ref x], []⟩ = pure () := by simp only [argsOk, hs] at ha; exact ha
    dsimp only
    simp only [hk]
    rw [if_pos (by decide)]
    rw [h2]
    exact wpAny_pure h
theorem pop_kind : builtinKind "list.pop" = some .method := by decide +kernel
theorem pop_sig : Manifest.signature? "list.pop" = some ⟨.positional, "list.pop", "pop", .self, [⟨"index", .posOnly, false⟩]⟩ := by kernel_rfl
theorem pop_var : Manifest.varargsMethods.contains "list.pop" = false := by decide +kernel
theorem pop_args (v : Value) : Bind.checkArgs "list.pop" ⟨.positional, "_Accumulator.pop", "pop", .self, [⟨"index", .posOnly, false⟩]⟩ ⟨[v], []⟩ = pure () := by kernel_rfl
theorem acc_clsdata : ∃ cd, clsIn (KM w) 108 = some cd ∧ (toString cd.qualname.toString ++ toString "." ++ toString (Bind.lastOf "list.pop")) = "_Accumulator.pop" := ⟨_, rfl, by decide +kernel⟩
theorem acc_type2 : typeIn (KM w) (.ref 108) = some (.type "type") := rfl
theorem acc_mod : subIn (KM w) (.ref 108) (.type "module") = some false := by kernel_rfl
theorem check_bound_pop {Q : Unit → Shared → Prop} {E' : Value → Shared → Prop} (X : (KM w).In s.heap) (hx : s.heap.get? x = some (accObj dx its ep)) (h : Q () s) : wpAny (MM w) A (checkBoundCall "list.pop" ⟨[.ref x], []⟩) Q E' s := by
  obtain ⟨hh, g, d, t, os⟩ := s
  have f1 : Looks (MM w) hh (isInstance (.ref x) (.type "module")) false := ((Looks.ld hx).andThen .now).andThen (looks_subIn X acc_mod)
  have f2 : Looks (MM w) hh (typeOf (.ref x)) (.ref 108) := (Looks.ld hx).andThen .now
  have f3 : Looks (MM w) hh (isType (.ref x)) false := fun A Q E s k q => by
    unfold isType loadHead
    exact wpAny_bind (wpAny_loadPart (k _ _ hx) (wpAny_pure q))
  obtain ⟨cd, hcd, hcn⟩ := acc_clsdata (w := w)
  have f4 : Looks (MM w) hh (classData 108) cd := looks_clsIn X hcd
  have f5 : Looks (MM w) hh (typeOf (.ref 108)) (.type "type") := looks_typeIn X acc_type2
  delta checkBoundCall
  rw [pop_sig]
  dsimp only
  simp only [pop_kind]
  rw [if_neg (by decide)]
  refine wpAny_bind (f1.at ?_)
  simp only [pop_var, Bool.or_self, Bool.false_eq_true, if_false]
  refine wpAny_bind (f3.at ?_)
  simp only [Bool.false_eq_true, if_false]
  refine wpAny_bind (f2.at ?_)
  dsimp only
  refine wpAny_bind (f4.at ?_)
  refine wpAny_bind (f5.at ?_)
  rw [if_pos (by decide)]
  rw [hcn, pop_args]
  exact wpAny_pure h

theorem e_len : entryFor table "list.__len__" = some Builtin.«list.__len__» := entryFor_of_tree (by kernel_rfl)
theorem e_init : entryFor table "list.__init__" = some Builtin.«list.__init__» := entryFor_of_tree (by kernel_rfl)
theorem e_pop : entryFor table "list.pop" = some Builtin.«list.pop» := entryFor_of_tree (by kernel_rfl)
theorem e_append : entryFor table "list.append" = some Builtin.«list.append» := entryFor_of_tree (by kernel_rfl)
theorem e_iter : entryFor table "list.__iter__" = some Builtin.«list.__iter__» := entryFor_of_tree (by kernel_rfl)
theorem append_args (a b : Value) : argsOk "list.append" ⟨[a, b], []⟩ := by unfold argsOk; kernel_rfl
theorem append_kind : builtinKind "list.append" = some .method := by decide +kernel
theorem append_split : splitId "list.append" = some ("list", "append") := by decide +kernel
theorem b_len {q : Addr} {Q : Value → Shared → Prop} (N : News h₀ L s.heap news) (hx : (x, accObj dx its ep) ∈ news) (hq : (q, boundObj "method-wrapper" "list.__len__" x) ∈ news)
    (h : Q (.int its.size s.toks) { s with toks := s.toks + 1 }) : wpAny (MM w) A (call (.ref q) []) Q E s := by
  have hx' := (N _ hx).1
  have hq' := (N _ hq).1
  with_reducible refine wpAny_call (b_load .len hq' (check_bound_slot len_kind (len_args _) (codeAny_builtin e_len ?_)))
  unfold Builtin.«list.__len__»
  obtain ⟨hh, g, d, t, os⟩ := s
  dsimp only at hx'
  repeat (first | simp only [Bool.not_true, Bool.false_eq_true, if_false] | lk)
  exact h

theorem b_init {q : Addr} {Q : Value → Shared → Prop} (F : Fr h₀ L s.heap m) (N : News h₀ L s.heap news) (hx : (x, accObj dx #[] 0) ∈ news) (hq : (q, boundObj "method-wrapper" "list.__init__" x) ∈ news)
    (h : ∀ h', Fr h₀ L h' m → News h₀ L h' news → Q .none { s with heap := h' }) : wpAny (MM w) A (call (.ref q) []) Q E s := by
  have hx' := (N _ hx).1
  have nx := (N _ hx).2
  have hq' := (N _ hq).1
  with_reducible refine wpAny_call (b_load .init hq' (check_bound_slot init_kind (init_args _) (codeAny_builtin e_init ?_)))
  unfold Builtin.«list.__init__»
  refine wpAny_bind (wpAny_listItems hx' rfl ?_)
  refine wpAny_bind ?_
  show wpAny _ _ (updateSeq x fun _ => #[]) _ _ _
  refine wpAny_updateSeq hx' rfl ?_ (by decide) (by decide)
  show wpAny _ _ (letGo [] >>= _) _ _ _
  refine wpAny_bind (wpAny_pure ?_)
  refine wpAny_pure ?_
  have hself : (s.heap.update x (Obj.mapSeq fun _ => #[])).get? x = some (accObj dx #[] 0) := by rw [Heap.get?_update_self _ hx' rfl]; rfl
  have hsame : Heap.SameBut x s.heap (s.heap.update x (Obj.mapSeq fun _ => #[])) := Heap.SameBut.update ..
  refine h _ (F.change hsame nx.1 nx.2) fun p hp => ⟨?_, (N p hp).2⟩
  by_cases e : p.1 = x
  · have h1 := (N p hp).1
    rw [e] at h1 ⊢
    rw [hself, ← h1, hx']
  · exact (hsame.2 _ e).trans (N p hp).1
end
end Mine
end

section
open PySem PySem.W PyProof.Rows PySem.Calls
open Builtin Builtin.ObjectAttr Builtin.Getset_descriptor
set_option Elab.async false
set_option maxRecDepth 100000
set_option maxHeartbeats 400000
set_option linter.unusedVariables false
set_option linter.unusedSimpArgs false
namespace Mine
section
variable {w : World} {A : Around} {E : Value → Shared → Prop} {x dx : Addr} {its : Array Value} {ep : Nat} {s : Shared} {h₀ : Heap} {L : Addr} {m : Str → Option Value} {news : List (Addr × Obj)}
theorem fits_m1 : List.listFitsIndex (-1) = true := by decide +kernel
theorem last_index (n : Nat) : seqIndex? (-1) (n + 1) = some n := by
  unfold seqIndex?
  first
    | (simp; omega)
    | simp
theorem b_pop {q : Addr} {Q : Value → Shared → Prop} {v : Value} {its' : Array Value} {news' : List (Addr × Obj)} (F : Fr h₀ L s.heap m) (X₀ : (KM w).In h₀) (N : News h₀ L s.heap news) (he : its = its'.push v) (hsz : its.size ≤ 1000) (hq : (q, boundObj "builtin_function_or_method" "list.pop" x) ∈ news)
    (U : Upd x (accObj dx its ep) (accObj dx its' (ep + 1)) news news')
    (h : ∀ h', Fr h₀ L h' m → News h₀ L h' news' → Q v { s with heap := h' }) : wpAny (MM w) A (call (.ref q) []) Q E s := by
  obtain ⟨pre, post, rfl, rfl, ua, ub⟩ := U.split
  have hx : (x, accObj dx its ep) ∈ pre ++ (x, accObj dx its ep) :: post := List.mem_append.mpr (.inr (.head _))
  have hx' := (N _ hx).1
  have nx := (N _ hx).2
  subst he
  have hz : (its'.push v).size ≤ sizeLine := by rw [sizeLine_eq]; omega
  have hq' := (N _ hq).1
  have X' := X₀.keeps F.keep
  with_reducible refine wpAny_call (b_load .pop hq' (check_bound_pop X' hx' (codeAny_builtin e_pop ?_)))
  unfold Builtin.«list.pop»
  refine wpAny_bind (wpAny_pure ?_)
  dsimp only
  refine wpAny_bind (wpAny_pure ?_)
  rw [fits_m1]
  simp only [Bool.not_true, Bool.false_eq_true, if_false]
  refine wpAny_bind (wpAny_listItems hx' rfl ?_)
  have hne : (its'.push v).isEmpty = false := by simp
  rw [hne]
  simp only [Bool.false_eq_true, if_false]
  have hi : ((seqIndex? (-1) (its'.push v).size).bind fun k => Option.map (fun x => (k, x)) (its'.push v)[k]?) = some (its'.size, v) := by
    rw [Array.size_push, last_index]; simp
  rw [hi]
  dsimp only
  refine wpAny_bind ?_
  show wpAny _ _ (updateSeq x _) _ _ _
  refine wpAny_updateSeq hx' rfl ?_ hz ?_
  · refine wpAny_pure ?_
    have hm : Obj.mapSeq (fun y => y.eraseIdxIfInBounds its'.size) (accObj dx (its'.push v) ep) = accObj dx its' (ep + 1) := by
      unfold Obj.mapSeq
      dsimp only
      have h1 : (its'.push v).eraseIdxIfInBounds its'.size = its' := by
        unfold Array.eraseIdxIfInBounds
        rw [dif_pos (by simp)]
        apply Array.ext'
        simp [List.eraseIdx_append_of_length_le]
      rw [h1]
      simp
    have hself : (s.heap.update x (Obj.mapSeq fun y => y.eraseIdxIfInBounds its'.size)).get? x = some (accObj dx its' (ep + 1)) := by rw [Heap.get?_update_self _ hx' (by rw [hm]; rfl), hm]
    have hsame : Heap.SameBut x s.heap (s.heap.update x (Obj.mapSeq fun y => y.eraseIdxIfInBounds its'.size)) := Heap.SameBut.update ..
    exact h _ (F.change hsame nx.1 nx.2) (news_set N ua ub hsame hself)
  · show (Array.eraseIdxIfInBounds _ _).size ≤ _
    unfold Array.eraseIdxIfInBounds
    rw [dif_pos (by simp), Array.size_eraseIdx]
    omega
theorem b_append {Q : Value → Shared → Prop} {v : Value} {news' : List (Addr × Obj)} (F : Fr h₀ L s.heap m) (X₀ : (KM w).In h₀) (N : News h₀ L s.heap news) (hsz : its.size ≤ 1000)
    (U : Upd x (accObj dx its ep) (accObj dx (its.push v) (ep + 1)) news news')
    (h : ∀ h', Fr h₀ L h' m → News h₀ L h' news' → Q .none { s with heap := h' }) : wpAny (MM w) A (call (.builtin "list.append") [.ref x, v]) Q E s := by
  obtain ⟨pre, post, rfl, rfl, ua, ub⟩ := U.split
  have hx : (x, accObj dx its ep) ∈ pre ++ (x, accObj dx its ep) :: post := List.mem_append.mpr (.inr (.head _))
  have hx' := (N _ hx).1
  have nx := (N _ hx).2
  have hz : its.size ≤ sizeLine := by rw [sizeLine_eq]; omega
  have hi := x_list (X₀.keeps F.keep) hx'
  have ha := append_args (.ref x) v
  refine wpAny_call (codeAny_call_builtin_at (Code.quiet_builtin _ (by decide +kernel)) e_append ?_)
  simp only [checkBuiltinCall, append_kind, append_split]
  refine wpAny_bind (hi.here ?_)
  simp only [Bool.not_true, Bool.false_eq_true, if_false]
  have tail : ∀ A', wpAny (MM w) A' (Builtin.«list.append» ⟨[.ref x, v], []⟩) (fun fin s' => match fin with | .done f => (match (Except.ok f : Result) with | .ok (.ret v) => Q v s' | .ok _ => False | .error e => E e s') | .again c' => c'.quiet = true ∧ codeAny (MM w) A c' (fun r s' => match r with | .ok (.ret v) => Q v s' | .ok _ => False | .error e => E e s') s') (fun e s' => match (Except.error e : Result) with | .ok (.ret v) => Q v s' | .ok _ => False | .error e => E e s') s := by
    intro A'
    show wpAny _ _ (updateSeq x (·.push v) >>= fun _ => ret .none) _ _ s
    refine wpAny_bind ?_
    refine wpAny_updateSeq hx' rfl ?_ hz (by simp; omega)
    refine wpAny_pure ?_
    have hm : Obj.mapSeq (fun y => y.push v) (accObj dx its ep) = accObj dx (its.push v) (ep + 1) := by
      unfold Obj.mapSeq
      simp
    have hself : (s.heap.update x (Obj.mapSeq fun y => y.push v)).get? x = some (accObj dx (its.push v) (ep + 1)) := by rw [Heap.get?_update_self _ hx' (by rw [hm]; rfl), hm]
    have hsame : Heap.SameBut x s.heap (s.heap.update x (Obj.mapSeq fun y => y.push v)) := Heap.SameBut.update ..
    exact h _ (F.change hsame nx.1 nx.2) (news_set N ua ub hsame hself)
  cases hs : Manifest.signature? "list.append" with
  | none => exact wpAny_pure (tail _)
  | some sig =>
    have h2 : Bind.checkArgs "list.append" sig ⟨[.ref x, v], []⟩ = pure () := by simp only [argsOk, hs] at ha; exact ha
    show wpAny _ _ (Bind.checkArgs "list.append" sig ⟨[.ref x, v], []⟩) _ _ s
    rw [h2]
    exact wpAny_pure (tail _)
end
end Mine
end

section
open PySem PySem.W PyProof.Rows PySem.Calls Builtin Builtin.ObjectAttr
set_option Elab.async false
set_option maxRecDepth 100000
set_option maxHeartbeats 400000
set_option linter.unusedVariables false
namespace Mine
theorem refuse_acc (v : Value) : refuseLoop v "__setattr__" [.ref 108, .type "list", .type "object"] = pure () := by
  rw [refuseLoop_ref]
  kernel_rfl
section
variable {w : World} {A : Around} {E : Value → Shared → Prop} {x dx : Addr} {its : Array Value} {ep : Nat} {s : Shared} {h₀ : Heap} {L : Addr} {m : Str → Option Value} {news : List (Addr × Obj)} {R : Result → Shared → Prop}
theorem acc_obj {h : Heap} (X : (KM w).In h) : Looks (MM w) h (isSubtype (.ref 108) (.type "object")) true := looks_mroIn X rfl
theorem acc_clsIn : ∃ cd, clsIn (KM w) 108 = some cd ∧ cd.mro = [.ref 108, .type "list", .type "object"] ∧ cd.hasDict = true := ⟨_, rfl, rfl, rfl⟩
theorem acc_store {ox od od' : Obj} {name : Str} {tk : Tok} {v : Value} {pre post : List (Addr × Obj)} {es : List DictEntry} {n : Nat} (F : Fr h₀ L s.heap m) (N : News h₀ L s.heap (pre ++ (dx, od) :: post)) (X : (KM w).In s.heap)
    (I : InstAt s.heap x ox 108 (some od)) (hd : ox.dict = some dx) (hA : takerIn (KM w) 108 name = some none)
    (hl : (lookIn name od).isSome = true) (h1 : ∀ p ∈ pre, p.1 ≠ dx) (h2 : ∀ p ∈ post, p.1 ≠ dx)
    (e : Obj.putName name (PyData.keyHash w.params name) (.str name s.toks) v od = od') (e' : od'.data = .dict es.toArray n) (hz : es.length ≤ 1000)
    (h : ∀ h', Fr h₀ L h' m → News h₀ L h' (pre ++ (dx, od') :: post) → R (.ok (.ret .none)) { s with heap := h', toks := s.toks + 1 }) :
    codeAny (MM w) A (.call (.builtin "object.__setattr__") ⟨[.ref x, .str name tk, v], []⟩) R s := by
  have SF := PySem.F.store_object
  obtain ⟨cd, hc, hmro, hd'⟩ := acc_clsIn (w := w)
  have sub : Looks (MM w) s.heap (isInstance (.ref x) (.type "object")) true := I.type.andThen (acc_obj X)
  refine codeAny_call_builtin SF.slot.plain SF.entry (@check_slot (MM w) _ _ s "object.__setattr__" "object" "__setattr__" (.ref x) [.str name tk, v] [] _ SF.kind SF.split sub (SF.args (.ref x) (.str name tk) v) ?_)
  obtain ⟨attr, ha, hr⟩ := Option.bind_eq_some_iff.mp hA
  have hm : Looks (MM w) s.heap (mroOf (.ref 108)) cd.mro := (looks_clsIn X hc).andThen .now
  have L3 : Looks (MM w) s.heap (storeTaker? attr) none := by
    cases attr with
    | none => exact .now
    | some a =>
      obtain ⟨b, hb, hbb⟩ := Option.map_eq_some_iff.mp hr
      refine (looks_takesIn X hb).andThen ?_
      cases b
      · exact .now
      · cases hbb
  rw [osa_eq, refuse_eq]
  refine wpAny_bind (wpAny_bind (I.type.here (wpAny_bind (hm.here ?_))))
  rw [hmro, refuse_acc]
  refine wpAny_pure (wpAny_bind (I.type.here (wpAny_bind ((looks_findIn X ha).here (wpAny_bind (L3.here ?_))))))
  obtain ⟨U1, U2⟩ := news_upd (f := Obj.putName name (PyData.keyHash w.params name) (.str name s.toks) v) F N h1 h2 e (by obtain ⟨_, _, dd, _⟩ := od'; cases e'; rfl)
  have D := (N (dx, od) (by simp)).1
  have D' := (U2 (dx, od') (by simp)).1
  obtain ⟨hx, hcl, hn, -⟩ := I
  obtain ⟨oc, odi, oda, osl⟩ := ox
  dsimp only at hcl hd
  subst hcl hd
  refine wpAny_bind (wpAny_pure (wpAny_bind (wpAny_bind (wpAny_loadPart hx (wpAny_bind ((looks_clsIn X hc).here ?_))))))
  rw [hd']
  refine wpAny_pure (a := some dx) (wpAny_bind (wpAny_pure (wpAny_bind ?_)))
  unfold nsSet
  refine wpAny_bind (wpAny_bind (wpAny_askSetting (wpAny_pure (wpAny_bind (wpAny_mkText (wpAny_bind (wpAny_loadPart D ?_)))))))
  unfold lookIn at hl
  split at hl
  · rename_i es₀ n₀ q
    rw [q]
    dsimp only
    have c : (!es₀.any (·.key.isStr name) && es₀.any (·.refKey)) = false := by
      rw [← Array.any_toList, ← Array.any_toList]
      split at hl
      · rename_i en he
        rw [List.any_eq_true.mpr ⟨en, List.mem_of_find?_eq_some he, List.find?_some he⟩]; rfl
      · split at hl
        · cases hl
        · rename_i z; rw [Bool.not_eq_true] at z; rw [z, Bool.and_false]
    rw [aRefKeyMayBeTheName_at, c]
    refine wpAny_updatePart D ?_
    refine wpAny_bind (wpAny_lookBehind D' (by rw [e']; exact pastItsLine_dict (by rw [List.size_toArray, sizeLine_eq]; omega)) ?_)
    exact wpAny_pure (h _ U1 U2)
  · cases hl
theorem acc_set {ox : Obj} {es es' : List DictEntry} {n n' : Nat} {name : Str} {v : Value} {news' : List (Addr × Obj)} {Q : Unit → Shared → Prop} (F : Fr h₀ L s.heap m) (X₀ : (KM w).In h₀) (N : News h₀ L s.heap news) (I : InstAt s.heap x ox 108 (some (dictOf es n))) (hd : ox.dict = some dx)
    (hs : findIn (KM w) (.ref 108) "__setattr__" = some (some (.builtin "object.__setattr__"))) (ht : takerIn (KM w) 108 name = some none) (hl : (getL name es).isSome = true)
    (e : (putL name (PyData.keyHash w.params name) (.str name (s.toks + 1)) v es, putN name es n) = (es', n')) (U : Upd dx (dictOf es n) (dictOf es' n') news news') (hz : es'.length ≤ 1000)
    (h : ∀ h', Fr h₀ L h' m → News h₀ L h' news' → Q () { s with heap := h', toks := s.toks + 2 }) : wpAny (MM w) A (setAttr (.ref x) name v) Q E s := by
  obtain ⟨pre, post, rfl, rfl, a, b⟩ := U.split
  obtain ⟨e1, e2⟩ := Prod.mk.inj e
  have X := X₀.keeps F.keep
  refine set_plain X I hs ?_
  exact acc_store (s := { s with toks := s.toks + 1 }) F N X I hd ht (by rw [lookIn_dict]; cases q : getL name es with | none => rw [q] at hl; cases hl | some _ => rfl) a b (by rw [putName_dict, e1, e2]) rfl hz fun h' F' N' => h h' F' N'

theorem lga_canon : (Manifest.canonical "list.__getattribute__" != "object.__getattribute__") = false := by decide +kernel
theorem lga_entry : entryFor table "list.__getattribute__" = some Builtin.«object.__getattribute__» := entryFor_alias (id' := "object.__getattribute__") (by kernel_rfl) (by decide +kernel) (by decide +kernel) (by kernel_rfl)
theorem lga_kind : builtinKind "list.__getattribute__" = some .slot := by decide +kernel
theorem lga_split : splitId "list.__getattribute__" = some ("list", "__getattribute__") := by decide +kernel
theorem lga_args (a b : Value) : argsOk "list.__getattribute__" ⟨[a, b], []⟩ := by unfold argsOk; kernel_rfl
theorem lga_slot : Slot "list" "__getattribute__" "list.__getattribute__" :=
  .of (owner := "list") (n := "__getattribute__") (by rw [typeLookup_type, builtinLookup_eq_fast]; kernel_rfl) lga_split (by decide +kernel) (by decide +kernel) (.inl (by decide +kernel)) (by rw [isSubtype_type]; kernel_rfl)
theorem lga_find : findIn (KM w) (.ref 108) "__getattribute__" = some (some (.builtin "list.__getattribute__")) := by kernel_rfl
theorem lga_hook : findIn (KM w) (.ref 108) "__getattr__" = some none := by kernel_rfl
theorem acc_method {ox : Obj} {es : List DictEntry} {n : Nat} {name : Str} {f tf : Value} {pl : Sem Bool} {Q : Value × List Value → Shared → Prop} (F : Fr h₀ L s.heap m) (X₀ : (KM w).In h₀) (I : InstAt s.heap x ox 108 (some (dictOf es n)))
    (hf : findIn (KM w) (.ref 108) name = some (some f)) (ht : Looks (MM w) s.heap (typeOf f) tf) (htf : (tf != .type "function" && tf != .type "method_descriptor" && tf != .type "wrapper_descriptor") = false) (hl : getL name es = some none)
    (h : Q (f, [.ref x]) s) : wpAny (MM w) A (getMethod (.ref x) name pl) Q E s := by
  have X := X₀.keeps F.keep
  have hcan := lga_canon
  unfold getMethod specialOf
  refine wpAny_bind (wpAny_bind (I.type.here ((looks_findIn X lga_find).here ?_)))
  dsimp only
  rw [hcan, if_neg (by decide)]
  refine wpAny_bind (wpAny_bind (I.type.here ((looks_findIn X lga_hook).here ?_)))
  refine wpAny_bind (wpAny_bind (I.type.here ((looks_findIn X hf).here (wpAny_bind (ht.here ?_)))))
  rw [htf, if_neg (by decide)]
  refine wpAny_bind (wpAny_loadPart I.at_ ?_)
  have hd := I.dict
  cases e : ox.dict with
  | none => exact wpAny_bind (wpAny_rule (wpAny_pure h))
  | some dx =>
    rw [e] at hd
    refine wpAny_bind (wpAny_bind (wpAny_loadPart hd ?_))
    rw [nsLook_of (r := none) (by rw [lookIn_dict]; exact hl)]
    refine wpAny_pure ?_
    exact wpAny_bind (wpAny_rule (wpAny_pure h))
theorem acc_append {ox : Obj} {es : List DictEntry} {n : Nat} {pl : Sem Bool} {Q : Value × List Value → Shared → Prop} (F : Fr h₀ L s.heap m) (X₀ : (KM w).In h₀) (I : InstAt s.heap x ox 108 (some (dictOf es n))) (hl : getL "append" es = some none)
    (h : Q (.builtin "list.append", [.ref x]) s) : wpAny (MM w) A (getMethod (.ref x) (Str.ofString "append") pl) Q E s :=
  acc_method F X₀ I (by kernel_rfl) (Looks.of_pure typ_append) (by decide +kernel) hl h
theorem acc_fn {ox : Obj} {es : List DictEntry} {n : Nat} {name : Str} {f : Addr} {pl : Sem Bool} {Q : Value × List Value → Shared → Prop} (F : Fr h₀ L s.heap m) (X₀ : (tp.heap_39 w.params).In h₀) (I : InstAt s.heap x ox 108 (some (dictOf es n)))
    (hf : findIn (tp.heap_39 w.params) (.ref 108) name = some (some (.ref f))) (ht : isFn (tp.heap_39 w.params) (.ref f) = true) (hl : getL name es = some none)
    (h : Q (.ref f, [.ref x]) s) : wpAny (MM w) A (getMethod (.ref x) name pl) Q E s :=
  acc_method F X₀ I hf (looks_typeIn (X₀.keeps F.keep) (beq_iff_eq.mp ht)) (by decide +kernel) hl h
theorem ga_value {hh : Heap} {g : Array GenState} {d : Drawn} {t : Nat} {os : OsState} {ox : Obj} {od : Option Obj} {name : Str} {v : Value} {tk : Tok} {Q : PySem.Fin → Shared → Prop} (X : (KM w).In hh) (I : InstAt hh x ox 108 od)
    (hf : findObj (KM w) 108 od name = some (.value v)) (h : Q (.done (.ret v)) ⟨hh, g, d, t, os⟩) :
    wpAny (MM w) A (Builtin.«object.__getattribute__» ⟨[.ref x, .str name tk], []⟩) Q E ⟨hh, g, d, t, os⟩ := by
  have L0 := I.type (M := MM w)
  have L3 := looks_find (M := MM w) X I hf
  unfold Builtin.«object.__getattribute__»
  refine wpAny_bind (m := slotArgs "__getattribute__" 1 _) (wpAny_pure ?_)
  dsimp only
  refine wpAny_bind (wpAny_pure ?_)
  refine wpAny_bind (L0.at ?_)
  refine wpAny_bind (L3.at ?_)
  exact wpAny_pure h
theorem ga_call {hh : Heap} {g : Array GenState} {d : Drawn} {t : Nat} {os : OsState} {od : Option Obj} {name : Str} {v : Value} {tk : Tok} {Q : Value → Shared → Prop} (X : (KM w).In hh) (I : InstAt hh x (accObj dx its ep) 108 od)
    (hf : findObj (KM w) 108 od name = some (.value v)) (h : Q v ⟨hh, g, d, t, os⟩) :
    wpAny (MM w) A (call (.builtin "list.__getattribute__") [.ref x, .str name tk]) Q E ⟨hh, g, d, t, os⟩ := by
  have L4 : Looks (MM w) hh (isInstance (.ref x) (.type "list")) true := x_list X I.at_
  refine wpAny_call ?_
  refine codeAny_call_builtin_at (Code.quiet_builtin _ (by decide +kernel)) lga_entry ?_
  have ha := lga_args (.ref x) (.str name tk)
  simp only [checkBuiltinCall, lga_kind, lga_split]
  refine wpAny_bind (L4.at ?_)
  simp only [Bool.not_true, Bool.false_eq_true, if_false]
  have tail : ∀ A', wpAny (MM w) A' (Builtin.«object.__getattribute__» ⟨[.ref x, .str name tk], []⟩) (fun fin s' => match fin with | .done f => (match (Except.ok f : Result) with | .ok (.ret v) => Q v s' | .ok _ => False | .error e => E e s') | .again c' => c'.quiet = true ∧ codeAny (MM w) A c' (fun r s' => match r with | .ok (.ret v) => Q v s' | .ok _ => False | .error e => E e s') s') (fun e s' => match (Except.error e : Result) with | .ok (.ret v) => Q v s' | .ok _ => False | .error e => E e s') ⟨hh, g, d, t, os⟩ := by
    intro A'
    refine ga_value X I hf ?_
    exact h
  cases hs : Manifest.signature? "list.__getattribute__" with
  | none => exact wpAny_pure (tail _)
  | some sig =>
    have h2 : Bind.checkArgs "list.__getattribute__" sig ⟨[.ref x, .str name tk], []⟩ = pure () := by simp only [argsOk, hs] at ha; exact ha
    show wpAny _ _ (Bind.checkArgs "list.__getattribute__" sig ⟨[.ref x, .str name tk], []⟩) _ _ _
    rw [h2]
    exact wpAny_pure (tail _)
theorem acc_get {ox : Obj} {es : List DictEntry} {n : Nat} {name : Str} {v : Value} {expr : Bool} {Q : Value → Shared → Prop} (F : Fr h₀ L s.heap m) (X₀ : (KM w).In h₀) (I : InstAt s.heap x (accObj dx its ep) 108 (some (dictOf es n)))
    (hf : findObj (KM w) 108 (some (dictOf es n)) name = some (.value v)) (hv : handedIn v = true)
    (h : Q v { s with toks := s.toks + 1 }) : wpAny (MM w) A (getAttr (.ref x) name expr) Q E s := by
  have X := X₀.keeps F.keep
  obtain ⟨hh, g, d, t, os⟩ := s
  have L0 := I.type (M := MM w)
  have L1 := looks_findIn (M := MM w) X lga_find
  have L2 := looks_findIn (M := MM w) X lga_hook
  unfold getAttr getAttrBy
  refine wpAny_bind (wpAny_mkText (wpAny_holding (wpAny_bind (L0.at (wpAny_bind (L1.at ?_))))))
  show wpAny _ _ (getAttrByItsOwn _ _ _ _ _ _) _ _ _
  unfold getAttrByItsOwn hookBefore callGetattribute boundAndCalled
  refine wpAny_bind ?_
  show wpAny _ _ (typeLookup (.ref 108) "__getattr__") _ _ _
  refine L2.at ?_
  refine wpAny_bind (wpAny_attempt (wpAny_holding ?_))
  have hexp : (expr && onTheHeap (.builtin "list.__getattribute__")) = false := by cases expr <;> rfl
  rw [hexp, if_neg (by decide)]
  refine wpAny_bind (wpAny_of_eq (lga_slot.bind _) ?_)
  refine ga_call X I hf ?_
  exact handed_on hv h
end
end Mine
end

section
open PySem PySem.W PyProof.Rows PySem.Calls
set_option Elab.async false
set_option maxRecDepth 100000
set_option maxHeartbeats 4000000
set_option linter.unusedVariables false
namespace Mine
theorem fillK11 : PySem.Challenge.rw_wu0012_01 = PySem.Challenge.rw_wu0012_01 ∧ tp.heap_39 = tp.heap_39 := by
  k_fill
  exact ⟨rfl, rfl⟩
section
variable {w : World} {A : Around} {E : Value → Shared → Prop} {x dx : Addr} {its : Array Value} {ep : Nat} {s : Shared} {h₀ : Heap} {L : Addr} {m : Str → Option Value} {news : List (Addr × Obj)}
theorem acc_K {v : Value} {Q : Value → Shared → Prop} (F : Fr h₀ L s.heap m) (X₀ : (KM w).In h₀) (N : News h₀ L s.heap news)
    (h : ∀ x dx h', Fr h₀ L h' m → News h₀ L h' ((x, accObj dx #[] 0) :: (dx, dictOf [] 0) :: news) → (∀ p ∈ news, p.1 < dx) → dx < x →
      codeAny (MM w) (A.under (.builtin "type.__call__" ⟨[.ref 108, v], []⟩)) (.call (.ref 45) ⟨[.ref x, v], []⟩) (InitBack x fun r s' => match r with | .ok (.ret v) => Q v s' | .ok _ => False | .error e => E e s') { s with heap := h' }) :
    wpAny (MM w) A (call (.ref 108) [v]) Q E s := by
  obtain ⟨hh, g, d, t, os⟩ := s
  refine wpAny_call (acc_make (X₀.keeps F.keep) (h _ hh.objs.size _ ((F.push _).push _) ?_ (fun p hp => Heap.lt_size (N p hp).1) (Nat.lt_succ_self _)))
  have := (N.push F noneDict).push (F.push _) (accObj hh.objs.size #[] 0)
  rwa [Heap.size_push] at this
theorem sup_any : nsIn (KM w) cStatics "thirdparty.any" = some none := by kernel_rfl
theorem sup_cls : (KM w).lookup 108 ≠ none := by
  intro h
  obtain ⟨cd, h1, _⟩ := acc_clsdata (w := w)
  unfold clsIn at h1
  rw [h] at h1
  cases h1
theorem sup_len {so : Addr} {pl : Sem Bool} {Q : Value × List Value → Shared → Prop} (F : Fr h₀ L s.heap m) (X₀ : (KM w).In h₀) (N : News h₀ L s.heap news) (hx : (x, accObj dx its ep) ∈ news) (hso : (so, ks_superObj 108 x 108) ∈ news)
    (hq : ∀ q h', Fr h₀ L h' m → News h₀ L h' ((q, boundObj "method-wrapper" "list.__len__" x) :: news) → (∀ p ∈ news, p.1 < q) → Q (.ref q, []) { s with heap := h', toks := s.toks + 1 }) :
    wpAny (MM w) A (getMethod (.ref so) (Str.ofString "__len__") pl) Q E s := b_super .len F X₀ N hx hso sup_any (by kernel_rfl) (by decide) sup_cls hq
theorem sup_init {so : Addr} {pl : Sem Bool} {Q : Value × List Value → Shared → Prop} (F : Fr h₀ L s.heap m) (X₀ : (KM w).In h₀) (N : News h₀ L s.heap news) (hx : (x, accObj dx its ep) ∈ news) (hso : (so, ks_superObj 108 x 108) ∈ news)
    (hq : ∀ q h', Fr h₀ L h' m → News h₀ L h' ((q, boundObj "method-wrapper" "list.__init__" x) :: news) → (∀ p ∈ news, p.1 < q) → Q (.ref q, []) { s with heap := h', toks := s.toks + 1 }) :
    wpAny (MM w) A (getMethod (.ref so) (Str.ofString "__init__") pl) Q E s := b_super .init F X₀ N hx hso sup_any (by kernel_rfl) (by decide) sup_cls hq
theorem sup_pop {so : Addr} {pl : Sem Bool} {Q : Value × List Value → Shared → Prop} (F : Fr h₀ L s.heap m) (X₀ : (KM w).In h₀) (N : News h₀ L s.heap news) (hx : (x, accObj dx its ep) ∈ news) (hso : (so, ks_superObj 108 x 108) ∈ news)
    (hq : ∀ q h', Fr h₀ L h' m → News h₀ L h' ((q, boundObj "builtin_function_or_method" "list.pop" x) :: news) → (∀ p ∈ news, p.1 < q) → Q (.ref q, []) { s with heap := h', toks := s.toks + 1 }) :
    wpAny (MM w) A (getMethod (.ref so) (Str.ofString "pop") pl) Q E s := b_super .pop F X₀ N hx hso sup_any (by kernel_rfl) (by decide) sup_cls hq
noncomputable abbrev szEs (w : World) (tk tv : Tok) (low : Int) : List DictEntry := [{ hash := PyData.keyHash w.params (Str.ofString "_initial_size"), key := .str (Str.ofString "_initial_size") tk, val := .int low tv }]
end
theorem kw16 : True := by
  k_with_none
  k_with "k_inst" =>
    ((refine' inst_seq ?N ?h1 ?h2; (case N => k_asm); (case h1 => k_mem); (case h2 => k_mem)))
  trivial
theorem kw17 : True := by
  k_with "k_all" =>
    (first | with_reducible assumption | exact ne_under (by with_reducible assumption) (by omega) | (refine' List.forall_mem_cons.mpr ⟨?a, ?b⟩; (case a => k_ne); (case b => k_all)))
  trivial
theorem kw18 : True := by
  k_with "k_room" =>
    (ktr_room)
  trivial
theorem kw19 : True := by
  k_with "getMethod ref" =>
    ((k_here; k_dflt (first | (refine' sup_len ?k1 ?k2 ?k3 ?k4 ?k5 ?_; (case k1 => k_asm); (case k2 => k_asm); (case k3 => k_asm); (case k4 => k_mem); (case k5 => k_mem)) | (refine' sup_init ?k1 ?k2 ?k3 ?k4 ?k5 ?_; (case k1 => k_asm); (case k2 => k_asm); (case k3 => k_asm); (case k4 => k_mem); (case k5 => k_mem)) | (refine' sup_pop ?k1 ?k2 ?k3 ?k4 ?k5 ?_; (case k1 => k_asm); (case k2 => k_asm); (case k3 => k_asm); (case k4 => k_mem); (case k5 => k_mem))); k_whole; intro q' h' F' N' l1; (try k_lt l1)))
  trivial
theorem kw20 : True := by
  k_with "getMethod ref" =>
    ((k_here; k_dflt (refine' acc_fn ?k1 ?k2 ?k3 ?k4 ?k5 ?k6 ?_; (case k1 => k_asm); (case k2 => k_asm); (case k3 => k_inst); (case k4 => k_is); (case k5 => k_is); (case k6 => k_get))))
  trivial
theorem kw21 : True := by
  k_with "getMethod ref" =>
    ((k_here; k_dflt (refine' acc_append ?k1 ?k2 ?k3 ?k4 ?_; (case k1 => k_asm); (case k2 => k_asm); (case k3 => k_inst); (case k4 => k_get))))
  trivial
theorem kw22 : True := by
  k_with "call builtin:list.append" =>
    ((k_here; k_dflt (refine' b_append ?k1 ?k2 ?k3 ?k4 ?k5 ?_; (case k1 => k_asm); (case k2 => k_asm); (case k3 => k_asm); (case k4 => assumption); (case k5 => k_upd); intro h' F' N'; (try k_sweep))))
  trivial
theorem kw23 : True := by
  k_with "callWith ref" =>
    ((k_here; k_dflt (first | (refine' b_with0 .len ?k1 ?k2 ?_; (case k1 => k_asm); (case k2 => k_mem)) | (refine' b_with0 .init ?k1 ?k2 ?_; (case k1 => k_asm); (case k2 => k_mem)) | (refine' b_with0 .pop ?k1 ?k2 ?_; (case k1 => k_asm); (case k2 => k_mem))); k_whole))
  trivial
theorem kw24 : True := by
  k_with "call ref" =>
    ((k_here; (with_reducible show wpAny _ _ (call (Value.ref _) []) _ _ _); k_dflt (first
      | (refine' b_init ?k1 ?k2 ?k3 ?k4 ?_; (case k1 => k_asm); (case k2 => k_asm); (case k3 => k_mem); (case k4 => k_mem); k_whole; intro h' F' N')
      | (refine' b_len ?k1 ?k2 ?k3 ?_; (case k1 => k_asm); (case k2 => k_mem); (case k3 => k_mem); k_whole))))
  trivial


theorem kw25 : True := by
  k_with "setAttr ref" =>
    ((k_here; k_dflt (refine' acc_set ?k1 ?k2 ?k3 ?k4 ?k5 ?k6 ?k7 ?k8 ?k9 ?k10 ?k11 ?_; (case k1 => k_asm); (case k2 => k_asm); (case k3 => k_asm); (case k4 => k_inst); (case k5 => exact rfl); (case k6 => kernel_rfl); (case k7 => kernel_rfl); (case k8 => k_get); (case k9 => k_put); (case k10 => k_upd); (case k11 => exact Nat.le_of_ble_eq_true rfl); k_whole; intro h' F' N'; (try k_sweep))))
  trivial
theorem kw26 : True := by
  k_with "wpAt" =>
    (k_dflt (first | (ks_step "exec Expr"; refine ks_wpAt_Expr_any ?_) | (ks_step "exec Return"; refine ks_wpAt_Return_some ?_) | (ks_step "eval Call"; refine ks_wpAt_MethodCall ?_)))
  trivial
theorem acc_walk {w : World} {pp : Program} {loose : List Str} {mean : ExcName → Option Value} {mg mb : Str → Option Value} {low : Int} {tl : Tok}
    {dp un : Nat} {gd : Option (List Code)} {cn : Str} {cs : Scope} {a : Addr} {ccd : Value} {cl : List (Str × Addr)} {outer : List Env} {A₀ : Around} {base h₀ : Heap} {L : Addr} {m : Str → Option Value} {news : List (Addr × Obj)} {s : Shared} {Q E : Value → Shared → Prop}
    (B : Below A₀ base outer h₀) (F : Fr h₀ L s.heap m) (X₀ : (tp.heap_39 w.params).In h₀) (N : News h₀ L s.heap news) (T : Top pp loose mean mg mb h₀) (hk : cs.kind = .function)
    (hdp : dp + 2 < recursionLimit) (hun : un + 16 < cLine)
    (ret : ∀ x dx tk tv h' tk', Fr h₀ L h' m → News h₀ L h' ((x, accObj dx #[] 0) :: (dx, dictOf (szEs w tk tv low) 1) :: news) → (∀ p ∈ news, p.1 < dx) → dx < x → Q (.ref x) { s with heap := h', toks := tk' }) :
    wpAny (model PySem.Challenge.rw_wu0012_01.row.prog w) (ktrTop dp un gd cn cs L a ccd cl outer) (call (.ref 108) [.int low tl]) Q E s := by
  refine acc_K F X₀ N ?_
  intro x dx h' F' N' la lb
  have hu : Under dx news := allLt_of la
  have l2 := ltN lb
  k_dflt ((refine' ks_code_super (binds := [(Str.ofString "self", .ref x), (Str.ofString "initial_size", .int low tl)]) ?k1 ?k2 ?k3 ?k4 ?k5 ?kA ?kF ?kK ?k6 ?k7 ?k8 ?k9 ?kB ?_ ?c1 ?c2 ?c3 ?c4; (case kA => exact rfl); (case kF => exact rfl); (case kK => exact hk); (case k1 => k_asm); (case k2 => k_asm); (case k3 => k_asm); (case k4 => k_asm); (case k5 => k_asm); (case k6 => k_is); (case k7 => k_is); (case k8 => k_room); (case k9 => exact kp_binds (X₀.keeps F'.keep) (fun _ => rfl)); (case kB => exact locs rfl); (case c1 => decide); (case c2 => exact rfl); (case c3 => exact rfl); (case c4 => exact rfl); intro g' L' h' FG' F' N' B' X' T' l1; (try dsimp only); (try k_lift B')))
  have hu2 : Under L' ((x, accObj dx #[] 0) :: (dx, dictOf [] 0) :: news) := allLt_of l1
  repeat' (first | (k_unfold; (try dsimp only)) | (k_end; wrow_close) | (walk1; all_goals (try dsimp only)) | (leave1; walk_say "STEP leave1"; try dsimp only) | fail "no step")
  (with_reducible rename News _ _ _ _ => kN')
  refine' ret _ _ _ _ _ _ (by with_reducible assumption) (fun p hp => kN' p ?_) la lb
  rotate_right
  repeat (first | exact hp | refine List.mem_cons_of_mem _ ?_)
theorem pc_walk {w : World} {pp : Program} {loose : List Str} {mean : ExcName → Option Value} {mg mb : Str → Option Value} {x dx : Addr} {its : Array Value} {ep : Nat} {es : List DictEntry} {low : Int} {tk tv : Tok}
    {dp un : Nat} {gd : Option (List Code)} {cn : Str} {cs : Scope} {a : Addr} {ccd : Value} {cl : List (Str × Addr)} {outer : List Env} {A₀ : Around} {base h₀ : Heap} {L : Addr} {m : Str → Option Value} {news : List (Addr × Obj)} {s : Shared} {Q E : Value → Shared → Prop}
    (B : Below A₀ base outer h₀) (F : Fr h₀ L s.heap m) (X₀ : (tp.heap_39 w.params).In h₀) (N : News h₀ L s.heap ((x, accObj dx its ep) :: (dx, dictOf (szEs w tk tv low) 1) :: news)) (T : Top pp loose mean mg mb h₀) (hk : cs.kind = .function)
    (hdp : dp + 2 < recursionLimit) (hun : un + 16 < cLine)
    (ret : ∀ t h' tk', Fr h₀ L h' m → News h₀ L h' ((x, accObj dx its ep) :: (dx, dictOf (szEs w tk tv low) 1) :: news) → Q (.int its.size t) { s with heap := h', toks := tk' }) :
    wpAny (model PySem.Challenge.rw_wu0012_01.row.prog w) (ktrTop dp un gd cn cs L a ccd cl outer) (call (.ref 105) [.ref x]) Q E s := by
  refine wpAny_call ?_
  k_dflt ((refine' ks_code_super ?k1 ?k2 ?k3 ?k4 ?k5 ?kA ?kF ?kK ?k6 ?k7 ?k8 ?k9 ?kB ?_ ?c1 ?c2 ?c3 ?c4; (case kA => exact rfl); (case kF => exact rfl); (case kK => exact hk); (case k1 => k_asm); (case k2 => k_asm); (case k3 => k_asm); (case k4 => k_asm); (case k5 => k_asm); (case k6 => k_is); (case k7 => k_is); (case k8 => k_room); (case k9 => exact BindsTo.of_eq rfl); (case kB => exact locs rfl); (case c1 => decide); (case c2 => exact rfl); (case c3 => exact rfl); (case c4 => exact rfl); intro g' L' h' FG' F' N' B' X' T' l1; (try dsimp only); (try k_lift B')))
  have hu2 : Under L' _ := allLt_of l1
  repeat' (first | (k_unfold; (try dsimp only)) | (k_end; wrow_close) | (walk1; all_goals (try dsimp only)) | (leave1; walk_say "STEP leave1"; try dsimp only) | fail "no step")
  refine ret _ _ _ (by with_reducible assumption) (cb_drop (by with_reducible assumption) ?_)
  intro p hp
  repeat (first | exact hp | refine List.mem_cons_of_mem _ ?_)
theorem push_walk {w : World} {pp : Program} {loose : List Str} {mean : ExcName → Option Value} {mg mb : Str → Option Value} {x dx : Addr} {its : Array Value} {ep : Nat} {es : List DictEntry} {low : Int} {tk tv t1 t2 : Tok} {c1 c2 : Str}
    {dp un : Nat} {gd : Option (List Code)} {cn : Str} {cs : Scope} {a : Addr} {ccd : Value} {cl : List (Str × Addr)} {outer : List Env} {A₀ : Around} {base h₀ : Heap} {L : Addr} {m : Str → Option Value} {news : List (Addr × Obj)} {s : Shared} {Q E : Value → Shared → Prop}
    (hsz : its.size ≤ 1000) (hxd : x ≠ dx) (hn : ∀ p ∈ news, p.1 ≠ x)
    (B : Below A₀ base outer h₀) (F : Fr h₀ L s.heap m) (X₀ : (tp.heap_39 w.params).In h₀) (N : News h₀ L s.heap ((x, accObj dx its ep) :: (dx, dictOf (szEs w tk tv low) 1) :: news)) (T : Top pp loose mean mg mb h₀) (hk : cs.kind = .function)
    (hdp : dp + 2 < recursionLimit) (hun : un + 16 < cLine)
    (ret : ∀ q h' tk', Fr h₀ L h' m → News h₀ L h' ((q, { cls := .type "tuple", data := .seq #[.str c1 t1, .str c2 t2] }) :: (x, accObj dx (its.push (.ref q)) (ep + 1)) :: (dx, dictOf (szEs w tk tv low) 1) :: news) → (∀ p ∈ (x, accObj dx its ep) :: (dx, dictOf (szEs w tk tv low) 1) :: news, p.1 < q) → Q .none { s with heap := h', toks := tk' }) :
    wpAny (model PySem.Challenge.rw_wu0012_01.row.prog w) (ktrTop dp un gd cn cs L a ccd cl outer) (call (.ref 52) [.ref x, .str c1 t1, .str c2 t2]) Q E s := by
  have hxd1 := neN hxd
  have hxd2 := neN hxd.symm
  refine wpAny_call ?_
  k_dflt cell_enter
  repeat' (first | (k_unfold; (try dsimp only)) | (k_end; wrow_close) | (walk1; all_goals (try dsimp only)) | (leave1; walk_say "STEP leave1"; try dsimp only) | fail "no step")
  refine ret _ _ _ (by with_reducible assumption) (by with_reducible assumption) ?_
  exact lt_of_all (by assumption)
end Mine
end

section
open PySem PySem.W PyProof.Rows PySem.Calls
set_option Elab.async false
set_option maxRecDepth 100000
set_option maxHeartbeats 4000000
set_option linter.unusedVariables false
namespace Mine
theorem fillK13 : PySem.Challenge.rw_wu0012_01 = PySem.Challenge.rw_wu0012_01 ∧ tp.heap_39 = tp.heap_39 := by
  k_fill
  exact ⟨rfl, rfl⟩
theorem kw27 : True := by
  k_with_none
  k_with "k_inst" =>
    ((refine' inst_seq ?N ?h1 ?h2; (case N => k_asm); (case h1 => k_mem); (case h2 => k_mem)))
  trivial
theorem kw28 : True := by
  k_with "k_all" =>
    (first | with_reducible assumption | exact ne_under (by with_reducible assumption) (by omega) | (refine' List.forall_mem_cons.mpr ⟨?a, ?b⟩; (case a => k_ne); (case b => k_all)))
  trivial
theorem kw29 : True := by
  k_with "k_room" =>
    (ktr_room)
  trivial
theorem kw30 : True := by
  k_with "getMethod ref" =>
    ((k_here; k_dflt (first | (refine' sup_len ?k1 ?k2 ?k3 ?k4 ?k5 ?_; (case k1 => k_asm); (case k2 => k_asm); (case k3 => k_asm); (case k4 => k_mem); (case k5 => k_mem)) | (refine' sup_init ?k1 ?k2 ?k3 ?k4 ?k5 ?_; (case k1 => k_asm); (case k2 => k_asm); (case k3 => k_asm); (case k4 => k_mem); (case k5 => k_mem)) | (refine' sup_pop ?k1 ?k2 ?k3 ?k4 ?k5 ?_; (case k1 => k_asm); (case k2 => k_asm); (case k3 => k_asm); (case k4 => k_mem); (case k5 => k_mem))); k_whole; intro q' h' F' N' l1; (try k_lt l1)))
  trivial
theorem kw31 : True := by
  k_with "getMethod ref" =>
    ((k_here; k_dflt (refine' acc_fn ?k1 ?k2 ?k3 ?k4 ?k5 ?k6 ?_; (case k1 => k_asm); (case k2 => k_asm); (case k3 => k_inst); (case k4 => k_is); (case k5 => k_is); (case k6 => k_get))))
  trivial
theorem kw32 : True := by
  k_with "getMethod ref" =>
    ((k_here; k_dflt (refine' acc_append ?k1 ?k2 ?k3 ?k4 ?_; (case k1 => k_asm); (case k2 => k_asm); (case k3 => k_inst); (case k4 => k_get))))
  trivial
theorem kw33 : True := by
  k_with "call builtin:list.append" =>
    ((k_here; k_dflt (refine' b_append ?k1 ?k2 ?k3 ?k4 ?k5 ?_; (case k1 => k_asm); (case k2 => k_asm); (case k3 => k_asm); (case k4 => assumption); (case k5 => k_upd); intro h' F' N'; (try k_sweep))))
  trivial
theorem kw34 : True := by
  k_with "callWith ref" =>
    ((k_here; k_dflt (first | (refine' b_with0 .len ?k1 ?k2 ?_; (case k1 => k_asm); (case k2 => k_mem)) | (refine' b_with0 .init ?k1 ?k2 ?_; (case k1 => k_asm); (case k2 => k_mem)) | (refine' b_with0 .pop ?k1 ?k2 ?_; (case k1 => k_asm); (case k2 => k_mem))); k_whole))
  trivial
theorem kw35 : True := by
  k_with "call ref" =>
    ((k_here; (with_reducible show wpAny _ _ (call (Value.ref _) []) _ _ _); k_dflt (first
      | (refine' b_init ?k1 ?k2 ?k3 ?k4 ?_; (case k1 => k_asm); (case k2 => k_asm); (case k3 => k_mem); (case k4 => k_mem); k_whole; intro h' F' N')
      | (refine' b_len ?k1 ?k2 ?k3 ?_; (case k1 => k_asm); (case k2 => k_mem); (case k3 => k_mem); k_whole))))
  trivial


theorem kw36 : True := by
  k_with "setAttr ref" =>
    ((k_here; k_dflt (refine' acc_set ?k1 ?k2 ?k3 ?k4 ?k5 ?k6 ?k7 ?k8 ?k9 ?k10 ?k11 ?_; (case k1 => k_asm); (case k2 => k_asm); (case k3 => k_asm); (case k4 => k_inst); (case k5 => exact rfl); (case k6 => kernel_rfl); (case k7 => kernel_rfl); (case k8 => k_get); (case k9 => k_put); (case k10 => k_upd); (case k11 => exact Nat.le_of_ble_eq_true rfl); k_whole; intro h' F' N'; (try k_sweep))))
  trivial
theorem kw37 : True := by
  k_with "wpAt" =>
    (k_dflt (first | (ks_step "exec Expr"; refine ks_wpAt_Expr_any ?_) | (ks_step "exec Return"; refine ks_wpAt_Return_some ?_) | (ks_step "eval Call"; refine ks_wpAt_MethodCall ?_)))
  trivial

theorem kw38 : True := by
  k_with "call ref" =>
    ((k_here; (with_reducible show wpAny _ _ (call (Value.ref _) []) _ _ _); k_dflt (refine' b_pop ?k1 ?k2 ?k3 rfl ?k5 ?k6 ?k7 ?_; (case k1 => k_asm); (case k2 => k_asm); (case k3 => k_asm); (case k5 => assumption); (case k6 => k_mem); (case k7 => k_upd); k_whole; intro h' F' N'; (try k_sweep))))
  trivial
theorem kw39 : True := by
  k_with "call ref" =>
    ((k_here; (with_reducible show wpAny _ _ (call (Value.ref 105) [Value.ref _]) _ _ _); k_dflt (refine' pc_walk ?k1 ?k2 ?k3 ?k4 ?k5 ?k6 ?k7 ?k8 ?_; (case k1 => k_asm); (case k2 => k_asm); (case k3 => k_asm); (case k4 => k_asm); (case k5 => k_asm); (case k6 => exact rfl); (case k7 => ktr_room); (case k8 => ktr_units); k_whole); intro t' h' tk' F' N'; (try dsimp only)))
  trivial
theorem pop_walk {w : World} {pp : Program} {loose : List Str} {mean : ExcName → Option Value} {mg mb : Str → Option Value} {x dx : Addr} {its : Array Value} {v : Value} {ep : Nat} {low : Int} {tk tv : Tok}
    {dp un : Nat} {gd : Option (List Code)} {cn : Str} {cs : Scope} {a : Addr} {ccd : Value} {cl : List (Str × Addr)} {outer : List Env} {A₀ : Around} {base h₀ : Heap} {L : Addr} {m : Str → Option Value} {news : List (Addr × Obj)} {s : Shared} {Q E : Value → Shared → Prop}
    (hsz : (its.push v).size ≤ 1000) (hxd : x ≠ dx) (hn : ∀ p ∈ news, p.1 ≠ x)
    (B : Below A₀ base outer h₀) (F : Fr h₀ L s.heap m) (X₀ : (tp.heap_39 w.params).In h₀) (N : News h₀ L s.heap ((x, accObj dx (its.push v) ep) :: (dx, dictOf (szEs w tk tv low) 1) :: news)) (T : Top pp loose mean mg mb h₀) (hk : cs.kind = .function)
    (hdp : dp + 3 < recursionLimit) (hun : un + 24 < cLine)
    (ret : ∀ h' tk', Fr h₀ L h' m → News h₀ L h' ((x, accObj dx its (ep + 1)) :: (dx, dictOf (szEs w tk tv low) 1) :: news) → Q v { s with heap := h', toks := tk' }) :
    wpAny (model PySem.Challenge.rw_wu0012_01.row.prog w) (ktrTop dp un gd cn cs L a ccd cl outer) (call (.ref 68) [.ref x]) Q E s := by
  have hxd1 := neN hxd
  have hxd2 := neN hxd.symm
  refine wpAny_call ?_
  k_dflt ((refine' ks_code_super ?k1 ?k2 ?k3 ?k4 ?k5 ?kA ?kF ?kK ?k6 ?k7 ?k8 ?k9 ?kB ?_ ?c1 ?c2 ?c3 ?c4; (case kA => exact rfl); (case kF => exact rfl); (case kK => exact hk); (case k1 => k_asm); (case k2 => k_asm); (case k3 => k_asm); (case k4 => k_asm); (case k5 => k_asm); (case k6 => k_is); (case k7 => k_is); (case k8 => k_room); (case k9 => exact BindsTo.of_eq rfl); (case kB => exact locs rfl); (case c1 => decide); (case c2 => exact rfl); (case c3 => exact rfl); (case c4 => exact rfl); intro g' L' h' FG' F' N' B' X' T' l1; (try dsimp only); (try k_lift B')))
  have hu2 : Under L' _ := allLt_of l1
  repeat' (first | (k_unfold; (try dsimp only)) | (k_end; wrow_close) | (walk1; all_goals (try dsimp only)) | (leave1; walk_say "STEP leave1"; try dsimp only) | fail "no step")
  · exfalso
    (with_reducible rename (_ = (0:Int)) => hq)
    simp at hq
    omega
  · refine ret _ _ (by with_reducible assumption) ?_
    refine cb_drop (by with_reducible assumption) ?_
    intro p hp
    repeat (first | exact hp | refine List.mem_cons_of_mem _ ?_)
end Mine
end

section
open PySem PySem.W PyProof.Rows PySem.Calls Builtin
set_option Elab.async false
set_option maxRecDepth 100000
set_option maxHeartbeats 1000000
set_option linter.unusedVariables false
namespace Mine
section
variable {w : World} {A : Around} {E : Value → Shared → Prop} {x dx : Addr} {its : Array Value} {ep : Nat} {s : Shared}
theorem li_kind : builtinKind "list.__iter__" = some .slot := by decide +kernel
theorem li_split : splitId "list.__iter__" = some ("list", "__iter__") := by decide +kernel
theorem li_args (a : Value) : argsOk "list.__iter__" ⟨[a], []⟩ := by unfold argsOk; kernel_rfl
theorem li_find : findIn (KM w) (.ref 108) "__iter__" = some (some (.builtin "list.__iter__")) := by kernel_rfl
/-- the accumulator at its address -/
abbrev AccAt (h : Heap) (x dx : Addr) (its : Array Value) (ep : Nat) : Prop := h.get? x = some (accObj dx its ep)
theorem acc_iter_call {Q : Value → Shared → Prop} (X : (KM w).In s.heap) (hx : AccAt s.heap x dx its ep)
    (h : Q (.ref s.heap.objs.size) { s with heap := s.heap.push { cls := .type "list_iterator", data := .fields #[.ref x, .int 0 0] } }) :
    wpAny (MM w) A (call (.builtin "list.__iter__") [.ref x]) Q E s := by
  have hi := x_list X hx
  have ha := li_args (.ref x)
  refine wpAny_call (codeAny_call_builtin_at (Code.quiet_builtin _ (by decide +kernel)) e_iter ?_)
  simp only [checkBuiltinCall, li_kind, li_split]
  refine wpAny_bind (hi.here ?_)
  simp only [Bool.not_true, Bool.false_eq_true, if_false]
  have tail : ∀ A', wpAny (MM w) A' (Builtin.«list.__iter__» ⟨[.ref x], []⟩) (fun fin s' => match fin with | .done f => (match (Except.ok f : Result) with | .ok (.ret v) => Q v s' | .ok _ => False | .error e => E e s') | .again c' => c'.quiet = true ∧ codeAny (MM w) A c' (fun r s' => match r with | .ok (.ret v) => Q v s' | .ok _ => False | .error e => E e s') s') (fun e s' => match (Except.error e : Result) with | .ok (.ret v) => Q v s' | .ok _ => False | .error e => E e s') s := by
    intro A'
    show wpAny _ _ (do ret (← newFields "list_iterator" [.ref x, rawInt 0])) _ _ s
    exact wpAny_bind (wpAny_newObj_type (wpAny_pure h))
  cases hs : Manifest.signature? "list.__iter__" with
  | none => exact wpAny_pure (tail _)
  | some sig =>
    have h2 : Bind.checkArgs "list.__iter__" sig ⟨[.ref x], []⟩ = pure () := by simp only [argsOk, hs] at ha; exact ha
    show wpAny _ _ (Bind.checkArgs "list.__iter__" sig ⟨[.ref x], []⟩) _ _ s
    rw [h2]
    exact wpAny_pure (tail _)
theorem acc_iter {Q : Value → Shared → Prop} (X : (KM w).In s.heap) (hx : AccAt s.heap x dx its ep)
    (h : Q (.ref s.heap.objs.size) { s with heap := s.heap.push { cls := .type "list_iterator", data := .fields #[.ref x, .int 0 0] } }) :
    wpAny (MM w) A (pyIter (.ref x)) Q E s := by
  have L0 : Looks (MM w) s.heap (typeOf (.ref x)) (.ref 108) := (Looks.ld hx).andThen .now
  have L1 := looks_findIn (M := MM w) X li_find
  have hT : ({ s with heap := s.heap.push { cls := .type "list_iterator", data := .fields #[.ref x, .int 0 0] } } : Shared).TypeIs (.ref s.heap.objs.size) "list_iterator" := ⟨_, Heap.get?_push_size _ rfl, rfl⟩
  unfold pyIter specialOf
  refine wpAny_bind (wpAny_bind (L0.here (L1.here ?_)))
  show wpAny _ _ (callSpecialIfBoundUnlessNone? (.ref x) "__iter__" _ >>= _) Q E s
  refine wpAny_bind ?_
  have hb : bindSpecial (.builtin "list.__iter__") (.ref x) = pure (.builtin "list.__iter__", [.ref x]) := slot_list_iter.bind _
  simp only [callSpecialIfBoundUnlessNone?, bindSpecialIfBound?, specialOf]
  refine wpAny_holding (wpAny_bind (wpAny_bind (wpAny_bind (L0.here (L1.here ?_)))))
  simp only [hb]
  have fin : wpAny (MM w) A (call (.builtin "list.__iter__") [.ref x] >>= fun v => pure (some v)) (fun a s' => wpAny (MM w) A (match a with
        | some it => (do
          let __do_lift ← (do
              let __do_lift ← typeOf it
              typeLookup __do_lift (Str.ofString "__next__"))
          match __do_lift with
            | none => do
              rule "iter.non-iterator"
              let __do_lift ← PySem.typeNameOf it
              raiseErrorMade "TypeError"
                  (toString "iter() returned non-iterator of type '" ++ toString __do_lift ++ toString "'")
            | some val => pure it : Sem Value)
        | none => (do
          let __do_lift ← bindSpecialIfBound? (Value.ref x) (Str.ofString "__getitem__")
          match __do_lift with
            | none => do
              rule "iter.not-iterable"
              let __do_lift ← PySem.typeNameOf (Value.ref x)
              raiseErrorMade "TypeError" (toString "'" ++ toString __do_lift ++ toString "' object is not iterable")
            | some val => do
              rule "iter.getitem-fallback"
              let __do_lift ← mkInt 0
              newFields "iterator" [Value.ref x, __do_lift])) Q E s') E s := by
    refine wpAny_bind (acc_iter_call X hx (wpAny_pure ?_))
    exact wpAny_bind (wpAny_specialOf hT slot_listiter_next.lookup (wpAny_pure h))
  refine wpAny_bind (wpAny_askSetting (wpAny_ite ?_))
  split
  · refine wpAny_bind (wpAny_pure (wpAny_pure ?_))
    simp only [builtin_beq_none, Bool.false_eq_true, if_false]
    exact fin
  · refine wpAny_tryCatch (wpAny_bind (wpAny_pure (wpAny_pure ?_)))
    simp only [builtin_beq_none, Bool.false_eq_true, if_false]
    exact fin
theorem acc_next {it : Addr} {i : Nat} {v : Value} {Q : Option Value → Shared → Prop} (hit : s.heap.IsListIter it x i) (hx : AccAt s.heap x dx its ep) (hv : its[i]? = some v)
    (hQ : ∀ h', h'.IsListIter it x (i + 1) → Heap.SameBut it s.heap h' → Q (some v) { s with heap := h' }) : wpAny (MM w) A (pyNext (.ref it)) Q E s := by
  obtain ⟨o, ho, hc, hd⟩ := id hit
  unfold pyNext
  refine wpAny_bind (wpAny_attempt (wpAny_callSpecial?_slot (name := Str.ofString "__next__") hit.typeIs slot_listiter_next (wpAny_call_entry slot_listiter_next hit.typeIs entry_listiter_next ?_ (args_listiter_next _))))
  show wpAny _ _ (field (.ref it) 0 >>= _) _ _ s
  refine wpAny_bind (wpAny_field ho hd (x := .ref x) rfl ?_)
  show wpAny _ _ (if (Value.ref x == Value.none) = true then _ else _) _ _ s
  rw [if_neg (show ¬ ((Value.ref x == Value.none) = true) from Bool.false_ne_true)]
  show wpAny _ _ (field (.ref it) 1 >>= _) _ _ s
  refine wpAny_bind (wpAny_field ho hd (x := .int i 0) rfl ?_)
  show wpAny _ _ (seqItems? (.ref x) >>= _) _ _ s
  refine wpAny_bind (wpAny_seqItems hx rfl ?_)
  simp only [Int.toNat_natCast, hv]
  refine wpAny_bind (wpAny_setField ho hd (by simp) (wpAny_pure ⟨v, rfl, wpAny_pure (hQ _ ?_ (Heap.SameBut.update ..))⟩))
  exact ⟨_, Heap.get?_update_self _ ho (Obj.isFreed_of_fields (Obj.data_mapFields hd _)), (Obj.cls_mapFields ..).trans hc, by rw [Obj.data_mapFields hd]; simp [rawInt]⟩
theorem acc_stop {it : Addr} {i : Nat} {Q : Option Value → Shared → Prop} (hh : A.handled = none) (hit : s.heap.IsListIter it x i) (hx : AccAt s.heap x dx its ep) (hv : its[i]? = none)
    (hQ : ∀ h', Heap.ExtBut it s.heap h' → Q none { s with heap := h' }) : wpAny (MM w) A (pyNext (.ref it)) Q E s := by
  obtain ⟨o, ho, hc, hd⟩ := id hit
  unfold pyNext
  refine wpAny_bind (wpAny_attempt (wpAny_callSpecial?_slot (name := Str.ofString "__next__") hit.typeIs slot_listiter_next (wpAny_call_entry slot_listiter_next hit.typeIs entry_listiter_next ?_ (args_listiter_next _))))
  show wpAny _ _ (field (.ref it) 0 >>= _) _ _ s
  refine wpAny_bind (wpAny_field ho hd (x := .ref x) rfl ?_)
  show wpAny _ _ (if (Value.ref x == Value.none) = true then _ else _) _ _ s
  rw [if_neg (show ¬ ((Value.ref x == Value.none) = true) from Bool.false_ne_true)]
  show wpAny _ _ (field (.ref it) 1 >>= _) _ _ s
  refine wpAny_bind (wpAny_field ho hd (x := .int i 0) rfl ?_)
  show wpAny _ _ (seqItems? (.ref x) >>= _) _ _ s
  refine wpAny_bind (wpAny_seqItems hx rfl ?_)
  simp only [Int.toNat_natCast, hv]
  refine wpAny_bind (wpAny_rule (wpAny_bind (wpAny_setField ho hd (by simp) ?_)))
  show wpAny _ _ (newExc (.type "StopIteration") [] >>= _) _ _ _
  refine wpAny_bind ?_
  simp only [newExc, newTuple]
  refine wpAny_bind (wpAny_newObj_type ?_ (by size_fits))
  refine wpAny_bind (m := firstArgMember _ _) (wpAny_of_eq (a := Value.none) (by first | rfl | (simp only [firstArgMember]; rfl)) ?_)
  refine wpAny_newObj_type ?_ (by size_fits)
  simp only [raiseNew]
  refine wpAny_bind (wpAny_handled ?_)
  rw [show A.in1.handled = none from hh]
  refine wpAny_bind (wpAny_pure (wpAny_throw ?_))
  refine wpAny_bind (wpAny_isInstance (T := "StopIteration") (b := true) ⟨_, Heap.get?_push_size _ rfl, rfl⟩ isSubtype_stop ?_)
  exact wpAny_pure (hQ _ (((Heap.SameBut.update ..).extBut.push _).push _))
end
/-- the accumulator walked, its pieces being pairs -/
theorem acc_walks {w : World} {A : Around} (hh : A.handled = none) (I x dx : Addr) (ep : Nat) (hne : x ≠ I) (items : Array Value) (Ts : Nat → Addr) (vals : Nat → Array Value)
    (hit : ∀ j, j < items.size → items[j]? = some (.ref (Ts j))) (hTI : ∀ j, j < items.size → Ts j ≠ I) :
    WalksU PySem.Challenge.rw_wu0012_01.row.prog w A I (I :: x :: (List.range items.size).map Ts) [I] items.size (fun j v => j < items.size ∧ v = vals j)
      (fun j h => h.IsListIter I x j ∧ AccAt h x dx items ep ∧ ∀ k, k < items.size → h.IsTuple (Ts k) (vals k))
      (fun j T h => (j < items.size ∧ T = Ts j) ∧ h.IsListIter I x (j + 1) ∧ AccAt h x dx items ep ∧ ∀ k, k < items.size → h.IsTuple (Ts k) (vals k)) where
  sub := fun b hb => by simp at hb; simp [hb]
  frame := fun _ _ _ st hk => ⟨st.1.at fun o e => hk I (by simp) o e, hk x (by simp) _ st.2.1,
    fun k hk' => (st.2.2 k hk').at fun o e => hk (Ts k) (List.mem_cons_of_mem _ (List.mem_cons_of_mem _ (List.mem_map.mpr ⟨k, List.mem_range.mpr hk', rfl⟩))) o e⟩
  item := fun i s Q E hi st hQ => by
    refine acc_next st.1 st.2.1 (v := .ref (Ts i)) (hit i hi) fun h' hit' hs' => ?_
    have tup : ∀ k, k < items.size → h'.IsTuple (Ts k) (vals k) := fun k hk' => (st.2.2 k hk').extBut hs'.extBut (hTI k hk')
    exact hQ (Ts i) (vals i) h' s.toks ⟨hi, rfl⟩ (tup i hi) ⟨⟨hi, rfl⟩, hit', hs'.extBut _ _ hne st.2.1, tup⟩ fun b o hb e => hs'.extBut b o (fun h => hb (by simp [h])) e
  go := fun _ _ _ _ _ s Q _ hm hQ => wpAny_letOwnedTupleGo_listiter hm.2.1 (hQ s.heap hm.2 fun _ _ _ e => e)
  apart := fun j T _ hm hmem => by
    rcases List.mem_cons.mp hmem with e | e
    · exact hTI j hm.1.1 (hm.1.2 ▸ e)
    · cases e
  done := fun s Q E st hQ => acc_stop hh st.1 st.2.1 (by simp) fun h' he' => hQ h' s.toks fun b o hb e => he' b o (fun h => hb (by simp [h])) e
  self := fun _ _ _ _ st hQ => wpAny_pyIter_listiter st.1 hQ
end Mine
end

section
open PySem PySem.W PyProof.Rows PySem.Calls
set_option Elab.async false
set_option maxRecDepth 100000
set_option maxHeartbeats 1000000
set_option linter.unusedVariables false
namespace Mine
noncomputable abbrev pairObj (a b : Str) (ta tb : Tok) (n : Nat) : Obj := { cls := .type "tuple", data := .seq #[.str a ta, .str b tb] n }
/-- what the pieces of the accumulator are: pairs of two texts, each in the ledger -/
structure Pieces (items : Array Value) (fw pt : Nat → Str) (nw : List (Addr × Obj)) : Prop where
  at_ : ∀ j, j < items.size → ∃ T ta tb n, items[j]? = some (.ref T) ∧ (T, pairObj (fw j) (pt j) ta tb n) ∈ nw
theorem all_pass (n : Nat) : passing (fun _ => true) n 0 = List.range n := by
  unfold passing
  rw [List.drop_zero, List.filter_eq_self]
  intro _ _; rfl
theorem Pieces.get {items : Array Value} {fw pt : Nat → Str} {nw : List (Addr × Obj)} (P : Pieces items fw pt nw) :
    ∃ (Ts : Nat → Addr) (ta tb : Nat → Tok) (n : Nat → Nat), (∀ j, j < items.size → items[j]? = some (.ref (Ts j))) ∧ ∀ j, j < items.size → (Ts j, pairObj (fw j) (pt j) (ta j) (tb j) (n j)) ∈ nw := by
  have h : ∀ j, ∃ q : Addr × Tok × Tok × Nat, j < items.size → items[j]? = some (.ref q.1) ∧ (q.1, pairObj (fw j) (pt j) q.2.1 q.2.2.1 q.2.2.2) ∈ nw := by
    intro j
    by_cases hj : j < items.size
    · obtain ⟨T, ta, tb, n, h1, h2⟩ := P.at_ j hj
      exact ⟨(T, ta, tb, n), fun _ => ⟨h1, h2⟩⟩
    · exact ⟨(0, 0, 0, 0), fun h => absurd h hj⟩
  refine ⟨fun j => (Classical.choose (h j)).1, fun j => (Classical.choose (h j)).2.1, fun j => (Classical.choose (h j)).2.2.1, fun j => (Classical.choose (h j)).2.2.2, ?_, ?_⟩
  · intro j hj; exact (Classical.choose_spec (h j) hj).1
  · intro j hj; exact (Classical.choose_spec (h j) hj).2
theorem acc_gen {w : World} {pp : Program} {loose : List Str} {mean : ExcName → Option Value} {mg mb : Str → Option Value} {A : Around} {E : Value → Shared → Prop} {s : Shared} {h₀ : Heap} {L : Addr} {m : Str → Option Value} {nw : List (Addr × Obj)}
    {env : Env} {elt iter : Expr} {xa xb : Str} {pa pb pt pos : Pos} {kt : Nat} {scope : Scope} {c P : Addr} {ps : Array Value} {x dx : Addr} {items : Array Value} {ep : Nat} {fw pc : Nat → Str} {Fi : Nat → Value → Prop} {Q : Value → Shared → Prop}
    (hh : A.handled = none) (hco : scope.isCoroutine = false) (hclos : closureFor scope env = pure []) (hcell : ∀ y ∈ scope.names, y.2 ≠ .cell) (hz : scope.names.lookup (".0" : Str) = some NameKind.local)
    (hxa : scope.names.lookup xa = some .local) (hxb : scope.names.lookup xb = some .local) (hab : xa ≠ xb) (hkind : scope.kind = .function) (hroom : A.depth < recursionLimit)
    (hcode : env.code = .ref c) (hgl : env.globals = mainGlobals) (hs : ∀ x, genFold iter env x = pure x)
    (F : Fr h₀ L s.heap m) (X₀ : (KM w).In h₀) (N : News h₀ L s.heap ((P, tabObj ps) :: nw)) (T : Top pp loose mean mg mb h₀) (G : AllBare s.gens)
    (C : CodeHd h₀ c P) (ht : TriplesOk ps.toList) (hoff : ∀ p ∈ nw, p.1 ≠ P)
    (hx : (x, accObj dx items ep) ∈ nw) (hpc : Pieces items fw pc nw)
    (hself : ∀ Q' : Value → Shared → Prop, Q' (.ref x) s → wpAny (MM w) A (eval iter env) Q' E s)
    (helt : ∀ (C : Addr) (code : Value) (A' : Around) E' i ta tb (s₂ : Shared) m₂, A'.handled = none → A'.depth ≤ A.depth + 1 → A'.units ≤ A.units + 8 → i < items.size → s₂.heap.Ns C m₂ → m₂ xa = some (.str (fw i) ta) → m₂ xb = some (.str (pc i) tb) →
      (∀ b o, h₀.get? b = some o → s₂.heap.get? b = some o) →
      wpAny (MM w) A' (eval elt (genEnv scope [] C code builtinsNs env)) (fun y s₃ => Fi i y ∧ Keeps s₂ s₃) E' s₂)
    (h : ∀ a ps' s₅ K, Fr h₀ L s₅.heap m → News h₀ L s₅.heap ((P, tabObj ps') :: nw) → TriplesOk ps'.toList → AllBare s₅.gens → s₅.os = s.os → L ≤ K → (∀ p ∈ (P, tabObj ps') :: nw, p.1 ≤ K) → Gen PySem.Challenge.rw_wu0012_01.row.prog w A K a items.size Fi s₅ → Q (.ref a) s₅) :
    wpAny (MM w) A (eval (.GeneratorExp elt [⟨.Tuple [.Name xa pa, .Name xb pb] kt pt, iter, [], 0⟩] scope pos) env) Q E s := by
  obtain ⟨Ts, ta, tb, nn, hit, htu⟩ := hpc.get
  have X : (KM w).In s.heap := X₀.keeps F.keep
  have hx' := (N _ (.tail _ hx)).1
  have hP := N _ (.head _)
  have hPsz : P < s.heap.objs.size := Heap.lt_size hP.1
  obtain ⟨bm, ob, M⟩ := bmod_of_top T
  have hxP : x ≠ P := hoff _ hx
  have hxI : x ≠ s.heap.objs.size := Nat.ne_of_lt (Heap.lt_size hx')
  have hTlt : ∀ j, j < items.size → Ts j < s.heap.objs.size := fun j hj => Heap.lt_size (N _ (.tail _ (htu j hj))).1
  refine wpAny_GeneratorExp_walksQTD hh hco hclos hcell hz hxa hxb hab hkind hroom (hself _ (acc_iter X hx' ⟨T.nolimit.keeps (fun b o e => Heap.get?_push_of_some _ (F.keep b o e)), ?_⟩)) hs
  -- the code of the generator: made or found
  have hC1 : CodeHd (s.heap.push { cls := .type "list_iterator", data := .fields #[.ref x, .int 0 0] }) c P := C.keeps fun b o e => Heap.get?_push_of_some _ (F.keep b o e)
  have hP1 : (s.heap.push { cls := .type "list_iterator", data := .fields #[.ref x, .int 0 0] }).get? P = some (tabObj ps) := Heap.get?_push_of_some _ hP.1
  have main : ∀ (code : Value) (h' : Heap) (tk : Nat) (ps' : Array Value), Heap.ExtBut P (s.heap.push { cls := .type "list_iterator", data := .fields #[.ref x, .int 0 0] }) h' → (s.heap.push { cls := .type "list_iterator", data := .fields #[.ref x, .int 0 0] }).objs.size ≤ h'.objs.size → h'.get? P = some (tabObj ps') → TriplesOk ps'.toList →
      wpAny (MM w) A (builtinsFor env.globals env.builtins) (fun bi s₄ => ∃ I fp wr n₀ Pt St₀ Mid pz F, (.ref s.heap.objs.size : Value) = .ref I ∧ (∀ A' : Around, A'.handled = none → WalksU PySem.Challenge.rw_wu0012_01.row.prog w A' I fp wr n₀ Pt St₀ Mid) ∧ (∀ i vals, Pt i vals → ∃ va vb, vals = #[va, vb]) ∧ St₀ 0 s₄.heap ∧ (∀ b ∈ fp, b < s₄.heap.objs.size) ∧ s₄.heap.NoLimit ∧ cStatics ∉ wr ∧
          (∀ href : Heap, (∀ b o, s₄.heap.get? b = some o → href.get? b = some o) →
            QuietGenTD PySem.Challenge.rw_wu0012_01.row.prog w (genEnv scope [] s₄.heap.objs.size code bi env) xa xb [] elt (List.range s₄.heap.objs.size) wr Pt pz F href (A.depth + 1) (A.units + 8)) ∧
          (∀ a h₅ tk gs, gs.bare = true → s₄.heap.objs.size < a → h₅.objs.size = a + 1 → (∀ b o, s₄.heap.get? b = some o → h₅.get? b = some o) →
            WalksS PySem.Challenge.rw_wu0012_01.row.prog w A.in4 a (a :: s₄.heap.objs.size :: List.range s₄.heap.objs.size) (s₄.heap.objs.size :: wr) (GenOnlyQ s₄.gens.size) (passing pz n₀ 0).length
              (fun j y => ∃ i, (passing pz n₀ 0)[j]? = some i ∧ F i y) (GenAt PySem.Challenge.rw_wu0012_01.row.prog w A.in4 a s₄.gens.size s₄.heap.objs.size (List.range s₄.heap.objs.size) wr pz n₀ F) →
            GenAt PySem.Challenge.rw_wu0012_01.row.prog w A.in4 a s₄.gens.size s₄.heap.objs.size (List.range s₄.heap.objs.size) wr pz n₀ F 0 { s₄ with gens := s₄.gens.push gs, toks := tk, heap := h₅ } →
            Q (.ref a) { s₄ with gens := s₄.gens.push gs, toks := tk, heap := h₅ })) E { s with heap := h', toks := tk } := by
    intro code h' tk ps' hext hge hP' ht'
    have hsz1 : (s.heap.push { cls := .type "list_iterator", data := .fields #[.ref x, .int 0 0] }).objs.size = s.heap.objs.size + 1 := Heap.size_push ..
    have hge' : s.heap.objs.size < h'.objs.size := by rw [hsz1] at hge; exact hge
    have keep : ∀ b o, b ≠ P → s.heap.get? b = some o → h'.get? b = some o := fun b o hb e => hext b o hb (Heap.get?_push_of_some _ e)
    have hP₀ : ∀ b o, h₀.get? b = some o → b ≠ P := fun b o e q => by rw [q, hP.2.2] at e; cases e
    have keep₀ : ∀ b o, h₀.get? b = some o → h'.get? b = some o := fun b o e => keep b o (hP₀ b o e) (F.keep b o e)
    have M' := M.keeps keep₀
    rw [hgl]
    refine wpAny_builtinsFor M'.ns M'.name M'.ne M'.obj M'.cls M'.dict M'.data ?_
    have hLP : L ≠ P := fun e => hP.2.1 e.symm
    have hIit : h'.IsListIter s.heap.objs.size x 0 := ⟨_, hext _ _ (Nat.ne_of_gt hPsz) (Heap.get?_push_size _ rfl), rfl, rfl⟩
    refine ⟨s.heap.objs.size, _, _, items.size, _, _, _, fun _ => true, Fi, rfl, fun A' hA => acc_walks hA s.heap.objs.size x dx ep hxI items Ts (fun j => #[.str (fw j) (ta j), .str (pc j) (tb j)]) hit (fun j hj => Nat.ne_of_lt (hTlt j hj)), ?_, ?_, ?_, ?_, ?_, ?_, ?_⟩
    · rintro i vals ⟨hi, rfl⟩; exact ⟨_, _, rfl⟩
    · refine ⟨hIit, keep _ _ hxP hx', fun k hk => ?_⟩
      exact ⟨_, keep _ _ (hoff _ (htu k hk)) (N _ (.tail _ (htu k hk))).1, rfl, _, rfl⟩
    · intro b hb
      show b < h'.objs.size
      rcases List.mem_cons.mp hb with rfl | hb
      · exact hge'
      · rcases List.mem_cons.mp hb with rfl | hb
        · exact Nat.lt_trans (Heap.lt_size hx') hge'
        · obtain ⟨j, hj, rfl⟩ := List.mem_map.mp hb
          exact Nat.lt_trans (hTlt j (List.mem_range.mp hj)) hge'
    · exact T.nolimit.keeps keep₀
    · intro hm
      have e1 := List.mem_singleton.mp hm
      obtain ⟨_, hns, _⟩ := T.nolimit.keeps F.keep
      exact absurd hns.lt (by rw [e1]; exact Nat.lt_irrefl _)
    · intro href hhref
      refine ⟨fun A' E' i va vb s₂ m₂ hA hD hU hPt hns ha hb hk => ?_, fun A' E' i va vb s₂ m₂ hA hD hU hPt hp hns ha hb hk => ?_⟩
      · exact wpAny_pure ⟨rfl, _, _, rfl, fun _ _ e => e⟩
      · obtain ⟨hi, he⟩ := hPt
        have e1 : va = .str (fw i) (ta i) := by have := congrArg (fun v : Array Value => v[0]?) he; simpa using this
        have e2 : vb = .str (pc i) (tb i) := by have := congrArg (fun v : Array Value => v[1]?) he; simpa using this
        subst e1 e2
        refine helt _ code A' E' i (ta i) (tb i) s₂ m₂ hA hD hU hi hns ha hb fun b o e => ?_
        refine hk b (List.mem_range.mpr (Nat.lt_trans (Heap.lt_size (F.keep b o e)) hge')) (fun hm => ?_) o (hhref _ _ (keep₀ b o e))
        exact absurd (Heap.lt_size (F.keep b o e)) (by rw [List.mem_singleton.mp hm]; exact Nat.lt_irrefl _)
    · intro a h₅ tk₅ gs hgb hag hsz₅ hk₅ W hat
      have hall := all_pass items.size
      have hlen : (passing (fun _ => true) items.size 0).length = items.size := by rw [hall, List.length_range]
      rw [hlen] at W
      have W2 := W.imp (P' := Fi) fun j y ⟨i, h1, h2⟩ => by
        rw [hall] at h1
        have : j = i := by
          obtain ⟨hl, e⟩ := List.getElem?_eq_some_iff.mp h1
          simpa using e
        exact this ▸ h2
      refine h a ps' _ (s.heap.objs.size - 1) ⟨?_, fun b o e => hk₅ b o (keep₀ b o e), F.above⟩ ?_ ht' (G.push hgb) rfl ?_ ?_ ⟨_, _, _, _, W2, hat, (fun i s' st => st.1.typeIs), List.mem_cons_self, ?_, ?_⟩
      · exact (F.ns.at' fun o e => hk₅ _ _ (keep L o hLP e))
      · intro p hp
        rcases List.mem_cons.mp hp with rfl | hp
        · exact ⟨hk₅ _ _ hP', hP.2⟩
        · exact ⟨hk₅ _ _ (keep _ _ (hoff p hp) (N p (.tail _ hp)).1), (N p (.tail _ hp)).2⟩
      · exact Nat.le_sub_one_of_lt F.ns.lt
      · intro p hp
        rcases List.mem_cons.mp hp with rfl | hp
        · exact Nat.le_sub_one_of_lt hPsz
        · exact Nat.le_sub_one_of_lt (Heap.lt_size (N p (.tail _ hp)).1)
      · intro b hb
        show b < h₅.objs.size
        rw [hsz₅]
        rcases List.mem_cons.mp hb with rfl | hb
        · exact Nat.lt_succ_self _
        · rcases List.mem_cons.mp hb with rfl | hb
          · exact Nat.lt_succ_of_lt hag
          · exact Nat.lt_succ_of_lt (Nat.lt_trans (List.mem_range.mp hb) hag)
      · intro b hb
        have h1 : s.heap.objs.size - 1 < s.heap.objs.size := Nat.sub_lt (Nat.lt_of_le_of_lt (Nat.zero_le _) hPsz) (by decide)
        rcases List.mem_cons.mp hb with rfl | hb
        · exact Nat.lt_trans h1 hge'
        · rw [List.mem_singleton.mp hb]; exact h1
  cases hnf : codeAmong pos ps.toList with
  | none =>
    refine wpAny_genexprCodeX hcode (hC1.code hP1 ht) (hC1.tab hP1) hnf fun c' h' tk hext hge hlt _ _ htab _ => ?_
    exact main _ h' tk _ hext (Nat.le_trans hge (Nat.le_of_lt hlt)) htab.2 (by simpa using TriplesOk_snoc _ _ _ _ ht)
  | some cv =>
    refine wpAny_genexprCode_hit hcode (hC1.code hP1 ht) hnf ?_
    exact main _ _ _ ps (Heap.ExtBut.refl _ _) (Nat.le_refl _) hP1 ht
end Mine
end

section
open PySem PySem.W PyProof.Rows PySem.Calls
set_option Elab.async false
set_option maxRecDepth 100000
set_option maxHeartbeats 1000000
set_option linter.unusedVariables false
namespace Mine
noncomputable def valFrom (low : Int) (val : Nat → Int) : Nat → Int
  | 0 => low
  | j + 1 => val j
theorem preSum_from (low : Int) (val : Nat → Int) : ∀ n, preSum (valFrom low val) (n + 1) = low + preSum val n
  | 0 => by simp [preSum, valFrom]
  | n + 1 => by
    rw [preSum, preSum_from low val n, preSum]
    show low + preSum val n + val n = _
    omega
theorem shifted {prog : Program} {w : World} {A : Around} {I : Addr} {fp wr : List Addr} {G : Array GenState → Array GenState → Prop} {n : Nat} {P : Nat → Value → Prop} {St : Nat → Shared → Prop} (W : WalksS prog w A I fp wr G n P St) :
    WalksS prog w A I fp wr G (n + 1) (fun i v => ∃ j, i = j + 1 ∧ P j v) (fun i s => ∃ j, i = j + 1 ∧ St j s) where
  sub := W.sub
  grefl := W.grefl
  gtrans := W.gtrans
  frame := fun i s h' tk ⟨j, e, st⟩ ht hk => ⟨j, e, W.frame j s h' tk st ht hk⟩
  item := fun i s Q E hi ⟨j, e, st⟩ hQ => W.item j s Q E (by omega) st fun v s' hP hst hm => hQ v s' ⟨j, e, hP⟩ ⟨j + 1, by omega, hst⟩ hm
  done := fun s Q E ⟨j, e, st⟩ hQ => by
    have e2 : j = n := by omega
    subst e2
    exact W.done s Q E st hQ
  self := fun i s Q E ⟨j, e, st⟩ hq => W.self j s Q E st hq
theorem sum2_args (a b : Value) : argsOk "sum" ⟨[a, b], []⟩ := by unfold argsOk; kernel_rfl
theorem sum_start {prog : Program} {w : World} {A : Around} {E : Value → Shared → Prop} {s : Shared} {h₀ : Heap} {L K : Addr} {m : Str → Option Value} {a : Addr} {n : Nat} {F : Nat → Value → Prop} {low : Int} {t : Tok} {Q : Value → Shared → Prop}
    (Fh : Fr h₀ L s.heap m) (G : AllBare s.gens) (X : Gen prog w A K a n F s) (hLK : L ≤ K) (val : Nat → Int) (hval : ∀ j v, F j v → ∃ t, v = .int (val j) t)
    (hQ : ∀ s' t', Fr h₀ L s'.heap m → AllBare s'.gens → s'.os = s.os → (∀ b o, b ≤ K → s.heap.get? b = some o → s'.heap.get? b = some o) → Q (.int (low + preSum val n) t') s') :
    wpAny (model prog w) A (call (.builtin "sum") [.ref a, .int low t]) Q E s := by
  obtain ⟨fp, wr, g, St, W, hst, _, _, hfp, hwr⟩ := X
  have W := W.in4_1
  refine call_function_tree PySem.F.kind_sum PySem.F.plain_sum PySem.F.entry_sum (sum2_args _ _) ?_
  unfold Builtin.«sum»
  simp only [List.length_cons, List.length_nil]
  rw [if_neg (by decide)]
  refine wpAny_bind (wpAny_of_eq (show Builtin.Builtins.bindParams "sum" ["start"] 0 ⟨[.int low t], []⟩ = pure [some (.int low t)] from rfl) ?_)
  refine wpAny_bind (W.self 0 _ _ _ hst ?_)
  have hSf : s.heap.objs.size ∉ fp := fun hm => Nat.lt_irrefl _ (hfp _ hm)
  have hS : ∀ tt, (s.heap.push { cls := .type "list", data := .seq #[.int low tt] }).get? s.heap.objs.size = some { cls := .type "list", dict := none, data := .seq #[.int (preSum (valFrom low val) 1) tt] 0, slots := #[] } := fun tt => by
    have e : preSum (valFrom low val) 1 = low := by simp [preSum, valFrom]
    rw [e]; exact Heap.get?_push_size _ rfl
  have tail : ∀ (tt tk : Nat) (st : Int), (st = 0 ∨ st = 2) → s.toks ≤ tk → codeAny (model prog w) A (.builtin "sum.loop" ⟨[.ref a, .ref s.heap.objs.size, rawInt st, rawInt 0], []⟩) (fun r s' => match r with | .ok (.ret v) => Q v s' | .ok _ => False | .error e => E e s') { s with heap := s.heap.push { cls := .type "list", data := .seq #[.int low tt] }, toks := tk } := by
    intro tt tk st hst2 htk
    refine codeAny_sum_loopAnyS (shifted W) (valFrom low val) (fun i v ⟨j, e, hP⟩ => by subst e; exact hval j v hP) s.heap.objs.size hSf n 1 _ tt 0 st hst2 (by omega) (by omega)
      ⟨0, rfl, W.frame 0 s _ _ hst htk fun b _ o e => Heap.get?_push_of_some _ e⟩ (hS _) fun s' t' hm => ?_
    have hm2 := hm.drop_new htk
    rw [preSum_from]
    exact hQ s' t' (Fh.moved hm2 fun b hb => Nat.lt_of_le_of_lt hLK (hwr b hb)) (G.movedS hm2) hm2.os fun b o hb e => hm2.heap b o (fun hmem => Nat.lt_irrefl _ (Nat.lt_of_lt_of_le (hwr b hmem) hb)) e
  dsimp only
  refine wpAny_ite ?_
  split
  · refine wpAny_bind (wpAny_rule (wpAny_bind (wpAny_mkInt (wpAny_bind (wpAny_pure ?_)))))
    simp only [List.forIn_cons, List.forIn_nil]
    refine wpAny_bind (wpAny_bind (wpAny_bind (wpAny_isInstance (T := "int") (b := false) (typeIs_int _ _ _) PySem.sub_int_str ?_)))
    simp only [Bool.false_eq_true, if_false]
    refine wpAny_pure (wpAny_bind (wpAny_bind (wpAny_isInstance (T := "int") (b := false) (typeIs_int _ _ _) PySem.sub_int_bytes ?_)))
    simp only [Bool.false_eq_true, if_false]
    refine wpAny_pure (wpAny_bind (wpAny_bind (wpAny_isInstance (T := "int") (b := false) (typeIs_int _ _ _) PySem.sub_int_bytearray ?_)))
    simp only [Bool.false_eq_true, if_false]
    refine wpAny_pure (wpAny_pure ?_)
    refine wpAny_bind (wpAny_newObj_type ?_)
    exact wpAny_pure ⟨plainId_quiet PySem.F.plain_sum_loop _, tail _ _ 0 (.inl rfl) (Nat.le_succ _)⟩
  · refine wpAny_bind (wpAny_pure ?_)
    simp only [List.forIn_cons, List.forIn_nil]
    refine wpAny_bind (wpAny_bind (wpAny_bind (wpAny_isInstance (T := "int") (b := false) (typeIs_int _ _ _) PySem.sub_int_str ?_)))
    simp only [Bool.false_eq_true, if_false]
    refine wpAny_pure (wpAny_bind (wpAny_bind (wpAny_isInstance (T := "int") (b := false) (typeIs_int _ _ _) PySem.sub_int_bytes ?_)))
    simp only [Bool.false_eq_true, if_false]
    refine wpAny_pure (wpAny_bind (wpAny_bind (wpAny_isInstance (T := "int") (b := false) (typeIs_int _ _ _) PySem.sub_int_bytearray ?_)))
    simp only [Bool.false_eq_true, if_false]
    refine wpAny_pure (wpAny_pure ?_)
    refine wpAny_bind (wpAny_newObj_type ?_)
    exact wpAny_pure ⟨plainId_quiet PySem.F.plain_sum_loop _, tail _ _ 2 (.inr rfl) (Nat.le_refl _)⟩
end Mine
end

section
open PySem PySem.W PyProof.Rows PySem.Calls
set_option Elab.async false
set_option maxRecDepth 100000
set_option maxHeartbeats 4000000
set_option linter.unusedVariables false
namespace Mine
theorem fillK17 : PySem.Challenge.rw_wu0012_01 = PySem.Challenge.rw_wu0012_01 ∧ tp.heap_39 = tp.heap_39 := by
  k_fill
  exact ⟨rfl, rfl⟩
section
variable {w : World} {A : Around} {E : Value → Shared → Prop} {s : Shared} {scope : Scope} {C bi : Addr} {code : Value} {env : Env} {x : Str} {pos : Pos} {m mg mb : Str → Option Value} {v : Value} {Q : Value → Shared → Prop}
theorem gen_ld (hk : scope.kind = .function) (hx : scope.names.lookup x = some .local) (hd : (x == ("__debug__" : Str)) = false) (hn : s.heap.Ns C m) (hv : m x = some v) (h : Q v s) :
    wpAny (MM w) A (eval (.Name x pos) (genEnv scope [] C code bi env)) Q E s := wpAny_Name (wpAny_loadName_local hk hx hn hv h) hd
theorem gen_bi (hk : scope.kind = .function) (hx : scope.names.lookup x = some .globalImplicit) (hd : (x == ("__debug__" : Str)) = false) (hgl : env.globals = mainGlobals) (hg : s.heap.Ns mainGlobals mg) (hm : mg x = none) (hb : s.heap.Ns bi mb) (hv : mb x = some v) (h : Q v s) :
    wpAny (MM w) A (eval (.Name x pos) (genEnv scope [] C code bi env)) Q E s :=
  wpAny_Name (ks_loadName_global hk hx (loadGlobal_builtin (env := genEnv scope [] C code bi env) (by show s.heap.Ns env.globals mg; rw [hgl]; exact hg) hm hb hv h)) hd
theorem gen_gl (hk : scope.kind = .function) (hx : scope.names.lookup x = some .globalImplicit) (hd : (x == ("__debug__" : Str)) = false) (hgl : env.globals = mainGlobals) (hg : s.heap.Ns mainGlobals mg) (hm : mg x = some v) (h : Q v s) :
    wpAny (MM w) A (eval (.Name x pos) (genEnv scope [] C code bi env)) Q E s :=
  wpAny_Name (ks_loadName_global hk hx (loadGlobal_global (env := genEnv scope [] C code bi env) (by show s.heap.Ns env.globals mg; rw [hgl]; exact hg) hm h)) hd
end
noncomputable abbrev lenScope : Scope := { kind := .function, names := [(Str.ofString ".0", .local), (Str.ofString "fws", .local), (Str.ofString "part", .local), (Str.ofString "len", .globalImplicit)], isGenerator := true, isCoroutine := false, more := [] }
def EltQ (P : Value → Prop) (s : Shared) (y : Value) (s₃ : Shared) : Prop := P y ∧ Keeps s s₃
noncomputable abbrev strScope : Scope := { kind := .function, names := [(Str.ofString ".0", .local), (Str.ofString "fws", .local), (Str.ofString "part", .local), (Str.ofString "EMPTYSTRING", .globalImplicit)], isGenerator := true, isCoroutine := false, more := [] }
theorem kw40 : True := by
  k_with_none
  k_with "eval Name" =>
    ((first | (refine gen_ld rfl (by decide) (by decide) (by assumption) (by assumption) ?_) | (refine gen_bi rfl (by decide) (by decide) (by assumption) (by assumption) (by assumption) (by assumption) (by assumption) ?_) | (refine gen_gl rfl (by decide) (by decide) (by assumption) (by assumption) (by assumption) ?_)))
  trivial
theorem elt_len {w : World} {A : Around} {E : Value → Shared → Prop} {s : Shared} {C bi : Addr} {code : Value} {env : Env} {m mg mb : Str → Option Value} {a b : Str} {ta tb : Tok}
    (hh : A.handled = none) (hgl : env.globals = mainGlobals) (hg : s.heap.Ns mainGlobals mg) (hgn : mg "len" = none) (hb : s.heap.Ns bi mb) (hbn : mb "len" = some (.builtin "len"))
    (hn : s.heap.Ns C m) (ha : m "fws" = some (.str a ta)) (hbb : m "part" = some (.str b tb)) (la : a.length = 1) (lb : b.length = 1) {p1 p2 p3 p4 p5 p6 p7 : Pos} :
    wpAny (MM w) A (eval (.BinOp (.Call (.Name (Str.ofString "len") p1) [.Name (Str.ofString "fws") p2] [] p3) .Add (.Call (.Name (Str.ofString "len") p4) [.Name (Str.ofString "part") p5] [] p6) p7) (genEnv lenScope [] C code bi env)) (EltQ (fun y => ∃ t, y = .int 2 t) s) E s := by
  repeat' (first | (k_unfold; (try dsimp only)) | (k_end; wrow_close) | (walk1; all_goals (try dsimp only)) | (leave1; walk_say "STEP leave1"; try dsimp only) | fail "no step")
  refine ⟨⟨_, by rw [la, lb]; rfl⟩, _, _, rfl, fun _ _ e => e⟩
theorem kw41 : True := by
  k_with "newTuple" =>
    ((refine wpAny_newObj_type ?_ (by size_fits)))
  trivial
theorem kw42 : True := by
  k_with "call builtin:str.join" =>
    ((refine join_tuple (ys := [_, _]) ⟨_, Heap.get?_push_size _ rfl, rfl, _, rfl⟩ (.cons _ _ (.cons _ _ .nil)) ?_ ?_))
  trivial
theorem elt_str {w : World} {A : Around} {E : Value → Shared → Prop} {s : Shared} {C bi : Addr} {code : Value} {env : Env} {m mg mb : Str → Option Value} {a b : Str} {ta tb te : Tok}
    (hh : A.handled = none) (hgl : env.globals = mainGlobals) (hg : s.heap.Ns mainGlobals mg) (hgn : mg "EMPTYSTRING" = some (.str (Str.ofString "") te)) 
    (hn : s.heap.Ns C m) (ha : m "fws" = some (.str a ta)) (hbb : m "part" = some (.str b tb)) (la : a.length = 1) (lb : b.length = 1) :
    wpAny (MM w) A (eval (.Call (.Attribute (.Name (Str.ofString "EMPTYSTRING") ⟨51, 33, 51, 44⟩) (Str.ofString "join") ⟨51, 33, 51, 49⟩) [.Tuple [.Name (Str.ofString "fws") ⟨51, 51, 51, 54⟩, .Name (Str.ofString "part") ⟨51, 56, 51, 60⟩] 0 ⟨51, 50, 51, 61⟩] [] ⟨51, 33, 51, 62⟩) (genEnv strScope [] C code bi env)) (EltQ (fun y => ∃ t, y = .str (Txt.join (Str.ofString "") [a, b]) t) s) E s := by
  repeat' (first | (k_unfold; (try dsimp only)) | (k_end; wrow_close) | (walk1; all_goals (try dsimp only)) | (leave1; walk_say "STEP leave1"; try dsimp only) | fail "no step")
  · have hz : (Str.ofString "").length = 0 := by decide
    simp [la, lb, hz]
  · exact ⟨⟨_, rfl⟩, _, _, rfl, fun _ _ e => Heap.get?_push_of_some _ e⟩
end Mine
end

section
open PySem PySem.W PyProof.Rows PySem.Calls
set_option Elab.async false
set_option maxRecDepth 100000
set_option maxHeartbeats 4000000
set_option linter.unusedVariables false
namespace Mine
theorem fillK18 : PySem.Challenge.rw_wu0012_01 = PySem.Challenge.rw_wu0012_01 ∧ tp.heap_39 = tp.heap_39 := by
  k_fill
  exact ⟨rfl, rfl⟩
theorem kw43 : True := by
  k_with_none
  k_with "k_room" =>
    (ktr_room)
  trivial
theorem gen_toks {prog : Program} {w : World} {A : Around} {K a : Addr} {n : Nat} {F : Nat → Value → Prop} {s : Shared} {tk : Nat} (X : Gen prog w A K a n F s) (h : s.toks ≤ tk) : Gen prog w A K a n F { s with toks := tk } :=
  let ⟨fp, wr, g, St, W, hst, r⟩ := X
  ⟨fp, wr, g, St, W, W.frame 0 s s.heap tk hst h (fun _ _ _ e => e), r⟩
theorem size_find {w : World} {tk tv : Tok} {low : Int} : findObj (KM w) 108 (some (dictOf (szEs w tk tv low) 1)) "_initial_size" = some (.value (.int low tv)) := by kernel_rfl
theorem len_none {w : World} : nsIn (KM w) mainGlobals "len" = some none := by kernel_rfl
theorem preSum_two (n : Nat) : preSum (fun _ => 2) n = 2 * (n : Int) := by
  induction n with
  | zero => rfl
  | succ n ih => rw [preSum, ih]; omega
theorem kw44 : True := by
  k_with "getAttr ref" =>
    ((k_here; k_dflt (refine' acc_get (ox := noneDict) ?k1 ?k2 (inst_seq ?k3 (List.Mem.tail _ ?k4) (List.Mem.tail _ ?k5)) size_find ?k6 ?_; (case k1 => k_asm); (case k2 => k_asm); (case k3 => k_asm); (case k4 => assumption); (case k5 => assumption); (case k6 => exact rfl))))
  trivial
theorem len_walk {w : World} {pp : Program} {loose : List Str} {mean : ExcName → Option Value} {mg mb : Str → Option Value} {x dx : Addr} {items : Array Value} {ep : Nat} {low : Int} {tk tv : Tok} {ps : Array Value} {fw pc : Nat → Str}
    {dp un : Nat} {gd : Option (List Code)} {cn : Str} {cs : Scope} {a : Addr} {ccd : Value} {cl : List (Str × Addr)} {outer : List Env} {A₀ : Around} {base h₀ : Heap} {L : Addr} {m : Str → Option Value} {nw : List (Addr × Obj)} {s : Shared} {Q E : Value → Shared → Prop}
    (G : AllBare s.gens) (C : CodeHd h₀ 74 70) (ht : TriplesOk ps.toList) (hoff : ∀ p ∈ nw, p.1 ≠ 70) (hx : (x, accObj dx items ep) ∈ nw) (hdx : (dx, dictOf (szEs w tk tv low) 1) ∈ nw) (hpc : Pieces items fw pc nw) (h1 : ∀ j, j < items.size → (fw j).length = 1 ∧ (pc j).length = 1)
    (B : Below A₀ base outer h₀) (F : Fr h₀ L s.heap m) (X₀ : (tp.heap_39 w.params).In h₀) (N : News h₀ L s.heap ((70, tabObj ps) :: nw)) (T : Top pp loose mean mg mb h₀) (hk : cs.kind = .function)
    (hdp : dp + 3 < recursionLimit) (hun : un + 24 < cLine)
    (ret : ∀ ps' t s', Fr h₀ L s'.heap m → News h₀ L s'.heap ((70, tabObj ps') :: nw) → TriplesOk ps'.toList → AllBare s'.gens → s'.os = s.os → Q (.int (low + 2 * items.size) t) s') :
    wpAny (model PySem.Challenge.rw_wu0012_01.row.prog w) (ktrTop dp un gd cn cs L a ccd cl outer) (call (.ref 75) [.ref x]) Q E s := by
  refine wpAny_call ?_
  k_dflt cell_enter
  repeat' (first | (k_unfold; (try dsimp only)) | (k_end; wrow_close) | (walk1; all_goals (try dsimp only)) | (leave1; walk_say "STEP leave1"; try dsimp only) | fail "no step")
  (with_reducible rename Fr _ _ _ _ => F1)
  (with_reducible rename News _ _ _ _ => N1)
  (with_reducible rename Frag.In _ _ => X1)
  (with_reducible rename Top _ _ _ _ _ _ => T1)
  (with_reducible rename Below _ _ _ _ => B1)
  (with_reducible rename Fr h₀ L _ m => FG)
  have C1 : CodeHd _ 74 70 := C.keeps FG.keep
  refine acc_gen (P := 70) (items := items) (fw := fw) (pc := pc) (Fi := fun _ y => ∃ t, y = .int 2 t) rfl rfl rfl (by decide) (by decide) (by decide) (by decide) (by decide) rfl (by ktr_room) rfl rfl (fun _ => rfl) F1 X1 N1 T1 G C1 ht hoff hx hpc (fun Q' hq => ld F1 rfl hq) ?_ ?_
  · intro C' code A' E' i ta tb s₂ m₂ hA hD hU hi hn ha hb hk
    exact elt_len hA rfl (T1.g.keeps hk) (mg_none_of X1 T1.g len_none) (T1.b.keeps hk) ((T1.builtins _ (by decide +kernel)).trans (by kernel_rfl)) hn ha hb (h1 i hi).1 (h1 i hi).2
  · intro a' ps' s₅ K F5 N5 ht5 G5 os5 hLK hle XG
    clear F1 N1
    repeat' (first | (k_unfold; (try dsimp only)) | (k_end; wrow_close) | (walk1; all_goals (try dsimp only)) | (leave1; walk_say "STEP leave1"; try dsimp only) | fail "no step")
    refine sum_start F5 G5 (gen_toks XG (Nat.le_succ _)) hLK (fun _ => 2) (fun _ _ h => h) ?_
    intro s' t' F6 G6 os6 hk6
    rw [preSum_two]
    k_unfold
    refine leaveK_ F6 (fun p hp => ⟨hk6 _ _ (hle p hp) (N5 p hp).1, (N5 p hp).2⟩) ?_
    intro kF kN
    exact ret ps' t' s' kF kN ht5 G6 (os6.trans os5)
theorem emp_glob {w : World} : nsIn (KM w) mainGlobals "EMPTYSTRING" = some (some (.str (Str.ofString "") 217)) := by kernel_rfl
theorem sum_twos {α : Type} (l : List α) (g : α → Str) (h : ∀ a ∈ l, (g a).length = 2) : ((l.map g).map (·.length)).sum = 2 * l.length := by
  induction l with
  | nil => rfl
  | cons a r ih =>
    rw [List.map_cons, List.map_cons, List.sum_cons, h a (.head _), ih fun b hb => h b (.tail _ hb), List.length_cons]
    omega
theorem str_walk {w : World} {pp : Program} {loose : List Str} {mean : ExcName → Option Value} {mg mb : Str → Option Value} {x dx : Addr} {items : Array Value} {ep : Nat} {ps : Array Value} {fw pc : Nat → Str}
    {dp un : Nat} {gd : Option (List Code)} {cn : Str} {cs : Scope} {a : Addr} {ccd : Value} {cl : List (Str × Addr)} {outer : List Env} {A₀ : Around} {base h₀ : Heap} {L : Addr} {m : Str → Option Value} {nw : List (Addr × Obj)} {s : Shared} {Q E : Value → Shared → Prop}
    (G : AllBare s.gens) (C : CodeHd h₀ 81 77) (ht : TriplesOk ps.toList) (hoff : ∀ p ∈ nw, p.1 ≠ 77) (hx : (x, accObj dx items ep) ∈ nw) (hpc : Pieces items fw pc nw) (h1 : ∀ j, j < items.size → (fw j).length = 1 ∧ (pc j).length = 1) (hsz : items.size ≤ 1000)
    (B : Below A₀ base outer h₀) (F : Fr h₀ L s.heap m) (X₀ : (tp.heap_39 w.params).In h₀) (N : News h₀ L s.heap ((77, tabObj ps) :: nw)) (T : Top pp loose mean mg mb h₀) (hk : cs.kind = .function)
    (hdp : dp + 3 < recursionLimit) (hun : un + 24 < cLine)
    (ret : ∀ ps' t s', Fr h₀ L s'.heap m → News h₀ L s'.heap ((77, tabObj ps') :: nw) → TriplesOk ps'.toList → AllBare s'.gens → s'.os = s.os → Q (.str (Txt.join (Str.ofString "") ((List.range items.size).map fun j => Txt.join (Str.ofString "") [fw j, pc j])) t) s') :
    wpAny (model PySem.Challenge.rw_wu0012_01.row.prog w) (ktrTop dp un gd cn cs L a ccd cl outer) (call (.ref 82) [.ref x]) Q E s := by
  refine wpAny_call ?_
  k_dflt cell_enter
  repeat' (first | (k_unfold; (try dsimp only)) | (k_end; wrow_close) | (walk1; all_goals (try dsimp only)) | (leave1; walk_say "STEP leave1"; try dsimp only) | fail "no step")
  (with_reducible rename Fr _ _ _ _ => F1)
  (with_reducible rename News _ _ _ _ => N1)
  (with_reducible rename Frag.In _ _ => X1)
  (with_reducible rename Top _ _ _ _ _ _ => T1)
  (with_reducible rename Below _ _ _ _ => B1)
  (with_reducible rename Fr h₀ L _ m => FG)
  have C1 : CodeHd _ 81 77 := C.keeps FG.keep
  have hte := emp_glob (w := w)
  refine acc_gen (P := 77) (items := items) (fw := fw) (pc := pc) (Fi := fun i y => ∃ t, y = .str (Txt.join (Str.ofString "") [fw i, pc i]) t) rfl rfl rfl (by decide) (by decide) (by decide) (by decide) (by decide) rfl (by ktr_room) rfl rfl (fun _ => rfl) F1 X1 N1 T1 G C1 ht hoff hx hpc (fun Q' hq => ld F1 rfl hq) ?_ ?_
  · intro C' code A' E' i ta tb s₂ m₂ hA hD hU hi hn ha hb hk
    exact elt_str (mb := mb) hA rfl (T1.g.keeps hk) (mg_of X1 T1.g hte) hn ha hb (h1 i hi).1 (h1 i hi).2
  · intro a' ps' s₅ K F5 N5 ht5 G5 os5 hLK hle XG
    clear F1 N1
    repeat' (first | (k_unfold; (try dsimp only)) | (k_end; wrow_close) | (walk1; all_goals (try dsimp only)) | (leave1; walk_say "STEP leave1"; try dsimp only) | fail "no step")
    have hok : JoinOk (Str.ofString "") ((List.range items.size).map fun j => Txt.join (Str.ofString "") [fw j, pc j]) = true := by
      refine joinOk_of ?_
      have hz : (Str.ofString "").length = 0 := by decide
      rw [hz, sum_twos, List.length_range]
      · omega
      · intro j hj
        have hj := h1 j (List.mem_range.mp hj)
        refine PySem.W.KT.join_ones [fw j, pc j] fun b hb => ?_
        rcases List.mem_cons.mp hb with rfl | hb
        · exact hj.1
        · rw [List.mem_singleton.mp hb]; exact hj.2
    refine join_rowsK F5 G5 XG hLK (fun j => Txt.join (Str.ofString "") [fw j, pc j]) (fun _ _ h => h) hok ?_ (by rw [sizeLine_eq]; omega)
    intro s' t' F6 G6 os6 hk6
    k_unfold
    refine leaveK_ F6 (fun p hp => ⟨hk6 _ _ (hle p hp) (N5 p hp).1, (N5 p hp).2⟩) ?_
    intro kF kN
    exact ret ps' t' s' kF kN ht5 G6 (os6.trans os5)
end Mine
end

section
open PySem PySem.W PyProof.Rows PySem.Calls
set_option Elab.async false
set_option maxRecDepth 100000
set_option maxHeartbeats 1000000
set_option linter.unusedVariables false
namespace Mine
/-- the letter that a number stands for -/
noncomputable def ch (c : Int) : Nat := if c = 0 then 114 else if c = 1 then 103 else 98
noncomputable def LT (c : Int) : Str := ⟨#[ch c]⟩
/-- a word as a text -/
noncomputable def wd (ls : List Int) : Str := ⟨(ls.map ch).toArray⟩
abbrev Lett (c : Int) : Prop := 0 ≤ c ∧ c < 3
theorem lett_or {c : Int} (h : Lett c) : c = 0 ∨ c = 1 ∨ c = 2 := by
  obtain ⟨n, rfl⟩ := Int.eq_ofNat_of_zero_le h.1
  match n, h.2 with
  | 0, _ => exact .inl rfl
  | 1, _ => exact .inr (.inl rfl)
  | 2, _ => exact .inr (.inr rfl)
  | n + 3, h1 => exact absurd (Int.ofNat_lt.mp h1) (Nat.not_lt.mpr (Nat.le_add_left 3 n))
theorem lett_mem {c : Int} (h : Lett c) : c ∈ ([0, 1, 2] : List Int) := by
  rcases lett_or h with rfl | rfl | rfl
  · exact .head _
  · exact .tail _ (.head _)
  · exact .tail _ (.tail _ (.head _))
theorem three_or {i c d f : Int} (hi : Lett i) (hc : Lett c) (hd : Lett d) (hf : Lett f) (cd : c ≠ d) (cf : c ≠ f) (df : d ≠ f) : i = c ∨ i = d ∨ i = f :=
  (by decide +kernel : ∀ i ∈ ([0, 1, 2] : List Int), ∀ c ∈ ([0, 1, 2] : List Int), ∀ d ∈ ([0, 1, 2] : List Int), ∀ f ∈ ([0, 1, 2] : List Int), c ≠ d → c ≠ f → d ≠ f → (i = c ∨ i = d ∨ i = f))
    i (lett_mem hi) c (lett_mem hc) d (lett_mem hd) f (lett_mem hf) cd cf df
theorem third_of {c d : Int} (hc : Lett c) (hd : Lett d) (cd : c ≠ d) : Lett (3 - c - d) ∧ c ≠ 3 - c - d ∧ d ≠ 3 - c - d ∧ ((c = (d + 1) % 3 ∧ (d + 2) % 3 = 3 - c - d) ∨ (¬ c = (d + 1) % 3 ∧ (d + 2) % 3 = c ∧ (d + 1) % 3 = 3 - c - d)) :=
  (by decide +kernel : ∀ c ∈ ([0, 1, 2] : List Int), ∀ d ∈ ([0, 1, 2] : List Int), c ≠ d → (0 ≤ 3 - c - d ∧ 3 - c - d < 3) ∧ c ≠ 3 - c - d ∧ d ≠ 3 - c - d ∧ ((c = (d + 1) % 3 ∧ (d + 2) % 3 = 3 - c - d) ∨ (¬ c = (d + 1) % 3 ∧ (d + 2) % 3 = c ∧ (d + 1) % 3 = 3 - c - d)))
    c (lett_mem hc) d (lett_mem hd) cd
theorem lett_next {c : Int} (hc : Lett c) : Lett ((c + 1) % 3) ∧ Lett ((c + 2) % 3) :=
  (by decide +kernel : ∀ c ∈ ([0, 1, 2] : List Int), (0 ≤ (c + 1) % 3 ∧ (c + 1) % 3 < 3) ∧ 0 ≤ (c + 2) % 3 ∧ (c + 2) % 3 < 3) c (lett_mem hc)
/-- no two neighbours are alike, and all are letters -/
def Good : List Int → Prop
  | [] => True
  | [c] => Lett c
  | c :: d :: r => Lett c ∧ c ≠ d ∧ Good (d :: r)
/-- the deed that a letter stands for -/
noncomputable def mv (c : Int) (p : Int × Int × Int) : Int × Int × Int :=
  if c = 0 then (p.2.1 * p.2.2 - p.1, p.2.1, p.2.2) else if c = 1 then (p.1, p.2.2 * p.1 - p.2.1, p.2.2) else (p.1, p.2.1, p.1 * p.2.1 - p.2.2)
/-- the three that stand behind a word -/
noncomputable def run (p : Int × Int × Int) (ls : List Int) : Int × Int × Int := ls.foldl (fun q c => mv c q) p
def RootOk (p : Int × Int × Int) : Prop :=
  ∃ k : Int, 0 ≤ k ∧ k < 3 ∧ (4 + k ≤ p.1 ∧ p.1 < 2 * (4 + k)) ∧ (4 + k ≤ p.2.1 ∧ p.2.1 < 2 * (4 + k)) ∧ (4 + k ≤ p.2.2 ∧ p.2.2 < 2 * (4 + k))
/-- what a colour tells behind a word -/
def Says (out : Str) (ls : List Int) : Prop :=
  match ls.reverse with
  | [] => out = Str.ofString ""
  | [c] => ∃ b, Lett b ∧ out = wd [b, c]
  | c :: b :: _ => out = wd [b, c]
/-- the word when one more letter is done -/
noncomputable def next (ls : List Int) (c : Int) : List Int := if ls.getLast? = some c then ls.dropLast else ls ++ [c]
noncomputable def sq (p : Int × Int × Int) : Int := p.1 * p.1 + p.2.1 * p.2.1 + p.2.2 * p.2.2 - p.1 * p.2.1 * p.2.2
theorem item_rgb {c : Int} (h : Lett c) : Txt.item (Str.ofString "rgb") c = LT c := by
  rcases lett_or h with rfl | rfl | rfl <;> decide +kernel
theorem sq_mv (c : Int) (p : Int × Int × Int) : sq (mv c p) = sq p := by
  unfold sq mv
  split
  · dsimp only; grind
  · split <;> dsimp only <;> grind
theorem mv_mv (c : Int) (p : Int × Int × Int) : mv c (mv c p) = p := by
  obtain ⟨x, y, z⟩ := p
  unfold mv
  have k : ∀ a b : Int, a * b - (a * b - x) = x ∧ a * b - (a * b - y) = y ∧ a * b - (a * b - z) = z := fun a b => ⟨Int.sub_sub_self .., Int.sub_sub_self .., Int.sub_sub_self ..⟩
  split
  · dsimp only; rw [(k _ _).1]
  · split
    · dsimp only; rw [(k _ _).2.1]
    · dsimp only; rw [(k _ _).2.2]
theorem run_snoc (p : Int × Int × Int) (ls : List Int) (c : Int) : run p (ls ++ [c]) = mv c (run p ls) := by
  unfold run; rw [List.foldl_append]; rfl
theorem sq_run (p : Int × Int × Int) (ls : List Int) : sq (run p ls) = sq p := by
  induction ls generalizing p with
  | nil => rfl
  | cons c r ih => show sq (run (mv c p) r) = _; rw [ih, sq_mv]
theorem split_last {ls : List Int} {c : Int} (h : ls.getLast? = some c) : ls = ls.dropLast ++ [c] := by
  have h1 : ls ≠ [] := fun e => by rw [e] at h; cases h
  have h2 := List.dropLast_concat_getLast h1
  rw [List.getLast?_eq_some_getLast h1] at h
  rw [Option.some.inj h] at h2
  exact h2.symm
theorem run_next (p : Int × Int × Int) (ls : List Int) (c : Int) : run p (next ls c) = mv c (run p ls) := by
  unfold next
  split
  · next h =>
    have e := split_last h
    conv => rhs; rw [e, run_snoc, mv_mv]
  · exact run_snoc ..
theorem good_dropLast {ls : List Int} (h : Good ls) : Good ls.dropLast := by
  induction ls with
  | nil => trivial
  | cons c r ih =>
    match r, h, ih with
    | [], h, _ => trivial
    | [d], h, _ => exact h.1
    | d :: e :: r, h, ih => exact ⟨h.1, h.2.1, ih h.2.2⟩
theorem good_snoc {ls : List Int} {c : Int} (h : Good ls) (hc : Lett c) (hl : ls.getLast? ≠ some c) : Good (ls ++ [c]) := by
  induction ls with
  | nil => exact hc
  | cons d r ih =>
    match r, h, ih, hl with
    | [], h, _, hl => exact ⟨h, fun e => hl (by rw [e]; rfl), hc⟩
    | e :: r, h, ih, hl => exact ⟨h.1, h.2.1, ih h.2.2 (by simpa [List.getLast?_cons_cons] using hl)⟩
theorem good_next {ls : List Int} {c : Int} (h : Good ls) (hc : Lett c) : Good (next ls c) := by
  unfold next
  split
  · exact good_dropLast h
  · next hl => exact good_snoc h hc hl
end Mine
end

section
open PySem PySem.W PyProof.Rows PySem.Calls
set_option Elab.async false
set_option maxRecDepth 100000
set_option maxHeartbeats 1000000
set_option linter.unusedVariables false
namespace Mine
/-- the words of n letters -/
noncomputable def wordsOf : Nat → List (List Int)
  | 0 => [[]]
  | n + 1 => (wordsOf n).flatMap fun r => [0 :: r, 1 :: r, 2 :: r]
noncomputable def words5 : List (List Int) := wordsOf 0 ++ wordsOf 1 ++ wordsOf 2 ++ wordsOf 3 ++ wordsOf 4 ++ wordsOf 5
theorem good_lett {ls : List Int} (h : Good ls) : ∀ c ∈ ls, Lett c := by
  induction ls with
  | nil => intro c hc; cases hc
  | cons d r ih =>
    match r, h, ih with
    | [], h, _ => intro c hc; rw [List.mem_singleton.mp hc]; exact h
    | e :: r, h, ih =>
      intro c hc
      rcases List.mem_cons.mp hc with rfl | hc
      · exact h.1
      · exact ih h.2.2 c hc
theorem mem_wordsOf : ∀ {ls : List Int}, (∀ c ∈ ls, Lett c) → ls ∈ wordsOf ls.length
  | [], _ => .head _
  | c :: r, h => by
    refine List.mem_flatMap.mpr ⟨r, mem_wordsOf fun c hc => h c (.tail _ hc), ?_⟩
    rcases lett_or (h c (.head _)) with rfl | rfl | rfl
    · exact .head _
    · exact .tail _ (.head _)
    · exact .tail _ (.tail _ (.head _))
theorem all_words (P : List Int → Bool) (h : words5.all P = true) {ls : List Int} (g : ∀ c ∈ ls, Lett c) (hl : ls.length ≤ 5) : P ls = true := by
  refine List.all_eq_true.mp h ls ?_
  have hm := mem_wordsOf g
  unfold words5
  have : ls.length = 0 ∨ ls.length = 1 ∨ ls.length = 2 ∨ ls.length = 3 ∨ ls.length = 4 ∨ ls.length = 5 := by omega
  simp only [List.mem_append]
  rcases this with e | e | e | e | e | e <;> rw [e] at hm <;> simp [hm]
theorem wd_len (ls : List Int) : (wd ls).length = ls.length := by simp [wd, Str.length]
theorem wd_snoc (ls : List Int) (c : Int) : wd ls ++ LT c = wd (ls ++ [c]) := by
  show (⟨_ ++ _⟩ : Str) = _
  simp [wd, LT]
theorem slice_last {ls : List Int} (g : ∀ c ∈ ls, Lett c) (hl : ls.length ≤ 5) : Txt.slice (wd ls) (some (-1)) none = wd ls.getLast?.toList :=
  of_decide_eq_true (all_words (fun ls => decide (Txt.slice (wd ls) (some (-1)) none = wd ls.getLast?.toList)) (by decide +kernel) g hl)
theorem slice_drop {ls : List Int} (g : ∀ c ∈ ls, Lett c) (hl : ls.length ≤ 5) : Txt.slice (wd ls) none (some (-1)) = wd ls.dropLast :=
  of_decide_eq_true (all_words (fun ls => decide (Txt.slice (wd ls) none (some (-1)) = wd ls.dropLast)) (by decide +kernel) g hl)
theorem slice_two {ls : List Int} (g : ∀ c ∈ ls, Lett c) (hl : ls.length ≤ 5) : Txt.slice (wd ls) (some (-2)) none = wd (ls.drop (ls.length - 2)) :=
  of_decide_eq_true (all_words (fun ls => decide (Txt.slice (wd ls) (some (-2)) none = wd (ls.drop (ls.length - 2)))) (by decide +kernel) g hl)
theorem slice_one {ls : List Int} (g : ∀ c ∈ ls, Lett c) (hl : ls.length ≤ 5) : Txt.slice (wd ls) (some 1) none = wd (ls.drop 1) :=
  of_decide_eq_true (all_words (fun ls => decide (Txt.slice (wd ls) (some 1) none = wd (ls.drop 1))) (by decide +kernel) g hl)
theorem ch_inj {c d : Int} (hc : Lett c) (hd : Lett d) (h : ch c = ch d) : c = d := by
  exact (by decide +kernel : ∀ c ∈ ([0, 1, 2] : List Int), ∀ d ∈ ([0, 1, 2] : List Int), ch c = ch d → c = d) c (lett_mem hc) d (lett_mem hd) h
theorem wd_inj : ∀ {a b : List Int}, (∀ c ∈ a, Lett c) → (∀ c ∈ b, Lett c) → wd a = wd b → a = b := by
  intro a b ha hb h
  have h : a.map ch = b.map ch := by simpa [wd] using h
  induction a generalizing b with
  | nil => cases b with
    | nil => rfl
    | cons d r => cases h
  | cons c r ih => cases b with
    | nil => cases h
    | cons d q =>
      simp only [List.map_cons, List.cons.injEq] at h
      rw [ch_inj (ha c (.head _)) (hb d (.head _)) h.1, ih (fun c hc => ha c (.tail _ hc)) (fun c hc => hb c (.tail _ hc)) ?_ h.2]
      exact congrArg (fun l : List Nat => (⟨l.toArray⟩ : Str)) h.2
/-- the text's end tells the last letter -/
theorem says_tail {ls : List Int} {out : Str} (g : Good ls) (h : Says out ls) : Txt.slice out (some 1) none = wd ls.getLast?.toList := by
  have gl := good_lett g
  unfold Says at h
  have hr : ls.getLast? = ls.reverse.head? := by simp
  rw [hr]
  have gr : ∀ c ∈ ls.reverse, Lett c := fun c hc => gl c (by simpa using hc)
  match hq : ls.reverse, h, gr with
  | [], h, _ => subst h; decide +kernel
  | [c], h, gr =>
    obtain ⟨b, hb, rfl⟩ := h
    have hc := gr c (.head _)
    exact slice_one (ls := [b, c]) (by intro d hd; simp at hd; rcases hd with rfl | rfl <;> assumption) (by simp)
  | c :: b :: r, h, gr =>
    rw [show out = wd [b, c] from h]
    have hc := gr c (.head _)
    have hb := gr b (.tail _ (.head _))
    exact slice_one (ls := [b, c]) (by intro d hd; simp at hd; rcases hd with rfl | rfl <;> assumption) (by simp)
theorem says_len {ls : List Int} {out : Str} (h : Says out ls) : out.length ≤ 2 := by
  unfold Says at h
  match ls.reverse, h with
  | [], h => subst h; decide +kernel
  | [c], h => obtain ⟨b, hb, rfl⟩ := h; exact Nat.le_of_eq (wd_len _)
  | c :: b :: r, h => rw [show out = wd [b, c] from h]; exact Nat.le_of_eq (wd_len _)
theorem says_two {ls : List Int} {out : Str} (h : Says out ls) (hl : 1 < ls.length) : out = wd (ls.drop (ls.length - 2)) := by
  unfold Says at h
  match hq : ls.reverse, h with
  | [], h => rw [List.reverse_eq_nil_iff.mp hq] at hl; simp at hl
  | [c], h => rw [show ls = [c] from by rw [← List.reverse_reverse ls, hq]; rfl] at hl; simp at hl
  | c :: b :: r, h =>
    have e : ls = r.reverse ++ [b, c] := by rw [← List.reverse_reverse ls, hq]; simp
    rw [show out = wd [b, c] from h, e]
    simp
theorem hit_iff {ls : List Int} {c : Int} (g : Good ls) (hc : Lett c) : (wd ls.getLast?.toList == LT c) = true ↔ ls.getLast? = some c := by
  have e : LT c = wd [c] := rfl
  rw [beq_iff_eq, e]
  constructor
  · intro h
    have := wd_inj (fun d hd => good_lett g d (List.mem_of_getLast? (by simpa using hd))) (fun d hd => by rw [List.mem_singleton.mp hd]; exact hc) h
    cases hq : ls.getLast? with
    | none => rw [hq] at this; cases this
    | some d => rw [hq] at this; simp at this; rw [this]
  · intro h; rw [h]; rfl
end Mine
end

section
open PySem PySem.W PyProof.Rows PySem.Calls
set_option Elab.async false
set_option maxRecDepth 100000
set_option maxHeartbeats 1000000
set_option linter.unusedVariables false
namespace Mine
section
variable {prog : Program} {w : World} {A : Around} {E : Value → Shared → Prop} {s : Shared} {env : Env} {h₀ : Heap}
/-- the end of a turn of a loop over a range: the rest of the state may have changed -/
def TurnEnd (h₀ : Heap) (L I : Addr) (a : Int) (n : Nat) (P : Shared → Prop) (J : Addr → Nat → (Str → Option Value) → List (Addr × Obj) → Prop) (i : Nat) (s₂ : Shared) : Prop :=
  ∃ m' news', P s₂ ∧ Fr h₀ L s₂.heap m' ∧ News h₀ L s₂.heap ((I, itR (a + (i : Int)) ((n : Int) - (i : Int))) :: news') ∧ (∀ p ∈ news', p.1 ≠ I) ∧ J I i m' news'
def TurnPost (h₀ : Heap) (L I : Addr) (a : Int) (n : Nat) (P : Shared → Prop) (J : Addr → Nat → (Str → Option Value) → List (Addr × Obj) → Prop) (Q : Flow → Shared → Prop) (i : Nat) (f : Flow) (s₂ : Shared) : Prop :=
  match f with
  | .ret v => Q (.ret v) s₂
  | .brk => Q .next s₂
  | _ => TurnEnd h₀ L I a n P J i s₂
theorem forRangeS {Q : Flow → Shared → Prop} {x : Str} {px : Pos} {body : List Stmt} {r : Addr} {a b : Int} {t u v : Tok} {n : Nat} {m : Str → Option Value} {news : List (Addr × Obj)}
    (P : Shared → Prop) (hP : ∀ s h tk, P s → P { s with heap := h, toks := tk }) (J : Addr → Nat → (Str → Option Value) → List (Addr × Obj) → Prop)
    (hh : A.handled = none) (hx : env.kindOf x = some .local)
    (hp : (env.scope.kind == .class || (env.scope.kind == .module && env.locals != env.globals)) = false)
    (hr : IsRange s.heap r a b 1 t u v) (hsmall : Builtin.Range.small a b 1 = true) (hn : Builtin.Range.rangeSize a b 1 = (n : Int))
    (F : Fr h₀ env.locals s.heap m) (N : News h₀ env.locals s.heap news) (p0 : P s)
    (J0 : ∀ I : Addr, (∀ p ∈ news, p.1 < I) → J I 0 m news)
    (step : ∀ I i t m₁ news₁ s₁, i < n → J I i m₁ news₁ → P s₁ → (∀ p ∈ news₁, p.1 ≠ I) → Fr h₀ env.locals s₁.heap (fun y => if y = x then some (.int (a + (i : Int)) t) else m₁ y) →
      News h₀ env.locals s₁.heap ((I, itR (a + ((i + 1 : Nat) : Int)) ((n : Int) - ((i + 1 : Nat) : Int))) :: news₁) →
      wpAny (model prog w) A (execs body env) (TurnPost h₀ env.locals I a n P J Q (i + 1)) E s₁)
    (fin : ∀ I s₁ m₁ news₁, J I n m₁ news₁ → P s₁ → (∀ p ∈ news₁, p.1 ≠ I) → Fr h₀ env.locals s₁.heap m₁ → News h₀ env.locals s₁.heap news₁ → Q .next s₁)
    (hE : PassesOwn (model prog w) A env E := by passes_own) :
    wpAny (model prog w) A (pyIter (.ref r)) (fun it s₂ =>
      codeAny (model prog w) A (.forLoop (.Name x px) it body [] env) (fun r s' => match r with | .ok f => Q f s' | .error e => cameBackBy (model prog w) A env E e s') s₂) E s := by
  refine wpAny_pyIter_range hr hsmall ?_
  have hnew := next_is_new F
  have hI : s.heap.objs.size ≠ env.locals := (Nat.ne_of_gt F.ns.lt)
  refine codeAny_forLoop
    (fun k s' => ∃ i m' news', P s' ∧ Fr h₀ env.locals s'.heap m' ∧ News h₀ env.locals s'.heap ((s.heap.objs.size, itR (a + (i : Nat)) ((n : Int) - (i : Nat))) :: news') ∧ (∀ p ∈ news', p.1 ≠ s.heap.objs.size) ∧ J s.heap.objs.size i m' news' ∧ i ≤ n ∧ k = n + 1 - i) ?_ (n + 1) ?_
  · rintro k s' ⟨i, m', news', hPs, F', N', off, hJ, hi, rfl⟩
    have hit' := (N' _ (List.mem_cons_self ..)).1
    have hit : IsRangeIter s'.heap s.heap.objs.size (a + (i : Nat)) ((n : Int) - (i : Nat)) 1 := hit'
    have old : ∀ b o, h₀.get? b = some o → b ≠ s.heap.objs.size := fun b o e q => by rw [q, hnew] at e; cases e
    by_cases hlt : i < n
    · refine wpAny_pyNext_range_item hit (by omega) fun h₁ hit₁ hs₁ => ?_
      refine wpAny_assign_Name (wpAny_storeName_local hx (F'.ns.sameBut hs₁ hI.symm) (fun h₂ hn₂ hs₂ => ?_) hp)
      have F₁ : Fr h₀ env.locals h₁ m' := ⟨F'.ns.sameBut hs₁ hI.symm, fun b o e => (hs₁.2 b (old b o e)).trans (F'.keep b o e), F'.above⟩
      have F₂ := F₁.set hn₂ hs₂
      have e1 : a + (i : Int) + 1 = a + ((i + 1 : Nat) : Int) := by push_cast; omega
      have e2 : (n : Int) - (i : Int) - 1 = (n : Int) - ((i + 1 : Nat) : Int) := by push_cast; omega
      rw [e1, e2] at hit₁
      have N₂ : News h₀ env.locals h₂ ((s.heap.objs.size, itR (a + ((i + 1 : Nat) : Int)) ((n : Int) - ((i + 1 : Nat) : Int))) :: news') := by
        intro p hp
        rcases List.mem_cons.mp hp with rfl | hp
        · exact ⟨(hs₂.2 _ hI).trans hit₁, hI, hnew⟩
        · exact ⟨(hs₂.2 _ (N' _ (.tail _ hp)).2.1).trans ((hs₁.2 _ (off p hp)).trans (N' _ (.tail _ hp)).1), (N' _ (.tail _ hp)).2.1, (N' _ (.tail _ hp)).2.2⟩
      refine wpAny_mono (wpAny_passesOwn hE (step s.heap.objs.size i _ m' news' _ hlt hJ (hP _ _ _ (hP _ _ _ hPs)) off F₂ N₂)) (fun f s₃ h₃ => ?_) fun _ _ e => e
      have fin' : TurnEnd h₀ env.locals s.heap.objs.size a n P J (i + 1) s₃ → ∃ m, m < n + 1 - i ∧ ∃ i m' news', P s₃ ∧ Fr h₀ env.locals s₃.heap m' ∧ News h₀ env.locals s₃.heap ((s.heap.objs.size, itR (a + (i : Nat)) ((n : Int) - (i : Nat))) :: news') ∧ (∀ p ∈ news', p.1 ≠ s.heap.objs.size) ∧ J s.heap.objs.size i m' news' ∧ i ≤ n ∧ m = n + 1 - i := by
        rintro ⟨m₃, news₃, hP₃, F₃, N₃, off₃, J₃⟩
        exact ⟨n + 1 - (i + 1), by omega, i + 1, m₃, news₃, hP₃, F₃, N₃, off₃, J₃, hlt, rfl⟩
      cases f with
      | next => exact fin' h₃
      | cont => exact fin' h₃
      | brk => exact h₃
      | ret v => exact h₃
    · have hin : i = n := by omega
      subst hin
      refine wpAny_pyNext_range_end hh hit (by omega) fun h₁ he₁ => wpAny_execs_nil ?_
      have F₁ : Fr h₀ env.locals h₁ m' := ⟨F'.ns.extBut he₁ hI.symm, fun b o e => he₁ b o (old b o e) (F'.keep b o e), F'.above⟩
      exact fin s.heap.objs.size _ m' news' hJ (hP _ _ _ hPs) off F₁ fun p hp => ⟨he₁ _ _ (off p hp) (N' _ (.tail _ hp)).1, (N' _ (.tail _ hp)).2⟩
  · have hlt : ∀ p ∈ news, p.1 < s.heap.objs.size := fun p hp => Heap.lt_size (N p hp).1
    refine ⟨0, m, news, hP _ _ _ p0, F.push _, ?_, fun p hp => Nat.ne_of_lt (hlt p hp), J0 _ hlt, Nat.zero_le _, rfl⟩
    rw [hn]
    have := N.push F (itR (a + ((0 : Nat) : Int)) ((n : Int) - ((0 : Nat) : Int)))
    simpa [itR] using this
end
end Mine
end

section
open PySem PySem.W PyProof.Rows PySem.Calls
set_option Elab.async false
set_option maxRecDepth 100000
set_option maxHeartbeats 1000000
set_option linter.unusedVariables false
namespace Mine
/-- the names of the law at the start of a turn -/
noncomputable def turnM (mB : Str → Option Value) (kv lv : Option Value) (way told three : Value) (y : Str) : Option Value :=
  if y = Str.ofString "letter" then lv else if y = Str.ofString "k" then kv else if y = Str.ofString "way" then some way else if y = Str.ofString "told" then some told else if y = Str.ofString "three" then some three else mB y
/-- what stays the same through all the turns -/
structure Fixd where
  w : World
  x : Addr
  d : Addr
  R : Addr
  DR : Addr
  a4 : Addr
  a3 : Addr
  tk : Tok
  tv : Tok
  low : Int
  x0 : Int
  y0 : Int
  z0 : Int
  ra : Tok
  rb : Tok
  rc : Tok
  ysD : List Value
  c4 : Obj
  c3 : Obj
/-- the ledger without the two tables of code and the iterator -/
noncomputable abbrev ledB (f : Fixd) (its : Array Value) (ep : Nat) (T : Addr) (tr : Obj) : List (Addr × Obj) → List (Addr × Obj) := fun pcs =>
  (f.x, accObj f.d its ep) :: (f.d, dictOf (szEs f.w f.tk f.tv f.low) 1) :: (T, tr) :: (f.R, tri f.x0 f.y0 f.z0 f.ra f.rb f.rc 3) :: (f.DR, LCg.lst f.ysD) :: (f.a4, f.c4) :: (f.a3, f.c3) :: pcs
def PiecesOk (its : Array Value) (ls : List Int) (pcs : List (Addr × Obj)) : Prop :=
  its.size = ls.length ∧ Pieces its (fun _ => Str.ofString " ") (fun j => LT (ls.getD j 0)) pcs ∧ ∀ p ∈ pcs, p.2.cls = .type "tuple"
/-- all that a turn needs of the ledger -/
structure Has (f : Fixd) (I : Addr) (i : Nat) (its : Array Value) (ep : Nat) (T : Addr) (tr : Obj) (p0 p7 : Array Value) (pcs all : List (Addr × Obj)) : Prop where
  hx : (f.x, accObj f.d its ep) ∈ all
  hd : (f.d, dictOf (szEs f.w f.tk f.tv f.low) 1) ∈ all
  hT : (T, tr) ∈ all
  hR : (f.R, tri f.x0 f.y0 f.z0 f.ra f.rb f.rc 3) ∈ all
  hD : (f.DR, LCg.lst f.ysD) ∈ all
  h4 : (f.a4, f.c4) ∈ all
  h3 : (f.a3, f.c3) ∈ all
  h0 : (70, tabObj p0) ∈ all
  h7 : (77, tabObj p7) ∈ all
  hI : (I, itR (4 + (i : Int)) (((12 : Nat) : Int) - (i : Int))) ∈ all
  hp : ∀ p ∈ pcs, p ∈ all
noncomputable abbrev ledS (f : Fixd) (its : Array Value) (ep : Nat) (T : Addr) (tr : Obj) (p0 p7 : Array Value) (pcs : List (Addr × Obj)) : List (Addr × Obj) :=
  ledB f its ep T tr ((70, tabObj p0) :: (77, tabObj p7) :: pcs)
theorem all_cons {P : Addr × Obj → Prop} {a : Addr × Obj} {l : List (Addr × Obj)} (h : P a) (t : ∀ p ∈ l, P p) : ∀ p ∈ a :: l, P p := List.forall_mem_cons.mpr ⟨h, t⟩
theorem no_mem {P : Addr × Obj → Prop} : ∀ p ∈ ([] : List (Addr × Obj)), P p := List.forall_mem_nil P
theorem cls_ne {o o' : Obj} (h : o.cls ≠ o'.cls) : o ≠ o' := fun e => h (congrArg Obj.cls e)
theorem Has.sub {f : Fixd} {I : Addr} {i : Nat} {its : Array Value} {ep : Nat} {T : Addr} {tr : Obj} {p0 p7 : Array Value} {pcs all : List (Addr × Obj)} (H : Has f I i its ep T tr p0 p7 pcs all) :
    ∀ p ∈ ledS f its ep T tr p0 p7 pcs, p ∈ all :=
  all_cons H.hx (all_cons H.hd (all_cons H.hT (all_cons H.hR (all_cons H.hD (all_cons H.h4 (all_cons H.h3 (all_cons H.h0 (all_cons H.h7 H.hp))))))))
/-- the cells are cells -/
structure CellsOk (f : Fixd) : Prop where
  e4 : ∃ t, f.c4.data = .cell (some (.int f.low t))
  e3 : f.c3.data = .cell (some (.ref f.DR))
theorem led_ne {f : Fixd} {its : Array Value} {ep : Nat} {T : Addr} {x y z : Int} {ta tb tc : Tok} {te : Nat} {p0 p7 : Array Value} {pcs : List (Addr × Obj)} {o : Obj} (C : CellsOk f) (hp : ∀ p ∈ pcs, p.2.cls = .type "tuple")
    (ho : o.cls ≠ .ref 108 ∧ o.cls ≠ .type "dict" ∧ o.cls ≠ .type "list" ∧ o.cls ≠ .none ∧ o.cls ≠ .type "tuple") (hc : ∀ v, o.data ≠ .cell v) :
    ∀ p ∈ ledS f its ep T (tri x y z ta tb tc te) p0 p7 pcs, p.2 ≠ o := by
  obtain ⟨t, e4⟩ := C.e4
  have e3 := C.e3
  obtain ⟨h1, h2, h3, h4, h5⟩ := ho
  exact all_cons (cls_ne h1.symm) (all_cons (cls_ne h2.symm) (all_cons (cls_ne h3.symm) (all_cons (cls_ne h3.symm) (all_cons (cls_ne h3.symm)
    (all_cons (fun e => hc _ ((congrArg Obj.data e).symm.trans e4)) (all_cons (fun e => hc _ ((congrArg Obj.data e).symm.trans e3)) (all_cons (cls_ne h4.symm) (all_cons (cls_ne h4.symm)
      fun p q e => h5 ((congrArg Obj.cls e).symm.trans (hp p q))))))))))
/-- the state of the law between two turns -/
def LJ (f : Fixd) (mB : Str → Option Value) (I : Addr) (i : Nat) (m : Str → Option Value) (news : List (Addr × Obj)) : Prop :=
  ∃ (kv lv : Option Value) (t1 t2 : Tok) (out : Str) (ls : List Int) (T : Addr) (ta tb tc : Tok) (te : Nat) (its : Array Value) (ep : Nat) (p0 p7 : Array Value) (pcs : List (Addr × Obj)),
    Good ls ∧ ls.length ≤ 5 ∧ Says out ls ∧ PiecesOk its ls pcs ∧ TriplesOk p0.toList ∧ TriplesOk p7.toList ∧ m = turnM mB kv lv (.str (wd ls) t1) (.str out t2) (.ref T) ∧
    news = ledS f its ep T (tri (run (f.x0, f.y0, f.z0) ls).1 (run (f.x0, f.y0, f.z0) ls).2.1 (run (f.x0, f.y0, f.z0) ls).2.2 ta tb tc te) p0 p7 pcs
abbrev LP (S₁ : Shared) (s : Shared) : Prop := AllBare s.gens ∧ s.os = S₁.os
theorem it_ne {f : Fixd} {i : Nat} {its : Array Value} {ep : Nat} {T : Addr} {x y z : Int} {ta tb tc : Tok} {te : Nat} {p0 p7 : Array Value} {pcs : List (Addr × Obj)} {a b : Int} (C : CellsOk f) (hp : ∀ p ∈ pcs, p.2.cls = .type "tuple") :
    ∀ p ∈ ledS f its ep T (tri x y z ta tb tc te) p0 p7 pcs, p.2 ≠ itR a b :=
  led_ne C hp ⟨by simp [itR], by simp [itR], by simp [itR], by simp [itR], by simp [itR]⟩ (by simp [itR])
/-- the end of a turn -/
theorem turn_end {f : Fixd} {mB : Str → Option Value} {S₁ : Shared} {h₀ : Heap} {L I : Addr} {i : Nat} {s : Shared} {m' : Str → Option Value} {kv lv : Option Value} {t1 t2 : Tok} {out : Str} {ls : List Int} {T : Addr} {x y z : Int} {ta tb tc : Tok} {te : Nat} {its : Array Value} {ep : Nat} {p0 p7 : Array Value} {pcs all : List (Addr × Obj)}
    (C : CellsOk f) (F : Fr h₀ L s.heap m') (N : News h₀ L s.heap all) (P : LP S₁ s) (H : Has f I (i + 1) its ep T (tri x y z ta tb tc te) p0 p7 pcs all)
    (g : Good ls) (hl : ls.length ≤ 5) (hs : Says out ls) (hp : PiecesOk its ls pcs) (h0 : TriplesOk p0.toList) (h7 : TriplesOk p7.toList) (hr : run (f.x0, f.y0, f.z0) ls = (x, y, z))
    (hm : m' = turnM mB kv lv (.str (wd ls) t1) (.str out t2) (.ref T)) : TurnEnd h₀ L I 4 12 (LP S₁) (LJ f mB) (i + 1) s := by
  refine ⟨m', ledS f its ep T (tri x y z ta tb tc te) p0 p7 pcs, P, F, ?_, ?_, kv, lv, t1, t2, out, ls, T, ta, tb, tc, te, its, ep, p0, p7, pcs, g, hl, hs, hp, h0, h7, hm, by rw [hr]⟩
  · intro p hp'
    rcases List.mem_cons.mp hp' with rfl | hp'
    · exact N _ H.hI
    · exact N _ (H.sub p hp')
  · intro p hp'
    exact N.twoPlaces (H.sub p hp') H.hI (it_ne (i := i) C hp.2.2 p hp')
theorem for_law {f : Fixd} {mB : Str → Option Value} {S₁ : Shared} {prog : Program} {w : World} {A : Around} {E : Value → Shared → Prop} {s : Shared} {env : Env} {h₀ : Heap}
    {Q : Flow → Shared → Prop} {px : Pos} {body : List Stmt} {r : Addr} {t u v : Tok} {news : List (Addr × Obj)} {t1 t2 : Tok}
    (hh : A.handled = none) (hx : env.kindOf (Str.ofString "k") = some .local)
    (hp : (env.scope.kind == .class || (env.scope.kind == .module && env.locals != env.globals)) = false)
    (hr : IsRange s.heap r 4 16 1 t u v) (C : CellsOk f)
    (F : Fr h₀ env.locals s.heap (fun y => if y = Str.ofString "way" then some (.str (Str.ofString "") t1) else if y = Str.ofString "told" then some (.str (Str.ofString "") t2) else if y = Str.ofString "three" then some (.ref f.R) else mB y))
    (hmB : mB (Str.ofString "letter") = none) (hmk : mB (Str.ofString "k") = none)
    (N : News h₀ env.locals s.heap news) (p0 : LP S₁ s)
    (hsub : ∀ p ∈ ledS f #[] 0 f.R (tri f.x0 f.y0 f.z0 f.ra f.rb f.rc 3) #[] #[] [], p ∈ news)
    (step : ∀ (I : Addr) (i : Nat) (t : Tok) kv lv t1 t2 out ls T ta tb tc te its ep p0 p7 pcs s₁, i < 12 → Good ls → ls.length ≤ 5 → Says out ls → PiecesOk its ls pcs → TriplesOk p0.toList → TriplesOk p7.toList → LP S₁ s₁ →
      Fr h₀ env.locals s₁.heap (fun y => if y = Str.ofString "k" then some (.int (4 + (i : Int)) t) else turnM mB kv lv (.str (wd ls) t1) (.str out t2) (.ref T) y) →
      News h₀ env.locals s₁.heap (ledB f its ep T (tri (run (f.x0, f.y0, f.z0) ls).1 (run (f.x0, f.y0, f.z0) ls).2.1 (run (f.x0, f.y0, f.z0) ls).2.2 ta tb tc te) ((70, tabObj p0) :: (77, tabObj p7) :: (I, itR (4 + ((i + 1 : Nat) : Int)) (((12 : Nat) : Int) - ((i + 1 : Nat) : Int))) :: pcs)) →
      wpAny (model prog w) A (execs body env) (TurnPost h₀ env.locals I 4 12 (LP S₁) (LJ f mB) Q (i + 1)) E s₁)
    (fin : ∀ kv lv t1 t2 out ls T ta tb tc te its ep p0 p7 pcs s₁, Good ls → ls.length ≤ 5 → Says out ls → PiecesOk its ls pcs → TriplesOk p0.toList → TriplesOk p7.toList → LP S₁ s₁ →
      Fr h₀ env.locals s₁.heap (turnM mB kv lv (.str (wd ls) t1) (.str out t2) (.ref T)) →
      News h₀ env.locals s₁.heap (ledS f its ep T (tri (run (f.x0, f.y0, f.z0) ls).1 (run (f.x0, f.y0, f.z0) ls).2.1 (run (f.x0, f.y0, f.z0) ls).2.2 ta tb tc te) p0 p7 pcs) → Q .next s₁)
    (hE : PassesOwn (model prog w) A env E := by passes_own) :
    wpAny (model prog w) A (pyIter (.ref r)) (fun it s₂ =>
      codeAny (model prog w) A (.forLoop (.Name (Str.ofString "k") px) it body [] env) (fun r s' => match r with | .ok f => Q f s' | .error e => cameBackBy (model prog w) A env E e s') s₂) E s := by
  have nil : PiecesOk #[] [] [] := ⟨rfl, ⟨fun j hj => absurd hj (Nat.not_lt_zero _)⟩, fun p hp => nomatch hp⟩
  refine forRangeS (n := 12) (news := ledS f #[] 0 f.R (tri f.x0 f.y0 f.z0 f.ra f.rb f.rc 3) #[] #[] []) (LP S₁) (fun _ _ _ h => h) (LJ f mB) hh hx hp hr (by decide) (by decide) F (fun p hp => N p (hsub p hp)) p0 ?_ ?_ ?_ hE
  · intro I _
    refine ⟨none, none, t1, t2, Str.ofString "", [], f.R, f.ra, f.rb, f.rc, 3, #[], 0, #[], #[], [], trivial, by simp, rfl, nil, by simp [TriplesOk], by simp [TriplesOk], ?_, rfl⟩
    funext y
    unfold turnM
    by_cases h1 : y = Str.ofString "letter"
    · subst h1; rw [if_neg (by decide), if_neg (by decide), if_neg (by decide), if_pos rfl]; exact hmB
    · by_cases h2 : y = Str.ofString "k"
      · subst h2; rw [if_neg (by decide), if_neg (by decide), if_neg (by decide), if_neg h1, if_pos rfl]; exact hmk
      · simp [h1, h2]; rfl
  · rintro I i t m₁ news₁ s₁ hi ⟨kv, lv, t1, t2, out, ls, T, ta, tb, tc, te, its, ep, p0, p7, pcs, g, hl, hs, hpc, h0, h7, rfl, rfl⟩ P off F' N'
    refine step I i t kv lv t1 t2 out ls T ta tb tc te its ep p0 p7 pcs s₁ hi g hl hs hpc h0 h7 P F' fun p hp' => N' p ?_
    revert p
    repeat (refine all_cons (by k_mem) ?_)
    exact fun p hp => by repeat (first | exact hp | refine List.mem_cons_of_mem _ ?_)
  · rintro I s₁ m₁ news₁ ⟨kv, lv, t1, t2, out, ls, T, ta, tb, tc, te, its, ep, p0, p7, pcs, g, hl, hs, hpc, h0, h7, rfl, rfl⟩ P off F' N'
    exact fin kv lv t1 t2 out ls T ta tb tc te its ep p0 p7 pcs s₁ g hl hs hpc h0 h7 P F' N'
/-- the ledger of a turn -/
noncomputable abbrev led10 (w : World) (x d T R DR a4 a3 I : Addr) (its : Array Value) (ep : Nat) (tk tv : Tok) (low : Int) (tr tr0 : Obj) (ysD : List Value) (c4 c3 : Obj) (p0 p7 : Array Value) (j k : Int) (pcs : List (Addr × Obj)) : List (Addr × Obj) :=
  (x, accObj d its ep) :: (d, dictOf (szEs w tk tv low) 1) :: (T, tr) :: (R, tr0) :: (DR, LCg.lst ysD) :: (a4, c4) :: (a3, c3) :: (70, tabObj p0) :: (77, tabObj p7) :: (I, itR j k) :: pcs
noncomputable abbrev led9 (w : World) (x d T R DR a4 a3 : Addr) (its : Array Value) (ep : Nat) (tk tv : Tok) (low : Int) (tr tr0 : Obj) (ysD : List Value) (c4 c3 : Obj) (p0 p7 : Array Value) (pcs : List (Addr × Obj)) : List (Addr × Obj) :=
  (x, accObj d its ep) :: (d, dictOf (szEs w tk tv low) 1) :: (T, tr) :: (R, tr0) :: (DR, LCg.lst ysD) :: (a4, c4) :: (a3, c3) :: (70, tabObj p0) :: (77, tabObj p7) :: pcs
theorem for_law2 {w' : World} {x d R DR a4 a3 a2 a1 D' l' : Addr} {tk tv ra rb rc : Tok} {low x0 y0 z0 : Int} {ysD : List Value} {c4 c3 c2 c1 o1 o2 o3 : Obj} {mB : Str → Option Value} {S₁ : Shared} {prog : Program} {w : World} {A : Around} {E : Value → Shared → Prop} {s : Shared} {env : Env} {h₀ : Heap}
    {Q : Flow → Shared → Prop} {px : Pos} {body : List Stmt} {r : Addr} {t u v : Tok} {t1 t2 : Tok}
    (N : News h₀ env.locals s.heap [(R, o1), (x, accObj d #[] 0), (d, dictOf (szEs w' tk tv low) 1), (D', o2), (R, tri x0 y0 z0 ra rb rc 3), (DR, LCg.lst ysD), (l', o3), (a4, c4), (a3, c3), (a2, c2), (a1, c1), (70, tabObj #[]), (77, tabObj #[])])
    (F : Fr h₀ env.locals s.heap (fun y => if y = Str.ofString "way" then some (.str (Str.ofString "") t1) else if y = Str.ofString "told" then some (.str (Str.ofString "") t2) else if y = Str.ofString "three" then some (.ref R) else mB y))
    (C : CellsOk ⟨w', x, d, R, DR, a4, a3, tk, tv, low, x0, y0, z0, ra, rb, rc, ysD, c4, c3⟩)
    (hr : IsRange s.heap r 4 16 1 t u v) (hroot : RootOk (x0, y0, z0))
    (hh : A.handled = none) (hx : env.kindOf (Str.ofString "k") = some .local)
    (hp : (env.scope.kind == .class || (env.scope.kind == .module && env.locals != env.globals)) = false)
    (hmB : mB (Str.ofString "letter") = none) (hmk : mB (Str.ofString "k") = none)
    (p0 : LP S₁ s)
    (step : ∀ (I : Addr) (i : Nat) (t : Tok) kv lv t1 t2 out ls T ta tb tc te its ep p0 p7 pcs s₁, i < 12 → RootOk (x0, y0, z0) → Good ls → ls.length ≤ 5 → Says out ls → PiecesOk its ls pcs → TriplesOk p0.toList → TriplesOk p7.toList → LP S₁ s₁ →
      Fr h₀ env.locals s₁.heap (fun y => if y = Str.ofString "k" then some (.int (4 + (i : Int)) t) else turnM mB kv lv (.str (wd ls) t1) (.str out t2) (.ref T) y) →
      News h₀ env.locals s₁.heap (led10 w' x d T R DR a4 a3 I its ep tk tv low (tri (run (x0, y0, z0) ls).1 (run (x0, y0, z0) ls).2.1 (run (x0, y0, z0) ls).2.2 ta tb tc te) (tri x0 y0 z0 ra rb rc 3) ysD c4 c3 p0 p7 (4 + ((i + 1 : Nat) : Int)) (((12 : Nat) : Int) - ((i + 1 : Nat) : Int)) pcs) →
      wpAny (model prog w) A (execs body env) (TurnPost h₀ env.locals I 4 12 (LP S₁) (LJ ⟨w', x, d, R, DR, a4, a3, tk, tv, low, x0, y0, z0, ra, rb, rc, ysD, c4, c3⟩ mB) Q (i + 1)) E s₁)
    (fin : ∀ kv lv t1 t2 out ls T ta tb tc te its ep p0 p7 pcs s₁, RootOk (x0, y0, z0) → Good ls → ls.length ≤ 5 → Says out ls → PiecesOk its ls pcs → TriplesOk p0.toList → TriplesOk p7.toList → LP S₁ s₁ →
      Fr h₀ env.locals s₁.heap (turnM mB kv lv (.str (wd ls) t1) (.str out t2) (.ref T)) →
      News h₀ env.locals s₁.heap (led9 w' x d T R DR a4 a3 its ep tk tv low (tri (run (x0, y0, z0) ls).1 (run (x0, y0, z0) ls).2.1 (run (x0, y0, z0) ls).2.2 ta tb tc te) (tri x0 y0 z0 ra rb rc 3) ysD c4 c3 p0 p7 pcs) → Q .next s₁)
    (hE : PassesOwn (model prog w) A env E := by passes_own) :
    wpAny (model prog w) A (pyIter (.ref r)) (fun it s₂ =>
      codeAny (model prog w) A (.forLoop (.Name (Str.ofString "k") px) it body [] env) (fun r s' => match r with | .ok f => Q f s' | .error e => cameBackBy (model prog w) A env E e s') s₂) E s := by
  refine for_law hh hx hp hr C F hmB hmk N p0 (fun p hp => ?_) (fun I i t kv lv t1 t2 out ls T ta tb tc te its ep p0 p7 pcs s₁ hi => step I i t kv lv t1 t2 out ls T ta tb tc te its ep p0 p7 pcs s₁ hi hroot) (fun kv lv t1 t2 out ls T ta tb tc te its ep p0 p7 pcs s₁ => fin kv lv t1 t2 out ls T ta tb tc te its ep p0 p7 pcs s₁ hroot) hE
  revert p
  repeat (refine all_cons (by k_mem) ?_)
  exact no_mem
end Mine
end

section
open PySem PySem.W PyProof.Rows PySem.Calls
set_option Elab.async false
set_option maxRecDepth 100000
set_option maxHeartbeats 1000000
set_option linter.unusedVariables false
namespace Mine
section
variable {w : World} {x d T R DR a4 a3 I : Addr} {its : Array Value} {ep te : Nat} {tk tv ta tb tc ra rb rc : Tok} {low x1 y1 z1 x0 y0 z0 : Int} {ysD : List Value} {c4 c3 : Obj} {p0 p7 : Array Value} {j k : Int} {pcs all : List (Addr × Obj)} {h₀ h : Heap} {L : Addr} {v4 v3 : Option Value} {ls : List Int} {c : Int}
theorem apart_of (N : News h₀ L h (led10 w x d T R DR a4 a3 I its ep tk tv low (tri x1 y1 z1 ta tb tc te) (tri x0 y0 z0 ra rb rc 3) ysD c4 c3 p0 p7 j k pcs))
    (e4 : c4.data = .cell v4) (e3 : c3.data = .cell v3) (hp : ∀ p ∈ pcs, p.2.cls = .type "tuple") :
    x ≠ d ∧ ∀ p ∈ (T, tri x1 y1 z1 ta tb tc te) :: (R, tri x0 y0 z0 ra rb rc 3) :: (DR, LCg.lst ysD) :: (a4, c4) :: (a3, c3) :: (70, tabObj p0) :: (77, tabObj p7) :: (I, itR j k) :: pcs, p.1 ≠ x := by
  have hx : (x, accObj d its ep) ∈ led10 w x d T R DR a4 a3 I its ep tk tv low (tri x1 y1 z1 ta tb tc te) (tri x0 y0 z0 ra rb rc 3) ysD c4 c3 p0 p7 j k pcs := .head _
  refine ⟨N.twoPlaces hx (.tail _ (.head _)) (by simp), fun p hp' => N.twoPlaces (.tail _ (.tail _ hp')) hx fun e => ?_⟩
  simp only [List.mem_cons] at hp'
  rcases hp' with rfl | rfl | rfl | rfl | rfl | rfl | rfl | rfl | hp'
  · simp at e
  · simp at e
  · simp at e
  · dsimp only at e; rw [e] at e4; cases e4
  · dsimp only at e; rw [e] at e3; cases e3
  · simp at e
  · simp at e
  · simp [itR] at e
  · have := hp p hp'; rw [e] at this; simp at this
/-- what stays the same through all turns, as a remark that pins it -/
structure Key (w : World) (x d R DR a4 a3 I : Addr) (tk tv : Tok) (low x0 y0 z0 : Int) (ra rb rc : Tok) (ysD : List Value) (c4 c3 : Obj) (v4 v3 : Option Value) (j k : Int) : Prop where
  e4 : c4.data = .cell v4
  e3 : c3.data = .cell v3
theorem key_of (N : News h₀ L h (led10 w x d T R DR a4 a3 I its ep tk tv low (tri x1 y1 z1 ta tb tc te) (tri x0 y0 z0 ra rb rc 3) ysD c4 c3 p0 p7 j k pcs))
    (e4 : c4.data = .cell v4) (e3 : c3.data = .cell v3) : Key w x d R DR a4 a3 I tk tv low x0 y0 z0 ra rb rc ysD c4 c3 v4 v3 j k := ⟨e4, e3⟩
theorem pieces_split (P : PiecesOk its ls pcs) (h : ls.getLast? = some c) :
    ∃ (its' : Array Value) (q : Addr) (t1 t2 : Tok) (n : Nat), its = its'.push (.ref q) ∧ (q, pairObj (Str.ofString " ") (LT c) t1 t2 n) ∈ pcs ∧ PiecesOk its' ls.dropLast pcs := by
  have e := split_last h
  obtain ⟨hs, hp, hc⟩ := P
  have hn : ls.length = ls.dropLast.length + 1 := by have := congrArg List.length e; rw [List.length_append] at this; exact this
  have hpos : 0 < its.size := by omega
  obtain ⟨q, t1, t2, n, h1, h2⟩ := hp.at_ (its.size - 1) (by omega)
  have h3 : its = its.pop.push (.ref q) := by
    apply Array.ext
    · simp; omega
    · intro i hi hi2
      rw [Array.getElem_push]
      split
      · simp
      · next hlt =>
        simp at hlt
        have : i = its.size - 1 := by omega
        subst this
        have := Array.getElem?_eq_some_iff.mp h1
        exact this.2
  have hj : LT (ls.getD (its.size - 1) 0) = LT c := by
    congr 1
    rw [show its.size - 1 = ls.dropLast.length from by omega]
    rw [e]
    simp
  refine ⟨its.pop, q, t1, t2, n, h3, by rw [hj] at h2; exact h2, by simp; omega, ⟨fun j hj => ?_⟩, hc⟩
  have hj' : j < its.size - 1 := by simpa using hj
  obtain ⟨q', u1, u2, n', g1, g2⟩ := hp.at_ j (by omega)
  refine ⟨q', u1, u2, n', ?_, ?_⟩
  · rw [← g1]
    conv => rhs; rw [h3]
    rw [Array.getElem?_push]
    rw [if_neg (by simp; omega)]
  · have : ls.getD j 0 = ls.dropLast.getD j 0 := by
      conv => lhs; rw [e]
      have hlt : j < ls.dropLast.length := by omega
      simp [List.getD, List.getElem?_append_left hlt]
    rw [this] at g2
    exact g2
theorem pieces_push {q : Addr} {t1 t2 : Tok} (P : PiecesOk its ls pcs) : PiecesOk (its.push (.ref q)) (ls ++ [c]) ((q, pairObj (Str.ofString " ") (LT c) t1 t2 0) :: pcs) := by
  obtain ⟨hs, hp, hc⟩ := P
  refine ⟨by simp [hs], ⟨fun j hj => ?_⟩, ?_⟩
  · by_cases hlt : j < its.size
    · obtain ⟨q', u1, u2, n', g1, g2⟩ := hp.at_ j hlt
      refine ⟨q', u1, u2, n', ?_, .tail _ ?_⟩
      · rw [Array.getElem?_push, if_neg (by omega)]; exact g1
      · have : (ls ++ [c]).getD j 0 = ls.getD j 0 := by
          have hlt : j < ls.length := by omega
          simp [List.getD, List.getElem?_append_left hlt]
        rw [this]; exact g2
    · have hj' : j = its.size := by simp at hj; omega
      subst hj'
      refine ⟨q, t1, t2, 0, by simp, ?_⟩
      have : (ls ++ [c]).getD its.size 0 = c := by rw [hs]; simp [List.getD]
      rw [this]
      exact .head _
  · intro p hp'
    rcases List.mem_cons.mp hp' with rfl | hp'
    · rfl
    · exact hc p hp'
theorem hit_open (N : News h₀ L h (led10 w x d T R DR a4 a3 I its ep tk tv low (tri x1 y1 z1 ta tb tc te) (tri x0 y0 z0 ra rb rc 3) ysD c4 c3 p0 p7 j k pcs))
    (P : PiecesOk its ls pcs) (hl5 : ls.length ≤ 5) (hl : ls.getLast? = some c) (e4 : c4.data = .cell v4) (e3 : c3.data = .cell v3) :
    ∃ (its' : Array Value) (q : Addr) (t1 t2 : Tok) (n : Nat), (its'.push (.ref q)).size ≤ 1000 ∧ PiecesOk its' ls.dropLast ((q, pairObj (Str.ofString " ") (LT c) t1 t2 n) :: pcs) ∧ x ≠ d ∧
      News h₀ L h (led10 w x d T R DR a4 a3 I (its'.push (.ref q)) ep tk tv low (tri x1 y1 z1 ta tb tc te) (tri x0 y0 z0 ra rb rc 3) ysD c4 c3 p0 p7 j k ((q, pairObj (Str.ofString " ") (LT c) t1 t2 n) :: pcs)) ∧
      ∀ p ∈ (T, tri x1 y1 z1 ta tb tc te) :: (R, tri x0 y0 z0 ra rb rc 3) :: (DR, LCg.lst ysD) :: (a4, c4) :: (a3, c3) :: (70, tabObj p0) :: (77, tabObj p7) :: (I, itR j k) :: (q, pairObj (Str.ofString " ") (LT c) t1 t2 n) :: pcs, p.1 ≠ x := by
  obtain ⟨its', q, t1, t2, n, rfl, hm, P'⟩ := pieces_split P hl
  have N' : News h₀ L h (led10 w x d T R DR a4 a3 I (its'.push (.ref q)) ep tk tv low (tri x1 y1 z1 ta tb tc te) (tri x0 y0 z0 ra rb rc 3) ysD c4 c3 p0 p7 j k ((q, pairObj (Str.ofString " ") (LT c) t1 t2 n) :: pcs)) := fun p hp => by
    refine N p ?_
    have k : ∀ p ∈ pcs, p ∈ led10 w x d T R DR a4 a3 I (its'.push (.ref q)) ep tk tv low (tri x1 y1 z1 ta tb tc te) (tri x0 y0 z0 ra rb rc 3) ysD c4 c3 p0 p7 j k pcs := fun p hp => by repeat (first | exact hp | refine List.mem_cons_of_mem _ ?_)
    revert p
    repeat (refine all_cons (by first | k_mem | exact k _ hm) ?_)
    exact k
  have hc : ∀ p ∈ (q, pairObj (Str.ofString " ") (LT c) t1 t2 n) :: pcs, p.2.cls = .type "tuple" := fun p hp => by
    rcases List.mem_cons.mp hp with rfl | hp
    · rfl
    · exact P.2.2 p hp
  have ap := apart_of N' e4 e3 hc
  refine ⟨its', q, t1, t2, n, by rw [P.1]; omega, ⟨P'.1, ⟨fun j hj => ?_⟩, hc⟩, ap.1, N', ap.2⟩
  obtain ⟨q', u1, u2, n', g1, g2⟩ := P'.2.1.at_ j hj
  exact ⟨q', u1, u2, n', g1, .tail _ g2⟩
end
end Mine
end

section
open PySem PySem.W PyProof.Rows PySem.Calls Builtin
set_option Elab.async false
set_option maxRecDepth 100000
set_option maxHeartbeats 1000000
set_option linter.unusedVariables false
namespace Mine
open PySem.SeqAt
/-- two pairs of texts that are alike -/
theorem ne_pair {prog : Program} {w : World} {A : Around} {E : Value → Shared → Prop} {s : Shared} {Q : Value → Shared → Prop} {h₀ : Heap} {L : Addr} {news : List (Addr × Obj)}
    {a b : Addr} {x y : Str} {t1 t2 u1 u2 : Tok} {n1 n2 : Nat}
    (N : News h₀ L s.heap news) (ha : (a, pairObj x y t1 t2 n1) ∈ news) (hb : (b, { cls := .type "tuple", data := .seq #[.str x u1, .str y u2] n2 }) ∈ news)
    (hu : A.units < cLine) (h : Q (.bool false) s) :
    wpAny (model prog w) A (compareOp .NotEq (.ref a) (.ref b)) Q E s := by
  have hl : s.heap.IsTuple a #[.str x t1, .str y t2] := ⟨_, (N _ ha).1, rfl, _, rfl⟩
  have hr : s.heap.IsTuple b #[.str x u1, .str y u2] := ⟨_, (N _ hb).1, rfl, _, rfl⟩
  refine RcNeAt.tuples (e := fun _ => true) hl hr hu (fun k h1 h2 => ?_) prog w E Q ?_
  · match k, h1, h2 with
    | 0, _, _ => have := EqAt.str_str (A := A.in1) (s := s) x t1 x u1; simpa using this
    | 1, _, _ => have := EqAt.str_str (A := A.in1) (s := s) y t2 y u2; simpa using this
    | k + 2, h1, _ => exact absurd h1 (by simp)
  · exact h
abbrev Bounded (p : Int × Int × Int) : Prop := (0 < p.1 ∧ p.1 < 2 ^ 60) ∧ (0 < p.2.1 ∧ p.2.1 < 2 ^ 60) ∧ (0 < p.2.2 ∧ p.2.2 < 2 ^ 60)
theorem moved_any {w : World} {pp : Program} {loose : List Str} {mean : ExcName → Option Value} {mg mb : Str → Option Value} {p p' : Int × Int × Int} {c : Int} {tx ty tz tl : Tok} {ep : Nat} {l : Addr}
    {dp un : Nat} {gd : Option (List Code)} {cn : Str} {cs : Scope} {a : Addr} {ccd : Value} {cl : List (Str × Addr)} {outer : List Env} {A₀ : Around} {base h₀ : Heap} {L : Addr} {m : Str → Option Value} {news : List (Addr × Obj)} {s : Shared} {Q E : Value → Shared → Prop}
    (hc : Lett c) (hb : Bounded p) (hr : mv c p = p')
    (B : Below A₀ base outer h₀) (F : Fr h₀ L s.heap m) (X₀ : (tp.heap_39 w.params).In h₀) (N : News h₀ L s.heap news) (hl : (l, tri p.1 p.2.1 p.2.2 tx ty tz ep) ∈ news) (T : Top pp loose mean mg mb h₀) (hk : cs.kind = .function)
    (hdp : dp + 2 < recursionLimit) (hun : un + 16 < cLine)
    (ret : ∀ l' t1 t2 t3 h' tk', Fr h₀ L h' m → News h₀ L h' ((l', tri p'.1 p'.2.1 p'.2.2 t1 t2 t3 3) :: news) → (∀ p ∈ news, p.1 ≠ l') → Q (.ref l') { s with heap := h', toks := tk' }) :
    wpAny (model PySem.Challenge.rw_wu0012_01.row.prog w) (ktrTop dp un gd cn cs L a ccd cl outer) (call (.ref 138) [.ref l, .str (LT c) tl]) Q E s := by
  have N2 : News h₀ L s.heap ((l, tri p.1 p.2.1 p.2.2 tx ty tz ep) :: news) := fun q hq => by
    rcases List.mem_cons.mp hq with rfl | hq
    · exact N _ hl
    · exact N _ hq
  have ret2 : MovedRet h₀ L m ((l, tri p.1 p.2.1 p.2.2 tx ty tz ep) :: news) s Q p'.1 p'.2.1 p'.2.2 := fun l' t1 t2 t3 h' tk' F' N' off =>
    ret l' t1 t2 t3 h' tk' F' (fun q hq => N' q ((List.mem_cons.mp hq).elim (fun e => e ▸ .head _) fun hq => .tail _ (.tail _ hq))) (fun q hq => off q (.tail _ hq))
  subst hr
  rcases lett_or hc with rfl | rfl | rfl
  · exact moved_r hb.1 hb.2.1 hb.2.2 B F X₀ N2 T hk hdp hun ret2
  · exact moved_g hb.1 hb.2.1 hb.2.2 B F X₀ N2 T hk hdp hun ret2
  · exact moved_b hb.1 hb.2.1 hb.2.2 B F X₀ N2 T hk hdp hun ret2
/-- a word with a blank before each letter -/
noncomputable def bl (ls : List Int) : Str := ⟨(ls.flatMap fun c => [32, ch c]).toArray⟩
theorem bl_join {ls : List Int} (g : ∀ c ∈ ls, Lett c) (hl : ls.length ≤ 5) : Txt.join (Str.ofString "") ((List.range ls.length).map fun j => Txt.join (Str.ofString "") [Str.ofString " ", LT (ls.getD j 0)]) = bl ls :=
  of_decide_eq_true (all_words (fun ls => decide (Txt.join (Str.ofString "") ((List.range ls.length).map fun j => Txt.join (Str.ofString "") [Str.ofString " ", LT (ls.getD j 0)]) = bl ls)) (by decide +kernel) g hl)
theorem ne7 : (70 : Nat) ≠ 77 := by decide
theorem off_tab {h₀ h : Heap} {L P : Addr} {ps : Array Value} {nw : List (Addr × Obj)} (N : News h₀ L h ((P, tabObj ps) :: nw)) (hn : ∀ p ∈ nw, p.1 ≠ P ∨ p.2 ≠ tabObj ps) : ∀ p ∈ nw, p.1 ≠ P := fun p hp =>
  (hn p hp).elim id fun ne => N.twoPlaces (.tail _ hp) (.head _) ne
section
variable {w : World} {pp : Program} {loose : List Str} {mean : ExcName → Option Value} {mg mb : Str → Option Value} {x d T R DR a4 a3 I : Addr} {its : Array Value} {ep te : Nat} {tk tv ta tb tc ra rb rc : Tok} {low x1 y1 z1 x0 y0 z0 : Int} {ysD : List Value} {c4 c3 : Obj} {p0 p7 : Array Value} {j k : Int} {pcs all : List (Addr × Obj)} {v4 v3 : Option Value} {ls : List Int}
    {dp un : Nat} {gd : Option (List Code)} {cn : Str} {cs : Scope} {a : Addr} {ccd : Value} {cl : List (Str × Addr)} {outer : List Env} {A₀ : Around} {base h₀ : Heap} {L : Addr} {m : Str → Option Value} {s : Shared} {Q E : Value → Shared → Prop}
theorem led_perm (N : News h₀ L s.heap all)
    (hx : (x, accObj d its ep) ∈ all) (hd : (d, dictOf (szEs w tk tv low) 1) ∈ all) (hT : (T, tri x1 y1 z1 ta tb tc te) ∈ all) (hR : (R, tri x0 y0 z0 ra rb rc 3) ∈ all) (hD : (DR, LCg.lst ysD) ∈ all) (h4 : (a4, c4) ∈ all) (h3 : (a3, c3) ∈ all) (h0' : (70, tabObj p0) ∈ all) (h7' : (77, tabObj p7) ∈ all) (hI : (I, itR j k) ∈ all) (hp : ∀ p ∈ pcs, p ∈ all) :
    News h₀ L s.heap (led10 w x d T R DR a4 a3 I its ep tk tv low (tri x1 y1 z1 ta tb tc te) (tri x0 y0 z0 ra rb rc 3) ysD c4 c3 p0 p7 j k pcs) := fun p hp' => N p
  (all_cons hx (all_cons hd (all_cons hT (all_cons hR (all_cons hD (all_cons h4 (all_cons h3 (all_cons h0' (all_cons h7' (all_cons hI hp))))))))) p hp')
theorem str_led (G : AllBare s.gens) (C : CodeHd h₀ 81 77) (h7 : TriplesOk p7.toList) (P : PiecesOk its ls pcs) (gl : ∀ c ∈ ls, Lett c) (hl : ls.length ≤ 5) (K : Key w x d R DR a4 a3 I tk tv low x0 y0 z0 ra rb rc ysD c4 c3 v4 v3 j k)
    (N : News h₀ L s.heap (led10 w x d T R DR a4 a3 I its ep tk tv low (tri x1 y1 z1 ta tb tc te) (tri x0 y0 z0 ra rb rc 3) ysD c4 c3 p0 p7 j k pcs))
    (B : Below A₀ base outer h₀) (F : Fr h₀ L s.heap m) (X₀ : (tp.heap_39 w.params).In h₀) (Tp : Top pp loose mean mg mb h₀) (hk : cs.kind = .function)
    (hdp : dp + 3 < recursionLimit) (hun : un + 24 < cLine)
    (ret : ∀ p7' t s', TriplesOk p7'.toList → AllBare s'.gens → s'.os = s.os → Fr h₀ L s'.heap m → News h₀ L s'.heap (led10 w x d T R DR a4 a3 I its ep tk tv low (tri x1 y1 z1 ta tb tc te) (tri x0 y0 z0 ra rb rc 3) ysD c4 c3 p0 p7' j k pcs) → Q (.str (bl ls) t) s') :
    wpAny (model PySem.Challenge.rw_wu0012_01.row.prog w) (ktrTop dp un gd cn cs L a ccd cl outer) (call (.ref 82) [.ref x]) Q E s := by
  have e4 := K.e4
  have e3 := K.e3
  have N2 : News h₀ L s.heap ((77, tabObj p7) :: (x, accObj d its ep) :: (d, dictOf (szEs w tk tv low) 1) :: (T, tri x1 y1 z1 ta tb tc te) :: (R, tri x0 y0 z0 ra rb rc 3) :: (DR, LCg.lst ysD) :: (a4, c4) :: (a3, c3) :: (70, tabObj p0) :: (I, itR j k) :: pcs) := fun p hp => by
    refine N p ?_
    revert p
    repeat (refine all_cons (by k_mem) ?_)
    exact fun p hp => by repeat (first | exact hp | refine List.mem_cons_of_mem _ ?_)
  have hoff := off_tab N2 (all_cons (.inr (cls_ne nofun)) (all_cons (.inr (cls_ne nofun)) (all_cons (.inr (cls_ne nofun)) (all_cons (.inr (cls_ne nofun)) (all_cons (.inr (cls_ne nofun))
    (all_cons (.inr fun e => nomatch e4.symm.trans (congrArg Obj.data e)) (all_cons (.inr fun e => nomatch e3.symm.trans (congrArg Obj.data e)) (all_cons (.inl ne7) (all_cons (.inr (cls_ne nofun))
      fun p hp => .inr fun e => nomatch (P.2.2 p hp).symm.trans (congrArg Obj.cls e))))))))))
  refine str_walk (fw := fun _ => Str.ofString " ") (pc := fun j => LT (ls.getD j 0)) G C h7 hoff (.head _) ⟨fun j hj => ?_⟩ (fun j hj => ⟨by decide, rfl⟩) (by rw [P.1]; omega) B F X₀ N2 Tp hk hdp hun ?_
  · obtain ⟨q, t1, t2, n, g1, g2⟩ := P.2.1.at_ j hj
    refine ⟨q, t1, t2, n, g1, ?_⟩
    repeat (first | exact g2 | refine List.mem_cons_of_mem _ ?_)
  · intro ps' t s' F' N' h7' G' os'
    rw [P.1, bl_join gl hl]
    refine ret ps' t s' h7' G' os' F' fun p hp => N' p ?_
    revert p
    repeat (refine all_cons (by k_mem) ?_)
    exact fun p hp => by repeat (first | exact hp | refine List.mem_cons_of_mem _ ?_)
theorem len_led (G : AllBare s.gens) (C : CodeHd h₀ 74 70) (h0' : TriplesOk p0.toList) (P : PiecesOk its ls pcs) (gl : ∀ c ∈ ls, Lett c) (hl : ls.length ≤ 5) (K : Key w x d R DR a4 a3 I tk tv low x0 y0 z0 ra rb rc ysD c4 c3 v4 v3 j k)
    (N : News h₀ L s.heap (led10 w x d T R DR a4 a3 I its ep tk tv low (tri x1 y1 z1 ta tb tc te) (tri x0 y0 z0 ra rb rc 3) ysD c4 c3 p0 p7 j k pcs))
    (B : Below A₀ base outer h₀) (F : Fr h₀ L s.heap m) (X₀ : (tp.heap_39 w.params).In h₀) (Tp : Top pp loose mean mg mb h₀) (hk : cs.kind = .function)
    (hdp : dp + 3 < recursionLimit) (hun : un + 24 < cLine)
    (ret : ∀ p0' t s', TriplesOk p0'.toList → AllBare s'.gens → s'.os = s.os → Fr h₀ L s'.heap m → News h₀ L s'.heap (led10 w x d T R DR a4 a3 I its ep tk tv low (tri x1 y1 z1 ta tb tc te) (tri x0 y0 z0 ra rb rc 3) ysD c4 c3 p0' p7 j k pcs) → Q (.int (low + 2 * ls.length) t) s') :
    wpAny (model PySem.Challenge.rw_wu0012_01.row.prog w) (ktrTop dp un gd cn cs L a ccd cl outer) (call (.ref 75) [.ref x]) Q E s := by
  have e4 := K.e4
  have e3 := K.e3
  have N2 : News h₀ L s.heap ((70, tabObj p0) :: (x, accObj d its ep) :: (d, dictOf (szEs w tk tv low) 1) :: (T, tri x1 y1 z1 ta tb tc te) :: (R, tri x0 y0 z0 ra rb rc 3) :: (DR, LCg.lst ysD) :: (a4, c4) :: (a3, c3) :: (77, tabObj p7) :: (I, itR j k) :: pcs) := fun p hp => by
    refine N p ?_
    revert p
    repeat (refine all_cons (by k_mem) ?_)
    exact fun p hp => by repeat (first | exact hp | refine List.mem_cons_of_mem _ ?_)
  have hoff := off_tab N2 (all_cons (.inr (cls_ne nofun)) (all_cons (.inr (cls_ne nofun)) (all_cons (.inr (cls_ne nofun)) (all_cons (.inr (cls_ne nofun)) (all_cons (.inr (cls_ne nofun))
    (all_cons (.inr fun e => nomatch e4.symm.trans (congrArg Obj.data e)) (all_cons (.inr fun e => nomatch e3.symm.trans (congrArg Obj.data e)) (all_cons (.inl ne7.symm) (all_cons (.inr (cls_ne nofun))
      fun p hp => .inr fun e => nomatch (P.2.2 p hp).symm.trans (congrArg Obj.cls e))))))))))
  refine len_walk (fw := fun _ => Str.ofString " ") (pc := fun j => LT (ls.getD j 0)) G C h0' hoff (.head _) (.tail _ (.head _)) ⟨fun j hj => ?_⟩ (fun j hj => ⟨by decide, rfl⟩) B F X₀ N2 Tp hk hdp hun ?_
  · obtain ⟨q, t1, t2, n, g1, g2⟩ := P.2.1.at_ j hj
    refine ⟨q, t1, t2, n, g1, ?_⟩
    repeat (first | exact g2 | refine List.mem_cons_of_mem _ ?_)
  · intro ps' t s' F' N' h7' G' os'
    rw [P.1]
    refine ret ps' t s' h7' G' os' F' fun p hp => N' p ?_
    revert p
    repeat (refine all_cons (by k_mem) ?_)
    exact fun p hp => by repeat (first | exact hp | refine List.mem_cons_of_mem _ ?_)
theorem pc_led (K : Key w x d R DR a4 a3 I tk tv low x0 y0 z0 ra rb rc ysD c4 c3 v4 v3 j k)
    (B : Below A₀ base outer h₀) (F : Fr h₀ L s.heap m) (X₀ : (tp.heap_39 w.params).In h₀) (N : News h₀ L s.heap all) (hx : (x, accObj d its ep) ∈ all) (hd : (d, dictOf (szEs w tk tv low) 1) ∈ all) (Tp : Top pp loose mean mg mb h₀) (hk : cs.kind = .function)
    (hdp : dp + 2 < recursionLimit) (hun : un + 16 < cLine)
    (ret : ∀ t h' tk', Fr h₀ L h' m → News h₀ L h' all → Q (.int its.size t) { s with heap := h', toks := tk' }) :
    wpAny (model PySem.Challenge.rw_wu0012_01.row.prog w) (ktrTop dp un gd cn cs L a ccd cl outer) (call (.ref 105) [.ref x]) Q E s := by
  have N2 : News h₀ L s.heap ((x, accObj d its ep) :: (d, dictOf (szEs w tk tv low) 1) :: all) := fun p hp => by
    rcases List.mem_cons.mp hp with rfl | hp
    · exact N _ hx
    rcases List.mem_cons.mp hp with rfl | hp
    · exact N _ hd
    · exact N _ hp
  exact pc_walk (es := []) B F X₀ N2 Tp hk hdp hun fun t h' tk' F' N' => ret t h' tk' F' fun p hp => N' p (.tail _ (.tail _ hp))
end
end Mine
end

section
open PySem PySem.Float64
set_option maxRecDepth 100000
namespace Mine
namespace Fl
def Fin (x : UInt64) : Prop := ∃ a m e, decode x = .fin a m e
/-- how far two numbers are apart -/
theorem dist_over {a b r : Nat} (h : b + r = a) : Float64.dist a b = r := by
  subst h; unfold Float64.dist; rw [Nat.add_sub_cancel_left, Nat.sub_eq_zero_of_le (Nat.le_add_right _ _)]; rfl
theorem dist_under {a b r : Nat} (h : a + r = b) : Float64.dist a b = r := by
  subst h; unfold Float64.dist; rw [Nat.add_sub_cancel_left, Nat.sub_eq_zero_of_le (Nat.le_add_right _ _)]; exact Nat.zero_add _
theorem dist_self (a : Nat) : Float64.dist a a = 0 := dist_over rfl
theorem dist_zero {a b : Nat} (h : Float64.dist a b = 0) : a = b := by
  unfold Float64.dist at h
  exact Nat.le_antisymm (Nat.sub_eq_zero_iff_le.mp (Nat.eq_zero_of_add_eq_zero_right h)) (Nat.sub_eq_zero_iff_le.mp (Nat.eq_zero_of_add_eq_zero_left h))
theorem dist_ex (a b : Nat) : (b + Float64.dist a b = a) ∨ (a + Float64.dist a b = b) := by
  rcases Nat.le_total b a with h | h
  · obtain ⟨k, rfl⟩ := Nat.le.dest h; left; rw [dist_over rfl]
  · obtain ⟨k, rfl⟩ := Nat.le.dest h; right; rw [dist_under rfl]
/-- of two numbers the upper is not the farther one -/
theorem mid_ge {W A B : Nat} (h : B < A) (a : Float64.dist W A ≤ Float64.dist W B) : A + B ≤ 2 * W := by
  rcases dist_ex W A with p | p
  · exact (Nat.not_lt.mp fun hq9 => lin (zs := []) (ns := [_, _, _, _]) [.ltN (.v 0) (.v 1), .eqN (.a (.v 1) (.v 2)) (.v 3), .ltN (.m 2 (.v 3)) (.a (.v 1) (.v 0))] [1, 2, 1] rfl h p hq9)
  · rcases dist_ex W B with q | q
    · exact (Nat.not_lt.mp fun hq9 => lin (zs := []) (ns := [_, _, _, _, _]) [.leN (.v 0) (.v 1), .eqN (.a (.v 2) (.v 0)) (.v 3), .eqN (.a (.v 4) (.v 1)) (.v 2), .ltN (.m 2 (.v 2)) (.a (.v 3) (.v 4))] [1, -1, 1, 1] rfl a p q hq9)
    · exact (Nat.not_lt.mp fun hq9 => lin (zs := []) (ns := [_, _, _, _, _]) [.ltN (.v 0) (.v 1), .leN (.v 2) (.v 3), .eqN (.a (.v 4) (.v 2)) (.v 1), .eqN (.a (.v 4) (.v 3)) (.v 0)] [1, 1, -1, 1] rfl h a p q)
theorem mid_le {W A B : Nat} (h : B < A) (a : Float64.dist W B ≤ Float64.dist W A) : 2 * W ≤ A + B := by
  rcases dist_ex W B with p | p
  · rcases dist_ex W A with q | q
    · exact (Nat.not_lt.mp fun hq9 => lin (zs := []) (ns := [_, _, _, _, _]) [.ltN (.v 0) (.v 1), .leN (.v 2) (.v 3), .eqN (.a (.v 0) (.v 2)) (.v 4), .eqN (.a (.v 1) (.v 3)) (.v 4)] [1, 1, -1, 1] rfl h a p q)
    · exact (Nat.not_lt.mp fun hq9 => lin (zs := []) (ns := [_, _, _, _, _]) [.leN (.v 0) (.v 1), .eqN (.a (.v 2) (.v 0)) (.v 3), .eqN (.a (.v 3) (.v 1)) (.v 4), .ltN (.a (.v 4) (.v 2)) (.m 2 (.v 3))] [1, -1, 1, 1] rfl a p q hq9)
  · exact (Nat.not_lt.mp fun hq9 => lin (zs := []) (ns := [_, _, _, _]) [.ltN (.v 0) (.v 1), .eqN (.a (.v 2) (.v 3)) (.v 0), .ltN (.a (.v 1) (.v 0)) (.m 2 (.v 2))] [1, 2, 1] rfl h p hq9)
theorem nat_dist (v w : Nat) : ((v : Int) - (w : Int)).natAbs = Float64.dist w v := by
  rcases Nat.le_total v w with h | h
  · obtain ⟨k, rfl⟩ := Nat.le.dest h
    rw [dist_over rfl, Int.natCast_add, show (v : Int) - ((v : Int) + (k : Int)) = -(k : Int) by exact (Int.le_antisymm (Int.not_lt.mp fun hq9 => lin (zs := []) (ns := [_, _]) [.lt (.g (.c (.v 0))) (.s (.c (.v 1)) (.a (.c (.v 1)) (.c (.v 0))))] [1] rfl hq9) (Int.not_lt.mp fun hq9 => lin (zs := []) (ns := [_, _]) [.lt (.s (.c (.v 0)) (.a (.c (.v 0)) (.c (.v 1)))) (.g (.c (.v 1)))] [1] rfl hq9)), Int.natAbs_neg]; rfl
  · obtain ⟨k, rfl⟩ := Nat.le.dest h
    rw [dist_under rfl, Int.natCast_add, show (w : Int) + (k : Int) - (w : Int) = (k : Int) by exact (Int.le_antisymm (Int.not_lt.mp fun hq9 => lin (zs := []) (ns := [_, _]) [.lt (.c (.v 0)) (.s (.a (.c (.v 1)) (.c (.v 0))) (.c (.v 1)))] [1] rfl hq9) (Int.not_lt.mp fun hq9 => lin (zs := []) (ns := [_, _]) [.lt (.s (.a (.c (.v 0)) (.c (.v 1))) (.c (.v 0))) (.c (.v 1))] [1] rfl hq9))]; rfl
theorem nat_dist' (v w : Nat) : (-((v : Int) - (w : Int))).natAbs = Float64.dist w v := by rw [Int.natAbs_neg, nat_dist]
/-- parts of an exponent -/
theorem to_nat {a b c : Int} (ha : 0 ≤ a) (hb : 0 ≤ b) (h : a + b = c) : a.toNat + b.toNat = c.toNat := by subst h; exact (Int.toNat_add ha hb).symm
theorem V_grid (g a : Nat) (ha : a ≤ 2 ^ 53) : ∃ t, V t = a * 2 ^ g := by
  -- every multiple of 2^g up to 2^(g+53) is a float
  induction g generalizing a with
  | zero => exact ⟨a, by have := V_at (k := 0) (q := a) ha (.inr rfl); simpa using this⟩
  | succ g ih =>
    by_cases h : a ≤ 2 ^ 52
    · obtain ⟨t, ht⟩ := ih (2 * a) (by exact (Nat.not_lt.mp fun hq9 => lin (zs := []) (ns := [_]) [.leN (.v 0) (.n (2 ^ 52)), .ltN (.n (2 ^ 53)) (.m 2 (.v 0))] [2, 1] rfl h hq9))
      exact ⟨t, by rw [ht, Nat.pow_succ]; ac_rfl⟩
    · exact ⟨(g + 1) * 2 ^ 52 + a, V_at ha (.inl (by exact (Nat.not_lt.mp fun hq9 => lin (zs := []) (ns := [_]) [.ltN (.n (2 ^ 52)) (.v 0), .ltN (.v 0) (.n (2 ^ 52))] [1, 1] rfl (Nat.not_le.mp h) hq9)))⟩
theorem big (k : Nat) (h : k ≤ 2044) : 2 ^ k < (2 ^ 54 - 1) * 2 ^ 2045 :=
  Nat.lt_of_le_of_lt (Nat.pow_le_pow_right (by decide) h) (Nat.lt_of_lt_of_le (Nat.pow_lt_pow_right (by decide) (by decide)) (Nat.le_mul_of_pos_left _ (by decide)))
theorem right_fin {r : UInt64} {neg : Bool} {W D k : Nat} (h : Right r neg W D) (hD : 0 < D) (hW : W ≤ D * 2 ^ k) (hk : k ≤ 2043) :
    ∃ t, r = pack neg t ∧ t < infMag ∧ (∀ t', Float64.dist W (D * V t) ≤ Float64.dist W (D * V t')) := by
  obtain ⟨t, e, hle, hinf, hn⟩ := h
  rcases Nat.lt_or_ge t infMag with h | h
  · exact ⟨t, e, h, fun t' => (hn h t').1⟩
  · exfalso
    have h1 := hinf.mp (Nat.le_antisymm hle h)
    have h2 := Nat.le_trans h1 (Nat.mul_le_mul_left 2 hW)
    have h3 : 2 * (D * 2 ^ k) = D * 2 ^ (k + 1) := by rw [Nat.pow_succ]; ac_rfl
    rw [h3] at h2
    exact absurd (big (k + 1) (Nat.succ_le_succ hk)) (Nat.not_lt.mpr (Nat.le_of_mul_le_mul_left h2 hD))
theorem near_core {W D g t : Nat} (hD : 0 < D) (hW : W ≤ D * 2 ^ (g + 53)) (hn : ∀ t', Float64.dist W (D * V t) ≤ Float64.dist W (D * V t')) : 2 * Float64.dist W (D * V t) ≤ D * 2 ^ g := by
  have hs := Nat.two_pow_pos g
  have hDs : 0 < D * 2 ^ g := Nat.mul_pos hD hs
  have hdm := Nat.div_add_mod W (D * 2 ^ g)
  have hml := Nat.mod_lt W hDs
  rw [Nat.pow_add, ← Nat.mul_assoc] at hW
  have hq : W / (D * 2 ^ g) ≤ 2 ^ 53 := Nat.div_le_of_le_mul hW
  obtain ⟨t1, ht1⟩ := V_grid g (W / (D * 2 ^ g)) hq
  have e1 : D * V t1 = D * 2 ^ g * (W / (D * 2 ^ g)) := by rw [ht1]; ac_rfl
  have h1 := hn t1
  rw [e1] at h1
  by_cases hr : 2 * (W % (D * 2 ^ g)) ≤ D * 2 ^ g
  · have : Float64.dist W (D * 2 ^ g * (W / (D * 2 ^ g))) = W % (D * 2 ^ g) := dist_over hdm
    exact (Nat.not_lt.mp fun hq9 => lin (zs := []) (ns := [_, _, _, _]) [.leN (.v 0) (.v 1), .leN (.m 2 (.v 2)) (.v 3), .eqN (.v 1) (.v 2), .ltN (.v 3) (.m 2 (.v 0))] [2, 1, 2, 1] rfl h1 hr this hq9)
  · have ha : W / (D * 2 ^ g) + 1 ≤ 2 ^ 53 := by
      rcases Nat.lt_or_ge (W / (D * 2 ^ g)) (2 ^ 53) with h | h
      · exact h
      · exfalso
        have e : W / (D * 2 ^ g) = 2 ^ 53 := Nat.le_antisymm hq h
        rw [e] at hdm
        exact lin (zs := []) (ns := [_, _, _]) [.leN (.v 0) (.r (.v 1) (2 ^ 53)), .eqN (.a (.r (.v 1) (2 ^ 53)) (.v 2)) (.v 0), .ltN (.v 2) (.v 1), .ltN (.v 1) (.m 2 (.v 2))] [1, 1, 1, 1] rfl hW hdm hml (Nat.not_le.mp hr)
    obtain ⟨t2, ht2⟩ := V_grid g _ ha
    have e2 : D * V t2 = D * 2 ^ g * (W / (D * 2 ^ g)) + D * 2 ^ g := by
      rw [ht2, Nat.add_mul, Nat.one_mul, Nat.mul_add]
      congr 1
      ac_rfl
    have h2 := hn t2
    rw [e2] at h2
    obtain ⟨s, hs⟩ := Nat.le.dest (Nat.le_of_lt hml)
    have : Float64.dist W (D * 2 ^ g * (W / (D * 2 ^ g)) + D * 2 ^ g) = s := dist_under (by exact (Nat.le_antisymm (Nat.not_lt.mp fun hq9 => lin (zs := []) (ns := [_, _, _, _, _]) [.eqN (.a (.v 0) (.v 1)) (.v 2), .eqN (.a (.v 1) (.v 3)) (.v 4), .ltN (.a (.v 0) (.v 4)) (.a (.v 2) (.v 3))] [-1, 1, 1] rfl hdm hs hq9) (Nat.not_lt.mp fun hq9 => lin (zs := []) (ns := [_, _, _, _, _]) [.eqN (.a (.v 0) (.v 1)) (.v 2), .eqN (.a (.v 1) (.v 3)) (.v 4), .ltN (.a (.v 2) (.v 3)) (.a (.v 0) (.v 4))] [1, -1, 1] rfl hdm hs hq9)))
    exact (Nat.not_lt.mp fun hq9 => lin (zs := []) (ns := [_, _, _, _, _]) [.ltN (.v 0) (.m 2 (.v 1)), .leN (.v 2) (.v 3), .eqN (.a (.v 1) (.v 4)) (.v 0), .eqN (.v 3) (.v 4), .ltN (.v 0) (.m 2 (.v 2))] [1, 2, 2, 2, 1] rfl (Nat.not_le.mp hr) h2 hs this hq9)
/-- the error of a rounding: half of the grid's step -/
theorem right_near {r : UInt64} {neg : Bool} {W D g : Nat} (h : Right r neg W D) (hD : 0 < D) (hW : W ≤ D * 2 ^ (g + 53)) (hg : g ≤ 1990) :
    ∃ t, r = pack neg t ∧ t < infMag ∧ 2 * Float64.dist W (D * V t) ≤ D * 2 ^ g := by
  obtain ⟨t, e, hlt, hn⟩ := right_fin h hD hW (by exact (Nat.not_lt.mp fun hq9 => lin (zs := []) (ns := [_]) [.leN (.v 0) (.n 1990), .ltN (.n 2043) (.a (.v 0) (.n 53))] [1, 1] rfl hg hq9))
  exact ⟨t, e, hlt, near_core hD hW hn⟩
/-- a value that a float has is met -/
theorem right_exact {r : UInt64} {neg : Bool} {D t₀ k : Nat} (h : Right r neg (D * V t₀) D) (hD : 0 < D) (hV : V t₀ ≤ 2 ^ k) (hk : k ≤ 2043) : ∃ t, r = pack neg t ∧ t < infMag ∧ V t = V t₀ := by
  obtain ⟨t, e, hlt, hn⟩ := right_fin h hD (Nat.mul_le_mul_left D hV) hk
  refine ⟨t, e, hlt, ?_⟩
  have h1 := hn t₀
  have h2 : Float64.dist (D * V t₀) (D * V t₀) = 0 := dist_self _
  rw [h2, dist_mul] at h1
  have h3 : Float64.dist (V t₀) (V t) = 0 := by
    rcases Nat.mul_eq_zero.mp (Nat.le_zero.mp h1) with h | h
    · exact (Nat.le_antisymm (Nat.not_lt.mp fun hq9 => lin (zs := []) (ns := [_]) [.ltN (.n 0) (.v 0), .eqN (.v 0) (.n 0)] [1, 1] rfl hD h) (Nat.not_lt.mp fun hq9 => lin (zs := []) (ns := [_]) [.ltN (.v 0) (.n 0)] [1] rfl hq9))
    · exact h
  exact (dist_zero h3).symm
theorem V_inj {a b : Nat} (h : V a = V b) : a = b := by
  rcases Nat.lt_trichotomy a b with h1 | h1 | h1
  · have := V_lt h1; exact (Nat.le_antisymm (Nat.not_lt.mp fun hq9 => lin (zs := []) (ns := [_, _]) [.eqN (.v 0) (.v 1), .ltN (.v 0) (.v 1)] [-1, 1] rfl h this) (Nat.not_lt.mp fun hq9 => lin (zs := []) (ns := [_, _]) [.eqN (.v 0) (.v 1), .ltN (.v 0) (.v 1)] [-1, 1] rfl h this))
  · exact h1
  · have := V_lt h1; exact (Nat.le_antisymm (Nat.not_lt.mp fun hq9 => lin (zs := []) (ns := [_, _]) [.eqN (.v 0) (.v 1), .ltN (.v 1) (.v 0)] [1, 1] rfl h this) (Nat.not_lt.mp fun hq9 => lin (zs := []) (ns := [_, _]) [.eqN (.v 0) (.v 1), .ltN (.v 1) (.v 0)] [1, 1] rfl h this))
end Fl
end Mine
end

section
open PySem PySem.Float64
set_option maxRecDepth 100000
set_option exponentiation.threshold 3000
namespace Mine
namespace Fl
theorem sgn_dist (s : Int) (v : Nat) : (sgn (decide (s < 0)) v - s).natAbs = Float64.dist s.natAbs v := by
  by_cases h : s < 0
  · obtain ⟨k, rfl⟩ : ∃ k : Nat, s = -(k : Int) := ⟨s.natAbs, by grind⟩
    rw [decide_eq_true h, Int.natAbs_neg]
    show (-(v : Int) - -(k : Int)).natAbs = Float64.dist k v
    rw [show -(v : Int) - -(k : Int) = -((v : Int) - (k : Int)) by exact (Int.le_antisymm (Int.not_lt.mp fun hq9 => lin (zs := []) (ns := [_, _]) [.lt (.g (.s (.c (.v 0)) (.c (.v 1)))) (.s (.g (.c (.v 0))) (.g (.c (.v 1))))] [1] rfl hq9) (Int.not_lt.mp fun hq9 => lin (zs := []) (ns := [_, _]) [.lt (.s (.g (.c (.v 0))) (.g (.c (.v 1)))) (.g (.s (.c (.v 0)) (.c (.v 1))))] [1] rfl hq9)), nat_dist']
  · obtain ⟨k, rfl⟩ := Int.eq_ofNat_of_zero_le (Int.not_lt.mp h)
    rw [decide_eq_false h]
    exact nat_dist v k
theorem sgn_prod (a b : Bool) (X Y S v : Nat) : (sgn (a != b) v * (S : Int) - sgn a X * sgn b Y).natAbs = Float64.dist (X * Y) (S * v) := by
  have e : (v : Int) * (S : Int) = ((S * v : Nat) : Int) := by rw [Int.natCast_mul]; exact Int.mul_comm _ _
  have e2 : (X : Int) * (Y : Int) = ((X * Y : Nat) : Int) := by rw [Int.natCast_mul]
  have k1 : sgn (a != b) v * (S : Int) - sgn a X * sgn b Y = ((S * v : Nat) : Int) - ((X * Y : Nat) : Int) ∨ sgn (a != b) v * (S : Int) - sgn a X * sgn b Y = -(((S * v : Nat) : Int) - ((X * Y : Nat) : Int)) := by
    rw [← e, ← e2]
    cases a <;> cases b
    · left; rfl
    · right; show -(v : Int) * S - X * (-(Y : Int)) = _; rw [Int.neg_mul, Int.mul_neg]; exact (Int.le_antisymm (Int.not_lt.mp fun hq9 => lin (zs := [_, _]) (ns := []) [.lt (.g (.s (.v 0) (.v 1))) (.s (.g (.v 0)) (.g (.v 1)))] [1] rfl hq9) (Int.not_lt.mp fun hq9 => lin (zs := [_, _]) (ns := []) [.lt (.s (.g (.v 0)) (.g (.v 1))) (.g (.s (.v 0) (.v 1)))] [1] rfl hq9))
    · right; show -(v : Int) * S - -(X : Int) * Y = _; rw [Int.neg_mul, Int.neg_mul]; exact (Int.le_antisymm (Int.not_lt.mp fun hq9 => lin (zs := [_, _]) (ns := []) [.lt (.g (.s (.v 0) (.v 1))) (.s (.g (.v 0)) (.g (.v 1)))] [1] rfl hq9) (Int.not_lt.mp fun hq9 => lin (zs := [_, _]) (ns := []) [.lt (.s (.g (.v 0)) (.g (.v 1))) (.g (.s (.v 0) (.v 1)))] [1] rfl hq9))
    · left; show (v : Int) * S - -(X : Int) * (-(Y : Int)) = _; rw [Int.neg_mul_neg]
  rcases k1 with h | h
  · rw [h, nat_dist]
  · rw [h, nat_dist']
theorem fin_pack (neg : Bool) {t : Nat} (h : t < infMag) : Fin (pack neg t) ∧ val (pack neg t) = sgn neg (V t) :=
  ⟨let ⟨m, e, hd, _⟩ := decode_pack neg h; ⟨neg, m, e, hd⟩, val_pack neg h⟩
theorem fin_val {x : UInt64} {a : Bool} {m : Nat} {e : Int} (h : decode x = .fin a m e) : val x = sgn a (val x).natAbs := by
  rw [val_eq h, sgn_natAbs]
theorem add_val {x y : UInt64} (hx : Fin x) (hy : Fin y) {j : Nat} (hj : j ≤ 900) (h : (val x + val y).natAbs ≤ 2 ^ (j + 1021 + 53)) :
    Fin (add x y) ∧ 2 * (val (add x y) - (val x + val y)).natAbs ≤ 2 ^ (j + 1021) := by
  obtain ⟨a, m, e, hx⟩ := hx
  obtain ⟨b, k, f, hy⟩ := hy
  have hr := add_right hx hy
  by_cases h0 : val x + val y = 0
  · rw [hr.1 h0, h0]
    obtain ⟨h1, h2⟩ := fin_pack (a && b) (t := 0) (by decide)
    refine ⟨h1, ?_⟩
    have h3 : val (zero (a && b)) = 0 := by rw [show zero (a && b) = pack (a && b) 0 from rfl, h2, V_zero]; cases (a && b) <;> rfl
    rw [h3]
    exact Nat.zero_le _
  · obtain ⟨t, er, hlt, hn⟩ := right_near (hr.2 h0) (by decide) (by rw [Nat.one_mul]; exact h) (by exact (Nat.not_lt.mp fun hq9 => lin (zs := []) (ns := [_]) [.leN (.v 0) (.n 900), .ltN (.n 1990) (.a (.v 0) (.n 1021))] [1, 1] rfl hj hq9))
    obtain ⟨h1, h2⟩ := fin_pack (decide (val x + val y < 0)) hlt
    rw [er]
    refine ⟨h1, ?_⟩
    rw [h2, sgn_dist]
    rw [Nat.one_mul, Nat.one_mul] at hn
    exact hn
theorem sub_val {x y : UInt64} (hx : Fin x) (hy : Fin y) {j : Nat} (hj : j ≤ 900) (h : (val x - val y).natAbs ≤ 2 ^ (j + 1021 + 53)) :
    Fin (sub x y) ∧ 2 * (val (sub x y) - (val x - val y)).natAbs ≤ 2 ^ (j + 1021) := by
  obtain ⟨b, k, f, hy'⟩ := hy
  have hv := neg_val hy'
  have := add_val (x := x) (y := neg y) hx ⟨_, _, _, neg_decode hy'⟩ hj (by rw [hv, ← Int.sub_eq_add_neg]; exact h)
  rw [hv, ← Int.sub_eq_add_neg] at this
  unfold sub
  exact this
theorem mul_val {x y : UInt64} (hx : Fin x) (hy : Fin y) {j : Nat} (hj : j ≤ 900) (h : (val x).natAbs * (val y).natAbs ≤ 2 ^ 1074 * 2 ^ (j + 1021 + 53)) :
    Fin (mul x y) ∧ 2 * (val (mul x y) * ((2 ^ 1074 : Nat) : Int) - val x * val y).natAbs ≤ 2 ^ 1074 * 2 ^ (j + 1021) := by
  obtain ⟨a, m, e, hx⟩ := hx
  obtain ⟨b, k, f, hy⟩ := hy
  obtain ⟨t, er, hlt, hn⟩ := right_near (mul_right hx hy) (Nat.two_pow_pos _) h (by exact (Nat.not_lt.mp fun hq9 => lin (zs := []) (ns := [_]) [.leN (.v 0) (.n 900), .ltN (.n 1990) (.a (.v 0) (.n 1021))] [1, 1] rfl hj hq9))
  obtain ⟨h1, h2⟩ := fin_pack (a != b) hlt
  rw [er]
  refine ⟨h1, ?_⟩
  have key := sgn_prod a b (val x).natAbs (val y).natAbs (2 ^ 1074) (V t)
  rw [← fin_val hx, ← fin_val hy, ← h2] at key
  rw [key]
  exact hn
theorem div_val {x y : UInt64} (hx : Fin x) (hy : Fin y) (h0 : val y ≠ 0) {j : Nat} (hj : j ≤ 900) (h : (val x).natAbs * 2 ^ 1074 ≤ (val y).natAbs * 2 ^ (j + 1021 + 53)) :
    Fin (div x y) ∧ 2 * (val (div x y) * val y - val x * ((2 ^ 1074 : Nat) : Int)).natAbs ≤ (val y).natAbs * 2 ^ (j + 1021) := by
  obtain ⟨a, m, e, hx⟩ := hx
  obtain ⟨b, k, f, hy⟩ := hy
  have hk : k ≠ 0 := fun h => h0 (by rw [val_eq hy, h, Nat.zero_mul]; cases b <;> rfl)
  have hyp : 0 < (val y).natAbs := Int.natAbs_pos.mpr h0
  obtain ⟨t, er, hlt, hn⟩ := right_near (div_right hx hy hk) hyp h (by exact (Nat.not_lt.mp fun hq9 => lin (zs := []) (ns := [_]) [.leN (.v 0) (.n 900), .ltN (.n 1990) (.a (.v 0) (.n 1021))] [1, 1] rfl hj hq9))
  obtain ⟨h1, h2⟩ := fin_pack (a != b) hlt
  rw [er]
  refine ⟨h1, ?_⟩
  have key : (sgn (a != b) (V t) * sgn b (val y).natAbs - sgn a (val x).natAbs * ((2 ^ 1074 : Nat) : Int)).natAbs = Float64.dist ((val x).natAbs * 2 ^ 1074) ((val y).natAbs * V t) := by
    generalize (val x).natAbs = X
    generalize (val y).natAbs = Y
    generalize V t = v
    generalize (2 : Nat) ^ 1074 = K
    have e : (v : Int) * (Y : Int) = ((Y * v : Nat) : Int) := by rw [Int.natCast_mul]; exact Int.mul_comm _ _
    have e2 : (X : Int) * (K : Int) = ((X * K : Nat) : Int) := by rw [Int.natCast_mul]
    have k1 : sgn (a != b) v * sgn b Y - sgn a X * (K : Int) = ((Y * v : Nat) : Int) - ((X * K : Nat) : Int) ∨ sgn (a != b) v * sgn b Y - sgn a X * (K : Int) = -(((Y * v : Nat) : Int) - ((X * K : Nat) : Int)) := by
      rw [← e, ← e2]
      cases a <;> cases b
      · left; rfl
      · left; show -(v : Int) * (-(Y : Int)) - X * K = _; rw [Int.neg_mul_neg]
      · right; show -(v : Int) * Y - -(X : Int) * K = _; rw [Int.neg_mul, Int.neg_mul]; exact (Int.le_antisymm (Int.not_lt.mp fun hq9 => lin (zs := [_, _]) (ns := []) [.lt (.g (.s (.v 0) (.v 1))) (.s (.g (.v 0)) (.g (.v 1)))] [1] rfl hq9) (Int.not_lt.mp fun hq9 => lin (zs := [_, _]) (ns := []) [.lt (.s (.g (.v 0)) (.g (.v 1))) (.g (.s (.v 0) (.v 1)))] [1] rfl hq9))
      · right; show (v : Int) * (-(Y : Int)) - -(X : Int) * K = _; rw [Int.mul_neg, Int.neg_mul]; exact (Int.le_antisymm (Int.not_lt.mp fun hq9 => lin (zs := [_, _]) (ns := []) [.lt (.g (.s (.v 0) (.v 1))) (.s (.g (.v 0)) (.g (.v 1)))] [1] rfl hq9) (Int.not_lt.mp fun hq9 => lin (zs := [_, _]) (ns := []) [.lt (.s (.g (.v 0)) (.g (.v 1))) (.g (.s (.v 0) (.v 1)))] [1] rfl hq9))
    rcases k1 with h | h
    · rw [h, nat_dist]
    · rw [h, nat_dist']
  rw [← fin_val hx, ← fin_val hy, ← h2] at key
  rw [key]
  exact hn
theorem frac_val {n d : Nat} (hd : 0 < d) {j : Nat} (hj : j ≤ 900) (h : n ≤ d * 2 ^ j) :
    ∃ t, ofFrac false n d = pack false t ∧ t < infMag ∧ 2 * Float64.dist (n * 2 ^ 1074) (d * V t) ≤ d * 2 ^ (j + 1021) := by
  refine right_near (ofFrac_right hd rfl hd) hd ?_ (by exact (Nat.not_lt.mp fun hq9 => lin (zs := []) (ns := [_]) [.leN (.v 0) (.n 900), .ltN (.n 1990) (.a (.v 0) (.n 1021))] [1, 1] rfl hj hq9))
  have e : j + 1021 + 53 = j + 1074 := by exact (Nat.le_antisymm (Nat.not_lt.mp fun hq9 => lin (zs := []) (ns := [_]) [.ltN (.a (.v 0) (.n 1074)) (.a (.a (.v 0) (.n 1021)) (.n 53))] [1] rfl hq9) (Nat.not_lt.mp fun hq9 => lin (zs := []) (ns := [_]) [.ltN (.a (.a (.v 0) (.n 1021)) (.n 53)) (.a (.v 0) (.n 1074))] [1] rfl hq9))
  rw [e, Nat.pow_add, ← Nat.mul_assoc]
  exact Nat.mul_le_mul_right _ h
end Fl
end Mine
end

section
open PySem PySem.Float64
set_option maxRecDepth 100000
set_option exponentiation.threshold 3000
namespace Mine
namespace Fl
/-- the numbers that a rounding is nearest to, and its tie -/
def Near (t W D : Nat) : Prop := ∀ t', Float64.dist W (D * V t) ≤ Float64.dist W (D * V t') ∧ (V t' ≠ V t → Float64.dist W (D * V t) = Float64.dist W (D * V t') → t % 2 = 0)
theorem near_ge {t W D t₀ : Nat} (h : Near t W D) (hW : D * V t₀ ≤ W) : V t₀ ≤ V t ∨ D = 0 := by
  rcases Nat.eq_zero_or_pos D with h0 | h0
  · exact .inr h0
  left
  rcases Nat.lt_or_ge (V t) (V t₀) with h1 | h1
  · exfalso
    have h2 := (h t₀).1
    have h3 : D * V t < D * V t₀ := Nat.mul_lt_mul_of_pos_left h1 h0
    have := mid_le h3 h2
    exact lin (zs := []) (ns := [_, _, _]) [.leN (.v 0) (.v 1), .ltN (.v 2) (.v 0), .leN (.m 2 (.v 1)) (.a (.v 0) (.v 2))] [2, 1, 1] rfl hW h3 this
  · exact h1
theorem near_le {t W D t₀ : Nat} (h : Near t W D) (hW : W ≤ D * V t₀) : V t ≤ V t₀ ∨ D = 0 := by
  rcases Nat.eq_zero_or_pos D with h0 | h0
  · exact .inr h0
  left
  rcases Nat.lt_or_ge (V t₀) (V t) with h1 | h1
  · exfalso
    have h2 := (h t₀).1
    have h3 : D * V t₀ < D * V t := Nat.mul_lt_mul_of_pos_left h1 h0
    have := mid_ge h3 h2
    exact lin (zs := []) (ns := [_, _, _]) [.leN (.v 0) (.v 1), .ltN (.v 1) (.v 2), .leN (.a (.v 2) (.v 1)) (.m 2 (.v 0))] [2, 1, 1] rfl hW h3 this
  · exact h1
theorem near_uniq_lt {t u W D : Nat} (hD : 0 < D) (h1 : Near t W D) (h2 : Near u W D) (h : t < u) : False := by
  have hv := V_lt h
  have a1 := (h1 u).1
  have a2 := (h2 t).1
  have e : Float64.dist W (D * V t) = Float64.dist W (D * V u) := by exact (Nat.le_antisymm (Nat.not_lt.mp fun hq9 => lin (zs := []) (ns := [_, _]) [.leN (.v 0) (.v 1), .ltN (.v 1) (.v 0)] [1, 1] rfl a1 hq9) (Nat.not_lt.mp fun hq9 => lin (zs := []) (ns := [_, _]) [.leN (.v 0) (.v 1), .ltN (.v 1) (.v 0)] [1, 1] rfl a2 hq9))
  have p1 := (h1 u).2 (by exact (fun hq9 => lin (zs := []) (ns := [_, _]) [.ltN (.v 0) (.v 1), .eqN (.v 1) (.v 0)] [1, 1] rfl hv hq9)) e
  have p2 := (h2 t).2 (by exact (fun hq9 => lin (zs := []) (ns := [_, _]) [.ltN (.v 0) (.v 1), .eqN (.v 0) (.v 1)] [1, -1] rfl hv hq9)) e.symm
  have h3 : D * V t < D * V u := Nat.mul_lt_mul_of_pos_left hv hD
  have a3 := (h1 (t + 1)).1
  rcases Nat.lt_or_ge (t + 1) u with h4 | h4
  · have k1 : D * V t < D * V (t + 1) := Nat.mul_lt_mul_of_pos_left (V_succ t) hD
    have k2 : D * V (t + 1) < D * V u := Nat.mul_lt_mul_of_pos_left (V_lt h4) hD
    have b1 := mid_le k1 a3
    have b2 := mid_ge h3 a2
    exact lin (zs := []) (ns := [_, _, _, _]) [.ltN (.v 0) (.v 1), .leN (.m 2 (.v 2)) (.a (.v 0) (.v 3)), .leN (.a (.v 1) (.v 3)) (.m 2 (.v 2))] [1, 1, 1] rfl k2 b1 b2
  · lia
theorem near_uniq {t u W D : Nat} (hD : 0 < D) (h1 : Near t W D) (h2 : Near u W D) : t = u := by
  rcases Nat.lt_trichotomy t u with h | h | h
  · exact (near_uniq_lt hD h1 h2 h).elim
  · exact h
  · exact (near_uniq_lt hD h2 h1 h).elim
/-- only the ratio counts -/
theorem near_ratio {t W D W' D' : Nat} (hD : 0 < D) (hD' : 0 < D') (e : W * D' = W' * D) (h : Near t W D) : Near t W' D' := by
  have hm : ∀ v, D' * Float64.dist W (D * v) = D * Float64.dist W' (D' * v) := fun v => by
    rw [← dist_mul, ← dist_mul, show D' * W = D * W' by rw [Nat.mul_comm, e, Nat.mul_comm], show D' * (D * v) = D * (D' * v) by ac_rfl]
  intro t'
  have ⟨h1, h2⟩ := h t'
  refine ⟨Nat.le_of_mul_le_mul_left (c := D) ?_ hD, fun hne he => h2 hne (Nat.eq_of_mul_eq_mul_left hD' ?_)⟩
  · rw [← hm, ← hm]; exact Nat.mul_le_mul_left D' h1
  · rw [hm, hm, he]
theorem V_up {t : Nat} (h : 2 ^ 52 ≤ t) : V (t + 2 ^ 52) = 2 * V t := by
  obtain ⟨k, q, ht, hq, hor, hV⟩ := V_form t
  rcases hor with h1 | h1
  · have e : t + 2 ^ 52 = (k + 1) * 2 ^ 52 + q := by exact (Nat.le_antisymm (Nat.not_lt.mp fun hq9 => lin (zs := []) (ns := [_, _, _]) [.eqN (.v 0) (.a (.r (.v 1) (2 ^ 52)) (.v 2)), .ltN (.a (.r (.a (.v 1) (.n 1)) (2 ^ 52)) (.v 2)) (.a (.v 0) (.n (2 ^ 52)))] [1, 1] rfl ht hq9) (Nat.not_lt.mp fun hq9 => lin (zs := []) (ns := [_, _, _]) [.eqN (.v 0) (.a (.r (.v 1) (2 ^ 52)) (.v 2)), .ltN (.a (.v 0) (.n (2 ^ 52))) (.a (.r (.a (.v 1) (.n 1)) (2 ^ 52)) (.v 2))] [-1, 1] rfl ht hq9))
    rw [e, V_at (by exact (Nat.not_lt.mp fun hq9 => lin (zs := []) (ns := [_]) [.ltN (.v 0) (.n (2 ^ 53)), .ltN (.n (2 ^ 53)) (.v 0)] [1, 1] rfl hq hq9)) (.inl h1), hV, Nat.pow_succ]
    ac_rfl
  · subst h1
    have e : t + 2 ^ 52 = (0 + 1) * 2 ^ 52 + q := by exact (Nat.le_antisymm (Nat.not_lt.mp fun hq9 => lin (zs := []) (ns := [_, _]) [.eqN (.v 0) (.a (.m 0 (.n (2 ^ 52))) (.v 1)), .ltN (.a (.r (.a (.n 0) (.n 1)) (2 ^ 52)) (.v 1)) (.a (.v 0) (.n (2 ^ 52)))] [1, 1] rfl ht hq9) (Nat.not_lt.mp fun hq9 => lin (zs := []) (ns := [_, _]) [.eqN (.v 0) (.a (.m 0 (.n (2 ^ 52))) (.v 1)), .ltN (.a (.v 0) (.n (2 ^ 52))) (.a (.r (.a (.n 0) (.n 1)) (2 ^ 52)) (.v 1))] [-1, 1] rfl ht hq9))
    rw [e, V_at (by exact (Nat.not_lt.mp fun hq9 => lin (zs := []) (ns := [_]) [.ltN (.v 0) (.n (2 ^ 53)), .ltN (.n (2 ^ 53)) (.v 0)] [1, 1] rfl hq hq9)) (.inl (by exact (Nat.not_lt.mp fun hq9 => lin (zs := []) (ns := [_, _]) [.leN (.n (2 ^ 52)) (.v 0), .eqN (.v 0) (.a (.m 0 (.n (2 ^ 52))) (.v 1)), .ltN (.v 1) (.n (2 ^ 52))] [1, 1, 1] rfl h ht hq9))), hV]
    rw [show (2 : Nat) ^ (0 + 1) = 2 from rfl, show (2 : Nat) ^ 0 = 1 from rfl]
    exact (Nat.le_antisymm (Nat.not_lt.mp fun hq9 => lin (zs := []) (ns := [_]) [.ltN (.m 2 (.r (.v 0) 1)) (.r (.v 0) 2)] [1] rfl hq9) (Nat.not_lt.mp fun hq9 => lin (zs := []) (ns := [_]) [.ltN (.r (.v 0) 2) (.m 2 (.r (.v 0) 1))] [1] rfl hq9))
theorem V_small {t : Nat} (h : t ≤ 2 ^ 53) : V t = t := by
  have := V_at (k := 0) (q := t) h (.inr rfl)
  simpa using this
theorem V_twice (t : Nat) : ∃ u, V u = 2 * V t := by
  rcases Nat.lt_or_ge t (2 ^ 52) with h | h
  · exact ⟨2 * t, by rw [V_small (by exact (Nat.not_lt.mp fun hq9 => lin (zs := []) (ns := [_]) [.ltN (.v 0) (.n (2 ^ 52)), .ltN (.n (2 ^ 53)) (.m 2 (.v 0))] [2, 1] rfl h hq9)), V_small (by exact (Nat.not_lt.mp fun hq9 => lin (zs := []) (ns := [_]) [.ltN (.v 0) (.n (2 ^ 52)), .ltN (.n (2 ^ 53)) (.v 0)] [1, 1] rfl h hq9))]⟩
  · exact ⟨t + 2 ^ 52, V_up h⟩
theorem near_half {t W D : Nat} (h : Near t W D) (ht : 2 ^ 53 ≤ t) : Near (t - 2 ^ 52) W (2 * D) := by
  have e : V t = 2 * V (t - 2 ^ 52) := by
    have := V_up (t := t - 2 ^ 52) (by omega)
    rwa [Nat.sub_add_cancel (by exact (Nat.not_lt.mp fun hq9 => lin (zs := []) (ns := [_]) [.leN (.n (2 ^ 53)) (.v 0), .ltN (.v 0) (.n (2 ^ 52))] [1, 1] rfl ht hq9))] at this
  have em : ∀ v, 2 * D * v = D * (2 * v) := fun v => by ac_rfl
  intro t'
  obtain ⟨u, hu⟩ := V_twice t'
  have ⟨h1, h2⟩ := h u
  rw [hu, e] at h1 h2
  rw [em, em]
  refine ⟨h1, fun hne he => ?_⟩
  have := h2 (by lia) he
  grind
theorem near_exact {t W D t₀ : Nat} (hD : 0 < D) (h : Near t W D) (e : W = D * V t₀) : t = t₀ := by
  have h1 := (near_ge h (Nat.le_of_eq e.symm)).resolve_right (by exact (fun hq9 => lin (zs := []) (ns := [_]) [.ltN (.n 0) (.v 0), .eqN (.v 0) (.n 0)] [1, 1] rfl hD hq9))
  have h2 := (near_le h (Nat.le_of_eq e)).resolve_right (by exact (fun hq9 => lin (zs := []) (ns := [_]) [.ltN (.n 0) (.v 0), .eqN (.v 0) (.n 0)] [1, 1] rfl hD hq9))
  exact V_inj (by exact (Nat.le_antisymm (Nat.not_lt.mp fun hq9 => lin (zs := []) (ns := [_, _]) [.leN (.v 0) (.v 1), .ltN (.v 1) (.v 0)] [1, 1] rfl h2 hq9) (Nat.not_lt.mp fun hq9 => lin (zs := []) (ns := [_, _]) [.leN (.v 0) (.v 1), .ltN (.v 1) (.v 0)] [1, 1] rfl h1 hq9)))
theorem near_of {n d W D k : Nat} (hd : 0 < d) (hD : 0 < D) (e : n * 2 ^ 1074 * D = W * d) (hW : W ≤ D * 2 ^ k) (hk : k ≤ 2043) : roundMag n d < infMag ∧ Near (roundMag n d) W D := by
  have hlt : roundMag n d < infMag := by
    obtain ⟨t, e1, h1, _⟩ := right_fin (ofFrac_right (neg := false) hd e hD) hD hW hk
    have hl := (show roundMag n d ≤ infMag by rw [roundMag_min]; lia)
    rcases Nat.lt_or_ge (roundMag n d) infMag with h | h
    · exact h
    · exfalso
      have hq := (over_of hd e hD).mp (Nat.le_antisymm hl h)
      have h2 := Nat.le_trans hq (Nat.mul_le_mul_left 2 hW)
      have h3 : 2 * (D * 2 ^ k) = D * 2 ^ (k + 1) := by rw [Nat.pow_succ]; ac_rfl
      rw [h3] at h2
      exact absurd (big (k + 1) (Nat.succ_le_succ hk)) (Nat.not_lt.mpr (Nat.le_of_mul_le_mul_left h2 hD))
  exact ⟨hlt, fun t' => right_of hd e hD hlt t'⟩
/-- the float of a fraction and that of its half -/
theorem round_half {n d n' d' : Nat} (hd : 0 < d) (hd' : 0 < d') (e : n * d' = 2 * (n' * d)) (lo : d ≤ n * 2 ^ 900) (hi : n ≤ d * 2 ^ 900) : roundMag n d = roundMag n' d' + 2 ^ 52 ∧ 2 ^ 53 ≤ roundMag n d ∧ roundMag n d < infMag := by
  have hW : n * 2 ^ 1074 ≤ d * 2 ^ 1974 := by
    rw [show (1974 : Nat) = 900 + 1074 from rfl, Nat.pow_add, ← Nat.mul_assoc]; exact Nat.mul_le_mul_right _ hi
  obtain ⟨h1, h2⟩ := near_of (n := n) (d := d) (k := 1974) hd hd rfl hW (by decide)
  have hW' : n' * 2 ^ 1074 ≤ d' * 2 ^ 1974 := by
    rw [show (1974 : Nat) = 900 + 1074 from rfl, Nat.pow_add, ← Nat.mul_assoc]
    refine Nat.mul_le_mul_right _ (Nat.le_of_mul_le_mul_left (c := d) ?_ hd)
    have := Nat.mul_le_mul_right d' hi
    have e3 : d * n' = n' * d := Nat.mul_comm ..
    have e4 : d * 2 ^ 900 * d' = d * (d' * 2 ^ 900) := by ac_rfl
    rw [← e4]
    exact (Nat.not_lt.mp fun hq9 => lin (zs := []) (ns := [_, _, _, _]) [.eqN (.v 0) (.m 2 (.v 1)), .leN (.v 0) (.v 2), .eqN (.v 3) (.v 1), .ltN (.v 2) (.v 3)] [-1, 1, 2, 2] rfl e this e3 hq9)
  obtain ⟨h3, h4⟩ := near_of (n := n') (d := d') (k := 1974) hd' hd' rfl hW' (by decide)
  have ht : 2 ^ 53 ≤ roundMag n d := by
    have hv : d * V (2 ^ 53) ≤ n * 2 ^ 1074 := by
      rw [V_small (Nat.le_refl _)]
      have : n * 2 ^ 1074 = n * 2 ^ 900 * 2 ^ 174 := by rw [Nat.mul_assoc, ← Nat.pow_add]
      rw [this]
      exact Nat.mul_le_mul lo (by decide)
    have := (near_ge h2 hv).resolve_right (by exact (fun hq9 => lin (zs := []) (ns := [_]) [.ltN (.n 0) (.v 0), .eqN (.v 0) (.n 0)] [1, 1] rfl hd hq9))
    rcases Nat.lt_or_ge (roundMag n d) (2 ^ 53) with h | h
    · have := V_lt h; lia
    · exact h
  have h5 := near_half h2 ht
  have h6 := near_ratio (W' := n' * 2 ^ 1074) (D' := d') (Nat.mul_pos (by decide) hd) hd' (by
    have : n * d' * 2 ^ 1074 = 2 * (n' * d) * 2 ^ 1074 := by rw [e]
    have e1 : n * 2 ^ 1074 * d' = n * d' * 2 ^ 1074 := by ac_rfl
    have e2 : n' * 2 ^ 1074 * (2 * d) = 2 * (n' * d) * 2 ^ 1074 := by ac_rfl
    rw [e1, e2, this]) h5
  have h7 := near_uniq hd' h6 h4
  exact ⟨by lia, ht, h1⟩
theorem decode_at (neg : Bool) {t : Nat} (h : t < infMag) (h2 : 2 ^ 52 ≤ t) : decode (pack neg t) = .fin neg (2 ^ 52 + t % 2 ^ 52) (((t / 2 ^ 52 : Nat) : Int) - 1075) := by
  have e := pack_toNat neg (t := t) (by unfold infMag at h; exact (Nat.not_le.mp fun hq9 => lin (zs := []) (ns := [_]) [.ltN (.v 0) (.m 2047 (.n (2 ^ 52))), .leN (.n (2 ^ 63)) (.v 0)] [1, 1] rfl h hq9))
  unfold decode
  rw [e]
  unfold infMag at h
  have lt : t / 2 ^ 52 < 2048 := Nat.div_lt_of_lt_mul (Nat.lt_trans h (by decide))
  have l63 : t < 2 ^ 63 := Nat.lt_trans h (by decide)
  have e1 : ((if neg = true then 2 ^ 63 else 0) + t) / 2 ^ 52 % 2048 = t / 2 ^ 52 := by
    cases neg
    · show (0 + t) / 2 ^ 52 % 2048 = _
      rw [Nat.zero_add]; exact Nat.mod_eq_of_lt lt
    · show (2 ^ 63 + t) / 2 ^ 52 % 2048 = _
      rw [show 2 ^ 63 + t = t + 2 ^ 52 * 2048 from Nat.add_comm _ _, Nat.add_mul_div_left _ _ (Nat.two_pow_pos 52), Nat.add_mod_right]; exact Nat.mod_eq_of_lt lt
  have e2 : ((if neg = true then 2 ^ 63 else 0) + t) % 2 ^ 52 = t % 2 ^ 52 := by
    cases neg
    · show (0 + t) % 2 ^ 52 = _
      rw [Nat.zero_add]
    · show (2 ^ 63 + t) % 2 ^ 52 = _
      rw [show 2 ^ 63 + t = t + 2 ^ 52 * 2048 from Nat.add_comm _ _, Nat.add_mul_mod_self_left]
  have e3 : (((if neg = true then 2 ^ 63 else 0) + t) / 2 ^ 63 == 1) = neg := by
    cases neg
    · show ((0 + t) / 2 ^ 63 == 1) = false
      rw [Nat.zero_add, Nat.div_eq_of_lt l63]; rfl
    · show ((2 ^ 63 + t) / 2 ^ 63 == 1) = true
      rw [Nat.add_div_left _ (Nat.two_pow_pos 63), Nat.div_eq_of_lt l63]; rfl
  simp only [e1, e2, e3]
  rw [if_neg (by simp; lia), if_neg (by simp; lia)]
/-- x is twice y: nought and nought, or the same digits at a place one less -/
def Half (x y : UInt64) : Prop := (∃ s m e, m ≠ 0 ∧ decode x = .fin s m e ∧ decode y = .fin s m (e - 1)) ∨ (x = 0 ∧ y = 0)
theorem half_frac {n d n' d' : Nat} (s : Bool) (hd : 0 < d) (hd' : 0 < d') (e : n * d' = 2 * (n' * d)) (lo : d ≤ n * 2 ^ 900) (hi : n ≤ d * 2 ^ 900) :
    ∃ m e, m ≠ 0 ∧ decode (ofFrac s n d) = .fin s m e ∧ decode (ofFrac s n' d') = .fin s m (e - 1) := by
  obtain ⟨h1, h2, h3⟩ := round_half hd hd' e lo hi
  unfold ofFrac
  rw [decode_at s h3 (by grind), decode_at s (t := roundMag n' d') (by lia) (by lia)]
  refine ⟨_, _, Nat.ne_of_gt (Nat.lt_of_lt_of_le (Nat.two_pow_pos 52) (Nat.le_add_right _ _)), rfl, ?_⟩
  rw [h1]
  generalize roundMag n' d' = t'
  have a1 : (t' + 2 ^ 52) % 2 ^ 52 = t' % 2 ^ 52 := Nat.add_mod_right _ _
  have a2 : (t' + 2 ^ 52) / 2 ^ 52 = t' / 2 ^ 52 + 1 := Nat.add_div_right _ (Nat.two_pow_pos 52)
  rw [a1, a2]
  refine congrArg (Num.fin s _) ?_
  exact (Int.le_antisymm (Int.not_lt.mp fun hq9 => lin (zs := []) (ns := [_]) [.lt (.s (.s (.c (.a (.v 0) (.n 1))) (.n 1075)) (.n 1)) (.s (.c (.v 0)) (.n 1075))] [1] rfl hq9) (Int.not_lt.mp fun hq9 => lin (zs := []) (ns := [_]) [.lt (.s (.c (.v 0)) (.n 1075)) (.s (.s (.c (.a (.v 0) (.n 1))) (.n 1075)) (.n 1))] [1] rfl hq9))
end Fl
end Mine
end

section
open PySem PySem.Float64
set_option maxRecDepth 100000
set_option exponentiation.threshold 3000
namespace Mine
namespace Fl
/-- x is twice y, digits alike, at a place one less; not nought -/
def H1 (x y : UInt64) : Prop := ∃ s m e, m ≠ 0 ∧ decode x = .fin s m e ∧ decode y = .fin s m (e - 1)
theorem shift_half (n d : Nat) (j : Int) : (shift n d j).1 * (shift n d (j - 1)).2 = 2 * ((shift n d (j - 1)).1 * (shift n d j).2) := by
  unfold shift
  rcases Int.lt_trichotomy j 0 with h | h | h
  · rw [if_neg (by exact (fun hq9 => lin (zs := [_]) (ns := []) [.lt (.v 0) (.n 0), .le (.n 0) (.v 0)] [1, 1] rfl h hq9)), if_neg (by exact (fun hq9 => lin (zs := [_]) (ns := []) [.lt (.v 0) (.n 0), .le (.n 0) (.s (.v 0) (.n 1))] [1, 1] rfl h hq9))]
    have e : (-(j - 1)).toNat = (-j).toNat + 1 := (to_nat (b := 1) (by exact (Int.not_lt.mp fun hq9 => lin (zs := [_]) (ns := []) [.lt (.v 0) (.n 0), .lt (.g (.v 0)) (.n 0)] [1, 1] rfl h hq9)) (by decide) (by exact (Int.le_antisymm (Int.not_lt.mp fun hq9 => lin (zs := [_]) (ns := []) [.lt (.g (.s (.v 0) (.n 1))) (.a (.g (.v 0)) (.n 1))] [1] rfl hq9) (Int.not_lt.mp fun hq9 => lin (zs := [_]) (ns := []) [.lt (.a (.g (.v 0)) (.n 1)) (.g (.s (.v 0) (.n 1)))] [1] rfl hq9)))).symm
    simp only [e, Nat.pow_succ]
    ac_rfl
  · subst h
    rw [if_pos (by decide), if_neg (by decide)]
    simp only [show (-((0 : Int) - 1)).toNat = 1 from rfl, show (0 : Int).toNat = 0 from rfl, Nat.pow_zero, Nat.pow_one]
    rw [Nat.mul_one]
    ac_rfl
  · rw [if_pos (by exact (Int.not_lt.mp fun hq9 => lin (zs := [_]) (ns := []) [.lt (.n 0) (.v 0), .lt (.v 0) (.n 0)] [1, 1] rfl h hq9)), if_pos (by exact (Int.not_lt.mp fun hq9 => lin (zs := [_]) (ns := []) [.lt (.n 0) (.v 0), .lt (.s (.v 0) (.n 1)) (.n 0)] [1, 1] rfl h hq9))]
    have e : j.toNat = (j - 1).toNat + 1 := (to_nat (b := 1) (by exact (Int.not_lt.mp fun hq9 => lin (zs := [_]) (ns := []) [.lt (.n 0) (.v 0), .lt (.s (.v 0) (.n 1)) (.n 0)] [1, 1] rfl h hq9)) (by decide) (by exact (Int.le_antisymm (Int.not_lt.mp fun hq9 => lin (zs := [_]) (ns := []) [.lt (.v 0) (.a (.s (.v 0) (.n 1)) (.n 1))] [1] rfl hq9) (Int.not_lt.mp fun hq9 => lin (zs := [_]) (ns := []) [.lt (.a (.s (.v 0) (.n 1)) (.n 1)) (.v 0)] [1] rfl hq9)))).symm
    simp only [e, Nat.pow_succ]
    ac_rfl
/-- the lesser place, one less -/
theorem min_one (e f : Int) : min (e - 1) (f - 1) = min e f - 1 := by
  rcases Int.le_total e f with h | h
  · rw [Int.min_eq_left h, Int.min_eq_left (Int.sub_le_sub_right h 1)]
  · rw [Int.min_eq_right h, Int.min_eq_right (Int.sub_le_sub_right h 1)]
theorem min_left (e f : Int) : e - 1 - min (e - 1) (f - 1) = e - min e f := by rw [min_one]; exact (Int.le_antisymm (Int.not_lt.mp fun hq9 => lin (zs := [_, _]) (ns := []) [.lt (.s (.v 0) (.v 1)) (.s (.s (.v 0) (.n 1)) (.s (.v 1) (.n 1)))] [1] rfl hq9) (Int.not_lt.mp fun hq9 => lin (zs := [_, _]) (ns := []) [.lt (.s (.s (.v 0) (.n 1)) (.s (.v 1) (.n 1))) (.s (.v 0) (.v 1))] [1] rfl hq9))
theorem min_right (e f : Int) : f - 1 - min (e - 1) (f - 1) = f - min e f := by rw [min_one]; exact (Int.le_antisymm (Int.not_lt.mp fun hq9 => lin (zs := [_, _]) (ns := []) [.lt (.s (.v 0) (.v 1)) (.s (.s (.v 0) (.n 1)) (.s (.v 1) (.n 1)))] [1] rfl hq9) (Int.not_lt.mp fun hq9 => lin (zs := [_, _]) (ns := []) [.lt (.s (.s (.v 0) (.n 1)) (.s (.v 1) (.n 1))) (.s (.v 0) (.v 1))] [1] rfl hq9))
theorem le_min {a e f : Int} (he : a ≤ e) (hf : a ≤ f) : a ≤ min e f := by
  rcases Int.le_total e f with h | h
  · rw [Int.min_eq_left h]; exact he
  · rw [Int.min_eq_right h]; exact hf
theorem min_to {e f : Int} (he : -1074 ≤ e) (hf : -1074 ≤ f) : (e - min e f).toNat + (min e f + 1074).toNat = (e + 1074).toNat := by
  have h := le_min he hf
  exact to_nat (Int.sub_nonneg_of_le (Int.min_le_left e f)) (by exact (Int.not_lt.mp fun hq9 => lin (zs := [_]) (ns := []) [.le (.n (-1074)) (.v 0), .lt (.a (.v 0) (.n 1074)) (.n 0)] [1, 1] rfl h hq9)) (by exact (Int.le_antisymm (Int.not_lt.mp fun hq9 => lin (zs := [_, _]) (ns := []) [.lt (.a (.v 0) (.n 1074)) (.a (.s (.v 0) (.v 1)) (.a (.v 1) (.n 1074)))] [1] rfl hq9) (Int.not_lt.mp fun hq9 => lin (zs := [_, _]) (ns := []) [.lt (.a (.s (.v 0) (.v 1)) (.a (.v 1) (.n 1074))) (.a (.v 0) (.n 1074))] [1] rfl hq9)))
theorem min_to' {e f : Int} (he : -1074 ≤ e) (hf : -1074 ≤ f) : (f - min e f).toNat + (min e f + 1074).toNat = (f + 1074).toNat := by
  have h := le_min he hf
  exact to_nat (Int.sub_nonneg_of_le (Int.min_le_right e f)) (by exact (Int.not_lt.mp fun hq9 => lin (zs := [_]) (ns := []) [.le (.n (-1074)) (.v 0), .lt (.a (.v 0) (.n 1074)) (.n 0)] [1, 1] rfl h hq9)) (by exact (Int.le_antisymm (Int.not_lt.mp fun hq9 => lin (zs := [_, _]) (ns := []) [.lt (.a (.v 0) (.n 1074)) (.a (.s (.v 0) (.v 1)) (.a (.v 1) (.n 1074)))] [1] rfl hq9) (Int.not_lt.mp fun hq9 => lin (zs := [_, _]) (ns := []) [.lt (.a (.s (.v 0) (.v 1)) (.a (.v 1) (.n 1074))) (.a (.v 0) (.n 1074))] [1] rfl hq9)))
theorem bin_half (s : Bool) {n : Nat} {g : Int} (hg : -1074 ≤ g) (lo : 2 ^ 174 ≤ n * 2 ^ (g + 1074).toNat) (hi : n * 2 ^ (g + 1074).toNat ≤ 2 ^ 1974) : H1 (ofBin s n g) (ofBin s n (g - 1)) := by
  have h1 := shift_one n g 1074 (by exact (Int.not_lt.mp fun hq9 => lin (zs := [_]) (ns := []) [.le (.n (-1074)) (.v 0), .lt (.v 0) (.g (.c (.n 1074)))] [1, 1] rfl hg hq9))
  have hd := shift_pos n 1 g (by decide)
  have e : (g + ((1074 : Nat) : Int)).toNat = (g + 1074).toNat := rfl
  rw [e] at h1
  have hlo : (shift n 1 g).2 ≤ (shift n 1 g).1 * 2 ^ 900 := by
    have a := Nat.mul_le_mul_right (shift n 1 g).2 lo
    rw [← h1, show (1074 : Nat) = 900 + 174 from rfl, Nat.pow_add, ← Nat.mul_assoc, Nat.mul_comm (2 ^ 174)] at a
    exact Nat.le_of_mul_le_mul_right a (Nat.two_pow_pos _)
  have hhi : (shift n 1 g).1 ≤ (shift n 1 g).2 * 2 ^ 900 := by
    have a := Nat.mul_le_mul_right (shift n 1 g).2 hi
    rw [← h1, show (1974 : Nat) = 900 + 1074 from rfl, Nat.pow_add 2 900 1074, Nat.mul_comm (2 ^ 900 * 2 ^ 1074), ← Nat.mul_assoc] at a
    exact Nat.le_of_mul_le_mul_right a (Nat.two_pow_pos _)
  obtain ⟨m, f, h2, h3, h4⟩ := half_frac s hd (shift_pos n 1 (g - 1) (by decide)) (shift_half n 1 g) hlo hhi
  exact ⟨s, m, f, h2, h3, h4⟩
theorem H1.neg {x y : UInt64} (h : H1 x y) : H1 (neg x) (neg y) := by
  obtain ⟨s, m, e, h0, hx, hy⟩ := h
  exact ⟨!s, m, e, h0, neg_decode hx, neg_decode hy⟩
theorem H1.cmp {x y u v : UInt64} (h : H1 x y) (k : H1 u v) : Float64.cmp y v = Float64.cmp x u := by
  obtain ⟨s, m, e, h0, hx, hy⟩ := h
  obtain ⟨s', m', e', h0', hx', hy'⟩ := k
  unfold Float64.cmp
  rw [hx, hy, hx', hy']
  unfold align
  have e1 := congrArg Int.toNat (min_left e e')
  have e2 := congrArg Int.toNat (min_right e e')
  simp only [e1, e2]
theorem H1.div {x y u v : UInt64} (h : H1 x y) (k : H1 u v) : Float64.div y v = Float64.div x u := by
  obtain ⟨s, m, e, h0, hx, hy⟩ := h
  obtain ⟨s', m', e', h0', hx', hy'⟩ := k
  unfold Float64.div
  rw [hx, hy, hx', hy']
  have e1 : e - 1 - (e' - 1) = e - e' := by exact (Int.le_antisymm (Int.not_lt.mp fun hq9 => lin (zs := [_, _]) (ns := []) [.lt (.s (.v 0) (.v 1)) (.s (.s (.v 0) (.n 1)) (.s (.v 1) (.n 1)))] [1] rfl hq9) (Int.not_lt.mp fun hq9 => lin (zs := [_, _]) (ns := []) [.lt (.s (.s (.v 0) (.n 1)) (.s (.v 1) (.n 1))) (.s (.v 0) (.v 1))] [1] rfl hq9))
  simp only [e1]
theorem div_zero_half {u v : UInt64} (k : H1 u v) : Float64.div 0 v = Float64.div 0 u := by
  obtain ⟨s', m', e', h0', hx', hy'⟩ := k
  have hz : decode 0 = .fin false 0 (-1074) := PySem.Flt.decode_zero
  have hs : ∀ (d : Nat) (j : Int), roundMag (shift 0 d j).1 (shift 0 d j).2 = 0 := by
    intro d j
    have : (shift 0 d j).1 = 0 := by unfold shift; split <;> simp
    rw [this]; unfold roundMag; simp
  unfold Float64.div
  rw [hx', hy', hz]
  simp only
  rw [if_neg (by simpa using h0'), if_neg (by simpa using h0')]
  unfold ofFrac
  rw [hs, hs]
theorem Half.div {x y u v : UInt64} (h : Half x y) (k : H1 u v) : Float64.div y v = Float64.div x u := by
  rcases h with h | ⟨rfl, rfl⟩
  · exact H1.div h k
  · exact div_zero_half k
/-- the sum of two, and of their halves -/
theorem H1.add {x y u v : UInt64} (h : H1 x y) (k : H1 u v) (r : (val x + val u = 0 ∧ signBit x = false) ∨ (2 ^ 174 ≤ (val x + val u).natAbs ∧ (val x + val u).natAbs ≤ 2 ^ 1974)) : Half (add x u) (add y v) := by
  obtain ⟨s, m, e, h0, hx, hy⟩ := h
  obtain ⟨s', m', e', h0', hx', hy'⟩ := k
  have hs : signBit x = s := by
    have h2 : (match decode x with | .fin a _ _ => a | .inf a => a | .nan => s) = s := by rw [hx]
    unfold signBit
    unfold decode at h2 hx
    simp only at h2 hx
    split at hx
    · split at hx <;> cases hx
    · split at hx
      · cases hx; rfl
      · cases hx; rfl
  have he := decode_ge hx
  have hf := decode_ge hx'
  have hp : (sgn s (m * 2 ^ (e - min e e').toNat) + sgn s' (m' * 2 ^ (e' - min e e').toNat)) * ((2 ^ (min e e' + 1074).toNat : Nat) : Int) = val x + val u := by
    rw [Int.add_mul, ← sgn_mul, ← sgn_mul, val_eq hx, val_eq hx', Nat.mul_assoc, Nat.mul_assoc, ← Nat.pow_add, ← Nat.pow_add]
    have e1 := min_to he hf
    have e2 := min_to' he hf
    rw [e1, e2]
  unfold Float64.add
  rw [hx, hy, hx', hy']
  unfold align
  have e1 := congrArg Int.toNat (min_left e e')
  have e2 := congrArg Int.toNat (min_right e e')
  have e3 := min_one e e'
  simp only [e1, e2]
  rw [e3]
  generalize sgn s (m * 2 ^ (e - min e e').toNat) + sgn s' (m' * 2 ^ (e' - min e e').toNat) = S at hp ⊢
  have hpos : (0 : Int) < ((2 ^ (min e e' + 1074).toNat : Nat) : Int) := Int.ofNat_lt.mpr (Nat.two_pow_pos _)
  rcases r with ⟨r1, r2⟩ | ⟨r1, r2⟩
  · have hS : S = 0 := by
      rw [r1] at hp
      rcases Int.mul_eq_zero.mp hp with h | h
      · exact h
      · exact (Int.le_antisymm (Int.not_lt.mp fun hq9 => lin (zs := []) (ns := [_]) [.lt (.n 0) (.c (.v 0)), .eq (.c (.v 0)) (.n 0)] [1, 1] rfl hpos h) (Int.not_lt.mp fun hq9 => lin (zs := []) (ns := [_]) [.lt (.n 0) (.c (.v 0)), .eq (.c (.v 0)) (.n 0)] [1, 1] rfl hpos h))
    rw [hs] at r2
    subst hS r2
    right
    exact ⟨rfl, rfl⟩
  · have hS : S ≠ 0 := by
      rintro rfl
      rw [Int.zero_mul] at hp
      rw [← hp] at r1
      exact absurd r1 (by decide)
    rw [if_neg (by simpa using hS), if_neg (by simpa using hS)]
    left
    have hW : S.natAbs * 2 ^ (min e e' + 1074).toNat = (val x + val u).natAbs := by
      rw [← hp, Int.natAbs_mul]; rfl
    exact bin_half (n := S.natAbs) (g := min e e') _ (le_min he hf) (by rw [hW]; exact r1) (by rw [hW]; exact r2)
end Fl
end Mine
end

section
open PySem PySem.Float64
set_option maxRecDepth 100000
set_option exponentiation.threshold 3000
namespace Mine
namespace Fl
/-- a float that is not below nought, and its number in units of 2^-1074 -/
def Pos (x : UInt64) (T : Nat) : Prop := ∃ t, x = pack false t ∧ t < infMag ∧ V t = T
theorem Pos.fin {x : UInt64} {T : Nat} (h : Pos x T) : ∃ m e, decode x = .fin false m e ∧ m * 2 ^ (e + 1074).toNat = T := by
  obtain ⟨t, rfl, h1, rfl⟩ := h
  exact decode_pack false h1
theorem Pos.val {x : UInt64} {T : Nat} (h : Pos x T) : val x = (T : Int) := by
  obtain ⟨t, rfl, h1, rfl⟩ := h
  exact val_pack false h1
theorem Pos.Fin {x : UInt64} {T : Nat} (h : Pos x T) : Fin x := by
  obtain ⟨m, e, h1, _⟩ := h.fin
  exact ⟨_, m, e, h1⟩
theorem Pos.uniq {x y : UInt64} {T : Nat} (h : Pos x T) (k : Pos y T) : x = y := by
  obtain ⟨t, rfl, h1, h2⟩ := h
  obtain ⟨u, rfl, k1, k2⟩ := k
  rw [V_inj (h2.trans k2.symm)]
theorem Pos.cmp {x y : UInt64} {X Y : Nat} (h : Pos x X) (k : Pos y Y) : Float64.cmp x y = some (compare (X : Int) (Y : Int)) := by
  obtain ⟨m, e, h1, _⟩ := h.fin
  obtain ⟨m', e', h1', _⟩ := k.fin
  rw [cmp_right h1 h1', h.val, k.val]
theorem cmp_lt_iff {x y : UInt64} {X Y : Nat} (h : Pos x X) (k : Pos y Y) : (Float64.cmp x y == some .lt) = true ↔ X < Y := by
  rw [h.cmp k, beq_iff_eq, Option.some.injEq, Int.compare_eq_lt]; omega
theorem cmp_eq_iff {x y : UInt64} {X Y : Nat} (h : Pos x X) (k : Pos y Y) : (Float64.cmp x y == some .eq) = true ↔ X = Y := by
  rw [h.cmp k, beq_iff_eq, Option.some.injEq, Int.compare_eq_eq]; lia
theorem cmp_gt_iff {x y : UInt64} {X Y : Nat} (h : Pos x X) (k : Pos y Y) : (Float64.cmp x y == some .gt) = true ↔ Y < X := by
  rw [h.cmp k, beq_iff_eq, Option.some.injEq, Int.compare_eq_gt]; omega
theorem fin_notnan {x : UInt64} (h : Fin x) : Float64.isNaN x = false := by
  obtain ⟨a, m, e, h⟩ := h; unfold Float64.isNaN; rw [h]
theorem fin_notinf {x : UInt64} (h : Fin x) : Float64.isInf x = false := by
  obtain ⟨a, m, e, h⟩ := h; unfold Float64.isInf; rw [h]
theorem fin_self {x : UInt64} (h : Fin x) : (Float64.cmp x x == some .eq) = true := by
  obtain ⟨a, m, e, h⟩ := h
  rw [cmp_right h h, beq_iff_eq, Option.some.injEq, Int.compare_eq_eq]
theorem Pos.nonzero {x : UInt64} {T : Nat} (h : Pos x T) (h0 : 0 < T) : Float64.isZero x = false := by
  obtain ⟨m, e, h1, h2⟩ := h.fin
  unfold Float64.isZero
  rw [h1]
  cases m with
  | zero => rw [Nat.zero_mul] at h2; lia
  | succ m => rfl
theorem pos_zero : Pos 0 0 := ⟨0, by decide, by decide, V_zero⟩
theorem right_near' {r : UInt64} {neg : Bool} {W D k : Nat} (h : Right r neg W D) (hD : 0 < D) (hW : W ≤ D * 2 ^ k) (hk : k ≤ 2043) : ∃ t, r = pack neg t ∧ t < infMag ∧ Near t W D := by
  obtain ⟨t, e, hle, hinf, hn⟩ := h
  rcases Nat.lt_or_ge t infMag with h | h
  · exact ⟨t, e, h, hn h⟩
  · exfalso
    have h1 := hinf.mp (Nat.le_antisymm hle h)
    have h2 := Nat.le_trans h1 (Nat.mul_le_mul_left 2 hW)
    have h3 : 2 * (D * 2 ^ k) = D * 2 ^ (k + 1) := by rw [Nat.pow_succ]; ac_rfl
    rw [h3] at h2
    exact absurd (big (k + 1) (Nat.succ_le_succ hk)) (Nat.not_lt.mpr (Nat.le_of_mul_le_mul_left h2 hD))
theorem near_zero (D : Nat) (hD : 0 < D) : Near 0 0 D := fun t' => by
  rw [V_zero, Nat.mul_zero]
  refine ⟨by unfold Float64.dist; lia, fun hne he => ?_⟩
  rfl
/-- a float next to a number -/
def Is (x : UInt64) (W D : Nat) : Prop := ∃ t, x = pack false t ∧ t < infMag ∧ Near t W D
theorem add_is {x y : UInt64} {X Y : Nat} (h : Pos x X) (k : Pos y Y) (hb : X + Y ≤ 2 ^ 1200) : Is (add x y) (X + Y) 1 := by
  obtain ⟨m, e, h1, _⟩ := h.fin
  obtain ⟨m', e', h1', _⟩ := k.fin
  have hr := add_right h1 h1'
  rw [h.val, k.val] at hr
  by_cases h0 : X + Y = 0
  · refine ⟨0, hr.1 (by exact (Int.le_antisymm (Int.not_lt.mp fun hq9 => lin (zs := []) (ns := [_, _]) [.eqN (.a (.v 0) (.v 1)) (.n 0), .lt (.n 0) (.a (.c (.v 0)) (.c (.v 1)))] [1, 1] rfl h0 hq9) (Int.not_lt.mp fun hq9 => lin (zs := []) (ns := [_, _]) [.lt (.a (.c (.v 0)) (.c (.v 1))) (.n 0)] [1] rfl hq9))), by decide, ?_⟩
    rw [h0]; exact near_zero 1 (by decide)
  · have h2 := hr.2 (by lia)
    rw [decide_eq_false (by exact (fun hq9 => lin (zs := []) (ns := [_, _]) [.lt (.a (.c (.v 0)) (.c (.v 1))) (.n 0)] [1] rfl hq9)), show ((X : Int) + (Y : Int)).natAbs = X + Y from rfl] at h2
    exact right_near' h2 (by decide) (k := 1200) (by exact (Nat.not_lt.mp fun hq9 => lin (zs := []) (ns := [_, _]) [.leN (.a (.v 0) (.v 1)) (.n (2 ^ 1200)), .ltN (.m 1 (.n (2 ^ 1200))) (.a (.v 0) (.v 1))] [1, 1] rfl hb hq9)) (by decide)
theorem sub_is {x y : UInt64} {X Y : Nat} (h : Pos x X) (k : Pos y Y) (hle : Y ≤ X) (hb : X ≤ 2 ^ 1200) : Is (sub x y) (X - Y) 1 := by
  obtain ⟨m, e, h1, _⟩ := h.fin
  obtain ⟨m', e', h1', _⟩ := k.fin
  have hr := sub_right h1 h1'
  rw [h.val, k.val] at hr
  by_cases h0 : X - Y = 0
  · refine ⟨0, hr.1 (by grind), by decide, ?_⟩
    rw [h0]; exact near_zero 1 (by decide)
  · have h2 := hr.2 (by lia)
    rw [decide_eq_false (by exact (fun hq9 => lin (zs := []) (ns := [_, _]) [.leN (.v 0) (.v 1), .lt (.s (.c (.v 1)) (.c (.v 0))) (.n 0)] [1, 1] rfl hle hq9)), show ((X : Int) - (Y : Int)).natAbs = X - Y by grind] at h2
    exact right_near' h2 (by decide) (k := 1200) (by grind) (by decide)
theorem div_is {x y : UInt64} {X Y : Nat} (h : Pos x X) (k : Pos y Y) (h0 : 0 < Y) (hb : X ≤ Y * 2 ^ 100) : Is (div x y) (X * 2 ^ 1074) Y := by
  obtain ⟨m, e, h1, _⟩ := h.fin
  obtain ⟨m', e', h1', h2'⟩ := k.fin
  have hr := div_right h1 h1' (by rintro rfl; rw [Nat.zero_mul] at h2'; exact lin (zs := []) (ns := [_]) [.ltN (.n 0) (.v 0), .eqN (.n 0) (.v 0)] [1, -1] rfl h0 h2')
  rw [h.val, k.val, Int.natAbs_natCast, Int.natAbs_natCast] at hr
  refine right_near' hr h0 (k := 1174) ?_ (by decide)
  rw [show (1174 : Nat) = 100 + 1074 from rfl, Nat.pow_add, ← Nat.mul_assoc]
  exact Nat.mul_le_mul_right _ hb
theorem mul_is {x y : UInt64} {X Y : Nat} (h : Pos x X) (k : Pos y Y) (hb : X * Y ≤ 2 ^ 1074 * 2 ^ 1200) : Is (mul x y) (X * Y) (2 ^ 1074) := by
  obtain ⟨m, e, h1, _⟩ := h.fin
  obtain ⟨m', e', h1', h2'⟩ := k.fin
  have hr := mul_right h1 h1'
  rw [h.val, k.val, Int.natAbs_natCast, Int.natAbs_natCast] at hr
  exact right_near' hr (Nat.two_pow_pos _) hb (by decide)
theorem frac_is {n d : Nat} (hd : 0 < d) (hb : n ≤ d * 2 ^ 100) : Is (ofFrac false n d) (n * 2 ^ 1074) d := by
  refine right_near' (ofFrac_right hd rfl hd) hd (k := 1174) ?_ (by decide)
  rw [show (1174 : Nat) = 100 + 1074 from rfl, Nat.pow_add, ← Nat.mul_assoc]
  exact Nat.mul_le_mul_right _ hb
/-- what such a float's number obeys -/
theorem Is.pos {x : UInt64} {W D : Nat} (h : Is x W D) (hD : 0 < D) : ∃ T, Pos x T ∧ (∀ a g, a ≤ 2 ^ 53 → D * (a * 2 ^ g) ≤ W → a * 2 ^ g ≤ T) ∧ (∀ a g, a ≤ 2 ^ 53 → W ≤ D * (a * 2 ^ g) → T ≤ a * 2 ^ g) ∧ (∀ g, W ≤ D * 2 ^ (g + 53) → 2 * Float64.dist W (D * T) ≤ D * 2 ^ g) := by
  obtain ⟨t, rfl, h1, h2⟩ := h
  refine ⟨V t, ⟨t, rfl, h1, rfl⟩, fun a g ha hw => ?_, fun a g ha hw => ?_, fun g hg => ?_⟩
  · obtain ⟨u, hu⟩ := V_grid g a ha
    rw [← hu] at hw ⊢
    exact (near_ge h2 hw).resolve_right (by exact (fun hq9 => lin (zs := []) (ns := [_]) [.ltN (.n 0) (.v 0), .eqN (.v 0) (.n 0)] [1, 1] rfl hD hq9))
  · obtain ⟨u, hu⟩ := V_grid g a ha
    rw [← hu] at hw ⊢
    exact (near_le h2 hw).resolve_right (by exact (fun hq9 => lin (zs := []) (ns := [_]) [.ltN (.n 0) (.v 0), .eqN (.v 0) (.n 0)] [1, 1] rfl hD hq9))
  · exact near_core hD hg (fun t' => (h2 t').1)
theorem Is.mono {x y : UInt64} {W W' D X Y : Nat} (h : Is x W D) (k : Is y W' D) (hD : 0 < D) (hw : W ≤ W') (hx : Pos x X) (hy : Pos y Y) : X ≤ Y := by
  obtain ⟨t, rfl, h1, h2⟩ := h
  obtain ⟨u, rfl, k1, k2⟩ := k
  have ex : X = V t := by have a := hx.val; rw [val_pack false h1] at a; exact (Int.ofNat.inj a).symm
  have ey : Y = V u := by have a := hy.val; rw [val_pack false k1] at a; exact (Int.ofNat.inj a).symm
  subst ex ey
  rcases Nat.lt_or_eq_of_le hw with hw | hw
  · rcases Nat.lt_or_ge (V u) (V t) with h | h
    · exfalso
      have a1 := (h2 u).1
      have a2 := (k2 t).1
      have a3 : D * V u < D * V t := Nat.mul_lt_mul_of_pos_left h hD
      have b1 := mid_ge a3 a1
      have b2 := mid_le a3 a2
      exact lin (zs := []) (ns := [_, _, _, _]) [.ltN (.v 0) (.v 1), .leN (.a (.v 2) (.v 3)) (.m 2 (.v 0)), .leN (.m 2 (.v 1)) (.a (.v 2) (.v 3))] [2, 1, 1] rfl hw b1 b2
    · exact h
  · subst hw
    rw [near_uniq hD h2 k2]
    exact Nat.le_refl _
/-- a number that a float has is met -/
theorem Is.exact {x y : UInt64} {W D T : Nat} (h : Is x W D) (hD : 0 < D) (k : Pos y T) (e : W = D * T) : x = y := by
  obtain ⟨t, rfl, h1, h2⟩ := h
  obtain ⟨u, rfl, k1, rfl⟩ := k
  rw [near_exact hD h2 e]
theorem ofInt_pos {i : Nat} (h : i ≤ 2 ^ 53) : Pos (ofInt i) (i * 2 ^ 1074) := by
  obtain ⟨u, hu⟩ := V_grid 1074 i h
  have hr := ofInt_right (i : Int)
  rw [decide_eq_false (by exact (fun hq9 => lin (zs := []) (ns := [_]) [.lt (.c (.v 0)) (.n 0)] [1] rfl hq9)), Int.natAbs_natCast] at hr
  obtain ⟨t, e, h1, h2⟩ := right_near' hr (by decide) (k := 1200) (by rw [Nat.one_mul]; exact Nat.le_trans (Nat.mul_le_mul_right _ h) (by decide)) (by decide)
  refine ⟨t, e, h1, ?_⟩
  have := near_exact (by decide) h2 (t₀ := u) (by rw [hu, Nat.one_mul])
  rw [this, hu]
end Fl
end Mine
end

section
open PySem PySem.Float64
set_option maxRecDepth 100000
set_option exponentiation.threshold 3000
set_option linter.unusedVariables false
namespace Mine
namespace Fl
theorem pos_f1 : Pos f1 (2 ^ 1074) := ⟨1022 * 2 ^ 52 + 2 ^ 52, by decide +kernel, by decide +kernel, by rw [V_at (by decide) (.inl (by decide)), ← Nat.pow_add]⟩
theorem pos_fh : Pos fh (2 ^ 1073) := ⟨1021 * 2 ^ 52 + 2 ^ 52, by decide +kernel, by decide +kernel, by rw [V_at (by decide) (.inl (by decide)), ← Nat.pow_add]⟩
theorem pos_f2 : Pos f2 (2 ^ 1075) := ⟨1023 * 2 ^ 52 + 2 ^ 52, by decide +kernel, by decide +kernel, by rw [V_at (by decide) (.inl (by decide)), ← Nat.pow_add]⟩
theorem pos_f4 : Pos f4 (2 ^ 1076) := ⟨1024 * 2 ^ 52 + 2 ^ 52, by decide +kernel, by decide +kernel, by rw [V_at (by decide) (.inl (by decide)), ← Nat.pow_add]⟩
theorem pos_f6 : Pos f6 (3 * 2 ^ 1075) := ⟨1024 * 2 ^ 52 + 3 * 2 ^ 51, by decide +kernel, by decide +kernel, by rw [V_at (by decide) (.inl (by decide)), Nat.mul_assoc, ← Nat.pow_add]⟩
theorem pos_f3 : Pos 4613937818241073152 (3 * 2 ^ 1074) := ⟨1023 * 2 ^ 52 + 3 * 2 ^ 51, by decide +kernel, by decide +kernel, by rw [V_at (by decide) (.inl (by decide)), Nat.mul_assoc, ← Nat.pow_add]⟩
theorem pos_f075 : Pos 4604930618986332160 (3 * 2 ^ 1072) := ⟨1021 * 2 ^ 52 + 3 * 2 ^ 51, by decide +kernel, by decide +kernel, by rw [V_at (by decide) (.inl (by decide)), Nat.mul_assoc, ← Nat.pow_add]⟩
theorem fmax3_pos {a b c : UInt64} {A B C : Nat} (ha : Pos a A) (hb : Pos b B) (hc : Pos c C) : ∃ X, Pos (fmax3 a b c) X ∧ A ≤ X ∧ B ≤ X ∧ C ≤ X ∧ (X = A ∨ X = B ∨ X = C) := by
  unfold fmax3
  by_cases h1 : A < B
  · rw [if_pos ((cmp_lt_iff ha hb).mpr h1)]
    by_cases h2 : B < C
    · rw [if_pos ((cmp_lt_iff hb hc).mpr h2)]; exact ⟨C, hc, Nat.le_of_lt (Nat.lt_trans h1 h2), Nat.le_of_lt h2, Nat.le_refl C, .inr (.inr rfl)⟩
    · rw [if_neg (fun e => h2 ((cmp_lt_iff hb hc).mp e))]; exact ⟨B, hb, Nat.le_of_lt h1, Nat.le_refl B, Nat.not_lt.mp h2, .inr (.inl rfl)⟩
  · rw [if_neg (fun e => h1 ((cmp_lt_iff ha hb).mp e))]
    by_cases h2 : A < C
    · rw [if_pos ((cmp_lt_iff ha hc).mpr h2)]; exact ⟨C, hc, Nat.le_of_lt h2, Nat.le_trans (Nat.not_lt.mp h1) (Nat.le_of_lt h2), Nat.le_refl C, .inr (.inr rfl)⟩
    · rw [if_neg (fun e => h2 ((cmp_lt_iff ha hc).mp e))]; exact ⟨A, ha, Nat.le_refl A, Nat.not_lt.mp h1, Nat.not_lt.mp h2, .inl rfl⟩
theorem fmin3_pos {a b c : UInt64} {A B C : Nat} (ha : Pos a A) (hb : Pos b B) (hc : Pos c C) : ∃ X, Pos (fmin3 a b c) X ∧ X ≤ A ∧ X ≤ B ∧ X ≤ C ∧ (X = A ∨ X = B ∨ X = C) := by
  unfold fmin3
  by_cases h1 : B < A
  · rw [if_pos ((cmp_lt_iff hb ha).mpr h1)]
    by_cases h2 : C < B
    · rw [if_pos ((cmp_lt_iff hc hb).mpr h2)]; exact ⟨C, hc, Nat.le_of_lt (Nat.lt_trans h2 h1), Nat.le_of_lt h2, Nat.le_refl C, .inr (.inr rfl)⟩
    · rw [if_neg (fun e => h2 ((cmp_lt_iff hc hb).mp e))]; exact ⟨B, hb, Nat.le_of_lt h1, Nat.le_refl B, Nat.not_lt.mp h2, .inr (.inl rfl)⟩
  · rw [if_neg (fun e => h1 ((cmp_lt_iff hb ha).mp e))]
    by_cases h2 : C < A
    · rw [if_pos ((cmp_lt_iff hc ha).mpr h2)]; exact ⟨C, hc, Nat.le_of_lt h2, Nat.le_trans (Nat.le_of_lt h2) (Nat.not_lt.mp h1), Nat.le_refl C, .inr (.inr rfl)⟩
    · rw [if_neg (fun e => h2 ((cmp_lt_iff hc ha).mp e))]; exact ⟨A, ha, Nat.le_refl A, Nat.not_lt.mp h1, Nat.not_lt.mp h2, .inl rfl⟩
theorem H1.fmax3 {a b c a' b' c' : UInt64} (h : H1 a a') (k : H1 b b') (l : H1 c c') : H1 (Mine.fmax3 a b c) (Mine.fmax3 a' b' c') := by
  unfold Mine.fmax3
  rw [h.cmp k, k.cmp l, h.cmp l]
  split <;> split <;> assumption
theorem H1.fmin3 {a b c a' b' c' : UInt64} (h : H1 a a') (k : H1 b b') (l : H1 c c') : H1 (Mine.fmin3 a b c) (Mine.fmin3 a' b' c') := by
  unfold Mine.fmin3
  rw [k.cmp h, l.cmp k, l.cmp h]
  split <;> split <;> assumption
theorem Pos.sign {x : UInt64} {T : Nat} (h : Pos x T) : signBit x = false := by
  obtain ⟨t, rfl, h1, h2⟩ := h
  unfold signBit
  rw [pack_toNat false (by unfold infMag at h1; exact (Nat.not_le.mp fun hq9 => lin (zs := []) (ns := [_]) [.ltN (.v 0) (.m 2047 (.n (2 ^ 52))), .leN (.n (2 ^ 63)) (.v 0)] [1, 1] rfl h1 hq9))]
  unfold infMag at h1
  simp
  lia
theorem Half.h1 {x y : UInt64} {T : Nat} (h : Half x y) (k : Pos x T) (h0 : 0 < T) : H1 x y := by
  rcases h with h | ⟨rfl, rfl⟩
  · exact h
  · have := k.val
    rw [pos_zero.val] at this
    lia
theorem H1.sub {x y u v : UInt64} {X U : Nat} (h : H1 x y) (k : H1 u v) (px : Pos x X) (pu : Pos u U) (r : U = X ∨ U + 2 ^ 174 ≤ X) (hb : X ≤ 2 ^ 1974) : Half (Float64.sub x u) (Float64.sub y v) := by
  unfold Float64.sub
  refine h.add k.neg ?_
  obtain ⟨m, e, h1, _⟩ := pu.fin
  rw [neg_val h1, px.val, pu.val]
  rcases r with r | r
  · left
    exact ⟨by exact (Int.le_antisymm (Int.not_lt.mp fun hq9 => lin (zs := []) (ns := [_, _]) [.eqN (.v 0) (.v 1), .lt (.n 0) (.a (.c (.v 1)) (.g (.c (.v 0))))] [-1, 1] rfl r hq9) (Int.not_lt.mp fun hq9 => lin (zs := []) (ns := [_, _]) [.eqN (.v 0) (.v 1), .lt (.a (.c (.v 1)) (.g (.c (.v 0)))) (.n 0)] [1, 1] rfl r hq9)), px.sign⟩
  · right
    generalize (2 : Nat) ^ 174 = K1 at *
    generalize (2 : Nat) ^ 1974 = K2 at *
    obtain ⟨d, rfl⟩ := Nat.le.dest r
    rw [show ((U + K1 + d : Nat) : Int) + -(U : Int) = ((K1 + d : Nat) : Int) by exact (Int.le_antisymm (Int.not_lt.mp fun hq9 => lin (zs := []) (ns := [_, _, _]) [.lt (.c (.a (.v 0) (.v 1))) (.a (.c (.a (.a (.v 2) (.v 0)) (.v 1))) (.g (.c (.v 2))))] [1] rfl hq9) (Int.not_lt.mp fun hq9 => lin (zs := []) (ns := [_, _, _]) [.lt (.a (.c (.a (.a (.v 0) (.v 1)) (.v 2))) (.g (.c (.v 0)))) (.c (.a (.v 1) (.v 2)))] [1] rfl hq9)), Int.natAbs_natCast]
    exact ⟨Nat.le_add_right _ _, by exact (Nat.not_lt.mp fun hq9 => lin (zs := []) (ns := [_, _, _, _]) [.leN (.a (.a (.v 0) (.v 1)) (.v 2)) (.v 3), .ltN (.v 3) (.a (.v 1) (.v 2))] [1, 1] rfl hb hq9)⟩
theorem H1.sum {x y u v : UInt64} {X U : Nat} (h : H1 x y) (k : H1 u v) (px : Pos x X) (pu : Pos u U) (r : 2 ^ 174 ≤ X + U) (hb : X + U ≤ 2 ^ 1974) : Half (Float64.add x u) (Float64.add y v) := by
  refine h.add k ?_
  rw [px.val, pu.val]
  right
  show _ ≤ X + U ∧ X + U ≤ _
  exact ⟨r, hb⟩
theorem shift_bounds {m k : Nat} {e f : Int} (he : -1074 ≤ e) (hf : -1074 ≤ f) (hk : 0 < k) : (shift m k (e - f)).1 * (k * 2 ^ (f + 1074).toNat) = m * 2 ^ (e + 1074).toNat * (shift m k (e - f)).2 := by
  unfold shift
  split
  · next h =>
    have e1 : (e + 1074).toNat = (e - f).toNat + (f + 1074).toNat := (to_nat h (by exact (Int.not_lt.mp fun hq9 => lin (zs := [_]) (ns := []) [.le (.n (-1074)) (.v 0), .lt (.a (.v 0) (.n 1074)) (.n 0)] [1, 1] rfl hf hq9)) (by exact (Int.le_antisymm (Int.not_lt.mp fun hq9 => lin (zs := [_, _]) (ns := []) [.lt (.a (.v 0) (.n 1074)) (.a (.s (.v 0) (.v 1)) (.a (.v 1) (.n 1074)))] [1] rfl hq9) (Int.not_lt.mp fun hq9 => lin (zs := [_, _]) (ns := []) [.lt (.a (.s (.v 0) (.v 1)) (.a (.v 1) (.n 1074))) (.a (.v 0) (.n 1074))] [1] rfl hq9)))).symm
    simp only [e1, Nat.pow_add]
    ac_rfl
  · next h =>
    have e1 : (f + 1074).toNat = (e + 1074).toNat + (-(e - f)).toNat := (to_nat (by exact (Int.not_lt.mp fun hq9 => lin (zs := [_]) (ns := []) [.le (.n (-1074)) (.v 0), .lt (.a (.v 0) (.n 1074)) (.n 0)] [1, 1] rfl he hq9)) (by exact (Int.not_lt.mp fun hq9 => lin (zs := [_, _]) (ns := []) [.lt (.s (.v 0) (.v 1)) (.n 0), .lt (.g (.s (.v 0) (.v 1))) (.n 0)] [1, 1] rfl (Int.not_le.mp h) hq9)) (by exact (Int.le_antisymm (Int.not_lt.mp fun hq9 => lin (zs := [_, _]) (ns := []) [.lt (.a (.v 0) (.n 1074)) (.a (.a (.v 1) (.n 1074)) (.g (.s (.v 1) (.v 0))))] [1] rfl hq9) (Int.not_lt.mp fun hq9 => lin (zs := [_, _]) (ns := []) [.lt (.a (.a (.v 0) (.n 1074)) (.g (.s (.v 0) (.v 1)))) (.a (.v 1) (.n 1074))] [1] rfl hq9)))).symm
    simp only [e1, Nat.pow_add]
    ac_rfl
theorem ratio_bounds {n d X C K : Nat} (hC : 0 < C) (hr : n * C = X * d) (lo : C ≤ X * K) (hi : X ≤ C * K) : d ≤ n * K ∧ n ≤ d * K := by
  refine ⟨Nat.le_of_mul_le_mul_right (c := C) ?_ hC, Nat.le_of_mul_le_mul_right (c := C) ?_ hC⟩
  · rw [Nat.mul_right_comm, hr]
    have := Nat.mul_le_mul_left d lo
    rw [show X * d * K = d * (X * K) by ac_rfl]
    exact this
  · rw [hr]
    have := Nat.mul_le_mul_right d hi
    rw [show d * K * C = C * K * d by ac_rfl]
    exact this
/-- a half divided by what does not change -/
theorem H1.over {x y c : UInt64} {X C : Nat} (h : H1 x y) (px : Pos x X) (pc : Pos c C) (hc : 0 < C) (lo : C ≤ X * 2 ^ 900) (hi : X ≤ C * 2 ^ 900) : H1 (Float64.div x c) (Float64.div y c) := by
  obtain ⟨s, m, e, h0, hx, hy⟩ := h
  obtain ⟨k, f, hk, hkv⟩ := pc.fin
  obtain ⟨m', e', hx', hv⟩ := px.fin
  rw [hx] at hx'
  cases hx'
  have hk0 : k ≠ 0 := by rintro rfl; rw [Nat.zero_mul] at hkv; exact lin (zs := []) (ns := [_]) [.ltN (.n 0) (.v 0), .eqN (.n 0) (.v 0)] [1, -1] rfl hc hkv
  have he := decode_ge hx
  have hf := decode_ge hk
  unfold Float64.div
  rw [hx, hy, hk]
  simp only
  rw [if_neg (by simpa using hk0), if_neg (by simpa using hk0)]
  have e1 : e - 1 - f = e - f - 1 := by exact (Int.le_antisymm (Int.not_lt.mp fun hq9 => lin (zs := [_, _]) (ns := []) [.lt (.s (.s (.v 0) (.v 1)) (.n 1)) (.s (.s (.v 0) (.n 1)) (.v 1))] [1] rfl hq9) (Int.not_lt.mp fun hq9 => lin (zs := [_, _]) (ns := []) [.lt (.s (.s (.v 0) (.n 1)) (.v 1)) (.s (.s (.v 0) (.v 1)) (.n 1))] [1] rfl hq9))
  rw [e1]
  have hr := shift_bounds (m := m) he hf (Nat.pos_of_ne_zero hk0)
  rw [hkv, hv] at hr
  have hd := shift_pos m k (e - f) (Nat.pos_of_ne_zero hk0)
  obtain ⟨b1, b2⟩ := ratio_bounds hc hr lo hi
  obtain ⟨m2, f2, a1, a2, a3⟩ := half_frac (false != false) hd (shift_pos m k (e - f - 1) (Nat.pos_of_ne_zero hk0)) (shift_half m k (e - f)) b1 b2
  exact ⟨_, m2, f2, a1, a2, a3⟩
end Fl
end Mine
end

section
open PySem PySem.Float64
set_option maxRecDepth 100000
set_option exponentiation.threshold 3000
set_option linter.unusedVariables false
namespace Mine
namespace Fl
/-- three shares of a greatest number, not all alike -/
structure Col (r g b : UInt64) (R G B T : Nat) : Prop where
  pr : Pos r R
  pg : Pos g G
  pb : Pos b B
  er : R = 2 ^ 1074 ∨ R + 2 ^ 1028 ≤ 2 ^ 1074
  eg : G = 2 ^ 1074 ∨ G + 2 ^ 1028 ≤ 2 ^ 1074
  eb : B = 2 ^ 1074 ∨ B + 2 ^ 1028 ≤ 2 ^ 1074
  top : R = 2 ^ 1074 ∨ G = 2 ^ 1074 ∨ B = 2 ^ 1074
  tr : T ≤ R
  tg : T ≤ G
  tb : T ≤ B
  te : T = R ∨ T = G ∨ T = B
  t0 : 2 ^ 1028 ≤ T
  t1 : T + 2 ^ 1028 ≤ 2 ^ 1074
section
variable {r g b : UInt64} {R G B T : Nat}
theorem Col.max (C : Col r g b R G B T) : fmax3 r g b = f1 := by
  obtain ⟨X, h, h1, h2, h3, h4⟩ := fmax3_pos C.pr C.pg C.pb
  have up : ∀ {Y : Nat}, (Y = 2 ^ 1074 ∨ Y + 2 ^ 1028 ≤ 2 ^ 1074) → Y ≤ 2 ^ 1074 := fun h => h.elim Nat.le_of_eq fun h => Nat.le_trans (Nat.le_add_right _ _) h
  have e : X = 2 ^ 1074 := by
    refine Nat.le_antisymm ?_ ?_
    · rcases h4 with e | e | e
      · rw [e]; exact up C.er
      · rw [e]; exact up C.eg
      · rw [e]; exact up C.eb
    · rcases C.top with e | e | e
      · rw [← e]; exact h1
      · rw [← e]; exact h2
      · rw [← e]; exact h3
  subst e
  exact h.uniq pos_f1
theorem Col.min (C : Col r g b R G B T) : Pos (fmin3 r g b) T := by
  obtain ⟨X, h, h1, h2, h3, h4⟩ := fmin3_pos C.pr C.pg C.pb
  have e : X = T := by
    refine Nat.le_antisymm ?_ ?_
    · rcases C.te with e | e | e
      · rw [e]; exact h1
      · rw [e]; exact h2
      · rw [e]; exact h3
    · rcases h4 with e | e | e
      · rw [e]; exact C.tr
      · rw [e]; exact C.tg
      · rw [e]; exact C.tb
  subst e
  exact h
theorem Col.flat (C : Col r g b R G B T) : flatF r g b = false := by
  unfold flatF
  rw [C.max]
  have h := cmp_eq_iff C.min pos_f1
  have := C.t1
  have k : ¬ T = 2 ^ 1074 := by exact (fun hq9 => lin (zs := []) (ns := [_]) [.leN (.a (.v 0) (.n (2 ^ 1028))) (.n (2 ^ 1074)), .eqN (.v 0) (.n (2 ^ 1074))] [1, -1] rfl this hq9)
  exact Bool.eq_false_iff.mpr fun e => k (h.mp e)
theorem Col.range_is (C : Col r g b R G B T) : Is (rangeF r g b) (2 ^ 1074 - T) 1 := by
  unfold rangeF
  rw [C.max]
  have := C.t1
  exact sub_is pos_f1 C.min (by exact (Nat.not_lt.mp fun hq9 => lin (zs := []) (ns := [_]) [.leN (.a (.v 0) (.n (2 ^ 1028))) (.n (2 ^ 1074)), .ltN (.n (2 ^ 1074)) (.v 0)] [1, 1] rfl this hq9)) (by decide)
theorem Col.range (C : Col r g b R G B T) : ∃ ρ, Pos (rangeF r g b) ρ ∧ 2 ^ 1028 ≤ ρ ∧ ρ ≤ 2 ^ 1074 ∧ 2 * Float64.dist (2 ^ 1074 - T) ρ ≤ 2 ^ 1021 := by
  have := C.t1
  obtain ⟨ρ, p, lo, hi, er⟩ := C.range_is.pos (by decide)
  have a := lo 1 1028 (by decide) (by exact (Nat.not_lt.mp fun hq9 => lin (zs := []) (ns := [_, _]) [.leN (.a (.v 0) (.n (2 ^ 1028))) (.n (2 ^ 1074)), .eqN (.a (.v 1) (.v 0)) (.n (2 ^ 1074)), .ltN (.v 1) (.n (1 * (1 * 2 ^ 1028)))] [1, -1, 1] rfl this (Nat.sub_add_cancel (Nat.not_lt.mp fun hq9 => lin (zs := []) (ns := [_]) [.leN (.a (.v 0) (.n (2 ^ 1028))) (.n (2 ^ 1074)), .ltN (.n (2 ^ 1074)) (.v 0)] [1, 1] rfl this hq9)) hq9))
  have c := hi 1 1074 (by decide) (by exact (Nat.not_lt.mp fun hq9 => lin (zs := []) (ns := [_, _]) [.eqN (.a (.v 0) (.v 1)) (.n (2 ^ 1074)), .ltN (.n (1 * (1 * 2 ^ 1074))) (.v 0)] [1, 1] rfl (Nat.sub_add_cancel (Nat.not_lt.mp fun hq9 => lin (zs := []) (ns := [_]) [.leN (.a (.v 0) (.n (2 ^ 1028))) (.n (2 ^ 1074)), .ltN (.n (2 ^ 1074)) (.v 0)] [1, 1] rfl this hq9)) hq9))
  have d := er 1021 (by exact (Nat.not_lt.mp fun hq9 => lin (zs := []) (ns := [_, _]) [.eqN (.a (.v 0) (.v 1)) (.n (2 ^ 1074)), .ltN (.n (1 * 2 ^ (1021 + 53))) (.v 0)] [1, 1] rfl (Nat.sub_add_cancel (Nat.not_lt.mp fun hq9 => lin (zs := []) (ns := [_]) [.leN (.a (.v 0) (.n (2 ^ 1028))) (.n (2 ^ 1074)), .ltN (.n (2 ^ 1074)) (.v 0)] [1, 1] rfl this hq9)) hq9))
  rw [Nat.one_mul] at a c d
  rw [Nat.one_mul] at d
  exact ⟨ρ, p, a, c, d⟩
theorem Col.sum (C : Col r g b R G B T) : ∃ σ, Pos (add (fmax3 r g b) (fmin3 r g b)) σ ∧ 2 ^ 1074 + 2 ^ 1028 ≤ σ ∧ σ ≤ 2 ^ 1075 ∧ 2 * Float64.dist (2 ^ 1074 + T) σ ≤ 2 ^ 1022 ∧ (2 * T ≤ 2 ^ 1074 → σ ≤ 3 * 2 ^ 1073) ∧ (17 * 2 ^ 1069 ≤ T → 49 * 2 ^ 1069 ≤ σ) := by
  have h1 := C.t1
  have h0 := C.t0
  rw [C.max]
  obtain ⟨σ, p, lo, hi, er⟩ := (add_is pos_f1 C.min (by exact (Nat.not_lt.mp fun hq9 => lin (zs := []) (ns := [_]) [.leN (.a (.v 0) (.n (2 ^ 1028))) (.n (2 ^ 1074)), .ltN (.n (2 ^ 1200)) (.a (.n (2 ^ 1074)) (.v 0))] [1, 1] rfl h1 hq9))).pos (by decide)
  have a := lo (2 ^ 46 + 1) 1028 (by decide) (by exact (Nat.not_lt.mp fun hq9 => lin (zs := []) (ns := [_]) [.leN (.n (2 ^ 1028)) (.v 0), .ltN (.a (.n (2 ^ 1074)) (.v 0)) (.n (1 * ((2 ^ 46 + 1) * 2 ^ 1028)))] [1, 1] rfl h0 hq9))
  have c := hi 1 1075 (by decide) (by exact (Nat.not_lt.mp fun hq9 => lin (zs := []) (ns := [_]) [.leN (.a (.v 0) (.n (2 ^ 1028))) (.n (2 ^ 1074)), .ltN (.n (1 * (1 * 2 ^ 1075))) (.a (.n (2 ^ 1074)) (.v 0))] [1, 1] rfl h1 hq9))
  have d := er 1022 (by exact (Nat.not_lt.mp fun hq9 => lin (zs := []) (ns := [_]) [.leN (.a (.v 0) (.n (2 ^ 1028))) (.n (2 ^ 1074)), .ltN (.n (1 * 2 ^ (1022 + 53))) (.a (.n (2 ^ 1074)) (.v 0))] [1, 1] rfl h1 hq9))
  rw [Nat.one_mul] at c d
  rw [Nat.one_mul] at d
  refine ⟨σ, p, ?_, c, d, fun h => ?_, fun h => ?_⟩
  · clear lo hi er p d c; exact (Nat.not_lt.mp fun hq9 => lin (zs := []) (ns := [_]) [.leN (.n ((2 ^ 46 + 1) * 2 ^ 1028)) (.v 0), .ltN (.v 0) (.n (2 ^ 1074 + 2 ^ 1028))] [1, 1] rfl a hq9)
  · exact hi 3 1073 (by decide) (by exact (Nat.not_lt.mp fun hq9 => lin (zs := []) (ns := [_]) [.leN (.m 2 (.v 0)) (.n (2 ^ 1074)), .ltN (.n (1 * (3 * 2 ^ 1073))) (.a (.n (2 ^ 1074)) (.v 0))] [1, 2] rfl h hq9))
  · exact lo 49 1069 (by decide) (by exact (Nat.not_lt.mp fun hq9 => lin (zs := []) (ns := [_]) [.leN (.n (17 * 2 ^ 1069)) (.v 0), .ltN (.a (.n (2 ^ 1074)) (.v 0)) (.n (1 * (49 * 2 ^ 1069)))] [1, 1] rfl h hq9))
theorem Col.light (C : Col r g b R G B T) : ∃ l, Pos (lightF r g b) l ∧ 2 ^ 1073 + 2 ^ 1027 ≤ l ∧ l ≤ 2 ^ 1074 ∧ (2 * T ≤ 2 ^ 1074 → l ≤ 3 * 2 ^ 1072) ∧ (17 * 2 ^ 1069 ≤ T → 3 * 2 ^ 1072 < l) := by
  obtain ⟨σ, p, h1, h2, h3, h4, h5⟩ := C.sum
  unfold lightF
  obtain ⟨l, q, lo, hi, er⟩ := (div_is p pos_f2 (by decide) (by exact (Nat.not_lt.mp fun hq9 => lin (zs := []) (ns := [_]) [.leN (.v 0) (.n (2 ^ 1075)), .ltN (.n (2 ^ 1075 * 2 ^ 100)) (.v 0)] [1, 1] rfl h2 hq9))).pos (by decide)
  have a := lo (2 ^ 46 + 1) 1027 (by decide) (by exact (Nat.not_lt.mp fun hq9 => lin (zs := []) (ns := [_]) [.leN (.n (2 ^ 1074 + 2 ^ 1028)) (.v 0), .ltN (.r (.v 0) (2 ^ 1074)) (.n (2 ^ 1075 * ((2 ^ 46 + 1) * 2 ^ 1027)))] [202402253307310618352495346718917307049556649764142118356901358027430339567995346891960383701437124495187077864316811911389808737385793476867013399940738509921517424276566361364466907742093216341239767678472745068562007483424692698618103355649159556340810056512358769552333414615230502532186327508646006263307707741093494784, 1] rfl h1 hq9))
  have c := hi 1 1074 (by decide) (Nat.le_trans (Nat.mul_le_mul_right _ h2) (by decide +kernel))
  rw [Nat.one_mul] at c
  refine ⟨l, q, ?_, c, fun h => ?_, fun h => ?_⟩
  · clear lo hi er p q c h3 h4 h5; exact (Nat.not_lt.mp fun hq9 => lin (zs := []) (ns := [_]) [.leN (.n ((2 ^ 46 + 1) * 2 ^ 1027)) (.v 0), .ltN (.v 0) (.n (2 ^ 1073 + 2 ^ 1027))] [1, 1] rfl a hq9)
  · have := h4 h
    exact hi 3 1072 (by decide) (Nat.le_trans (Nat.mul_le_mul_right _ this) (by decide +kernel))
  · have := h5 h
    have k := lo 49 1068 (by decide) (by exact (Nat.not_lt.mp fun hq9 => lin (zs := []) (ns := [_]) [.leN (.n (49 * 2 ^ 1069)) (.v 0), .ltN (.r (.v 0) (2 ^ 1074)) (.n (2 ^ 1075 * (49 * 2 ^ 1068)))] [202402253307310618352495346718917307049556649764142118356901358027430339567995346891960383701437124495187077864316811911389808737385793476867013399940738509921517424276566361364466907742093216341239767678472745068562007483424692698618103355649159556340810056512358769552333414615230502532186327508646006263307707741093494784, 1] rfl this hq9))
    clear lo hi er p q
    exact (Nat.not_le.mp fun hq9 => lin (zs := []) (ns := [_]) [.leN (.n (49 * 2 ^ 1068)) (.v 0), .leN (.v 0) (.n (3 * 2 ^ 1072))] [1, 1] rfl k hq9)
theorem Col.dim (C : Col r g b R G B T) : dimF r g b = false := by
  obtain ⟨l, q, h1, _⟩ := C.light
  unfold dimF
  rw [Bool.or_eq_false_iff]
  refine ⟨Bool.eq_false_iff.mpr fun e => ?_, Bool.eq_false_iff.mpr fun e => ?_⟩
  · have := (cmp_lt_iff q pos_fh).mp e
    exact lin (zs := []) (ns := [_]) [.leN (.n (2 ^ 1073 + 2 ^ 1027)) (.v 0), .ltN (.v 0) (.n (2 ^ 1073))] [1, 1] rfl h1 this
  · have := (cmp_eq_iff q pos_fh).mp e
    exact lin (zs := []) (ns := [_]) [.leN (.n (2 ^ 1073 + 2 ^ 1027)) (.v 0), .eqN (.v 0) (.n (2 ^ 1073))] [1, 1] rfl h1 this
theorem rest_one : Float64.sub f2 f1 = f1 := by
  have := sub_is pos_f2 pos_f1 (by decide) (by decide)
  exact this.exact (by decide) pos_f1 (by decide)
theorem Col.rest (C : Col r g b R G B T) : Float64.sub (Float64.sub f2 (fmax3 r g b)) (fmin3 r g b) = rangeF r g b := by
  unfold rangeF
  rw [C.max, rest_one]
theorem self_div {x : UInt64} {X : Nat} (h : Pos x X) (h0 : 0 < X) : Float64.div x x = f1 :=
  (div_is h h h0 (Nat.le_mul_of_pos_right _ (Nat.two_pow_pos _))).exact h0 pos_f1 rfl
theorem Col.sat (C : Col r g b R G B T) : satF r g b = f1 := by
  obtain ⟨ρ, p, h1, _⟩ := C.range
  rw [sat_lit C.flat C.dim, C.rest]
  exact self_div p (Nat.lt_of_lt_of_le (Nat.two_pow_pos _) h1)
theorem Col.ok (C : Col r g b R G B T) : HlsOk r g b := by
  obtain ⟨ρ, p, h1, _⟩ := C.range
  have k := p.nonzero (Nat.lt_of_lt_of_le (Nat.two_pow_pos _) h1)
  refine ⟨fun _ => by rw [k]; decide, fun _ d => ?_, fun _ _ => ?_⟩
  · rw [C.dim] at d; cases d
  · rw [C.rest, k]; decide
/-- a share: how far a colour lies off the greatest, by the range -/
theorem Col.share (C : Col r g b R G B T) {x : UInt64} {X : Nat} (px : Pos x X) (hx : X ≤ 2 ^ 1074) (ht : T ≤ X) {ρ : Nat} (pρ : Pos (rangeF r g b) ρ) (h0 : 2 ^ 1028 ≤ ρ) :
    ∃ N S, Pos (shareF r g b x) S ∧ S ≤ 2 ^ 1074 ∧ 2 * Float64.dist (2 ^ 1074 - X) N ≤ 2 ^ 1021 ∧ 2 * Float64.dist (N * 2 ^ 1074) (ρ * S) ≤ ρ * 2 ^ 1021 := by
  unfold shareF
  rw [C.max]
  have hi := sub_is pos_f1 px hx (by decide)
  obtain ⟨N, pN, _, _, er⟩ := hi.pos (by decide)
  have hN := hi.mono C.range_is (by decide) (by exact (Nat.not_lt.mp fun hq9 => lin (zs := []) (ns := [_, _, _, _]) [.leN (.v 0) (.v 1), .eqN (.a (.v 2) (.v 0)) (.n (2 ^ 1074)), .eqN (.a (.v 3) (.v 1)) (.n (2 ^ 1074)), .ltN (.v 2) (.v 3)] [1, -1, 1, 1] rfl ht (Nat.sub_add_cancel (Nat.not_lt.mp fun hq9 => lin (zs := []) (ns := [_, _]) [.leN (.v 0) (.n (2 ^ 1074)), .leN (.v 1) (.v 0), .ltN (.n (2 ^ 1074)) (.v 1)] [1, 1, 1] rfl hx ht hq9)) (Nat.sub_add_cancel (Nat.not_lt.mp fun hq9 => lin (zs := []) (ns := [_]) [.leN (.v 0) (.n (2 ^ 1074)), .ltN (.n (2 ^ 1074)) (.v 0)] [1, 1] rfl hx hq9)) hq9)) pN pρ
  have hρ : 0 < ρ := Nat.lt_of_lt_of_le (Nat.two_pow_pos _) h0
  obtain ⟨S, pS, _, hi2, er2⟩ := (div_is pN pρ hρ (Nat.le_trans hN (Nat.le_mul_of_pos_right _ (Nat.two_pow_pos _)))).pos hρ
  have e1 := er 1021 (by exact (Nat.not_lt.mp fun hq9 => lin (zs := []) (ns := [_, _]) [.eqN (.a (.v 0) (.v 1)) (.n (2 ^ 1074)), .ltN (.n (1 * 2 ^ (1021 + 53))) (.v 0)] [1, 1] rfl (Nat.sub_add_cancel (Nat.not_lt.mp fun hq9 => lin (zs := []) (ns := [_]) [.leN (.v 0) (.n (2 ^ 1074)), .ltN (.n (2 ^ 1074)) (.v 0)] [1, 1] rfl hx hq9)) hq9))
  rw [Nat.one_mul, Nat.one_mul] at e1
  have hle : N * 2 ^ 1074 ≤ ρ * 2 ^ 1074 := Nat.mul_le_mul_right _ hN
  refine ⟨N, S, pS, ?_, e1, er2 1021 hle⟩
  have := hi2 1 1074 (by decide) (by rw [Nat.one_mul]; exact hle)
  rwa [Nat.one_mul] at this
end
end Fl
end Mine
end

section
open PySem PySem.Float64
set_option maxRecDepth 100000
set_option exponentiation.threshold 3000
set_option linter.unusedVariables false
namespace Mine
namespace Fl
theorem share_of {v M : Nat} (h0 : 0 < v) (hv : v ≤ M) (hM : M ≤ 2 ^ 46) : ∃ X, Pos (ofFrac false v M) X ∧ 2 ^ 1028 ≤ X ∧ X ≤ 2 ^ 1074 ∧ (X = 2 ^ 1074 ∨ X + 2 ^ 1028 ≤ 2 ^ 1074) ∧ (v = M → X = 2 ^ 1074) ∧ (v < M → X + 2 ^ 1028 ≤ 2 ^ 1074) ∧ 2 * Float64.dist (v * 2 ^ 1074) (M * X) ≤ M * 2 ^ 1021 ∧ (2 * v ≤ M → 2 * X ≤ 2 ^ 1074) ∧ (17 * M ≤ 32 * v → 17 * 2 ^ 1069 ≤ X) := by
  have hMp : 0 < M := by exact (Nat.not_le.mp fun hq9 => lin (zs := []) (ns := [_, _]) [.ltN (.n 0) (.v 0), .leN (.v 0) (.v 1), .leN (.v 1) (.n 0)] [1, 1, 1] rfl h0 hv hq9)
  obtain ⟨X, p, lo, hi, er⟩ := (frac_is (n := v) hMp (Nat.le_trans hv (Nat.le_mul_of_pos_right _ (Nat.two_pow_pos _)))).pos hMp
  have a1 := lo 1 1028 (by decide) (by
    have e : (1 : Nat) * 2 ^ 1028 = 2 ^ 1028 := Nat.one_mul _
    rw [e, show (1074 : Nat) = 46 + 1028 from rfl, Nat.pow_add, ← Nat.mul_assoc]
    refine Nat.mul_le_mul_right _ ?_
    exact (Nat.not_lt.mp fun hq9 => lin (zs := []) (ns := [_, _]) [.ltN (.n 0) (.v 0), .leN (.v 1) (.n (2 ^ 46)), .ltN (.r (.v 0) (2 ^ 46)) (.v 1)] [70368744177664, 1, 1] rfl h0 hM hq9))
  have a2 := hi 1 1074 (by decide) (by rw [Nat.one_mul]; exact Nat.mul_le_mul_right _ hv)
  rw [Nat.one_mul] at a1 a2
  have a3 := er 1021 (Nat.mul_le_mul_right _ hv)
  have a4 : v = M → X = 2 ^ 1074 := by
    rintro rfl
    have := lo 1 1074 (by decide) (by rw [Nat.one_mul]; exact Nat.le_refl _)
    rw [Nat.one_mul] at this
    exact Nat.le_antisymm a2 this
  have a5 : v < M → X + 2 ^ 1028 ≤ 2 ^ 1074 := by
    intro hlt
    have := hi (2 ^ 46 - 1) 1028 (by decide) (by
      rw [show (1074 : Nat) = 46 + 1028 from rfl, Nat.pow_add, ← Nat.mul_assoc, ← Nat.mul_assoc]
      refine Nat.mul_le_mul_right _ ?_
      lia)
    clear lo hi er a3 p
    exact (Nat.not_lt.mp fun hq9 => lin (zs := []) (ns := [_, _]) [.leN (.v 0) (.r (.v 1) (2 ^ 1028)), .eqN (.a (.v 1) (.n 1)) (.n (2 ^ 46)), .ltN (.n (2 ^ 1074)) (.a (.v 0) (.n (2 ^ 1028)))] [1, 2876309015779705452366888305262439573788763166307690516374881298523722812888015410123335637158520576337921822077942293722540636301030665959885558890231585990044286294797847764420835513619937505911249327233360092301410410917479406103582609768653235794613608170953380771839155935015675460877365701273987586195456, 1] rfl this (Nat.sub_add_cancel (Nat.not_lt.mp fun hq9 => lin (zs := []) (ns := []) [.ltN (.n (2 ^ 46)) (.n 1)] [1] rfl hq9)) hq9)
  refine ⟨X, p, a1, a2, ?_, a4, a5, a3, fun h => ?_, fun h => ?_⟩
  · rcases Nat.lt_or_eq_of_le hv with h | h
    · exact .inr (a5 h)
    · exact .inl (a4 h)
  · have := hi 1 1073 (by decide) (by
      rw [Nat.one_mul, show (1074 : Nat) = 1 + 1073 from rfl, Nat.pow_add, ← Nat.mul_assoc]
      refine Nat.mul_le_mul_right _ ?_
      exact (Nat.not_lt.mp fun hq9 => lin (zs := []) (ns := [_, _]) [.leN (.m 2 (.v 0)) (.v 1), .ltN (.v 1) (.r (.v 0) (2 ^ 1))] [1, 1] rfl h hq9))
    clear lo hi er a3 p
    exact (Nat.not_lt.mp fun hq9 => lin (zs := []) (ns := [_]) [.leN (.v 0) (.n (1 * 2 ^ 1073)), .ltN (.n (2 ^ 1074)) (.m 2 (.v 0))] [2, 1] rfl this hq9)
  · refine lo 17 1069 (by decide) ?_
    rw [show (1074 : Nat) = 5 + 1069 from rfl, Nat.pow_add, ← Nat.mul_assoc, ← Nat.mul_assoc]
    refine Nat.mul_le_mul_right _ ?_
    exact (Nat.not_lt.mp fun hq9 => lin (zs := []) (ns := [_, _]) [.leN (.m 17 (.v 0)) (.m 32 (.v 1)), .ltN (.r (.v 1) (2 ^ 5)) (.r (.v 0) 17)] [1, 1] rfl h hq9)
theorem col_of {x y z M m : Nat} (hM : M = x ∨ M = y ∨ M = z) (hx : x ≤ M) (hy : y ≤ M) (hz : z ≤ M) (hm : m = x ∨ m = y ∨ m = z) (kx : m ≤ x) (ky : m ≤ y) (kz : m ≤ z) (h0 : 0 < m) (hlt : m < M) (h46 : M ≤ 2 ^ 46) :
    ∃ R G B T, Col (ofFrac false x M) (ofFrac false y M) (ofFrac false z M) R G B T ∧ 2 * Float64.dist (x * 2 ^ 1074) (M * R) ≤ M * 2 ^ 1021 ∧ 2 * Float64.dist (y * 2 ^ 1074) (M * G) ≤ M * 2 ^ 1021 ∧ 2 * Float64.dist (z * 2 ^ 1074) (M * B) ≤ M * 2 ^ 1021 ∧ 2 * Float64.dist (m * 2 ^ 1074) (M * T) ≤ M * 2 ^ 1021 ∧
      (R = 2 ^ 1074 ↔ x = M) ∧ (G = 2 ^ 1074 ↔ y = M) ∧ (B = 2 ^ 1074 ↔ z = M) ∧ (2 * m ≤ M → 2 * T ≤ 2 ^ 1074) ∧ (17 * M ≤ 32 * m → 17 * 2 ^ 1069 ≤ T) := by
  obtain ⟨R, pR, r1, r2, r3, r4, r5, r6, r7, r8⟩ := share_of (Nat.lt_of_lt_of_le h0 kx) hx h46
  obtain ⟨G, pG, g1, g2, g3, g4, g5, g6, g7, g8⟩ := share_of (Nat.lt_of_lt_of_le h0 ky) hy h46
  obtain ⟨B, pB, b1, b2, b3, b4, b5, b6, b7, b8⟩ := share_of (Nat.lt_of_lt_of_le h0 kz) hz h46
  obtain ⟨T, pT, t1, t2, t3, t4, t5, t6, t7, t8⟩ := share_of h0 (Nat.le_of_lt hlt) h46
  have hMp : 0 < M := by exact (Nat.not_le.mp fun hq9 => lin (zs := []) (ns := [_, _]) [.ltN (.n 0) (.v 0), .ltN (.v 0) (.v 1), .leN (.v 1) (.n 0)] [1, 1, 1] rfl h0 hlt hq9)
  have hb : ∀ v, v ≤ M → v ≤ M * 2 ^ 100 := fun v h => Nat.le_trans h (Nat.le_mul_of_pos_right _ (Nat.two_pow_pos _))
  have iT := frac_is (n := m) hMp (hb m (Nat.le_of_lt hlt))
  have mT : ∀ {v X}, v ≤ M → m ≤ v → Pos (ofFrac false v M) X → T ≤ X := fun {v X} hv hk pX =>
    iT.mono (frac_is (n := v) hMp (hb v hv)) hMp (Nat.mul_le_mul_right _ hk) pT pX
  have iff : ∀ {v X : Nat}, v ≤ M → (v = M → X = 2 ^ 1074) → (v < M → X + 2 ^ 1028 ≤ 2 ^ 1074) → (X = 2 ^ 1074 ↔ v = M) := fun {v X} hv h1 h2 => by
    refine ⟨fun e => ?_, h1⟩
    rcases Nat.lt_or_eq_of_le hv with h | h
    · have := h2 h
      rw [e] at this
      have k : 0 < 2 ^ 1028 := Nat.two_pow_pos _
      exact (Nat.le_antisymm (Nat.not_lt.mp fun hq9 => lin (zs := []) (ns := []) [.leN (.n (2 ^ 1074 + 2 ^ 1028)) (.n (2 ^ 1074))] [1] rfl this) (Nat.not_lt.mp fun hq9 => lin (zs := []) (ns := []) [.leN (.n (2 ^ 1074 + 2 ^ 1028)) (.n (2 ^ 1074))] [1] rfl this))
    · exact h
  refine ⟨R, G, B, T, ⟨pR, pG, pB, r3, g3, b3, ?_, mT hx kx pR, mT hy ky pG, mT hz kz pB, ?_, t1, t5 hlt⟩, r6, g6, b6, t6, iff hx r4 r5, iff hy g4 g5, iff hz b4 b5, t7, t8⟩
  · rcases hM with h | h | h
    · exact .inl (r4 h.symm)
    · exact .inr (.inl (g4 h.symm))
    · exact .inr (.inr (b4 h.symm))
  · have same : ∀ {v X}, m = v → Pos (ofFrac false v M) X → T = X := fun {v X} e pX => by
      subst e
      have := pT.val
      rw [pX.val] at this
      exact (Nat.le_antisymm (Nat.not_lt.mp fun hq9 => lin (zs := []) (ns := [_, _]) [.eq (.c (.v 0)) (.c (.v 1)), .ltN (.v 0) (.v 1)] [-1, 1] rfl this hq9) (Nat.not_lt.mp fun hq9 => lin (zs := []) (ns := [_, _]) [.eq (.c (.v 0)) (.c (.v 1)), .ltN (.v 1) (.v 0)] [1, 1] rfl this hq9))
    rcases hm with h | h | h
    · exact .inl (same h pR)
    · exact .inr (.inl (same h pG))
    · exact .inr (.inr (same h pB))
theorem h1_of {v M : Nat} (h0 : 0 < v) (hv : v ≤ M) (hM : M ≤ 2 ^ 46) : H1 (ofFrac false v M) (ofFrac false v (2 * M)) := by
  have hMp : 0 < M := by exact (Nat.not_le.mp fun hq9 => lin (zs := []) (ns := [_, _]) [.ltN (.n 0) (.v 0), .leN (.v 0) (.v 1), .leN (.v 1) (.n 0)] [1, 1, 1] rfl h0 hv hq9)
  obtain ⟨m, e, a1, a2, a3⟩ := half_frac (n := v) (d := M) (n' := v) (d' := 2 * M) false hMp (by exact (Nat.not_le.mp fun hq9 => lin (zs := []) (ns := [_]) [.ltN (.n 0) (.v 0), .leN (.m 2 (.v 0)) (.n 0)] [2, 1] rfl hMp hq9)) (by rw [Nat.mul_left_comm])
    (Nat.le_trans hM (Nat.le_trans (by decide) (Nat.le_mul_of_pos_left _ h0))) (Nat.le_trans hv (Nat.le_mul_of_pos_right _ (Nat.two_pow_pos _)))
  exact ⟨_, m, e, a1, a2, a3⟩
theorem H1.val {x y : UInt64} (h : H1 x y) : Float64.val x = 2 * Float64.val y := by
  obtain ⟨s, m, e, h0, hx, hy⟩ := h
  have he := decode_ge hy
  rw [val_eq hx, val_eq hy, show (e + 1074).toNat = (e - 1 + 1074).toNat + 1 by lia, Nat.pow_succ, ← Nat.mul_assoc, sgn_mul _ _ 2]
  show _ * (2 : Int) = _
  exact (Int.le_antisymm (Int.not_lt.mp fun hq9 => lin (zs := [_]) (ns := []) [.lt (.m 2 (.v 0)) (.r (.v 0) 2)] [1] rfl hq9) (Int.not_lt.mp fun hq9 => lin (zs := [_]) (ns := []) [.lt (.r (.v 0) 2) (.m 2 (.v 0))] [1] rfl hq9))
theorem pack_of_fin {y : UInt64} {a : Bool} {m : Nat} {e : Int} (h : decode y = .fin a m e) : ∃ t, y = pack a t ∧ t < infMag := by
  refine ⟨y.toNat % 2 ^ 63, ?_, ?_⟩
  · have hs : a = (y.toNat / 2 ^ 63 == 1) := by
      unfold decode at h
      simp only at h
      split at h
      · split at h <;> cases h
      · split at h <;> (cases h; rfl)
    have hlt := y.toNat_lt
    refine UInt64.toNat_inj.mp ?_
    rw [pack_toNat a (by grind), hs]
    by_cases hq : y.toNat / 2 ^ 63 = 1
    · rw [if_pos (by simpa using hq)]; lia
    · rw [if_neg (by simpa using hq)]; lia
  · unfold decode at h
    simp only at h
    split at h
    · split at h <;> cases h
    · rename_i hq
      have hq : ¬ y.toNat / 2 ^ 52 % 2048 = 2047 := by simpa using hq
      unfold infMag
      omega
theorem H1.pos {x y : UInt64} {X : Nat} (h : H1 x y) (p : Pos x X) : ∃ Y, Pos y Y ∧ X = 2 * Y := by
  have hv := h.val
  obtain ⟨s, m, e, h0, hx, hy⟩ := h
  obtain ⟨m', e', hx', _⟩ := p.fin
  rw [hx] at hx'
  cases hx'
  obtain ⟨t, rfl, ht⟩ := pack_of_fin hy
  refine ⟨V t, ⟨t, rfl, ht, rfl⟩, ?_⟩
  rw [p.val, val_pack false ht] at hv
  have : sgn false (V t) = (V t : Int) := rfl
  exact (Nat.le_antisymm (Nat.not_lt.mp fun hq9 => lin (zs := [_]) (ns := [_, _]) [.eq (.c (.v 0)) (.m 2 (.v 0)), .eq (.v 0) (.c (.v 1)), .ltN (.m 2 (.v 1)) (.v 0)] [1, 2, 1] rfl hv this hq9) (Nat.not_lt.mp fun hq9 => lin (zs := [_]) (ns := [_, _]) [.eq (.c (.v 0)) (.m 2 (.v 0)), .eq (.v 0) (.c (.v 1)), .ltN (.v 0) (.m 2 (.v 1))] [-1, -2, 1] rfl hv this hq9))
theorem H1.nonzero {x y : UInt64} (h : H1 x y) : Float64.isZero y = false := by
  obtain ⟨s, m, e, h0, hx, hy⟩ := h
  unfold Float64.isZero
  rw [hy]
  cases m with
  | zero => exact absurd rfl h0
  | succ m => rfl
section
variable {r g b r' g' b' : UInt64} {R G B T : Nat}
theorem h1_max (hr : H1 r r') (hg : H1 g g') (hb : H1 b b') : H1 (fmax3 r g b) (fmax3 r' g' b') := H1.fmax3 hr hg hb
theorem h1_min (hr : H1 r r') (hg : H1 g g') (hb : H1 b b') : H1 (fmin3 r g b) (fmin3 r' g' b') := H1.fmin3 hr hg hb
theorem flat_half (C : Col r g b R G B T) (hr : H1 r r') (hg : H1 g g') (hb : H1 b b') : flatF r' g' b' = false := by
  have := C.flat
  unfold flatF at this ⊢
  rw [(h1_min hr hg hb).cmp (h1_max hr hg hb)]
  exact this
theorem range_half (C : Col r g b R G B T) (hr : H1 r r') (hg : H1 g g') (hb : H1 b b') : H1 (rangeF r g b) (rangeF r' g' b') := by
  obtain ⟨ρ, p, h1, _⟩ := C.range
  have h2 : Half (rangeF r g b) (rangeF r' g' b') := by
    unfold rangeF
    have pm := pos_f1
    rw [← C.max] at pm
    have := C.t1
    refine H1.sub (h1_max hr hg hb) (h1_min hr hg hb) pm C.min (.inr ?_) (by decide)
    exact Nat.le_trans (Nat.add_le_add_left (Nat.pow_le_pow_right (by decide) (by decide)) _) this
  exact h2.h1 p (Nat.lt_of_lt_of_le (Nat.two_pow_pos _) h1)
theorem sum_half (C : Col r g b R G B T) (hr : H1 r r') (hg : H1 g g') (hb : H1 b b') : H1 (add (fmax3 r g b) (fmin3 r g b)) (add (fmax3 r' g' b') (fmin3 r' g' b')) := by
  obtain ⟨σ, p, h1, _⟩ := C.sum
  have pm := pos_f1
  rw [← C.max] at pm
  have ht := C.t1
  have h2 := H1.sum (h1_max hr hg hb) (h1_min hr hg hb) pm C.min (Nat.le_trans (Nat.pow_le_pow_right (by decide) (by decide)) (Nat.le_add_right (2 ^ 1074) T)) (Nat.le_trans (Nat.add_le_add_left (Nat.le_trans (Nat.le_add_right _ _) ht) _) (by decide))
  exact h2.h1 p (Nat.lt_of_lt_of_le (Nat.two_pow_pos _) (Nat.le_trans (Nat.le_add_left (2 ^ 1028) (2 ^ 1074)) h1))
theorem light_half (C : Col r g b R G B T) (hr : H1 r r') (hg : H1 g g') (hb : H1 b b') : H1 (lightF r g b) (lightF r' g' b') := by
  obtain ⟨σ, p, h1, h2, _⟩ := C.sum
  unfold lightF
  refine (sum_half C hr hg hb).over p pos_f2 (Nat.two_pow_pos _) ?_ (Nat.le_trans h2 (Nat.le_mul_of_pos_right _ (Nat.two_pow_pos _)))
  refine Nat.le_trans ?_ (Nat.mul_le_mul_right _ (Nat.le_trans (Nat.le_add_right _ _) h1))
  rw [← Nat.pow_add]
  exact Nat.pow_le_pow_right (by decide) (by decide)
theorem dim_half (C : Col r g b R G B T) (hr : H1 r r') (hg : H1 g g') (hb : H1 b b') : dimF r' g' b' = true := by
  obtain ⟨l, p, h1, h2, _⟩ := C.light
  obtain ⟨l', p', e⟩ := (light_half C hr hg hb).pos p
  unfold dimF
  rw [Bool.or_eq_true]
  rcases Nat.lt_or_ge l' (2 ^ 1073) with h | h
  · exact .inl ((cmp_lt_iff p' pos_fh).mpr h)
  · right
    refine (cmp_eq_iff p' pos_fh).mpr ?_
    rw [e] at h2
    exact (Nat.le_antisymm (Nat.not_lt.mp fun hq9 => lin (zs := []) (ns := [_]) [.leN (.m 2 (.v 0)) (.n (2 ^ 1074)), .ltN (.n (2 ^ 1073)) (.v 0)] [1, 2] rfl h2 hq9) (Nat.not_lt.mp fun hq9 => lin (zs := []) (ns := [_]) [.leN (.n (2 ^ 1073)) (.v 0), .ltN (.v 0) (.n (2 ^ 1073))] [1, 1] rfl h hq9))
theorem sat_half (C : Col r g b R G B T) (hr : H1 r r') (hg : H1 g g') (hb : H1 b b') : satF r' g' b' = Float64.div (rangeF r g b) (add (fmax3 r g b) (fmin3 r g b)) := by
  rw [sat_dim (flat_half C hr hg hb) (dim_half C hr hg hb), (range_half C hr hg hb).div (sum_half C hr hg hb)]
theorem ok_half (C : Col r g b R G B T) (hr : H1 r r') (hg : H1 g g') (hb : H1 b b') : HlsOk r' g' b' := by
  refine ⟨fun _ => by rw [(range_half C hr hg hb).nonzero]; decide, fun _ d => by rw [(sum_half C hr hg hb).nonzero]; decide, fun _ d => ?_⟩
  rw [dim_half C hr hg hb] at d; cases d
theorem share_half (C : Col r g b R G B T) (hr : H1 r r') (hg : H1 g g') (hb : H1 b b') {x x' : UInt64} {X : Nat} (hx : H1 x x') (px : Pos x X) (ex : X = 2 ^ 1074 ∨ X + 2 ^ 1028 ≤ 2 ^ 1074) : shareF r' g' b' x' = shareF r g b x := by
  unfold shareF
  have pm := pos_f1
  rw [← C.max] at pm
  refine Half.div ((h1_max hr hg hb).sub hx pm px ?_ (by decide)) (range_half C hr hg hb)
  rcases ex with h | h
  · exact .inl h
  · exact .inr (Nat.le_trans (Nat.add_le_add_left (Nat.pow_le_pow_right (by decide) (by decide)) _) h)
theorem hue_half (C : Col r g b R G B T) (hr : H1 r r') (hg : H1 g g') (hb : H1 b b') : hueF r' g' b' = hueF r g b := by
  have hm := h1_max hr hg hb
  have e : turnF r' g' b' = turnF r g b := by
    unfold turnF
    rw [hr.cmp hm, hg.cmp hm, share_half C hr hg hb hr C.pr C.er, share_half C hr hg hb hg C.pg C.eg, share_half C hr hg hb hb C.pb C.eb]
  unfold hueF
  rw [flat_half C hr hg hb, C.flat, e]
theorem light_two (C : Col r g b R G B T) (hr : H1 r r') (hg : H1 g g') (hb : H1 b b') : mul f2 (lightF r' g' b') = lightF r g b := by
  obtain ⟨l, p, h1, h2, _⟩ := C.light
  obtain ⟨l', p', e⟩ := (light_half C hr hg hb).pos p
  refine (mul_is pos_f2 p' ?_).exact (Nat.two_pow_pos _) p ?_
  · have : l' ≤ 2 ^ 1074 := by exact (Nat.not_lt.mp fun hq9 => lin (zs := []) (ns := [_, _]) [.leN (.v 0) (.n (2 ^ 1074)), .eqN (.v 0) (.m 2 (.v 1)), .ltN (.n (2 ^ 1074)) (.v 1)] [1, -1, 2] rfl h2 e hq9)
    exact Nat.le_trans (Nat.mul_le_mul_left _ this) (by decide +kernel)
  · rw [e, show (1075 : Nat) = 1074 + 1 from rfl, Nat.pow_succ, Nat.mul_assoc]
end
end Fl
end Mine
end

section
set_option maxRecDepth 100000
set_option linter.unusedVariables false
namespace Mine
namespace Fl
theorem mul_bd {a B S o : Int} (h1 : -B ≤ a) (h2 : a ≤ B) (hS : 0 ≤ S) (hSo : S ≤ o) : -(B * o) ≤ a * S ∧ a * S ≤ B * o := by
  have hB : 0 ≤ B := by exact (Int.not_lt.mp fun hq9 => lin (zs := [_, _]) (ns := []) [.le (.g (.v 0)) (.v 1), .le (.v 1) (.v 0), .lt (.v 0) (.n 0)] [1, 1, 2] rfl h1 h2 hq9)
  have k1 := Int.mul_le_mul_of_nonneg_right h2 hS
  have k2 := Int.mul_le_mul_of_nonneg_right h1 hS
  have k3 := Int.mul_le_mul_of_nonneg_left hSo hB
  rw [Int.neg_mul] at k2
  exact ⟨(Int.not_lt.mp fun hq9 => lin (zs := [_, _, _]) (ns := []) [.le (.g (.v 0)) (.v 1), .le (.v 0) (.v 2), .lt (.v 1) (.g (.v 2))] [1, 1, 1] rfl k2 k3 hq9), (Int.not_lt.mp fun hq9 => lin (zs := [_, _, _]) (ns := []) [.le (.v 0) (.v 1), .le (.v 1) (.v 2), .lt (.v 2) (.v 0)] [1, 1, 1] rfl k1 k3 hq9)⟩
theorem div_bd {a B o : Int} (ho : 0 < o) (h1 : -(B * o) ≤ a * o) (h2 : a * o ≤ B * o) : -B ≤ a ∧ a ≤ B :=
  ⟨Int.le_of_mul_le_mul_right (by rw [Int.neg_mul]; exact h1) ho, Int.le_of_mul_le_mul_right h2 ho⟩
/-- the saturation of the colour half as light, times the sum of the greatest and the least -/
theorem sat_arith {e o M m T ρ σ S μ ν : Int} (he : 0 < e) (ho : o = 18014398509481984 * e) (hM : M ≤ 70368744177664) (hm : 0 < m) (hmM : m < M)
    (t1 : -(M * e) ≤ M * T - m * o) (t2 : M * T - m * o ≤ M * e)
    (r1 : -e ≤ ρ - (o - T)) (r2 : ρ - (o - T) ≤ e)
    (s1 : -(2 * e) ≤ σ - (o + T)) (s2 : σ - (o + T) ≤ 2 * e) (s3 : 0 ≤ σ) (s4 : σ ≤ 2 * o)
    (d1 : -(σ * e) ≤ σ * S - ρ * o) (d2 : σ * S - ρ * o ≤ σ * e) (d3 : 0 ≤ S) (d4 : S ≤ o)
    (m1 : -(140737488355328 * e) ≤ μ - S * (M + m)) (m2 : μ - S * (M + m) ≤ 140737488355328 * e)
    (n1 : -(4 * (140737488355328 * e)) ≤ 2 * ν - (2 * μ + o)) (n2 : 2 * ν - (2 * μ + o) ≤ 4 * (140737488355328 * e)) :
    (M - m) * o ≤ ν ∧ ν < (M - m + 1) * o := by
  have hM0 : 0 ≤ M := by exact (Int.not_lt.mp fun hq9 => lin (zs := [_, _]) (ns := []) [.lt (.n 0) (.v 0), .lt (.v 0) (.v 1), .lt (.v 1) (.n 0)] [1, 1, 1] rfl hm hmM hq9)
  have hop : 0 < o := by exact (Int.not_le.mp fun hq9 => lin (zs := [_, _]) (ns := []) [.lt (.n 0) (.v 0), .eq (.v 1) (.m 18014398509481984 (.v 0)), .le (.v 1) (.n 0)] [18014398509481984, -1, 1] rfl he ho hq9)
  obtain ⟨a1, a2⟩ := mul_bd r1 r2 hM0 (Int.le_refl M)
  obtain ⟨b1, b2⟩ := mul_bd s1 s2 hM0 (Int.le_refl M)
  -- σM, ρM
  have A1 : -(3 * (M * e)) ≤ σ * M - (M + m) * o := by grind
  have A2 : σ * M - (M + m) * o ≤ 3 * (M * e) := by grind
  have B1 : -(2 * (M * e)) ≤ ρ * M - (M - m) * o := by grind
  have B2 : ρ * M - (M - m) * o ≤ 2 * (M * e) := by grind
  obtain ⟨c1, c2⟩ := mul_bd A1 A2 d3 d4
  obtain ⟨f1, f2⟩ := mul_bd B1 B2 (Int.le_of_lt hop) (Int.le_refl o)
  obtain ⟨g1, g2⟩ := mul_bd d1 d2 hM0 (Int.le_refl M)
  have h1 : σ * e * M ≤ 2 * o * e * M := Int.mul_le_mul_of_nonneg_right (Int.mul_le_mul_of_nonneg_right s4 (Int.le_of_lt he)) hM0
  have key : ((M + m) * S - (M - m) * o) * o = (ρ * M - (M - m) * o) * o + (σ * S - ρ * o) * M - (σ * M - (M + m) * o) * S := by grind
  have k1 : -(7 * (M * e) * o) ≤ ((M + m) * S - (M - m) * o) * o := by
    rw [key]
    have e1 : 2 * o * e * M = 2 * (M * e) * o := by grind
    have e2 : 7 * (M * e) * o = 2 * (M * e) * o + 2 * (M * e) * o + 3 * (M * e) * o := by grind
    exact (Int.not_lt.mp fun hq9 => lin (zs := [_, _, _, _, _, _, _, _]) (ns := []) [.le (.v 0) (.v 1), .le (.g (.v 2)) (.v 3), .le (.g (.v 4)) (.v 5), .le (.v 4) (.v 6), .eq (.v 6) (.v 2), .eq (.v 7) (.a (.a (.v 2) (.v 2)) (.v 1)), .lt (.s (.a (.v 3) (.v 5)) (.v 0)) (.g (.v 7))] [1, 1, 1, 1, 1, -1, 1] rfl c2 f1 g1 h1 e1 e2 hq9)
  have k2 : ((M + m) * S - (M - m) * o) * o ≤ 7 * (M * e) * o := by
    rw [key]
    have e1 : 2 * o * e * M = 2 * (M * e) * o := by grind
    have e2 : 7 * (M * e) * o = 2 * (M * e) * o + 2 * (M * e) * o + 3 * (M * e) * o := by grind
    exact (Int.not_lt.mp fun hq9 => lin (zs := [_, _, _, _, _, _, _, _]) (ns := []) [.le (.g (.v 0)) (.v 1), .le (.v 2) (.v 3), .le (.v 4) (.v 5), .le (.v 5) (.v 6), .eq (.v 6) (.v 3), .eq (.v 7) (.a (.a (.v 3) (.v 3)) (.v 0)), .lt (.v 7) (.s (.a (.v 2) (.v 4)) (.v 1))] [1, 1, 1, 1, 1, -1, 1] rfl c1 f2 g2 h1 e1 e2 hq9)
  obtain ⟨l1, l2⟩ := div_bd hop k1 k2
  have l3 : M * e ≤ 70368744177664 * e := Int.mul_le_mul_of_nonneg_right hM (Int.le_of_lt he)
  have l4 : S * (M + m) = (M + m) * S := Int.mul_comm _ _
  have l5 : (M - m + 1) * o = (M - m) * o + o := by rw [Int.add_mul, Int.one_mul]
  rw [l5]
  exact ⟨(Int.not_lt.mp fun hq9 => lin (zs := [_, _, _, _, _, _, _, _]) (ns := []) [.lt (.n 0) (.v 0), .eq (.v 1) (.m 18014398509481984 (.v 0)), .le (.g (.m 140737488355328 (.v 0))) (.s (.v 2) (.v 3)), .le (.g (.m 4 (.m 140737488355328 (.v 0)))) (.s (.m 2 (.v 4)) (.a (.m 2 (.v 2)) (.v 1))), .le (.g (.m 7 (.v 5))) (.s (.v 6) (.v 7)), .le (.v 5) (.m 70368744177664 (.v 0)), .eq (.v 3) (.v 6), .lt (.v 4) (.v 7)] [16184811160862720, -1, 2, 1, 2, 14, -2, 2] rfl he ho m1 n1 l1 l3 l4 hq9), (Int.not_le.mp fun hq9 => lin (zs := [_, _, _, _, _, _, _, _]) (ns := []) [.lt (.n 0) (.v 0), .eq (.v 1) (.m 18014398509481984 (.v 0)), .le (.s (.v 2) (.v 3)) (.m 140737488355328 (.v 0)), .le (.s (.m 2 (.v 4)) (.a (.m 2 (.v 2)) (.v 1))) (.m 4 (.m 140737488355328 (.v 0))), .le (.s (.v 5) (.v 6)) (.m 7 (.v 7)), .le (.v 7) (.m 70368744177664 (.v 0)), .eq (.v 3) (.v 5), .le (.a (.v 6) (.v 1)) (.v 4)] [16184811160862720, -1, 2, 1, 2, 14, 2, 2] rfl he ho m2 n2 l2 l3 l4 hq9)⟩
end Fl
end Mine
end

section
set_option maxRecDepth 100000
set_option linter.unusedVariables false
namespace Mine
namespace Fl
/-- a share of the range -/
theorem share_arith {e o M m v T X ρ N S : Int} (he : 0 < e) (ho : 0 < o) (hM : 0 < M)
    (t1 : -(M * e) ≤ M * T - m * o) (t2 : M * T - m * o ≤ M * e)
    (x1 : -(M * e) ≤ M * X - v * o) (x2 : M * X - v * o ≤ M * e)
    (r1 : -e ≤ ρ - (o - T)) (r2 : ρ - (o - T) ≤ e) (r3 : 0 ≤ ρ) (r4 : ρ ≤ o)
    (n1 : -e ≤ N - (o - X)) (n2 : N - (o - X) ≤ e)
    (d1 : -(ρ * e) ≤ ρ * S - N * o) (d2 : ρ * S - N * o ≤ ρ * e) (d3 : 0 ≤ S) (d4 : S ≤ o) :
    -(5 * (M * e)) ≤ S * (M - m) - (M - v) * o ∧ S * (M - m) - (M - v) * o ≤ 5 * (M * e) := by
  have hM0 : 0 ≤ M := by exact (Int.not_lt.mp fun hq9 => lin (zs := [_]) (ns := []) [.lt (.n 0) (.v 0), .lt (.v 0) (.n 0)] [1, 1] rfl hM hq9)
  obtain ⟨a1, a2⟩ := mul_bd r1 r2 hM0 (Int.le_refl M)
  obtain ⟨b1, b2⟩ := mul_bd n1 n2 hM0 (Int.le_refl M)
  have A1 : -(2 * (M * e)) ≤ N * M - (M - v) * o := by grind
  have A2 : N * M - (M - v) * o ≤ 2 * (M * e) := by grind
  have B1 : -(2 * (M * e)) ≤ ρ * M - (M - m) * o := by grind
  have B2 : ρ * M - (M - m) * o ≤ 2 * (M * e) := by grind
  obtain ⟨c1, c2⟩ := mul_bd B1 B2 d3 d4
  obtain ⟨f1, f2⟩ := mul_bd A1 A2 (Int.le_of_lt ho) (Int.le_refl o)
  obtain ⟨g1, g2⟩ := mul_bd d1 d2 hM0 (Int.le_refl M)
  have h1 : ρ * e * M ≤ o * e * M := Int.mul_le_mul_of_nonneg_right (Int.mul_le_mul_of_nonneg_right r4 (Int.le_of_lt he)) hM0
  have key : (S * (M - m) - (M - v) * o) * o = (ρ * S - N * o) * M + (N * M - (M - v) * o) * o - (ρ * M - (M - m) * o) * S := by grind
  have e1 : o * e * M = (M * e) * o := by grind
  have e2 : 5 * (M * e) * o = (M * e) * o + 2 * (M * e) * o + 2 * (M * e) * o := by grind
  refine div_bd ho ?_ ?_
  · rw [key]; exact (Int.not_lt.mp fun hq9 => lin (zs := [_, _, _, _, _, _, _, _]) (ns := []) [.le (.v 0) (.v 1), .le (.g (.v 1)) (.v 2), .le (.g (.v 3)) (.v 4), .le (.v 3) (.v 5), .eq (.v 5) (.v 6), .eq (.v 7) (.a (.a (.v 6) (.v 1)) (.v 1)), .lt (.s (.a (.v 4) (.v 2)) (.v 0)) (.g (.v 7))] [1, 1, 1, 1, 1, -1, 1] rfl c2 f1 g1 h1 e1 e2 hq9)
  · rw [key]; exact (Int.not_lt.mp fun hq9 => lin (zs := [_, _, _, _, _, _, _, _]) (ns := []) [.le (.g (.v 0)) (.v 1), .le (.v 2) (.v 0), .le (.v 3) (.v 4), .le (.v 4) (.v 5), .eq (.v 5) (.v 6), .eq (.v 7) (.a (.a (.v 6) (.v 0)) (.v 0)), .lt (.v 7) (.s (.a (.v 3) (.v 2)) (.v 1))] [1, 1, 1, 1, 1, -1, 1] rfl c1 f2 g2 h1 e1 e2 hq9)
/-- what the third of the hue comes to -/
theorem hue_arith {e o M D κ k Δ τ q h h3 h4 h5 : Int} (he : 0 < e) (ho : o = 18014398509481984 * e) (hD : 0 < D) (hMD : M ≤ 2 * D)
    (t1 : -(10 * (M * e) + 16 * (e * D)) ≤ τ * D - (2 * κ * D + Δ) * o) (t2 : τ * D - (2 * κ * D + Δ) * o ≤ 10 * (M * e) + 16 * (e * D))
    (q1 : -(6 * e) ≤ 6 * q - τ) (q2 : 6 * q - τ ≤ 6 * e)
    (h1 : -(2 * e) ≤ h - (q + k * o)) (h2 : h - (q + k * o) ≤ 2 * e)
    (i1 : -(4 * e) ≤ h3 - 3 * h) (i2 : h3 - 3 * h ≤ 4 * e)
    (j1 : -(4294967296 * e) ≤ h4 - 1073741824 * h3) (j2 : h4 - 1073741824 * h3 ≤ 4294967296 * e)
    (k1 : -(2 * (4294967296 * e)) ≤ 2 * h5 - (2 * h4 + o)) (k2 : 2 * h5 - (2 * h4 + o) ≤ 2 * (4294967296 * e)) :
    (0 < Δ → D ≤ 268435456 * Δ → 2 * Δ ≤ D → (1073741824 * (κ + 3 * k) + 1) * o ≤ h5 ∧ h5 < (1073741824 * (κ + 3 * k) + 536870911) * o) ∧
    (Δ < 0 → D ≤ 268435456 * (-Δ) → 2 * (-Δ) ≤ D → (1073741824 * (κ + 3 * k) - 536870912) * o ≤ h5 ∧ h5 < (1073741824 * (κ + 3 * k)) * o) ∧
    (Δ = 0 → (1073741824 * (κ + 3 * k)) * o ≤ h5 ∧ h5 < (1073741824 * (κ + 3 * k) + 1) * o) := by
  have hop : 0 < o := by exact (Int.not_le.mp fun hq9 => lin (zs := [_, _]) (ns := []) [.lt (.n 0) (.v 0), .eq (.v 1) (.m 18014398509481984 (.v 0)), .le (.v 1) (.n 0)] [18014398509481984, -1, 1] rfl he ho hq9)
  have m1 : M * e ≤ 2 * D * e := Int.mul_le_mul_of_nonneg_right hMD (Int.le_of_lt he)
  have E1 : -(45097156608 * e) ≤ 2 * h5 - (1073741824 * τ + 6442450944 * (k * o) + o) := by exact (Int.not_lt.mp fun hq9 => lin (zs := [_, _, _, _, _, _, _, _, _]) (ns := []) [.le (.g (.m 6 (.v 0))) (.s (.m 6 (.v 1)) (.v 2)), .le (.g (.m 2 (.v 0))) (.s (.v 3) (.a (.v 1) (.v 4))), .le (.g (.m 4 (.v 0))) (.s (.v 5) (.m 3 (.v 3))), .le (.g (.m 4294967296 (.v 0))) (.s (.v 6) (.m 1073741824 (.v 5))), .le (.g (.m 2 (.m 4294967296 (.v 0)))) (.s (.m 2 (.v 7)) (.a (.m 2 (.v 6)) (.v 8))), .lt (.s (.m 2 (.v 7)) (.a (.a (.m 1073741824 (.v 2)) (.m 6442450944 (.v 4))) (.v 8))) (.g (.m 45097156608 (.v 0)))] [1073741824, 6442450944, 2147483648, 2, 1, 1] rfl q1 h1 i1 j1 k1 hq9)
  have E2 : 2 * h5 - (1073741824 * τ + 6442450944 * (k * o) + o) ≤ 45097156608 * e := by exact (Int.not_lt.mp fun hq9 => lin (zs := [_, _, _, _, _, _, _, _, _]) (ns := []) [.le (.s (.m 6 (.v 0)) (.v 1)) (.m 6 (.v 2)), .le (.s (.v 3) (.a (.v 0) (.v 4))) (.m 2 (.v 2)), .le (.s (.v 5) (.m 3 (.v 3))) (.m 4 (.v 2)), .le (.s (.v 6) (.m 1073741824 (.v 5))) (.m 4294967296 (.v 2)), .le (.s (.m 2 (.v 7)) (.a (.m 2 (.v 6)) (.v 8))) (.m 2 (.m 4294967296 (.v 2))), .lt (.m 45097156608 (.v 2)) (.s (.m 2 (.v 7)) (.a (.a (.m 1073741824 (.v 1)) (.m 6442450944 (.v 4))) (.v 8)))] [1073741824, 6442450944, 2147483648, 2, 1, 1] rfl q2 h2 i2 j2 k2 hq9)
  obtain ⟨a1, a2⟩ := mul_bd E1 E2 (Int.le_of_lt hD) (Int.le_refl D)
  have eD : 2 * D * e = 2 * (e * D) := by grind
  have ex : (2 * h5 - (1073741824 * τ + 6442450944 * (k * o) + o)) * D = 2 * (h5 * D) - 1073741824 * (τ * D) - 6442450944 * (k * (o * D)) - o * D := by grind
  have ey : (2 * κ * D + Δ) * o = 2 * (κ * (o * D)) + Δ * o := by grind
  have ez : 45097156608 * e * D = 45097156608 * (e * D) := by grind
  rw [ex, ez] at a1 a2
  rw [ey] at t1 t2
  have eo : o * D = 18014398509481984 * (e * D) := by rw [ho, Int.mul_assoc]
  have p0 : 0 < e * D := Int.mul_pos he hD
  have B1 : -(83751862272 * (e * D)) ≤ 2 * (h5 * D) - (2147483648 * (κ * (o * D)) + 6442450944 * (k * (o * D)) + 1073741824 * (Δ * o) + o * D) := by exact (Int.not_lt.mp fun hq9 => lin (zs := [_, _, _, _, _, _, _, _, _]) (ns := []) [.le (.g (.a (.m 10 (.v 0)) (.m 16 (.v 1)))) (.s (.v 2) (.a (.m 2 (.v 3)) (.v 4))), .le (.v 0) (.v 5), .le (.g (.m 45097156608 (.v 1))) (.s (.s (.s (.m 2 (.v 6)) (.m 1073741824 (.v 2))) (.m 6442450944 (.v 7))) (.v 8)), .eq (.v 5) (.m 2 (.v 1)), .lt (.s (.m 2 (.v 6)) (.a (.a (.a (.m 2147483648 (.v 3)) (.m 6442450944 (.v 7))) (.m 1073741824 (.v 4))) (.v 8))) (.g (.m 83751862272 (.v 1)))] [1073741824, 10737418240, 1, 10737418240, 1] rfl t1 m1 a1 eD hq9)
  have B2 : 2 * (h5 * D) - (2147483648 * (κ * (o * D)) + 6442450944 * (k * (o * D)) + 1073741824 * (Δ * o) + o * D) ≤ 83751862272 * (e * D) := by exact (Int.not_lt.mp fun hq9 => lin (zs := [_, _, _, _, _, _, _, _, _]) (ns := []) [.le (.s (.v 0) (.a (.m 2 (.v 1)) (.v 2))) (.a (.m 10 (.v 3)) (.m 16 (.v 4))), .le (.v 3) (.v 5), .le (.s (.s (.s (.m 2 (.v 6)) (.m 1073741824 (.v 0))) (.m 6442450944 (.v 7))) (.v 8)) (.m 45097156608 (.v 4)), .eq (.v 5) (.m 2 (.v 4)), .lt (.m 83751862272 (.v 4)) (.s (.m 2 (.v 6)) (.a (.a (.a (.m 2147483648 (.v 1)) (.m 6442450944 (.v 7))) (.m 1073741824 (.v 2))) (.v 8)))] [1073741824, 10737418240, 1, 10737418240, 1] rfl t2 m1 a2 eD hq9)
  have cl : ∀ c : Int, (1073741824 * (κ + 3 * k) + c) * o * D = 1073741824 * (κ * (o * D)) + 3221225472 * (k * (o * D)) + c * (o * D) := fun c => by grind
  have lo : ∀ c : Int, 1073741824 * (κ * (o * D)) + 3221225472 * (k * (o * D)) + c * (o * D) ≤ h5 * D → (1073741824 * (κ + 3 * k) + c) * o ≤ h5 := fun c hc =>
    Int.le_of_mul_le_mul_right (by rw [cl]; exact hc) hD
  have hi : ∀ c : Int, h5 * D < 1073741824 * (κ * (o * D)) + 3221225472 * (k * (o * D)) + c * (o * D) → h5 < (1073741824 * (κ + 3 * k) + c) * o := fun c hc =>
    Int.lt_of_mul_lt_mul_right (by rw [cl]; exact hc) (Int.le_of_lt hD)
  refine ⟨fun d0 d1 d2 => ⟨lo 1 ?_, hi 536870911 ?_⟩, fun d0 d1 d2 => ⟨?_, ?_⟩, fun d0 => ⟨?_, hi 1 ?_⟩⟩
  · have := Int.mul_le_mul_of_nonneg_right d1 (Int.le_of_lt hop)
    have w1 : D * o = o * D := Int.mul_comm _ _
    have w2 : 268435456 * Δ * o = 268435456 * (Δ * o) := Int.mul_assoc _ _ _
    exact (Int.not_lt.mp fun hq9 => lin (zs := [_, _, _, _, _, _, _, _]) (ns := []) [.eq (.v 0) (.m 18014398509481984 (.v 1)), .lt (.n 0) (.v 1), .le (.g (.m 83751862272 (.v 1))) (.s (.m 2 (.v 2)) (.a (.a (.a (.m 2147483648 (.v 3)) (.m 6442450944 (.v 4))) (.m 1073741824 (.v 5))) (.v 0))), .le (.v 6) (.v 7), .eq (.v 6) (.v 0), .eq (.v 7) (.m 268435456 (.v 5)), .lt (.v 2) (.a (.a (.m 1073741824 (.v 3)) (.m 3221225472 (.v 4))) (.m 1 (.v 0)))] [-3, 54043111776583680, 1, 4, -4, 4, 2] rfl eo p0 B1 this w1 w2 hq9)
  · have := Int.mul_le_mul_of_nonneg_right d2 (Int.le_of_lt hop)
    have w1 : D * o = o * D := Int.mul_comm _ _
    have w2 : 2 * Δ * o = 2 * (Δ * o) := Int.mul_assoc _ _ _
    exact (Int.not_le.mp fun hq9 => lin (zs := [_, _, _, _, _, _, _, _]) (ns := []) [.eq (.v 0) (.m 18014398509481984 (.v 1)), .lt (.n 0) (.v 1), .le (.s (.m 2 (.v 2)) (.a (.a (.a (.m 2147483648 (.v 3)) (.m 6442450944 (.v 4))) (.m 1073741824 (.v 5))) (.v 0))) (.m 83751862272 (.v 1)), .le (.v 6) (.v 7), .eq (.v 7) (.v 0), .eq (.v 6) (.m 2 (.v 5)), .le (.a (.a (.m 1073741824 (.v 3)) (.m 3221225472 (.v 4))) (.m 536870911 (.v 0))) (.v 2)] [-536870909, 9671406502873754117341184, 1, 536870912, 536870912, -536870912, 2] rfl eo p0 B2 this w1 w2 hq9)
  · have k := lo (-536870912) ?_
    · rw [← Int.sub_eq_add_neg] at k; exact k
    · have := Int.mul_le_mul_of_nonneg_right d2 (Int.le_of_lt hop)
      have w1 : D * o = o * D := Int.mul_comm _ _
      have w2 : 2 * -Δ * o = -(2 * (Δ * o)) := by grind
      exact (Int.not_lt.mp fun hq9 => lin (zs := [_, _, _, _, _, _, _, _]) (ns := []) [.eq (.v 0) (.m 18014398509481984 (.v 1)), .lt (.n 0) (.v 1), .le (.g (.m 83751862272 (.v 1))) (.s (.m 2 (.v 2)) (.a (.a (.a (.m 2147483648 (.v 3)) (.m 6442450944 (.v 4))) (.m 1073741824 (.v 5))) (.v 0))), .le (.v 6) (.v 7), .eq (.v 7) (.v 0), .eq (.v 6) (.g (.m 2 (.v 5))), .lt (.v 2) (.a (.a (.m 1073741824 (.v 3)) (.m 3221225472 (.v 4))) (.m (-536870912) (.v 0)))] [-536870913, 9671406574931348155269120, 1, 536870912, 536870912, -536870912, 2] rfl eo p0 B1 this w1 w2 hq9)
  · have k := hi 0 ?_
    · rw [Int.add_zero] at k; exact k
    · have := Int.mul_le_mul_of_nonneg_right d1 (Int.le_of_lt hop)
      have w1 : D * o = o * D := Int.mul_comm _ _
      have w2 : 268435456 * -Δ * o = -(268435456 * (Δ * o)) := by grind
      exact (Int.not_le.mp fun hq9 => lin (zs := [_, _, _, _, _, _, _, _]) (ns := []) [.eq (.v 0) (.m 18014398509481984 (.v 1)), .lt (.n 0) (.v 1), .le (.s (.m 2 (.v 2)) (.a (.a (.a (.m 2147483648 (.v 3)) (.m 6442450944 (.v 4))) (.m 1073741824 (.v 5))) (.v 0))) (.m 83751862272 (.v 1)), .le (.v 6) (.v 7), .eq (.v 6) (.v 0), .eq (.v 7) (.g (.m 268435456 (.v 5))), .le (.a (.a (.m 1073741824 (.v 3)) (.m 3221225472 (.v 4))) (.m 0 (.v 0))) (.v 2)] [-3, 54043111776583680, 1, 4, -4, 4, 2] rfl eo p0 B2 this w1 w2 hq9)
  · have k := lo 0 ?_
    · rw [Int.add_zero] at k; exact k
    · have w : Δ * o = 0 := by rw [d0, Int.zero_mul]
      exact (Int.not_lt.mp fun hq9 => lin (zs := [_, _, _, _, _, _]) (ns := []) [.eq (.v 0) (.m 18014398509481984 (.v 1)), .le (.g (.m 83751862272 (.v 1))) (.s (.m 2 (.v 2)) (.a (.a (.a (.m 2147483648 (.v 3)) (.m 6442450944 (.v 4))) (.m 1073741824 (.v 5))) (.v 0))), .le (.s (.m 2 (.v 2)) (.a (.a (.a (.m 2147483648 (.v 3)) (.m 6442450944 (.v 4))) (.m 1073741824 (.v 5))) (.v 0))) (.m 83751862272 (.v 1)), .eq (.v 5) (.n 0), .lt (.v 2) (.a (.a (.m 1073741824 (.v 3)) (.m 3221225472 (.v 4))) (.m 0 (.v 0)))] [-78, 8388647, 8388569, -83751862272, 156] rfl eo B1 B2 w hq9)
  · have w : Δ * o = 0 := by rw [d0, Int.zero_mul]
    exact (Int.not_le.mp fun hq9 => lin (zs := [_, _, _, _, _, _]) (ns := []) [.eq (.v 0) (.m 18014398509481984 (.v 1)), .lt (.n 0) (.v 1), .le (.s (.m 2 (.v 2)) (.a (.a (.a (.m 2147483648 (.v 3)) (.m 6442450944 (.v 4))) (.m 1073741824 (.v 5))) (.v 0))) (.m 83751862272 (.v 1)), .eq (.v 5) (.n 0), .le (.a (.a (.m 1073741824 (.v 3)) (.m 3221225472 (.v 4))) (.m 1 (.v 0))) (.v 2)] [-1, 18014314757619712, 1, 1073741824, 2] rfl eo p0 B2 w hq9)
end Fl
end Mine
end

section
open PySem PySem.Float64
set_option maxRecDepth 100000
set_option exponentiation.threshold 3000
set_option linter.unusedVariables false
namespace Mine
namespace Fl
theorem trunc_pos {x : UInt64} {X : Nat} (p : Pos x X) : Flt.toInt Float64.truncOf x = ((X / 2 ^ 1074 : Nat) : Int) := by
  obtain ⟨m, e, h, hv⟩ := p.fin
  have he := decode_ge h
  rw [Flt.toInt_fin h]
  show Float64.floorOf false m e = _
  unfold Float64.floorOf
  have hs : sgn false m = (m : Int) := rfl
  rw [hs, ← hv]
  split
  · rename_i h1
    have e1 : (e + 1074).toNat = e.toNat + 1074 := (to_nat (a := e) (b := 1074) h1 (by decide) rfl).symm
    rw [e1, Nat.pow_add, ← Nat.mul_assoc, Nat.mul_div_cancel _ (Nat.two_pow_pos _), Int.natCast_mul, Int.natCast_pow]
    rfl
  · rename_i h1
    have e1 : (1074 : Nat) = (-e).toNat + (e + 1074).toNat := (to_nat (a := -e) (b := e + 1074) (c := 1074) (by exact (Int.not_lt.mp fun hq9 => lin (zs := [_]) (ns := []) [.lt (.v 0) (.n 0), .lt (.g (.v 0)) (.n 0)] [1, 1] rfl (Int.not_le.mp h1) hq9)) (by exact (Int.not_lt.mp fun hq9 => lin (zs := [_]) (ns := []) [.le (.n (-1074)) (.v 0), .lt (.a (.v 0) (.n 1074)) (.n 0)] [1, 1] rfl he hq9)) (by exact (Int.le_antisymm (Int.not_lt.mp fun hq9 => lin (zs := [_]) (ns := []) [.lt (.n 1074) (.a (.g (.v 0)) (.a (.v 0) (.n 1074)))] [1] rfl hq9) (Int.not_lt.mp fun hq9 => lin (zs := [_]) (ns := []) [.lt (.a (.g (.v 0)) (.a (.v 0) (.n 1074))) (.n 1074)] [1] rfl hq9)))).symm
    have e2 : (2 : Nat) ^ 1074 = 2 ^ (-e).toNat * 2 ^ (e + 1074).toNat := by rw [← Nat.pow_add, ← e1]
    rw [e2, Nat.mul_div_mul_right _ _ (Nat.two_pow_pos _), Int.natCast_ediv, Int.natCast_pow]
    rw [Int.fdiv_eq_ediv_of_nonneg _ (Int.le_of_lt (Int.pow_pos (by decide)))]
    rfl
theorem fin_pos {x : UInt64} (h : Fin x) (h0 : 0 < Float64.val x) : ∃ X : Nat, Pos x X ∧ Float64.val x = X := by
  obtain ⟨a, m, e, h⟩ := h
  obtain ⟨t, rfl, ht⟩ := pack_of_fin h
  rw [val_pack a ht] at h0 ⊢
  cases a
  · exact ⟨V t, ⟨t, rfl, ht, rfl⟩, rfl⟩
  · exfalso
    have : sgn true (V t) = -(V t : Int) := rfl
    exact lin (zs := [_]) (ns := [_]) [.lt (.n 0) (.v 0), .eq (.v 0) (.g (.c (.v 0)))] [1, 1] rfl h0 this
theorem trunc_is {x : UInt64} (h : Fin x) {c : Int} (h0 : 0 < Float64.val x) (lo : c * ((2 ^ 1074 : Nat) : Int) ≤ Float64.val x) (hi : Float64.val x < (c + 1) * ((2 ^ 1074 : Nat) : Int)) : Flt.toInt Float64.truncOf x = c := by
  obtain ⟨X, p, e⟩ := fin_pos h h0
  rw [trunc_pos p, Int.natCast_ediv]
  rw [e] at lo hi
  have hK : (0 : Int) < ((2 ^ 1074 : Nat) : Int) := Int.ofNat_lt.mpr (Nat.two_pow_pos _)
  generalize ((2 ^ 1074 : Nat) : Int) = K at *
  exact (Int.ediv_eq_iff_of_pos hK).mpr (by rw [Int.add_mul, Int.one_mul] at hi; constructor <;> (try (first | exact (Int.not_lt.mp fun hq9 => lin (zs := [_]) (ns := [_]) [.le (.v 0) (.c (.v 0)), .lt (.c (.v 0)) (.v 0)] [1, 1] rfl lo hq9) | exact (Int.not_le.mp fun hq9 => lin (zs := [_, _]) (ns := [_]) [.lt (.c (.v 0)) (.a (.v 0) (.v 1)), .le (.a (.v 0) (.v 1)) (.c (.v 0))] [1, 1] rfl hi hq9))))
theorem dist_int {A B K : Nat} (h : 2 * Float64.dist A B ≤ 2 * K) : -(K : Int) ≤ (B : Int) - (A : Int) ∧ (B : Int) - (A : Int) ≤ (K : Int) := by
  rcases dist_ex A B with p | p
  · exact ⟨by exact (Int.not_lt.mp fun hq9 => lin (zs := []) (ns := [_, _, _, _]) [.leN (.m 2 (.v 0)) (.m 2 (.v 1)), .eqN (.a (.v 2) (.v 0)) (.v 3), .lt (.s (.c (.v 2)) (.c (.v 3))) (.g (.c (.v 1)))] [1, -2, 2] rfl h p hq9), by exact (Int.not_lt.mp fun hq9 => lin (zs := []) (ns := [_, _, _, _]) [.eqN (.a (.v 0) (.v 1)) (.v 2), .lt (.c (.v 3)) (.s (.c (.v 0)) (.c (.v 2)))] [1, 1] rfl p hq9)⟩
  · exact ⟨by exact (Int.not_lt.mp fun hq9 => lin (zs := []) (ns := [_, _, _, _]) [.eqN (.a (.v 0) (.v 1)) (.v 2), .lt (.s (.c (.v 2)) (.c (.v 0))) (.g (.c (.v 3)))] [1, 1] rfl p hq9), by exact (Int.not_lt.mp fun hq9 => lin (zs := []) (ns := [_, _, _, _]) [.leN (.m 2 (.v 0)) (.m 2 (.v 1)), .eqN (.a (.v 2) (.v 0)) (.v 3), .lt (.c (.v 1)) (.s (.c (.v 3)) (.c (.v 2)))] [1, -2, 2] rfl h p hq9)⟩
theorem abs_in {x : Int} {K : Nat} (h1 : -(K : Int) ≤ x) (h2 : x ≤ (K : Int)) : x.natAbs ≤ K := by
  rcases Int.natAbs_eq x with e | e
  · exact Int.ofNat_le.mp (by exact (Int.not_lt.mp fun hq9 => lin (zs := [_]) (ns := [_, _]) [.le (.v 0) (.c (.v 0)), .eq (.v 0) (.c (.v 1)), .lt (.c (.v 0)) (.c (.v 1))] [1, -1, 1] rfl h2 e hq9))
  · exact Int.ofNat_le.mp (by exact (Int.not_lt.mp fun hq9 => lin (zs := [_]) (ns := [_, _]) [.le (.g (.c (.v 0))) (.v 0), .eq (.v 0) (.g (.c (.v 1))), .lt (.c (.v 0)) (.c (.v 1))] [1, 1, 1] rfl h1 e hq9))
theorem abs_le {a b K : Nat} (ha : a ≤ K) (hb : b ≤ K) : ((a : Int) - (b : Int)).natAbs ≤ K := by
  rw [nat_dist]
  rcases dist_ex b a with p | p
  · exact (Nat.not_lt.mp fun hq9 => lin (zs := []) (ns := [_, _, _, _]) [.leN (.v 0) (.v 1), .eqN (.a (.v 2) (.v 3)) (.v 0), .ltN (.v 1) (.v 3)] [1, 1, 1] rfl hb p hq9)
  · exact (Nat.not_lt.mp fun hq9 => lin (zs := []) (ns := [_, _, _, _]) [.leN (.v 0) (.v 1), .eqN (.a (.v 2) (.v 3)) (.v 0), .ltN (.v 1) (.v 3)] [1, 1, 1] rfl ha p hq9)
theorem twice {k : Nat} : (2 : Nat) ^ (k + 1) = 2 * 2 ^ k := by rw [Nat.pow_succ, Nat.mul_comm]
end Fl
end Mine
end

section
open PySem PySem.Float64
set_option maxRecDepth 100000
set_option exponentiation.threshold 3000
set_option linter.unusedVariables false
namespace Mine
namespace Fl
theorem one_e : ((2 ^ 1074 : Nat) : Int) = 18014398509481984 * ((2 ^ 1020 : Nat) : Int) := by
  rw [show (1074 : Nat) = 54 + 1020 from rfl, Nat.pow_add, Int.natCast_mul]; rfl
theorem e_pos : (0 : Int) < ((2 ^ 1020 : Nat) : Int) := Int.ofNat_lt.mpr (Nat.two_pow_pos _)
theorem pow_e (k : Nat) : ((2 ^ (k + 1020) : Nat) : Int) = ((2 ^ k : Nat) : Int) * ((2 ^ 1020 : Nat) : Int) := by rw [Nat.pow_add, Int.natCast_mul]
section
variable {r g b : UInt64} {R G B T : Nat}
theorem err_share {v M X : Nat} (h : 2 * Float64.dist (v * 2 ^ 1074) (M * X) ≤ M * 2 ^ 1021) : -((M : Int) * ((2 ^ 1020 : Nat) : Int)) ≤ (M : Int) * (X : Int) - (v : Int) * ((2 ^ 1074 : Nat) : Int) ∧ (M : Int) * (X : Int) - (v : Int) * ((2 ^ 1074 : Nat) : Int) ≤ (M : Int) * ((2 ^ 1020 : Nat) : Int) := by
  have := dist_int (K := M * 2 ^ 1020) (by rw [show M * 2 ^ 1021 = 2 * (M * 2 ^ 1020) by rw [show (1021 : Nat) = 1020 + 1 from rfl, Nat.pow_succ]; ac_rfl] at h; exact h)
  rw [Int.natCast_mul, Int.natCast_mul, Int.natCast_mul] at this
  exact this
theorem Col.sat3 (C : Col r g b R G B T) {M m : Nat} (h0 : 0 < m) (hlt : m < M) (h46 : M ≤ 2 ^ 46) (et : 2 * Float64.dist (m * 2 ^ 1074) (M * T) ≤ M * 2 ^ 1021) :
    ∃ X, Pos (add (mul (div (rangeF r g b) (add (fmax3 r g b) (fmin3 r g b))) (ofInt ((M + m : Nat) : Int))) fh) X ∧ X / 2 ^ 1074 = M - m := by
  obtain ⟨ρ, pρ, ρ1, ρ2, ρ3⟩ := C.range
  obtain ⟨σ, pσ, σ1, σ2, σ3, _, _⟩ := C.sum
  have hσ : 2 ^ 1074 ≤ σ := Nat.le_trans (Nat.le_add_right _ _) σ1
  have hσ0 : 0 < σ := Nat.lt_of_lt_of_le (Nat.two_pow_pos _) hσ
  have hρσ : ρ ≤ σ := Nat.le_trans ρ2 hσ
  obtain ⟨S, pS, _, hi, er⟩ := (div_is pρ pσ hσ0 (Nat.le_trans hρσ (Nat.le_mul_of_pos_right _ (Nat.two_pow_pos _)))).pos hσ0
  have S1 := hi 1 1074 (by decide) (by rw [Nat.one_mul]; exact Nat.mul_le_mul_right _ hρσ)
  rw [Nat.one_mul] at S1
  have S2 := er 1021 (Nat.mul_le_mul_right _ hρσ)
  clear hi er
  have pP := ofInt_pos (i := M + m) (by exact (Nat.not_lt.mp fun hq9 => lin (zs := []) (ns := [_, _]) [.ltN (.v 0) (.v 1), .leN (.v 1) (.n (2 ^ 46)), .ltN (.n (2 ^ 53)) (.a (.v 1) (.v 0))] [1, 2, 1] rfl hlt h46 hq9))
  have hb : S * ((M + m) * 2 ^ 1074) ≤ 2 ^ 1074 * 2 ^ 1121 := by
    refine Nat.mul_le_mul S1 ?_
    rw [show (1121 : Nat) = 47 + 1074 from rfl, Nat.pow_add]
    exact Nat.mul_le_mul_right _ (by exact (Nat.not_lt.mp fun hq9 => lin (zs := []) (ns := [_, _]) [.ltN (.v 0) (.v 1), .leN (.v 1) (.n (2 ^ 46)), .ltN (.n (2 ^ 47)) (.a (.v 1) (.v 0))] [1, 2, 1] rfl hlt h46 hq9))
  obtain ⟨μ, pμ, _, hi, er⟩ := (mul_is pS pP (Nat.le_trans hb (Nat.mul_le_mul_left _ (Nat.pow_le_pow_right (by decide) (by decide))))).pos (Nat.two_pow_pos _)
  have μ1 := hi 1 1121 (by decide) (by rw [Nat.one_mul]; exact hb)
  rw [Nat.one_mul] at μ1
  have μ2 := er 1068 hb
  clear hi er
  have hc : S * ((M + m) * 2 ^ 1074) = 2 ^ 1074 * (S * (M + m)) := by rw [← Nat.mul_assoc, Nat.mul_comm]
  rw [hc, dist_mul, Nat.mul_left_comm] at μ2
  have μ3 := Nat.le_of_mul_le_mul_left μ2 (Nat.two_pow_pos _)
  obtain ⟨ν, pν, _, _, er⟩ := (add_is pμ pos_fh (Nat.le_trans (Nat.add_le_add_right μ1 _) (by decide))).pos (by decide)
  have ν1 := er 1069 (by rw [Nat.one_mul]; exact Nat.le_trans (Nat.add_le_add_right μ1 _) (by decide))
  rw [Nat.one_mul, Nat.one_mul] at ν1
  refine ⟨ν, pν, ?_⟩
  obtain ⟨t1, t2⟩ := err_share et
  have hT := C.t1
  have r := dist_int (K := 2 ^ 1020) (by rw [← twice]; exact ρ3)
  have s := dist_int (K := 2 ^ (1 + 1020)) (by rw [← twice]; exact σ3)
  have d := dist_int (K := σ * 2 ^ 1020) (by rw [Nat.mul_left_comm, ← twice]; exact S2)
  have u := dist_int (K := 2 ^ (47 + 1020)) (by rw [← twice]; exact μ3)
  have n := dist_int (K := 2 ^ (48 + 1020)) (by rw [← twice]; exact ν1)
  have eh : ((2 ^ 1074 : Nat) : Int) = 2 * ((2 ^ 1073 : Nat) : Int) := by rw [show (1074 : Nat) = 1073 + 1 from rfl, twice]; rfl
  rw [Int.ofNat_sub (by exact (Nat.not_lt.mp fun hq9 => lin (zs := []) (ns := [_]) [.leN (.a (.v 0) (.n (2 ^ 1028))) (.n (2 ^ 1074)), .ltN (.n (2 ^ 1074)) (.v 0)] [1, 1] rfl hT hq9))] at r
  rw [Int.natCast_add (2 ^ 1074) T, pow_e] at s
  rw [Int.natCast_mul, Int.natCast_mul, Int.natCast_mul] at d
  rw [Int.natCast_mul, Int.natCast_add, pow_e] at u
  rw [Int.natCast_add, pow_e] at n
  have e1 := one_e
  have e0 := e_pos
  have S1' := Int.ofNat_le.mpr S1
  have σ2' : (σ : Int) ≤ 2 * ((2 ^ 1074 : Nat) : Int) := by rw [show (1075 : Nat) = 1074 + 1 from rfl, twice] at σ2; exact (Int.not_lt.mp fun hq9 => lin (zs := []) (ns := [_]) [.leN (.v 0) (.n (2 * 2 ^ 1074)), .lt (.m 2 (.c (.n (2 ^ 1074)))) (.c (.v 0))] [1, 1] rfl σ2 hq9)
  clear S1 S2 μ1 μ2 μ3 ν1 σ1 σ2 σ3 ρ1 ρ2 ρ3 hσ hb hc er hT C pS pσ pρ pμ pν pP et
  generalize hO : ((2 ^ 1074 : Nat) : Int) = o at *
  generalize ((2 ^ 1073 : Nat) : Int) = o2 at *
  generalize ((2 ^ 1020 : Nat) : Int) = e at *
  obtain ⟨k1, k2⟩ := sat_arith (e := e) (o := o) (M := M) (m := m) (T := T) (ρ := ρ) (σ := σ) (S := S) (μ := μ) (ν := ν) e0 e1 (by exact (Int.not_lt.mp fun hq9 => lin (zs := []) (ns := [_]) [.leN (.v 0) (.n (2 ^ 46)), .lt (.n 70368744177664) (.c (.v 0))] [1, 1] rfl h46 hq9)) (by exact (Int.not_le.mp fun hq9 => lin (zs := []) (ns := [_]) [.ltN (.n 0) (.v 0), .le (.c (.v 0)) (.n 0)] [1, 1] rfl h0 hq9)) (by exact (Int.not_le.mp fun hq9 => lin (zs := []) (ns := [_, _]) [.ltN (.v 0) (.v 1), .le (.c (.v 1)) (.c (.v 0))] [1, 1] rfl hlt hq9)) t1 t2 r.1 r.2 (by grind) (by grind) (by exact (Int.not_lt.mp fun hq9 => lin (zs := []) (ns := [_]) [.ltN (.n 0) (.v 0), .lt (.c (.v 0)) (.n 0)] [1, 1] rfl hσ0 hq9)) σ2' d.1 d.2 (by exact (Int.not_lt.mp fun hq9 => lin (zs := []) (ns := [_]) [.lt (.c (.v 0)) (.n 0)] [1] rfl hq9)) S1' (by grind) (by grind) (by lia) (by lia)
  refine Nat.div_eq_of_lt_le ?_ ?_
  · refine Int.ofNat_le.mp ?_
    rw [Int.natCast_mul, hO, Int.ofNat_sub (by exact (Nat.not_lt.mp fun hq9 => lin (zs := []) (ns := [_, _]) [.ltN (.v 0) (.v 1), .ltN (.v 1) (.v 0)] [1, 1] rfl hlt hq9))]
    exact k1
  · refine Int.ofNat_lt.mp ?_
    rw [Int.natCast_mul, hO, Int.natCast_add, Int.ofNat_sub (by exact (Nat.not_lt.mp fun hq9 => lin (zs := []) (ns := [_, _]) [.ltN (.v 0) (.v 1), .ltN (.v 1) (.v 0)] [1, 1] rfl hlt hq9))]
    exact k2
end
end Fl
end Mine
end

section
open PySem PySem.Float64
set_option maxRecDepth 100000
set_option exponentiation.threshold 3000
set_option linter.unusedVariables false
namespace Mine
namespace Fl
section
variable {r g b : UInt64} {R G B T : Nat}
theorem Col.share_near (C : Col r g b R G B T) {M m v : Nat} {x : UInt64} {X : Nat} (px : Pos x X) (hx : X ≤ 2 ^ 1074) (ht : T ≤ X) (hM : 0 < M) (et : 2 * Float64.dist (m * 2 ^ 1074) (M * T) ≤ M * 2 ^ 1021) (ex : 2 * Float64.dist (v * 2 ^ 1074) (M * X) ≤ M * 2 ^ 1021) :
    ∃ S, Pos (shareF r g b x) S ∧ S ≤ 2 ^ 1074 ∧ -(5 * ((M : Int) * ((2 ^ 1020 : Nat) : Int))) ≤ (S : Int) * ((M : Int) - m) - ((M : Int) - v) * ((2 ^ 1074 : Nat) : Int) ∧ (S : Int) * ((M : Int) - m) - ((M : Int) - v) * ((2 ^ 1074 : Nat) : Int) ≤ 5 * ((M : Int) * ((2 ^ 1020 : Nat) : Int)) := by
  obtain ⟨ρ, pρ, ρ1, ρ2, ρ3⟩ := C.range
  obtain ⟨N, S, pS, S1, N1, S2⟩ := C.share px hx ht pρ ρ1
  refine ⟨S, pS, S1, ?_⟩
  obtain ⟨t1, t2⟩ := err_share et
  obtain ⟨x1, x2⟩ := err_share ex
  have hT := C.t1
  have r := dist_int (K := 2 ^ 1020) (by rw [← twice]; exact ρ3)
  have n := dist_int (K := 2 ^ 1020) (by rw [← twice]; exact N1)
  have d := dist_int (K := ρ * 2 ^ 1020) (by rw [Nat.mul_left_comm, ← twice]; exact S2)
  rw [Int.ofNat_sub (by (first | exact (Nat.not_lt.mp fun hq9 => lin (zs := []) (ns := [_]) [.leN (.a (.v 0) (.n (2 ^ 1028))) (.n (2 ^ 1074)), .ltN (.n (2 ^ 1074)) (.v 0)] [1, 1] rfl hT hq9) | exact (Nat.not_lt.mp fun hq9 => lin (zs := []) (ns := [_]) [.leN (.v 0) (.n (2 ^ 1074)), .ltN (.n (2 ^ 1074)) (.v 0)] [1, 1] rfl hx hq9)))] at r n
  rw [Int.natCast_mul, Int.natCast_mul, Int.natCast_mul] at d
  have e1 := one_e
  have e0 := e_pos
  have S1' := Int.ofNat_le.mpr S1
  have ρ2' := Int.ofNat_le.mpr ρ2
  clear S1 S2 N1 ρ1 ρ2 ρ3 hT C pS pρ px et ex hx
  generalize hO : ((2 ^ 1074 : Nat) : Int) = o at *
  generalize ((2 ^ 1020 : Nat) : Int) = e at *
  exact share_arith (ρ := ρ) (N := N) e0 (by exact (Int.not_le.mp fun hq9 => lin (zs := [_]) (ns := []) [.eq (.c (.n (2 ^ 1074))) (.v 0), .le (.v 0) (.n 0)] [1, 1] rfl hO hq9)) (by exact (Int.not_le.mp fun hq9 => lin (zs := []) (ns := [_]) [.ltN (.n 0) (.v 0), .le (.c (.v 0)) (.n 0)] [1, 1] rfl hM hq9)) t1 t2 x1 x2 r.1 r.2 (by exact (Int.not_lt.mp fun hq9 => lin (zs := []) (ns := [_]) [.lt (.c (.v 0)) (.n 0)] [1] rfl hq9)) ρ2' n.1 n.2 d.1 d.2 (by exact (Int.not_lt.mp fun hq9 => lin (zs := []) (ns := [_]) [.lt (.c (.v 0)) (.n 0)] [1] rfl hq9)) S1'
theorem nat_bd {x : Int} {K : Nat} (h : 2 * x.natAbs ≤ 2 * K) : -(K : Int) ≤ x ∧ x ≤ K := by
  have a := Int.le_natAbs (a := x)
  have b := Int.le_natAbs (a := -x)
  rw [Int.natAbs_neg] at b
  exact ⟨by exact (Int.not_lt.mp fun hq9 => lin (zs := [_]) (ns := [_, _]) [.leN (.m 2 (.v 0)) (.m 2 (.v 1)), .le (.g (.v 0)) (.c (.v 0)), .lt (.v 0) (.g (.c (.v 1)))] [1, 2, 2] rfl h b hq9), by exact (Int.not_lt.mp fun hq9 => lin (zs := [_]) (ns := [_, _]) [.leN (.m 2 (.v 0)) (.m 2 (.v 1)), .le (.v 0) (.c (.v 0)), .lt (.c (.v 1)) (.v 0)] [1, 2, 2] rfl h a hq9)⟩
theorem Col.turn (C : Col r g b R G B T) {Sr Sg Sb : Nat} (pr : Pos (shareF r g b r) Sr) (pg : Pos (shareF r g b g) Sg) (pb : Pos (shareF r g b b) Sb) (hr : Sr ≤ 2 ^ 1074) (hg : Sg ≤ 2 ^ 1074) (hb : Sb ≤ 2 ^ 1074) :
    Fin (turnF r g b) ∧ ∃ κ a c : Int, -(16 * ((2 ^ 1020 : Nat) : Int)) ≤ val (turnF r g b) - (2 * κ * ((2 ^ 1074 : Nat) : Int) + a - c) ∧ val (turnF r g b) - (2 * κ * ((2 ^ 1074 : Nat) : Int) + a - c) ≤ 16 * ((2 ^ 1020 : Nat) : Int) ∧ 0 ≤ κ ∧ κ ≤ 2 ∧ 0 ≤ a ∧ a ≤ ((2 ^ 1074 : Nat) : Int) ∧ 0 ≤ c ∧ c ≤ ((2 ^ 1074 : Nat) : Int) ∧
      ((R = 2 ^ 1074 ∧ κ = 0 ∧ a = Sb ∧ c = Sg) ∨ (R ≠ 2 ^ 1074 ∧ G = 2 ^ 1074 ∧ κ = 1 ∧ a = Sr ∧ c = Sb) ∨ (R ≠ 2 ^ 1074 ∧ G ≠ 2 ^ 1074 ∧ κ = 2 ∧ a = Sg ∧ c = Sr)) := by
  have e1 := one_e
  have e0 := e_pos
  have hr' := Int.ofNat_le.mpr hr
  have hg' := Int.ofNat_le.mpr hg
  have hb' := Int.ofNat_le.mpr hb
  unfold turnF
  rw [C.max]
  by_cases h1 : R = 2 ^ 1074
  · rw [if_pos ((cmp_eq_iff C.pr pos_f1).mpr h1)]
    have k := sub_val pb.Fin pg.Fin (j := 0) (by decide) (by rw [pb.val, pg.val]; exact abs_le hb hg)
    rw [pb.val, pg.val] at k
    obtain ⟨k1, k2⟩ := k
    refine ⟨k1, 0, Sb, Sg, ?_⟩
    have k3 := nat_bd (K := 2 ^ 1020) (by rw [← twice]; exact k2)
    generalize hO : ((2 ^ 1074 : Nat) : Int) = o at *
    generalize ((2 ^ 1020 : Nat) : Int) = e at *
    exact ⟨by exact (Int.not_lt.mp fun hq9 => lin (zs := [_, _, _]) (ns := [_, _]) [.eq (.c (.n (2 ^ 1074))) (.v 0), .le (.g (.v 1)) (.s (.v 2) (.s (.c (.v 0)) (.c (.v 1)))), .eq (.v 0) (.m 18014398509481984 (.v 1)), .lt (.s (.v 2) (.s (.a (.m (2 * 0) (.v 0)) (.c (.v 0))) (.c (.v 1)))) (.g (.m 16 (.v 1)))] [15, 18014398509481984, 15, 18014398509481984] rfl hO k3.1 e1 hq9), by exact (Int.not_lt.mp fun hq9 => lin (zs := [_, _, _]) (ns := [_, _]) [.eq (.c (.n (2 ^ 1074))) (.v 0), .le (.s (.v 1) (.s (.c (.v 0)) (.c (.v 1)))) (.v 2), .eq (.v 0) (.m 18014398509481984 (.v 2)), .lt (.m 16 (.v 2)) (.s (.v 1) (.s (.a (.m (2 * 0) (.v 0)) (.c (.v 0))) (.c (.v 1))))] [15, 18014398509481984, 15, 18014398509481984] rfl hO k3.2 e1 hq9), by exact (Int.not_lt.mp fun hq9 => lin (zs := []) (ns := []) [.lt (.n 0) (.n 0)] [1] rfl hq9), by exact (Int.not_lt.mp fun hq9 => lin (zs := []) (ns := []) [.lt (.n 2) (.n 0)] [1] rfl hq9), by exact (Int.not_lt.mp fun hq9 => lin (zs := []) (ns := [_]) [.lt (.c (.v 0)) (.n 0)] [1] rfl hq9), by exact (Int.not_lt.mp fun hq9 => lin (zs := [_]) (ns := [_]) [.le (.c (.v 0)) (.v 0), .lt (.v 0) (.c (.v 0))] [1, 1] rfl hb' hq9), by exact (Int.not_lt.mp fun hq9 => lin (zs := []) (ns := [_]) [.lt (.c (.v 0)) (.n 0)] [1] rfl hq9), by exact (Int.not_lt.mp fun hq9 => lin (zs := [_]) (ns := [_]) [.le (.c (.v 0)) (.v 0), .lt (.v 0) (.c (.v 0))] [1, 1] rfl hg' hq9), .inl ⟨h1, rfl, rfl, rfl⟩⟩
  · rw [if_neg (fun e => h1 ((cmp_eq_iff C.pr pos_f1).mp e))]
    by_cases h2 : G = 2 ^ 1074
    · rw [if_pos ((cmp_eq_iff C.pg pos_f1).mpr h2)]
      obtain ⟨A, pA, _, hi, er⟩ := (add_is pos_f2 pr (by exact (Nat.not_lt.mp fun hq9 => lin (zs := []) (ns := [_]) [.leN (.v 0) (.n (2 ^ 1074)), .ltN (.n (2 ^ 1200)) (.a (.n (2 ^ 1075)) (.v 0))] [1, 1] rfl hr hq9))).pos (by decide)
      have A1 := hi 1 1076 (by decide) (by exact (Nat.not_lt.mp fun hq9 => lin (zs := []) (ns := [_]) [.leN (.v 0) (.n (2 ^ 1074)), .ltN (.n (1 * (1 * 2 ^ 1076))) (.a (.n (2 ^ 1075)) (.v 0))] [1, 1] rfl hr hq9))
      have A2 := er 1023 (by exact (Nat.not_lt.mp fun hq9 => lin (zs := []) (ns := [_]) [.leN (.v 0) (.n (2 ^ 1074)), .ltN (.n (1 * 2 ^ (1023 + 53))) (.a (.n (2 ^ 1075)) (.v 0))] [1, 1] rfl hr hq9))
      rw [Nat.one_mul] at A1
      rw [Nat.one_mul, Nat.one_mul] at A2
      clear hi er
      have k := sub_val pA.Fin pb.Fin (j := 2) (by decide) (by rw [pA.val, pb.val]; exact abs_le A1 (Nat.le_trans hb (Nat.pow_le_pow_right (by decide) (by decide))))
      rw [pA.val, pb.val] at k
      obtain ⟨k1, k2⟩ := k
      refine ⟨k1, 1, Sr, Sb, ?_⟩
      have k3 := nat_bd (K := 2 ^ (2 + 1020)) (by rw [← twice]; exact k2)
      have k4 := dist_int (K := 2 ^ (2 + 1020)) (by rw [← twice]; exact A2)
      rw [pow_e] at k3 k4
      rw [Int.natCast_add, show (1075 : Nat) = 1074 + 1 from rfl, twice] at k4
      rw [show ((2 * 2 ^ 1074 : Nat) : Int) = 2 * ((2 ^ 1074 : Nat) : Int) from Int.natCast_mul _ _] at k4
      clear A1 A2 hr hg hb
      generalize hO : ((2 ^ 1074 : Nat) : Int) = o at *
      generalize ((2 ^ 1020 : Nat) : Int) = e at *
      exact ⟨by lia, by lia, by exact (Int.not_lt.mp fun hq9 => lin (zs := []) (ns := []) [.lt (.n 1) (.n 0)] [1] rfl hq9), by exact (Int.not_lt.mp fun hq9 => lin (zs := []) (ns := []) [.lt (.n 2) (.n 1)] [1] rfl hq9), by exact (Int.not_lt.mp fun hq9 => lin (zs := []) (ns := [_]) [.lt (.c (.v 0)) (.n 0)] [1] rfl hq9), by exact (Int.not_lt.mp fun hq9 => lin (zs := [_]) (ns := [_]) [.le (.c (.v 0)) (.v 0), .lt (.v 0) (.c (.v 0))] [1, 1] rfl hr' hq9), by exact (Int.not_lt.mp fun hq9 => lin (zs := []) (ns := [_]) [.lt (.c (.v 0)) (.n 0)] [1] rfl hq9), by exact (Int.not_lt.mp fun hq9 => lin (zs := [_]) (ns := [_]) [.le (.c (.v 0)) (.v 0), .lt (.v 0) (.c (.v 0))] [1, 1] rfl hb' hq9), .inr (.inl ⟨h1, h2, rfl, rfl, rfl⟩)⟩
    · rw [if_neg (fun e => h2 ((cmp_eq_iff C.pg pos_f1).mp e))]
      obtain ⟨A, pA, _, hi, er⟩ := (add_is pos_f4 pg (by exact (Nat.not_lt.mp fun hq9 => lin (zs := []) (ns := [_]) [.leN (.v 0) (.n (2 ^ 1074)), .ltN (.n (2 ^ 1200)) (.a (.n (2 ^ 1076)) (.v 0))] [1, 1] rfl hg hq9))).pos (by decide)
      have A1 := hi 1 1077 (by decide) (by exact (Nat.not_lt.mp fun hq9 => lin (zs := []) (ns := [_]) [.leN (.v 0) (.n (2 ^ 1074)), .ltN (.n (1 * (1 * 2 ^ 1077))) (.a (.n (2 ^ 1076)) (.v 0))] [1, 1] rfl hg hq9))
      have A2 := er 1024 (by exact (Nat.not_lt.mp fun hq9 => lin (zs := []) (ns := [_]) [.leN (.v 0) (.n (2 ^ 1074)), .ltN (.n (1 * 2 ^ (1024 + 53))) (.a (.n (2 ^ 1076)) (.v 0))] [1, 1] rfl hg hq9))
      rw [Nat.one_mul] at A1
      rw [Nat.one_mul, Nat.one_mul] at A2
      clear hi er
      have k := sub_val pA.Fin pr.Fin (j := 3) (by decide) (by rw [pA.val, pr.val]; exact abs_le A1 (Nat.le_trans hr (Nat.pow_le_pow_right (by decide) (by decide))))
      rw [pA.val, pr.val] at k
      obtain ⟨k1, k2⟩ := k
      refine ⟨k1, 2, Sg, Sr, ?_⟩
      have k3 := nat_bd (K := 2 ^ (3 + 1020)) (by rw [← twice]; exact k2)
      have k4 := dist_int (K := 2 ^ (3 + 1020)) (by rw [← twice]; exact A2)
      rw [pow_e] at k3 k4
      rw [Int.natCast_add, show (1076 : Nat) = 1074 + 1 + 1 from rfl, twice, twice] at k4
      rw [show ((2 * (2 * 2 ^ 1074) : Nat) : Int) = 2 * (2 * ((2 ^ 1074 : Nat) : Int)) by rw [Int.natCast_mul, Int.natCast_mul]; rfl] at k4
      clear A1 A2 hr hg hb
      generalize hO : ((2 ^ 1074 : Nat) : Int) = o at *
      generalize ((2 ^ 1020 : Nat) : Int) = e at *
      exact ⟨by lia, by lia, by exact (Int.not_lt.mp fun hq9 => lin (zs := []) (ns := []) [.lt (.n 2) (.n 0)] [1] rfl hq9), by exact (Int.not_lt.mp fun hq9 => lin (zs := []) (ns := []) [.lt (.n 2) (.n 2)] [1] rfl hq9), by exact (Int.not_lt.mp fun hq9 => lin (zs := []) (ns := [_]) [.lt (.c (.v 0)) (.n 0)] [1] rfl hq9), by exact (Int.not_lt.mp fun hq9 => lin (zs := [_]) (ns := [_]) [.le (.c (.v 0)) (.v 0), .lt (.v 0) (.c (.v 0))] [1, 1] rfl hg' hq9), by exact (Int.not_lt.mp fun hq9 => lin (zs := []) (ns := [_]) [.lt (.c (.v 0)) (.n 0)] [1] rfl hq9), by exact (Int.not_lt.mp fun hq9 => lin (zs := [_]) (ns := [_]) [.le (.c (.v 0)) (.v 0), .lt (.v 0) (.c (.v 0))] [1, 1] rfl hr' hq9), .inr (.inr ⟨h1, h2, rfl, rfl, rfl⟩)⟩
end
theorem fmod_self {x : UInt64} (h : Fin x) (hb : (val x).natAbs < 2 ^ 1074) : fmod x f1 = x := by
  obtain ⟨a, m, e, h⟩ := h
  obtain ⟨k, f, h1, hv1⟩ := pos_f1.fin
  have he := decode_ge h
  have hf := decode_ge h1
  have hk : k ≠ 0 := by rintro rfl; rw [Nat.zero_mul] at hv1; exact absurd hv1 (by decide)
  have hv := val_natAbs h
  unfold fmod
  rw [h, h1]
  simp only
  rw [if_neg (by simpa using hk)]
  unfold align
  have e1 : (sgn false (m * 2 ^ (e - min e f).toNat)).toNat = m * 2 ^ (e - min e f).toNat := rfl
  have e2 : (sgn false (k * 2 ^ (f - min e f).toNat)).toNat = k * 2 ^ (f - min e f).toNat := rfl
  simp only [e1, e2]
  have p1 : m * 2 ^ (e - min e f).toNat * 2 ^ (min e f + 1074).toNat = (val x).natAbs := by
    rw [hv, Nat.mul_assoc, ← Nat.pow_add, min_to he hf]
  have p2 : k * 2 ^ (f - min e f).toNat * 2 ^ (min e f + 1074).toNat = 2 ^ 1074 := by
    rw [← hv1, Nat.mul_assoc, ← Nat.pow_add, min_to' he hf]
  have hlt : m * 2 ^ (e - min e f).toNat < k * 2 ^ (f - min e f).toNat := by
    refine Nat.lt_of_mul_lt_mul_right (a := 2 ^ (min e f + 1074).toNat) ?_
    rw [p1, p2]; exact hb
  rw [Nat.mod_eq_of_lt hlt]
  obtain ⟨t, rfl, ht⟩ := pack_of_fin h
  have hvt : (val (pack a t)).natAbs = V t := by rw [val_pack a ht, sgn_natAbs]
  have hs := shift_one (m * 2 ^ (e - min e f).toNat) (min e f) 1074 (le_min he hf)
  rw [show (min e f + ((1074 : Nat) : Int)).toNat = (min e f + 1074).toNat from rfl, p1, hvt] at hs
  have hd := shift_pos (m * 2 ^ (e - min e f).toNat) 1 (min e f) (by decide)
  obtain ⟨q1, q2⟩ := near_of (n := (shift (m * 2 ^ (e - min e f).toNat) 1 (min e f)).1) (k := 1074) (W := V t) (D := 1) hd (by decide) (by rw [hs, Nat.mul_one]) (by rw [Nat.one_mul, ← hvt]; exact Nat.le_of_lt hb) (by decide)
  have eb : ofBin a (m * 2 ^ (e - min e f).toNat) (min e f) = ofFrac a (shift (m * 2 ^ (e - min e f).toNat) 1 (min e f)).1 (shift (m * 2 ^ (e - min e f).toNat) 1 (min e f)).2 := by unfold ofBin; rfl
  rw [eb]
  unfold ofFrac
  exact congrArg (pack a) (near_exact (by decide) q2 (t₀ := t) (Nat.one_mul _).symm)
end Fl
end Mine
end

section
open PySem PySem.Float64
set_option maxRecDepth 100000
set_option exponentiation.threshold 3000
set_option linter.unusedVariables false
namespace Mine
namespace Fl
theorem divmod_two (x : UInt64) : (divmod x f1).2 = if isZero (fmod x f1) = true then 0 else if lt (fmod x f1) (zero false) = true then add (fmod x f1) f1 else fmod x f1 := by
  have e1 : copysign (zero false) f1 = 0 := by decide +kernel
  have e2 : lt f1 (zero false) = false := by decide +kernel
  unfold divmod
  simp only [e1, e2]
  by_cases h1 : isZero (fmod x f1) = true
  · rw [if_pos h1, if_pos h1]
  · rw [if_neg h1, if_neg h1]
    by_cases h2 : lt (fmod x f1) (zero false) = true
    · rw [if_pos (by rw [h2]; decide), if_pos h2]
    · rw [if_neg (by rw [Bool.eq_false_iff.mpr h2]; decide), if_neg h2]
theorem zero_val {x : UInt64} (h : Float64.isZero x = true) : val x = 0 := by
  unfold Float64.isZero at h
  unfold val
  split at h
  · rename_i a e hd
    rw [hd]
    simp only [Nat.zero_mul]
    cases a <;> rfl
  · cases h
theorem lt_zero {x : UInt64} (h : Fin x) : Float64.lt x (zero false) = true ↔ val x < 0 := by
  obtain ⟨a, m, e, h⟩ := h
  unfold Float64.lt
  rw [cmp_right h (show decode (zero false) = .fin false 0 (-1074) from PySem.Flt.decode_zero), beq_iff_eq, Option.some.injEq, Int.compare_eq_lt]
  have : val (zero false) = 0 := pos_zero.val
  rw [this]
theorem hue_of {τ : UInt64} (h : Fin τ) (lo : -(2 * ((2 ^ 1074 : Nat) : Int)) ≤ val τ) (hi : val τ ≤ 5 * ((2 ^ 1074 : Nat) : Int) + 16 * ((2 ^ 1020 : Nat) : Int)) :
    Fin (divmod (div τ f6) f1).2 ∧ 0 ≤ val (divmod (div τ f6) f1).2 ∧ val (divmod (div τ f6) f1).2 ≤ ((2 ^ 1074 : Nat) : Int) + 2 * ((2 ^ 1020 : Nat) : Int) ∧
      ∃ q k : Int, (k = 0 ∨ k = 1) ∧ -(6 * ((2 ^ 1020 : Nat) : Int)) ≤ 6 * q - val τ ∧ 6 * q - val τ ≤ 6 * ((2 ^ 1020 : Nat) : Int) ∧
        -(2 * ((2 ^ 1020 : Nat) : Int)) ≤ val (divmod (div τ f6) f1).2 - (q + k * ((2 ^ 1074 : Nat) : Int)) ∧ val (divmod (div τ f6) f1).2 - (q + k * ((2 ^ 1074 : Nat) : Int)) ≤ 2 * ((2 ^ 1020 : Nat) : Int) := by
  have e1 := one_e
  have e0 := e_pos
  have v6 : val f6 = 6 * ((2 ^ 1074 : Nat) : Int) := by rw [pos_f6.val, show (1075 : Nat) = 1074 + 1 from rfl, twice, Int.natCast_mul, Int.natCast_mul, ← Int.mul_assoc]; rfl
  have k := div_val h pos_f6.Fin (by rw [v6]; exact (fun hq9 => lin (zs := []) (ns := []) [.eq (.m 6 (.c (.n (2 ^ 1074)))) (.n 0)] [1] rfl hq9)) (j := 0) (by decide) (by
    rw [v6]
    have : (val τ).natAbs ≤ 6 * 2 ^ 1074 := abs_in (by rw [Int.natCast_mul]; exact (Int.not_lt.mp fun hq9 => lin (zs := [_]) (ns := []) [.le (.g (.m 2 (.c (.n (2 ^ 1074))))) (.v 0), .lt (.v 0) (.g (.m (((6 : Nat) : Int)) (.c (.n (2 ^ 1074)))))] [1, 1] rfl lo hq9)) (by rw [Int.natCast_mul]; exact (Int.not_lt.mp fun hq9 => lin (zs := [_]) (ns := []) [.le (.v 0) (.a (.m 5 (.c (.n (2 ^ 1074)))) (.m 16 (.c (.n (2 ^ 1020))))), .lt (.m (((6 : Nat) : Int)) (.c (.n (2 ^ 1074)))) (.v 0)] [1, 1] rfl hi hq9))
    exact Nat.mul_le_mul_right _ this)
  rw [v6] at k
  obtain ⟨k1, k2⟩ := k
  generalize hq : div τ f6 = Q at *
  have k3 : -(6 * ((2 ^ 1020 : Nat) : Int)) ≤ 6 * val Q - val τ ∧ 6 * val Q - val τ ≤ 6 * ((2 ^ 1020 : Nat) : Int) := by
    have ek : val Q * (6 * ((2 ^ 1074 : Nat) : Int)) - val τ * ((2 ^ 1074 : Nat) : Int) = (6 * val Q - val τ) * ((2 ^ 1074 : Nat) : Int) := by grind
    rw [ek, Int.natAbs_mul, Int.natAbs_mul, Int.natAbs_natCast] at k2
    have k4 : 2 ^ 1074 * (2 * (6 * val Q - val τ).natAbs) ≤ 2 ^ 1074 * (2 * (6 * 2 ^ 1020)) := by
      rw [show (2 : Nat) ^ (0 + 1021) = 2 * 2 ^ 1020 from twice (k := 1020)] at k2
      have e6 : (6 : Int).natAbs = 6 := rfl
      rw [e6] at k2
      generalize (2 : Nat) ^ 1074 = K at *
      generalize (2 : Nat) ^ 1020 = L at *
      generalize (6 * val Q - val τ).natAbs = Z at *
      have a1 : K * (2 * Z) = 2 * (Z * K) := by ac_rfl
      have a2 : K * (2 * (6 * L)) = 6 * K * (2 * L) := by ac_rfl
      rw [a1, a2]; exact k2
    have k5 := Nat.le_of_mul_le_mul_left k4 (Nat.two_pow_pos _)
    have k6 := nat_bd k5
    rw [Int.natCast_mul] at k6
    exact k6
  have hb : (val Q).natAbs < 2 ^ 1074 := Nat.lt_of_le_of_lt (abs_in (K := 2 ^ 1074 - 1) (by rw [Int.ofNat_sub (Nat.two_pow_pos _)]; lia) (by rw [Int.ofNat_sub (Nat.two_pow_pos _)]; lia)) (Nat.sub_lt (Nat.two_pow_pos _) Nat.one_pos)
  rw [divmod_two, fmod_self k1 hb]
  by_cases z : isZero Q = true
  · rw [if_pos z]
    have hz := zero_val z
    have h0 : val 0 = 0 := pos_zero.val
    rw [h0]
    refine ⟨pos_zero.Fin, by exact (Int.not_lt.mp fun hq9 => lin (zs := []) (ns := []) [.lt (.n 0) (.n 0)] [1] rfl hq9), by exact (Int.not_lt.mp fun hq9 => lin (zs := []) (ns := []) [.lt (.a (.c (.n (2 ^ 1074))) (.m 2 (.c (.n (2 ^ 1020))))) (.n 0)] [1] rfl hq9), val Q, 0, .inl rfl, k3.1, k3.2, by exact (Int.not_lt.mp fun hq9 => lin (zs := [_]) (ns := []) [.eq (.v 0) (.n 0), .lt (.s (.n 0) (.a (.v 0) (.m 0 (.c (.n (2 ^ 1074)))))) (.g (.m 2 (.c (.n (2 ^ 1020)))))] [1, 1] rfl hz hq9), by exact (Int.not_lt.mp fun hq9 => lin (zs := [_]) (ns := []) [.eq (.v 0) (.n 0), .lt (.m 2 (.c (.n (2 ^ 1020)))) (.s (.n 0) (.a (.v 0) (.m 0 (.c (.n (2 ^ 1074))))))] [-1, 1] rfl hz hq9)⟩
  · rw [if_neg z]
    by_cases n : lt Q (zero false) = true
    · rw [if_pos n]
      have hn := (lt_zero k1).mp n
      have a := add_val k1 pos_f1.Fin (j := 1) (by decide) (by rw [pos_f1.val]; exact abs_in (Int.le_trans (Int.neg_nonpos_of_nonneg (Int.natCast_nonneg _)) (by exact (Int.not_lt.mp fun hq9 => lin (zs := [_, _]) (ns := []) [.le (.g (.m 2 (.c (.n (2 ^ 1074))))) (.v 0), .le (.g (.m 6 (.c (.n (2 ^ 1020))))) (.s (.m 6 (.v 1)) (.v 0)), .lt (.a (.v 1) (.c (.n (2 ^ 1074)))) (.n 0)] [1, 1, 6] rfl lo k3.1 hq9))) (Int.le_trans (b := ((2 ^ 1074 : Nat) : Int)) (by exact (Int.not_lt.mp fun hq9 => lin (zs := [_]) (ns := []) [.lt (.v 0) (.n 0), .lt (.c (.n (2 ^ 1074))) (.a (.v 0) (.c (.n (2 ^ 1074))))] [1, 1] rfl hn hq9)) (Int.ofNat_le.mpr (Nat.pow_le_pow_right (by decide) (by decide)))))
      rw [pos_f1.val] at a
      obtain ⟨a1, a2⟩ := a
      have a3 := nat_bd (K := 2 ^ (1 + 1020)) (by rw [← twice]; exact a2)
      rw [pow_e] at a3
      refine ⟨a1, ?_, ?_, val Q, 1, .inr rfl, k3.1, k3.2, ?_, ?_⟩
      all_goals clear hb k2 a2
      all_goals (generalize hO : ((2 ^ 1074 : Nat) : Int) = o at *)
      all_goals (generalize ((2 ^ 1020 : Nat) : Int) = e at *)
      · exact (Int.not_lt.mp fun hq9 => lin (zs := [_, _, _, _, _]) (ns := []) [.eq (.c (.n (2 ^ 1074))) (.v 0), .le (.g (.m 2 (.v 0))) (.v 1), .le (.g (.m 6 (.v 2))) (.s (.m 6 (.v 3)) (.v 1)), .eq (.v 0) (.m 18014398509481984 (.v 2)), .le (.g (.m (((2 ^ 1 : Nat) : Int)) (.v 2))) (.s (.v 4) (.a (.v 3) (.v 0))), .lt (.v 4) (.n 0)] [36028797018963959, 9007199254740992, 9007199254740992, -9, 54043195528445952, 54043195528445952] rfl hO lo k3.1 e1 a3.1 hq9)
      · exact (Int.not_lt.mp fun hq9 => lin (zs := [_, _, _, _]) (ns := []) [.lt (.v 0) (.n 0), .le (.s (.v 1) (.a (.v 0) (.v 2))) (.m (((2 ^ 1 : Nat) : Int)) (.v 3)), .lt (.a (.v 2) (.m 2 (.v 3))) (.v 1)] [1, 1, 1] rfl hn a3.2 hq9)
      · exact (Int.not_lt.mp fun hq9 => lin (zs := [_, _, _, _]) (ns := []) [.le (.g (.m (((2 ^ 1 : Nat) : Int)) (.v 0))) (.s (.v 1) (.a (.v 2) (.v 3))), .lt (.s (.v 1) (.a (.v 2) (.m 1 (.v 3)))) (.g (.m 2 (.v 0)))] [1, 1] rfl a3.1 hq9)
      · exact (Int.not_lt.mp fun hq9 => lin (zs := [_, _, _, _]) (ns := []) [.le (.s (.v 0) (.a (.v 1) (.v 2))) (.m (((2 ^ 1 : Nat) : Int)) (.v 3)), .lt (.m 2 (.v 3)) (.s (.v 0) (.a (.v 1) (.m 1 (.v 2))))] [1, 1] rfl a3.2 hq9)
    · rw [if_neg n]
      have hn : ¬ val Q < 0 := fun h => n ((lt_zero k1).mpr h)
      refine ⟨k1, by exact (Int.not_lt.mp fun hq9 => lin (zs := [_]) (ns := []) [.le (.n 0) (.v 0), .lt (.v 0) (.n 0)] [1, 1] rfl (Int.not_lt.mp hn) hq9), by exact (Int.not_lt.mp fun hq9 => lin (zs := [_, _]) (ns := []) [.le (.v 0) (.a (.m 5 (.c (.n (2 ^ 1074)))) (.m 16 (.c (.n (2 ^ 1020))))), .le (.s (.m 6 (.v 1)) (.v 0)) (.m 6 (.c (.n (2 ^ 1020)))), .lt (.a (.c (.n (2 ^ 1074))) (.m 2 (.c (.n (2 ^ 1020))))) (.v 1)] [1, 1, 6] rfl hi k3.2 hq9), val Q, 0, .inl rfl, k3.1, k3.2, by exact (Int.not_lt.mp fun hq9 => lin (zs := [_]) (ns := []) [.lt (.s (.v 0) (.a (.v 0) (.m 0 (.c (.n (2 ^ 1074)))))) (.g (.m 2 (.c (.n (2 ^ 1020)))))] [1] rfl hq9), by exact (Int.not_lt.mp fun hq9 => lin (zs := [_]) (ns := []) [.lt (.m 2 (.c (.n (2 ^ 1020)))) (.s (.v 0) (.a (.v 0) (.m 0 (.c (.n (2 ^ 1074))))))] [1] rfl hq9)⟩
/-- the hue in thirds of 2^30, and a half -/
theorem scaled_of {h : UInt64} (f : Fin h) (lo : 0 ≤ val h) (hi : val h ≤ ((2 ^ 1074 : Nat) : Int) + 2 * ((2 ^ 1020 : Nat) : Int)) :
    ∃ h3 h4 : Int, -(4 * ((2 ^ 1020 : Nat) : Int)) ≤ h3 - 3 * val h ∧ h3 - 3 * val h ≤ 4 * ((2 ^ 1020 : Nat) : Int) ∧
      -(4294967296 * ((2 ^ 1020 : Nat) : Int)) ≤ h4 - 1073741824 * h3 ∧ h4 - 1073741824 * h3 ≤ 4294967296 * ((2 ^ 1020 : Nat) : Int) ∧
      Fin (add (mul (mul h 4613937818241073152) (ofInt (2 ^ Int.toNat 30))) fh) ∧
      -(2 * (4294967296 * ((2 ^ 1020 : Nat) : Int))) ≤ 2 * val (add (mul (mul h 4613937818241073152) (ofInt (2 ^ Int.toNat 30))) fh) - (2 * h4 + ((2 ^ 1074 : Nat) : Int)) ∧
      2 * val (add (mul (mul h 4613937818241073152) (ofInt (2 ^ Int.toNat 30))) fh) - (2 * h4 + ((2 ^ 1074 : Nat) : Int)) ≤ 2 * (4294967296 * ((2 ^ 1020 : Nat) : Int)) := by
  have e1 := one_e
  have e0 := e_pos
  have cancel : ∀ {x y : Int} {c k : Nat}, 2 * (x * ((2 ^ 1074 : Nat) : Int) - y * ((c : Int) * ((2 ^ 1074 : Nat) : Int))).natAbs ≤ 2 ^ 1074 * 2 ^ (k + 1020 + 1) → -(((2 ^ k : Nat) : Int) * ((2 ^ 1020 : Nat) : Int)) ≤ x - y * c ∧ x - y * c ≤ ((2 ^ k : Nat) : Int) * ((2 ^ 1020 : Nat) : Int) := by
    intro x y c k h
    have ek : x * ((2 ^ 1074 : Nat) : Int) - y * ((c : Int) * ((2 ^ 1074 : Nat) : Int)) = (x - y * c) * ((2 ^ 1074 : Nat) : Int) := by grind
    rw [ek, Int.natAbs_mul, Int.natAbs_natCast, twice (k := k + 1020)] at h
    have h2 : 2 ^ 1074 * (2 * (x - y * c).natAbs) ≤ 2 ^ 1074 * (2 * 2 ^ (k + 1020)) := by
      generalize (2 : Nat) ^ 1074 = K at *
      rw [show K * (2 * (x - y * (c : Int)).natAbs) = 2 * ((x - y * (c : Int)).natAbs * K) by ac_rfl]
      exact h
    have h3 := nat_bd (Nat.le_of_mul_le_mul_left h2 (Nat.two_pow_pos _))
    rw [pow_e] at h3
    exact h3
  have v3 : val 4613937818241073152 = ((3 : Nat) : Int) * ((2 ^ 1074 : Nat) : Int) := by rw [pos_f3.val, Int.natCast_mul]
  have hI : (2 ^ Int.toNat 30 : Int) = ((2 ^ 30 : Nat) : Int) := by decide
  have pI := ofInt_pos (i := 2 ^ 30) (by decide)
  have vI : val (ofInt (2 ^ Int.toNat 30)) = ((2 ^ 30 : Nat) : Int) * ((2 ^ 1074 : Nat) : Int) := by rw [hI, pI.val, Int.natCast_mul]
  have a := mul_val f pos_f3.Fin (j := 2) (by decide) (by
    rw [v3, Int.natAbs_mul, Int.natAbs_natCast, Int.natAbs_natCast, show 2 + 1021 + 53 = 2 + 1074 from rfl, Nat.pow_add 2 2 1074, ← Nat.mul_assoc, ← Nat.mul_assoc]
    refine Nat.mul_le_mul_right _ ?_
    have : (val h).natAbs ≤ 2 ^ 1074 + 2 * 2 ^ 1020 := abs_in (by rw [Int.natCast_add, Int.natCast_mul]; exact (Int.not_lt.mp fun hq9 => lin (zs := [_]) (ns := []) [.le (.n 0) (.v 0), .lt (.v 0) (.g (.a (.c (.n (2 ^ 1074))) (.m (((2 : Nat) : Int)) (.c (.n (2 ^ 1020))))))] [1, 1] rfl lo hq9)) (by rw [Int.natCast_add, Int.natCast_mul]; exact (Int.not_lt.mp fun hq9 => lin (zs := [_]) (ns := []) [.le (.v 0) (.a (.c (.n (2 ^ 1074))) (.m 2 (.c (.n (2 ^ 1020))))), .lt (.a (.c (.n (2 ^ 1074))) (.m (((2 : Nat) : Int)) (.c (.n (2 ^ 1020))))) (.v 0)] [1, 1] rfl hi hq9))
    have : (val h).natAbs * 3 ≤ 2 ^ 1074 * 2 ^ 2 := Nat.le_trans (Nat.mul_le_mul_right 3 this) (by decide +kernel)
    exact this)
  obtain ⟨a1, a2⟩ := a
  rw [v3] at a2
  have a3 := cancel (c := 3) (k := 2) a2
  generalize mul h 4613937818241073152 = H3 at *
  have b0 : (val H3).natAbs ≤ 2 ^ 1076 := by
    refine Nat.le_trans (abs_in (K := 4 * 2 ^ 1074) (by rw [Int.natCast_mul]; exact (Int.not_lt.mp fun hq9 => lin (zs := [_, _]) (ns := []) [.le (.n 0) (.v 0), .le (.g (.m (((2 ^ 2 : Nat) : Int)) (.c (.n (2 ^ 1020))))) (.s (.v 1) (.r (.v 0) (((3 : Nat) : Int)))), .lt (.v 1) (.g (.m (((4 : Nat) : Int)) (.c (.n (2 ^ 1074)))))] [3, 1, 1] rfl lo a3.1 hq9)) (by rw [Int.natCast_mul]; exact (Int.not_lt.mp fun hq9 => lin (zs := [_, _]) (ns := []) [.le (.v 0) (.a (.c (.n (2 ^ 1074))) (.m 2 (.c (.n (2 ^ 1020))))), .le (.s (.v 1) (.r (.v 0) (((3 : Nat) : Int)))) (.m (((2 ^ 2 : Nat) : Int)) (.c (.n (2 ^ 1020)))), .lt (.m (((4 : Nat) : Int)) (.c (.n (2 ^ 1074)))) (.v 1)] [3, 1, 1] rfl hi a3.2 hq9))) (by decide +kernel)
  have b := mul_val a1 (show Fin (ofInt (2 ^ Int.toNat 30)) by rw [hI]; exact pI.Fin) (j := 32) (by decide) (by
    rw [vI, Int.natAbs_mul, Int.natAbs_natCast, Int.natAbs_natCast]
    refine Nat.le_trans (Nat.mul_le_mul_right _ b0) (by decide +kernel))
  obtain ⟨b1, b2⟩ := b
  rw [vI] at b2
  have b3 := cancel (c := 2 ^ 30) (k := 32) b2
  generalize mul H3 (ofInt (2 ^ Int.toNat 30)) = H4 at *
  have c0 : (val H4 + val fh).natAbs ≤ 2 ^ (32 + 1021 + 53) := by
    rw [pos_fh.val]
    have eh : ((2 ^ 1074 : Nat) : Int) = 2 * ((2 ^ 1073 : Nat) : Int) := by rw [show (1074 : Nat) = 1073 + 1 from rfl, twice]; rfl
    refine Nat.le_trans (abs_in (K := 4294967296 * 2 ^ 1074) (by rw [Int.natCast_mul]; exact (Int.not_lt.mp fun hq9 => lin (zs := [_, _, _]) (ns := []) [.le (.n 0) (.v 0), .le (.g (.m (((2 ^ 2 : Nat) : Int)) (.c (.n (2 ^ 1020))))) (.s (.v 1) (.r (.v 0) (((3 : Nat) : Int)))), .le (.g (.m (((2 ^ 32 : Nat) : Int)) (.c (.n (2 ^ 1020))))) (.s (.v 2) (.r (.v 1) (((2 ^ 30 : Nat) : Int)))), .lt (.a (.v 2) (.c (.n (2 ^ 1073)))) (.g (.m (((4294967296 : Nat) : Int)) (.c (.n (2 ^ 1074)))))] [3221225472, 1073741824, 1, 1] rfl lo a3.1 b3.1 hq9)) (by rw [Int.natCast_mul]; exact (Int.not_lt.mp fun hq9 => lin (zs := [_, _, _]) (ns := []) [.le (.v 0) (.a (.c (.n (2 ^ 1074))) (.m 2 (.c (.n (2 ^ 1020))))), .le (.s (.v 1) (.r (.v 0) (((3 : Nat) : Int)))) (.m (((2 ^ 2 : Nat) : Int)) (.c (.n (2 ^ 1020)))), .le (.s (.v 2) (.r (.v 1) (((2 ^ 30 : Nat) : Int)))) (.m (((2 ^ 32 : Nat) : Int)) (.c (.n (2 ^ 1020)))), .lt (.m (((4294967296 : Nat) : Int)) (.c (.n (2 ^ 1074)))) (.a (.v 2) (.c (.n (2 ^ 1073))))] [3221225472, 1073741824, 1, 1] rfl hi a3.2 b3.2 hq9))) (by decide +kernel)
  obtain ⟨c1, c2⟩ := add_val b1 pos_fh.Fin (j := 32) (by decide) c0
  have c3 := nat_bd (K := 2 ^ (32 + 1020)) (by rw [← twice]; exact c2)
  rw [pow_e, pos_fh.val] at c3
  have eh : ((2 ^ 1074 : Nat) : Int) = 2 * ((2 ^ 1073 : Nat) : Int) := by rw [show (1074 : Nat) = 1073 + 1 from rfl, twice]; rfl
  refine ⟨val H3, val H4, ?_, ?_, ?_, ?_, c1, ?_, ?_⟩
  all_goals clear cancel a2 b2 c0 c2 b0
  all_goals (generalize ((2 ^ 1073 : Nat) : Int) = o2 at *)
  all_goals (generalize ((2 ^ 1074 : Nat) : Int) = o at *)
  all_goals (generalize ((2 ^ 1020 : Nat) : Int) = e at *)
  · exact (Int.not_lt.mp fun hq9 => lin (zs := [_, _, _]) (ns := []) [.le (.g (.m (((2 ^ 2 : Nat) : Int)) (.v 0))) (.s (.v 1) (.r (.v 2) (((3 : Nat) : Int)))), .lt (.s (.v 1) (.m 3 (.v 2))) (.g (.m 4 (.v 0)))] [1, 1] rfl a3.1 hq9)
  · exact (Int.not_lt.mp fun hq9 => lin (zs := [_, _, _]) (ns := []) [.le (.s (.v 0) (.r (.v 1) (((3 : Nat) : Int)))) (.m (((2 ^ 2 : Nat) : Int)) (.v 2)), .lt (.m 4 (.v 2)) (.s (.v 0) (.m 3 (.v 1)))] [1, 1] rfl a3.2 hq9)
  · exact (Int.not_lt.mp fun hq9 => lin (zs := [_, _, _]) (ns := []) [.le (.g (.m (((2 ^ 32 : Nat) : Int)) (.v 0))) (.s (.v 1) (.r (.v 2) (((2 ^ 30 : Nat) : Int)))), .lt (.s (.v 1) (.m 1073741824 (.v 2))) (.g (.m 4294967296 (.v 0)))] [1, 1] rfl b3.1 hq9)
  · exact (Int.not_lt.mp fun hq9 => lin (zs := [_, _, _]) (ns := []) [.le (.s (.v 0) (.r (.v 1) (((2 ^ 30 : Nat) : Int)))) (.m (((2 ^ 32 : Nat) : Int)) (.v 2)), .lt (.m 4294967296 (.v 2)) (.s (.v 0) (.m 1073741824 (.v 1)))] [1, 1] rfl b3.2 hq9)
  · exact (Int.not_lt.mp fun hq9 => lin (zs := [_, _, _, _, _]) (ns := []) [.eq (.v 0) (.m 2 (.v 1)), .le (.g (.m (((2 ^ 32 : Nat) : Int)) (.v 2))) (.s (.v 3) (.a (.v 4) (.v 1))), .lt (.s (.m 2 (.v 3)) (.a (.m 2 (.v 4)) (.v 0))) (.g (.m 2 (.m 4294967296 (.v 2))))] [1, 2, 1] rfl eh c3.1 hq9)
  · exact (Int.not_lt.mp fun hq9 => lin (zs := [_, _, _, _, _]) (ns := []) [.eq (.v 0) (.m 2 (.v 1)), .le (.s (.v 2) (.a (.v 3) (.v 1))) (.m (((2 ^ 32 : Nat) : Int)) (.v 4)), .lt (.m 2 (.m 4294967296 (.v 4))) (.s (.m 2 (.v 2)) (.a (.m 2 (.v 3)) (.v 0)))] [-1, 2, 1] rfl eh c3.2 hq9)
end Fl
end Mine
end

section
open PySem PySem.Float64
set_option maxRecDepth 100000
set_option exponentiation.threshold 3000
set_option linter.unusedVariables false
namespace Mine
namespace Fl
theorem turn_arith {e o M D κ a c τ p q : Int} (hD : 0 < D) (t1 : -(16 * e) ≤ τ - (2 * κ * o + a - c)) (t2 : τ - (2 * κ * o + a - c) ≤ 16 * e)
    (a1 : -(5 * (M * e)) ≤ a * D - (M - p) * o) (a2 : a * D - (M - p) * o ≤ 5 * (M * e))
    (c1 : -(5 * (M * e)) ≤ c * D - (M - q) * o) (c2 : c * D - (M - q) * o ≤ 5 * (M * e)) :
    -(10 * (M * e) + 16 * (e * D)) ≤ τ * D - (2 * κ * D + (q - p)) * o ∧ τ * D - (2 * κ * D + (q - p)) * o ≤ 10 * (M * e) + 16 * (e * D) := by
  obtain ⟨b1, b2⟩ := mul_bd t1 t2 (Int.le_of_lt hD) (Int.le_refl D)
  have key : τ * D - (2 * κ * D + (q - p)) * o = (τ - (2 * κ * o + a - c)) * D + (a * D - (M - p) * o) - (c * D - (M - q) * o) := by grind
  have e1 : 16 * e * D = 16 * (e * D) := Int.mul_assoc _ _ _
  rw [key]
  exact ⟨(Int.not_lt.mp fun hq9 => lin (zs := [_, _, _, _, _, _, _, _]) (ns := []) [.le (.g (.m 5 (.v 0))) (.s (.v 1) (.v 2)), .le (.s (.v 3) (.v 4)) (.m 5 (.v 0)), .le (.g (.v 5)) (.v 6), .eq (.v 5) (.m 16 (.v 7)), .lt (.s (.a (.v 6) (.s (.v 1) (.v 2))) (.s (.v 3) (.v 4))) (.g (.a (.m 10 (.v 0)) (.m 16 (.v 7))))] [1, 1, 1, 1, 1] rfl a1 c2 b1 e1 hq9), (Int.not_lt.mp fun hq9 => lin (zs := [_, _, _, _, _, _, _, _]) (ns := []) [.le (.s (.v 0) (.v 1)) (.m 5 (.v 2)), .le (.g (.m 5 (.v 2))) (.s (.v 3) (.v 4)), .le (.v 5) (.v 6), .eq (.v 6) (.m 16 (.v 7)), .lt (.a (.m 10 (.v 2)) (.m 16 (.v 7))) (.s (.a (.v 5) (.s (.v 0) (.v 1))) (.s (.v 3) (.v 4)))] [1, 1, 1, 1, 1] rfl a2 c1 b2 e1 hq9)⟩
theorem third_at {h : UInt64} (f : Fin h) (lo : 0 ≤ val h) (hi : val h ≤ ((2 ^ 1074 : Nat) : Int) + 2 * ((2 ^ 1020 : Nat) : Int)) :
    ∃ t : Int, Flt.toInt Float64.truncOf (add (mul (mul h 4613937818241073152) (ofInt (2 ^ Int.toNat 30))) fh) = t ∧
      t * ((2 ^ 1074 : Nat) : Int) ≤ val (add (mul (mul h 4613937818241073152) (ofInt (2 ^ Int.toNat 30))) fh) ∧ val (add (mul (mul h 4613937818241073152) (ofInt (2 ^ Int.toNat 30))) fh) < (t + 1) * ((2 ^ 1074 : Nat) : Int) := by
  obtain ⟨h3, h4, a1, a2, b1, b2, c1, c2, c3⟩ := scaled_of f lo hi
  have e1 := one_e
  have e0 := e_pos
  have hp : 0 < val (add (mul (mul h 4613937818241073152) (ofInt (2 ^ Int.toNat 30))) fh) := by
    generalize val (add (mul (mul h 4613937818241073152) (ofInt (2 ^ Int.toNat 30))) fh) = v at *
    generalize ((2 ^ 1074 : Nat) : Int) = o at *
    generalize ((2 ^ 1020 : Nat) : Int) = e at *
    exact (Int.not_le.mp fun hq9 => lin (zs := [_, _, _, _, _, _]) (ns := []) [.le (.n 0) (.v 0), .le (.g (.m 4 (.v 1))) (.s (.v 2) (.m 3 (.v 0))), .le (.g (.m 4294967296 (.v 1))) (.s (.v 3) (.m 1073741824 (.v 2))), .lt (.n 0) (.v 1), .eq (.v 4) (.m 18014398509481984 (.v 1)), .le (.g (.m 2 (.m 4294967296 (.v 1)))) (.s (.m 2 (.v 5)) (.a (.m 2 (.v 3)) (.v 4))), .le (.v 5) (.n 0)] [6442450944, 2147483648, 2, 18014372739678208, -1, 1, 2] rfl lo a1 b1 e0 e1 c2 hq9)
  obtain ⟨X, p, ev⟩ := fin_pos c1 hp
  have ho : (0 : Int) < ((2 ^ 1074 : Nat) : Int) := by exact (Int.not_le.mp fun hq9 => lin (zs := []) (ns := []) [.le (.c (.n (2 ^ 1074))) (.n 0)] [1] rfl hq9)
  have k1 := Int.ediv_mul_le (X : Int) (Int.ne_of_gt ho)
  have k2 := Int.lt_ediv_add_one_mul_self (X : Int) ho
  refine ⟨(X : Int) / ((2 ^ 1074 : Nat) : Int), ?_, ?_, ?_⟩
  · rw [trunc_pos p, Int.natCast_ediv]
  · rw [ev]; exact k1
  · rw [ev]; exact k2
/-- where the thirds of the hue lie -/
def Lies (t D κ k Δ : Int) : Prop :=
  (0 < Δ → D ≤ 268435456 * Δ → 2 * Δ ≤ D → 1073741824 * (κ + 3 * k) + 1 ≤ t ∧ t < 1073741824 * (κ + 3 * k) + 536870911) ∧
  (Δ < 0 → D ≤ 268435456 * (-Δ) → 2 * (-Δ) ≤ D → 1073741824 * (κ + 3 * k) - 536870912 ≤ t ∧ t < 1073741824 * (κ + 3 * k)) ∧
  (Δ = 0 → t = 1073741824 * (κ + 3 * k))
theorem lies_of {t o v D κ k Δ : Int} (ho : 0 < o) (h1 : t * o ≤ v) (h2 : v < (t + 1) * o)
    (h : (0 < Δ → D ≤ 268435456 * Δ → 2 * Δ ≤ D → (1073741824 * (κ + 3 * k) + 1) * o ≤ v ∧ v < (1073741824 * (κ + 3 * k) + 536870911) * o) ∧
    (Δ < 0 → D ≤ 268435456 * (-Δ) → 2 * (-Δ) ≤ D → (1073741824 * (κ + 3 * k) - 536870912) * o ≤ v ∧ v < (1073741824 * (κ + 3 * k)) * o) ∧
    (Δ = 0 → (1073741824 * (κ + 3 * k)) * o ≤ v ∧ v < (1073741824 * (κ + 3 * k) + 1) * o)) : Lies t D κ k Δ := by
  have lo : ∀ c : Int, c * o ≤ v → c ≤ t := fun c hc => by
    have := Int.lt_of_mul_lt_mul_right (Int.lt_of_le_of_lt hc h2) (Int.le_of_lt ho)
    exact (Int.not_lt.mp fun hq9 => lin (zs := [_, _]) (ns := []) [.lt (.v 0) (.a (.v 1) (.n 1)), .lt (.v 1) (.v 0)] [1, 1] rfl this hq9)
  have hi : ∀ c : Int, v < c * o → t < c := fun c hc => Int.lt_of_mul_lt_mul_right (Int.lt_of_le_of_lt h1 hc) (Int.le_of_lt ho)
  refine ⟨fun a b c => ⟨lo _ (h.1 a b c).1, hi _ (h.1 a b c).2⟩, fun a b c => ⟨lo _ (h.2.1 a b c).1, hi _ (h.2.1 a b c).2⟩, fun a => ?_⟩
  have k1 := lo _ (h.2.2 a).1
  have k2 := hi _ (h.2.2 a).2
  exact (Int.le_antisymm (Int.not_lt.mp fun hq9 => lin (zs := [_, _, _]) (ns := []) [.lt (.v 0) (.a (.m 1073741824 (.a (.v 1) (.m 3 (.v 2)))) (.n 1)), .lt (.m 1073741824 (.a (.v 1) (.m 3 (.v 2)))) (.v 0)] [1, 1] rfl k2 hq9) (Int.not_lt.mp fun hq9 => lin (zs := [_, _, _]) (ns := []) [.le (.m 1073741824 (.a (.v 0) (.m 3 (.v 1)))) (.v 2), .lt (.v 2) (.m 1073741824 (.a (.v 0) (.m 3 (.v 1))))] [1, 1] rfl k1 hq9))
section
variable {r g b : UInt64} {R G B T : Nat}
theorem Col.hue (C : Col r g b R G B T) {M m x y z : Nat} (hm : m < M)
    (et : 2 * Float64.dist (m * 2 ^ 1074) (M * T) ≤ M * 2 ^ 1021) (ex : 2 * Float64.dist (x * 2 ^ 1074) (M * R) ≤ M * 2 ^ 1021) (ey : 2 * Float64.dist (y * 2 ^ 1074) (M * G) ≤ M * 2 ^ 1021) (ez : 2 * Float64.dist (z * 2 ^ 1074) (M * B) ≤ M * 2 ^ 1021) :
    Fin (hueF r g b) ∧ Fin (add (mul (mul (hueF r g b) 4613937818241073152) (ofInt (2 ^ Int.toNat 30))) fh) ∧
      ∃ t : Int, Flt.toInt Float64.truncOf (add (mul (mul (hueF r g b) 4613937818241073152) (ofInt (2 ^ Int.toNat 30))) fh) = t ∧
        ((M : Int) ≤ 2 * ((M : Int) - m) → ∃ k : Int, (k = 0 ∨ k = 1) ∧
          ((R = 2 ^ 1074 ∧ Lies t (M - m) 0 k (y - z)) ∨ (R ≠ 2 ^ 1074 ∧ G = 2 ^ 1074 ∧ Lies t (M - m) 1 k (z - x)) ∨ (R ≠ 2 ^ 1074 ∧ G ≠ 2 ^ 1074 ∧ Lies t (M - m) 2 k (x - y)))) := by
  have le1 : ∀ {X : Nat}, (X = 2 ^ 1074 ∨ X + 2 ^ 1028 ≤ 2 ^ 1074) → X ≤ 2 ^ 1074 := fun h => by
    rcases h with h | h
    · exact Nat.le_of_eq h
    · exact Nat.le_trans (Nat.le_add_right _ _) h
  have hM : 0 < M := by exact (Nat.not_le.mp fun hq9 => lin (zs := []) (ns := [_, _]) [.ltN (.v 0) (.v 1), .leN (.v 1) (.n 0)] [1, 1] rfl hm hq9)
  obtain ⟨Sr, pr, r1, r2, r3⟩ := C.share_near C.pr (le1 C.er) C.tr hM et ex
  obtain ⟨Sg, pg, g1, g2, g3⟩ := C.share_near C.pg (le1 C.eg) C.tg hM et ey
  obtain ⟨Sb, pb, b1, b2, b3⟩ := C.share_near C.pb (le1 C.eb) C.tb hM et ez
  obtain ⟨fτ, κ, a, c, t1, t2, κ0, κ2, a0, a1, c0, c1, hcase⟩ := C.turn pr pg pb r1 g1 b1
  have e1 := one_e
  have e0 := e_pos
  have ho : (0 : Int) < ((2 ^ 1074 : Nat) : Int) := by exact (Int.not_le.mp fun hq9 => lin (zs := []) (ns := []) [.le (.c (.n (2 ^ 1074))) (.n 0)] [1] rfl hq9)
  have m0 := Int.mul_nonneg κ0 (Int.le_of_lt ho)
  have m2 := Int.mul_le_mul_of_nonneg_right κ2 (Int.le_of_lt ho)
  have mm : 2 * κ * ((2 ^ 1074 : Nat) : Int) = 2 * (κ * ((2 ^ 1074 : Nat) : Int)) := Int.mul_assoc _ _ _
  obtain ⟨fh', lo, hi, q, k, hk, q1, q2, h1, h2⟩ := hue_of fτ (by exact (Int.not_lt.mp fun hq9 => lin (zs := [_, _, _, _]) (ns := []) [.le (.g (.m 16 (.c (.n (2 ^ 1020))))) (.s (.v 0) (.s (.a (.r (.m 2 (.v 1)) (((2 ^ 1074 : Nat) : Int))) (.v 2)) (.v 3))), .le (.n 0) (.v 1), .le (.n 0) (.v 2), .le (.v 3) (.c (.n (2 ^ 1074))), .lt (.v 0) (.g (.m 2 (.c (.n (2 ^ 1074)))))] [1, 404804506614621236704990693437834614099113299528284236713802716054860679135990693783920767402874248990374155728633623822779617474771586953734026799881477019843034848553132722728933815484186432682479535356945490137124014966849385397236206711298319112681620113024717539104666829230461005064372655017292012526615415482186989568, 1, 1, 1] rfl t1 κ0 a0 c1 hq9)) (by exact (Int.not_lt.mp fun hq9 => lin (zs := [_, _, _, _]) (ns := []) [.le (.s (.v 0) (.s (.a (.r (.m 2 (.v 1)) (((2 ^ 1074 : Nat) : Int))) (.v 2)) (.v 3))) (.m 16 (.c (.n (2 ^ 1020)))), .le (.v 1) (.n 2), .le (.v 2) (.c (.n (2 ^ 1074))), .le (.n 0) (.v 3), .lt (.a (.m 5 (.c (.n (2 ^ 1074)))) (.m 16 (.c (.n (2 ^ 1020))))) (.v 0)] [1, 404804506614621236704990693437834614099113299528284236713802716054860679135990693783920767402874248990374155728633623822779617474771586953734026799881477019843034848553132722728933815484186432682479535356945490137124014966849385397236206711298319112681620113024717539104666829230461005064372655017292012526615415482186989568, 1, 1, 1] rfl t2 κ2 a1 c0 hq9))
  have eh : hueF r g b = (divmod (div (turnF r g b) f6) f1).2 := by unfold hueF; rw [C.flat]; rfl
  rw [eh]
  obtain ⟨h3, h4, i1, i2, j1, j2, f5, k1, k2⟩ := scaled_of fh' lo hi
  obtain ⟨t, et', l1, l2⟩ := third_at fh' lo hi
  refine ⟨fh', f5, t, et', fun hMD => ⟨k, hk, ?_⟩⟩
  have hD : (0 : Int) < (M : Int) - m := by exact (Int.not_le.mp fun hq9 => lin (zs := []) (ns := [_, _]) [.ltN (.v 0) (.v 1), .le (.s (.c (.v 1)) (.c (.v 0))) (.n 0)] [1, 1] rfl hm hq9)
  have fin : ∀ {p s : Int}, -(5 * ((M : Int) * ((2 ^ 1020 : Nat) : Int))) ≤ a * ((M : Int) - m) - ((M : Int) - p) * ((2 ^ 1074 : Nat) : Int) → a * ((M : Int) - m) - ((M : Int) - p) * ((2 ^ 1074 : Nat) : Int) ≤ 5 * ((M : Int) * ((2 ^ 1020 : Nat) : Int)) →
      -(5 * ((M : Int) * ((2 ^ 1020 : Nat) : Int))) ≤ c * ((M : Int) - m) - ((M : Int) - s) * ((2 ^ 1074 : Nat) : Int) → c * ((M : Int) - m) - ((M : Int) - s) * ((2 ^ 1074 : Nat) : Int) ≤ 5 * ((M : Int) * ((2 ^ 1020 : Nat) : Int)) → Lies t ((M : Int) - m) κ k (s - p) := by
    intro p s x1 x2 y1 y2
    obtain ⟨u1, u2⟩ := turn_arith hD t1 t2 x1 x2 y1 y2
    exact lies_of ho l1 l2 (hue_arith e0 e1 hD hMD u1 u2 q1 q2 h1 h2 i1 i2 j1 j2 k1 k2)
  rcases hcase with ⟨w1, rfl, rfl, rfl⟩ | ⟨w1, w2, rfl, rfl, rfl⟩ | ⟨w1, w2, rfl, rfl, rfl⟩
  · exact .inl ⟨w1, fin b2 b3 g2 g3⟩
  · exact .inr (.inl ⟨w1, w2, fin r2 r3 b2 b3⟩)
  · exact .inr (.inr ⟨w1, w2, fin g2 g3 r2 r3⟩)
end
end Fl
end Mine
end

section
open PySem PySem.Float64
set_option maxRecDepth 100000
set_option exponentiation.threshold 3000
set_option linter.unusedVariables false
namespace Mine
namespace Fl
theorem fl_nat (v M : Nat) : fl (v : Int) (M : Int) = ofFrac false v M := by unfold fl; rw [Int.natAbs_natCast, Int.natAbs_natCast]
theorem fl_nat2 (v M : Nat) : fl (v : Int) (2 * (M : Int)) = ofFrac false v (2 * M) := by
  have : 2 * (M : Int) = ((2 * M : Nat) : Int) := by rw [Int.natCast_mul]; rfl
  rw [this, fl_nat]
theorem H1.fin {x y : UInt64} (h : H1 x y) : Fin x ∧ Fin y := by
  obtain ⟨s, m, e, h0, hx, hy⟩ := h
  exact ⟨⟨_, _, _, hx⟩, ⟨_, _, _, hy⟩⟩
/-- the conditions on the greatest and the least -/
structure Tri (x y z M m : Nat) : Prop where
  hM : M = x ∨ M = y ∨ M = z
  hx : x ≤ M
  hy : y ≤ M
  hz : z ≤ M
  hm : m = x ∨ m = y ∨ m = z
  kx : m ≤ x
  ky : m ≤ y
  kz : m ≤ z
  h0 : 0 < m
  hlt : m < M
  h46 : M ≤ 2 ^ 46
theorem Tri.col {x y z M m : Nat} (t : Tri x y z M m) :
    ∃ R G B T, Col (ofFrac false x M) (ofFrac false y M) (ofFrac false z M) R G B T ∧ 2 * Float64.dist (x * 2 ^ 1074) (M * R) ≤ M * 2 ^ 1021 ∧ 2 * Float64.dist (y * 2 ^ 1074) (M * G) ≤ M * 2 ^ 1021 ∧ 2 * Float64.dist (z * 2 ^ 1074) (M * B) ≤ M * 2 ^ 1021 ∧ 2 * Float64.dist (m * 2 ^ 1074) (M * T) ≤ M * 2 ^ 1021 ∧
      (R = 2 ^ 1074 ↔ x = M) ∧ (G = 2 ^ 1074 ↔ y = M) ∧ (B = 2 ^ 1074 ↔ z = M) ∧ (2 * m ≤ M → 2 * T ≤ 2 ^ 1074) ∧ (17 * M ≤ 32 * m → 17 * 2 ^ 1069 ≤ T) := col_of t.hM t.hx t.hy t.hz t.hm t.kx t.ky t.kz t.h0 t.hlt t.h46
theorem Tri.hr {x y z M m : Nat} (t : Tri x y z M m) : H1 (ofFrac false x M) (ofFrac false x (2 * M)) := h1_of (Nat.lt_of_lt_of_le t.h0 t.kx) t.hx t.h46
theorem Tri.hg {x y z M m : Nat} (t : Tri x y z M m) : H1 (ofFrac false y M) (ofFrac false y (2 * M)) := h1_of (Nat.lt_of_lt_of_le t.h0 t.ky) t.hy t.h46
theorem Tri.hb {x y z M m : Nat} (t : Tri x y z M m) : H1 (ofFrac false z M) (ofFrac false z (2 * M)) := h1_of (Nat.lt_of_lt_of_le t.h0 t.kz) t.hz t.h46
theorem told_core {x y z M m : Nat} (t : Tri x y z M m) {out : Str}
    (pale : (Float64.cmp (light3 x y z M) 4604930618986332160 == some .gt) = true → Str.ofString "" = out)
    (more : (Float64.cmp (light3 x y z M) 4604930618986332160 == some .gt) = false → (2 ^ Int.toNat 30 : Int).fdiv 2 < (thirds (hue3 x y z M)).fmod (2 ^ Int.toNat 30) → Txt.item (Str.ofString "rgb") (((thirds (hue3 x y z M)).fdiv (2 ^ Int.toNat 30) + 1).fmod 3) ++ Txt.item (Str.ofString "rgb") (((thirds (hue3 x y z M)).fdiv (2 ^ Int.toNat 30)).fmod 3) = out)
    (less : (Float64.cmp (light3 x y z M) 4604930618986332160 == some .gt) = false → ¬ (2 ^ Int.toNat 30 : Int).fdiv 2 < (thirds (hue3 x y z M)).fmod (2 ^ Int.toNat 30) → Txt.item (Str.ofString "rgb") (((thirds (hue3 x y z M)).fdiv (2 ^ Int.toNat 30) + 2).fmod 3) ++ Txt.item (Str.ofString "rgb") (((thirds (hue3 x y z M)).fdiv (2 ^ Int.toNat 30)).fmod 3) = out) :
    ToldIn x y z M m ((thirds (hue3 x y z M)).fdiv (2 ^ Int.toNat 30)) ((thirds (hue3 x y z M)).fmod (2 ^ Int.toNat 30)) out := by
  obtain ⟨hM, hx, hy, hz, hm, kx, ky, kz, h0, hlt, h46⟩ := id t
  have pos : 0 < (x : Int) ∧ 0 < (y : Int) ∧ 0 < (z : Int) ∧ 0 < (M : Int) := ⟨Int.ofNat_lt.mpr (Nat.lt_of_lt_of_le h0 kx), Int.ofNat_lt.mpr (Nat.lt_of_lt_of_le h0 ky), Int.ofNat_lt.mpr (Nat.lt_of_lt_of_le h0 kz), Int.ofNat_lt.mpr (Nat.lt_trans h0 hlt)⟩
  have mx : ∀ M' : Int, (M' = x ∨ M' = y ∨ M' = z) → (x ≤ M' ∧ y ≤ M' ∧ z ≤ M') → M' = M := fun M' h1 h2 => by
    refine Int.le_antisymm ?_ ?_
    · rcases h1 with rfl | rfl | rfl
      · exact Int.ofNat_le.mpr hx
      · exact Int.ofNat_le.mpr hy
      · exact Int.ofNat_le.mpr hz
    · rcases hM with e | e | e
      · rw [e]; exact h2.1
      · rw [e]; exact h2.2.1
      · rw [e]; exact h2.2.2
  have mn : ∀ M' : Int, (M' = x ∨ M' = y ∨ M' = z) → (M' ≤ x ∧ M' ≤ y ∧ M' ≤ z) → M' = m := fun M' h1 h2 => by
    refine Int.le_antisymm ?_ ?_
    · rcases hm with e | e | e
      · rw [e]; exact h2.1
      · rw [e]; exact h2.2.1
      · rw [e]; exact h2.2.2
    · rcases h1 with rfl | rfl | rfl
      · exact Int.ofNat_le.mpr kx
      · exact Int.ofNat_le.mpr ky
      · exact Int.ofNat_le.mpr kz
  have ne : ¬ ((m : Int) = M) := fun e => Nat.ne_of_lt hlt (Int.ofNat.inj e)
  have sm : ((M : Int) + (m : Int)).natAbs < 2 ^ 48 := by
    show M + m < 2 ^ 48
    exact (Nat.not_le.mp fun hq9 => lin (zs := []) (ns := [_, _]) [.ltN (.v 0) (.v 1), .leN (.v 1) (.n (2 ^ 46)), .leN (.n (2 ^ 48)) (.a (.v 1) (.v 0))] [1, 2, 1] rfl hlt h46 hq9)
  have df : ((M - m : Nat) : Int) = (M : Int) - m := Int.ofNat_sub (Nat.le_of_lt hlt)
  obtain ⟨R, G, B, T, C, ex, ey, ez, et, iR, iG, iB, _, _⟩ := t.col
  obtain ⟨fh', f5, _⟩ := C.hue hlt et ex ey ez
  obtain ⟨l, pl, _⟩ := C.light
  obtain ⟨X, pX, eX⟩ := C.sat3 h0 hlt h46 et
  have esum : ((M : Int) + (m : Int)) = ((M + m : Nat) : Int) := (Int.natCast_add M m).symm
  refine
    { x0 := pos.1, y0 := pos.2.1, z0 := pos.2.2.1, m0 := pos.2.2.2,
      mx := mx, mn := mn,
      fin := ?fin, ok1 := ?ok1, ok2 := ?ok2, same1 := ?same1, same2 := ?same2, same3 := ?same3, num1 := ?num1,
      sat0 := fun h => absurd h ne,
      sat1 := ?sat1, fit := ?fit, nan3 := ?nan3, inf3 := ?inf3, nan4 := ?nan4, inf4 := ?inf4,
      pale := pale, more := more, less := less, near0 := rfl, off0 := rfl, num2 := ?num2 }
  case fin =>
    intro v M' h1 h2
    have k : Float64.isInf (fl v M) = false ∧ Float64.isInf (fl v (2 * M)) = false := by
      rcases h1 with rfl | rfl | rfl
      · rw [fl_nat, fl_nat2]; exact ⟨fin_notinf t.hr.fin.1, fin_notinf t.hr.fin.2⟩
      · rw [fl_nat, fl_nat2]; exact ⟨fin_notinf t.hg.fin.1, fin_notinf t.hg.fin.2⟩
      · rw [fl_nat, fl_nat2]; exact ⟨fin_notinf t.hb.fin.1, fin_notinf t.hb.fin.2⟩
    rcases h2 with rfl | rfl
    · exact k.1
    · exact k.2
  case ok1 => rw [fl_nat, fl_nat, fl_nat]; exact C.ok
  case ok2 => rw [fl_nat2, fl_nat2, fl_nat2]; exact ok_half C t.hr t.hg t.hb
  case same1 =>
    show hueF (fl x (2 * M)) (fl y (2 * M)) (fl z (2 * M)) = hueF (fl x M) (fl y M) (fl z M)
    rw [fl_nat, fl_nat, fl_nat, fl_nat2, fl_nat2, fl_nat2]; exact hue_half C t.hr t.hg t.hb
  case same2 =>
    show mul f2 (lightF (fl x (2 * M)) (fl y (2 * M)) (fl z (2 * M))) = lightF (fl x M) (fl y M) (fl z M)
    rw [fl_nat, fl_nat, fl_nat, fl_nat2, fl_nat2, fl_nat2]; exact light_two C t.hr t.hg t.hb
  case same3 =>
    show Flt.toInt Float64.truncOf (Float64.add (Float64.mul (satF (fl x (2 * M)) (fl y (2 * M)) (fl z (2 * M))) (Float64.ofInt (M + m))) fh) = _
    rw [fl_nat2, fl_nat2, fl_nat2, sat_half C t.hr t.hg t.hb, esum, trunc_pos pX, eX]
    exact df
  case num1 =>
    show (Float64.cmp (hueF (fl x M) (fl y M) (fl z M)) (hueF (fl x M) (fl y M) (fl z M)) == some .eq) = true ∧ Float64.isNaN (hueF (fl x M) (fl y M) (fl z M)) = false
    rw [fl_nat, fl_nat, fl_nat]; exact ⟨fin_self fh', fin_notnan fh'⟩
  case sat1 =>
    intro _
    show (Float64.cmp (satF (fl x M) (fl y M) (fl z M)) f1 != some .eq) = false
    rw [fl_nat, fl_nat, fl_nat, C.sat]
    decide +kernel
  case fit =>
    exact fun e => absurd (Nat.lt_of_le_of_lt e sm) (by decide +kernel)
  case nan3 =>
    show Float64.isNaN (Float64.add (Float64.mul (satF (fl x (2 * M)) (fl y (2 * M)) (fl z (2 * M))) (Float64.ofInt (M + m))) fh) = false
    rw [fl_nat2, fl_nat2, fl_nat2, sat_half C t.hr t.hg t.hb, esum]
    exact fin_notnan pX.Fin
  case inf3 =>
    show Float64.isInf (Float64.add (Float64.mul (satF (fl x (2 * M)) (fl y (2 * M)) (fl z (2 * M))) (Float64.ofInt (M + m))) fh) = false
    rw [fl_nat2, fl_nat2, fl_nat2, sat_half C t.hr t.hg t.hb, esum]
    exact fin_notinf pX.Fin
  case nan4 =>
    show Float64.isNaN (Float64.add (Float64.mul (Float64.mul (hueF (fl x M) (fl y M) (fl z M)) 4613937818241073152) (Float64.ofInt (2 ^ Int.toNat 30))) fh) = false
    rw [fl_nat, fl_nat, fl_nat]; exact fin_notnan f5
  case inf4 =>
    show Float64.isInf (Float64.add (Float64.mul (Float64.mul (hueF (fl x M) (fl y M) (fl z M)) 4613937818241073152) (Float64.ofInt (2 ^ Int.toNat 30))) fh) = false
    rw [fl_nat, fl_nat, fl_nat]; exact fin_notinf f5
  case num2 =>
    show (Float64.cmp (lightF (fl x M) (fl y M) (fl z M)) (lightF (fl x M) (fl y M) (fl z M)) == some .eq) = true ∧ Float64.isNaN (lightF (fl x M) (fl y M) (fl z M)) = false
    rw [fl_nat, fl_nat, fl_nat]; exact ⟨fin_self pl.Fin, fin_notnan pl.Fin⟩
/-- a colour that is told to be pale -/
theorem told_pale {x y z M m : Nat} (t : Tri x y z M m) (h : 17 * M ≤ 32 * m) : ∃ near off, ToldIn x y z M m near off (Str.ofString "") := by
  obtain ⟨R, G, B, T, C, ex, ey, ez, et, iR, iG, iB, _, hp⟩ := t.col
  obtain ⟨l, pl, _, _, _, h2⟩ := C.light
  have hc : (Float64.cmp (light3 x y z M) 4604930618986332160 == some .gt) = true := by
    show (Float64.cmp (lightF (fl x M) (fl y M) (fl z M)) 4604930618986332160 == some .gt) = true
    rw [fl_nat, fl_nat, fl_nat]
    exact (cmp_gt_iff pl pos_f075).mpr (h2 (hp h))
  exact ⟨_, _, told_core t (fun _ => rfl) (fun e => by rw [hc] at e; cases e) (fun e => by rw [hc] at e; cases e)⟩
theorem half_num : (2 ^ Int.toNat 30 : Int).fdiv 2 = 536870912 := by decide
theorem thirty : (2 ^ Int.toNat 30 : Int) = 1073741824 := by decide
theorem fdiv30 (a : Int) : a.fdiv 1073741824 = a / 1073741824 := Int.fdiv_eq_ediv_of_nonneg _ (by decide)
theorem fmod30 (a : Int) : a.fmod 1073741824 = a % 1073741824 := Int.fmod_eq_emod_of_nonneg _ (by decide)
theorem fmod3 (a : Int) : a.fmod 3 = a % 3 := Int.fmod_eq_emod_of_nonneg _ (by decide)
theorem part30 {a q : Int} (h1 : 1073741824 * q ≤ a) (h2 : a < 1073741824 * q + 1073741824) : a / 1073741824 = q ∧ a % 1073741824 = a - 1073741824 * q := by
  have e : a / 1073741824 = q := (Int.ediv_eq_iff_of_pos (by decide)).mpr ⟨by exact (Int.not_lt.mp fun hq9 => lin (zs := [_, _]) (ns := []) [.le (.m 1073741824 (.v 0)) (.v 1), .lt (.v 1) (.r (.v 0) 1073741824)] [1, 1] rfl h1 hq9), by exact (Int.not_le.mp fun hq9 => lin (zs := [_, _]) (ns := []) [.lt (.v 0) (.a (.m 1073741824 (.v 1)) (.n 1073741824)), .le (.a (.r (.v 1) 1073741824) (.n 1073741824)) (.v 0)] [1, 1] rfl h2 hq9)⟩
  exact ⟨e, by rw [Int.emod_def, e]⟩
theorem near_off {t D κ k Δ : Int} (hL : Lies t D κ k Δ) (h1 : Δ = 0 ∨ D ≤ 268435456 * Δ ∨ D ≤ 268435456 * (-Δ)) (hD : 0 < D) (h2 : 2 * Δ ≤ D) (h3 : 2 * (-Δ) ≤ D) :
    (t + 536870912) / 1073741824 = κ + 3 * k ∧ (0 < Δ → 536870912 < (t + 536870912) % 1073741824) ∧ (¬ 0 < Δ → ¬ 536870912 < (t + 536870912) % 1073741824) := by
  obtain ⟨q1, q2, q3⟩ := hL
  rcases Int.lt_trichotomy 0 Δ with hs | hs | hs
  · have w := q1 hs (by lia) h2
    obtain ⟨d1, d2⟩ := part30 (a := t + 536870912) (q := κ + 3 * k) (by exact (Int.not_lt.mp fun hq9 => lin (zs := [_, _, _]) (ns := []) [.le (.a (.m 1073741824 (.a (.v 0) (.m 3 (.v 1)))) (.n 1)) (.v 2), .lt (.a (.v 2) (.n 536870912)) (.m 1073741824 (.a (.v 0) (.m 3 (.v 1))))] [1, 1] rfl w.1 hq9)) (by exact (Int.not_le.mp fun hq9 => lin (zs := [_, _, _]) (ns := []) [.lt (.v 0) (.a (.m 1073741824 (.a (.v 1) (.m 3 (.v 2)))) (.n 536870911)), .le (.a (.m 1073741824 (.a (.v 1) (.m 3 (.v 2)))) (.n 1073741824)) (.a (.v 0) (.n 536870912))] [1, 1] rfl w.2 hq9))
    rw [d2]
    exact ⟨d1, fun _ => by exact (Int.not_le.mp fun hq9 => lin (zs := [_, _, _]) (ns := []) [.le (.a (.m 1073741824 (.a (.v 0) (.m 3 (.v 1)))) (.n 1)) (.v 2), .le (.s (.a (.v 2) (.n 536870912)) (.m 1073741824 (.a (.v 0) (.m 3 (.v 1))))) (.n 536870912)] [1, 1] rfl w.1 hq9), fun n => absurd hs n⟩
  · have w := q3 hs.symm
    obtain ⟨d1, d2⟩ := part30 (a := t + 536870912) (q := κ + 3 * k) (by exact (Int.not_lt.mp fun hq9 => lin (zs := [_, _, _]) (ns := []) [.eq (.v 0) (.m 1073741824 (.a (.v 1) (.m 3 (.v 2)))), .lt (.a (.v 0) (.n 536870912)) (.m 1073741824 (.a (.v 1) (.m 3 (.v 2))))] [-1, 1] rfl w hq9)) (by exact (Int.not_le.mp fun hq9 => lin (zs := [_, _, _]) (ns := []) [.eq (.v 0) (.m 1073741824 (.a (.v 1) (.m 3 (.v 2)))), .le (.a (.m 1073741824 (.a (.v 1) (.m 3 (.v 2)))) (.n 1073741824)) (.a (.v 0) (.n 536870912))] [1, 1] rfl w hq9))
    rw [d2]
    exact ⟨d1, fun n => absurd n (by exact (fun hq9 => lin (zs := [_]) (ns := []) [.eq (.n 0) (.v 0), .lt (.n 0) (.v 0)] [-1, 1] rfl hs n)), fun _ => by exact (fun hq9 => lin (zs := [_, _, _]) (ns := []) [.eq (.v 0) (.m 1073741824 (.a (.v 1) (.m 3 (.v 2)))), .lt (.n 536870912) (.s (.a (.v 0) (.n 536870912)) (.m 1073741824 (.a (.v 1) (.m 3 (.v 2)))))] [1, 1] rfl w hq9)⟩
  · have w := q2 hs (by lia) h3
    obtain ⟨d1, d2⟩ := part30 (a := t + 536870912) (q := κ + 3 * k) (by exact (Int.not_lt.mp fun hq9 => lin (zs := [_, _, _]) (ns := []) [.le (.s (.m 1073741824 (.a (.v 0) (.m 3 (.v 1)))) (.n 536870912)) (.v 2), .lt (.a (.v 2) (.n 536870912)) (.m 1073741824 (.a (.v 0) (.m 3 (.v 1))))] [1, 1] rfl w.1 hq9)) (by exact (Int.not_le.mp fun hq9 => lin (zs := [_, _, _]) (ns := []) [.lt (.v 0) (.m 1073741824 (.a (.v 1) (.m 3 (.v 2)))), .le (.a (.m 1073741824 (.a (.v 1) (.m 3 (.v 2)))) (.n 1073741824)) (.a (.v 0) (.n 536870912))] [1, 1] rfl w.2 hq9))
    rw [d2]
    exact ⟨d1, fun n => absurd n (by exact (fun hq9 => lin (zs := [_]) (ns := []) [.lt (.v 0) (.n 0), .lt (.n 0) (.v 0)] [1, 1] rfl hs n)), fun _ => by exact (fun hq9 => lin (zs := [_, _, _]) (ns := []) [.lt (.v 0) (.m 1073741824 (.a (.v 1) (.m 3 (.v 2)))), .lt (.n 536870912) (.s (.a (.v 0) (.n 536870912)) (.m 1073741824 (.a (.v 1) (.m 3 (.v 2)))))] [1, 1] rfl w.2 hq9)⟩
theorem mod_three {κ k : Int} (hκ : Lett κ) : (κ + 3 * k + 1) % 3 = (κ + 1) % 3 ∧ (κ + 3 * k + 2) % 3 = (κ + 2) % 3 ∧ (κ + 3 * k) % 3 = κ ∧ Lett ((κ + 1) % 3) ∧ Lett ((κ + 2) % 3) := by
  refine ⟨?_, ?_, ?_, (lett_next hκ).1, (lett_next hκ).2⟩
  · rw [Int.add_right_comm, Int.add_mul_emod_self_left]
  · rw [Int.add_right_comm, Int.add_mul_emod_self_left]
  · rw [Int.add_mul_emod_self_left]; exact Int.emod_eq_of_lt hκ.1 hκ.2
/-- the two letters of a colour that is not pale -/
theorem told_dark {x y z M m : Nat} (t : Tri x y z M m) (h : 2 * m ≤ M) {κ Δ : Int} (hκ : Lett κ)
    (hc : (x = M ∧ κ = 0 ∧ Δ = y - z) ∨ (x ≠ M ∧ y = M ∧ κ = 1 ∧ Δ = z - x) ∨ (x ≠ M ∧ y ≠ M ∧ κ = 2 ∧ Δ = x - y))
    (h1 : Δ = 0 ∨ (M : Int) - m ≤ 268435456 * Δ ∨ (M : Int) - m ≤ 268435456 * (-Δ)) (h2 : 2 * Δ ≤ (M : Int) - m) (h3 : 2 * (-Δ) ≤ (M : Int) - m) :
    ∃ near off, ToldIn x y z M m near off (wd [if 0 < Δ then (κ + 1) % 3 else (κ + 2) % 3, κ]) := by
  have hlt := t.hlt
  have hDp : 0 < (M : Int) - m := by exact (Int.not_le.mp fun hq9 => lin (zs := []) (ns := [_, _]) [.ltN (.v 0) (.v 1), .le (.s (.c (.v 1)) (.c (.v 0))) (.n 0)] [1, 1] rfl hlt hq9)
  have hMD : (M : Int) ≤ 2 * ((M : Int) - m) := by exact (Int.not_lt.mp fun hq9 => lin (zs := []) (ns := [_, _]) [.leN (.m 2 (.v 0)) (.v 1), .lt (.m 2 (.s (.c (.v 1)) (.c (.v 0)))) (.c (.v 1))] [1, 1] rfl h hq9)
  obtain ⟨R, G, B, T, C, ex, ey, ez, et, iR, iG, iB, hp, _⟩ := t.col
  obtain ⟨l, pl, _, _, hl, _⟩ := C.light
  obtain ⟨fh', f5, tt, htt, hk⟩ := C.hue hlt et ex ey ez
  obtain ⟨k, k01, hcs⟩ := hk hMD
  clear hk
  have hL : Lies tt ((M : Int) - m) κ k Δ := by
    rcases hcs with ⟨a, q⟩ | ⟨a, b, q⟩ | ⟨a, b, q⟩
    · have ha := iR.mp a
      rcases hc with ⟨_, rfl, rfl⟩ | ⟨n, _⟩ | ⟨n, _⟩
      · exact q
      · exact absurd ha n
      · exact absurd ha n
    · have ha : x ≠ M := fun e => a (iR.mpr e)
      have hb := iG.mp b
      rcases hc with ⟨n, _⟩ | ⟨_, _, rfl, rfl⟩ | ⟨_, n, _⟩
      · exact absurd n ha
      · exact q
      · exact absurd hb n
    · have ha : x ≠ M := fun e => a (iR.mpr e)
      have hb : y ≠ M := fun e => b (iG.mpr e)
      rcases hc with ⟨n, _⟩ | ⟨_, n, _⟩ | ⟨_, _, rfl, rfl⟩
      · exact absurd n ha
      · exact absurd n hb
      · exact q
  have hd : (Float64.cmp (light3 x y z M) 4604930618986332160 == some .gt) = false := by
    show (Float64.cmp (lightF (fl x M) (fl y M) (fl z M)) 4604930618986332160 == some .gt) = false
    rw [fl_nat, fl_nat, fl_nat]
    exact Bool.eq_false_iff.mpr fun e => Nat.not_lt.mpr (hl (hp h)) ((cmp_gt_iff pl pos_f075).mp e)
  have hth : thirds (hue3 x y z M) = tt + 536870912 := by
    show Flt.toInt Float64.truncOf (Float64.add (Float64.mul (Float64.mul (hueF (fl x M) (fl y M) (fl z M)) 4613937818241073152) (Float64.ofInt (2 ^ Int.toNat 30))) fh) + (2 ^ Int.toNat 30 : Int).fdiv 2 = _
    rw [fl_nat, fl_nat, fl_nat, htt, half_num]
  obtain ⟨m1, m2, m3, let1, let2⟩ := mod_three (k := k) hκ
  have hnear := near_off hL h1 hDp h2 h3
  obtain ⟨n1, n2, n3⟩ := hnear
  have hwd : ∀ a c : Int, LT a ++ LT c = wd [a, c] := fun a c => wd_snoc [a] c
  refine ⟨_, _, told_core t (fun e => by rw [hd] at e; cases e) (fun _ e => ?_) (fun _ e => ?_)⟩
  · rw [hth, half_num, thirty, fmod30] at e
    have hs : 0 < Δ := Classical.byContradiction fun n => n3 n e
    rw [if_pos hs, hth, thirty, fdiv30, n1, fmod3, fmod3, m1, m3, item_rgb let1, item_rgb hκ]
    exact hwd _ _
  · rw [hth, half_num, thirty, fmod30] at e
    have hs : ¬ 0 < Δ := fun n => e (n2 n)
    rw [if_neg hs, hth, thirty, fdiv30, n1, fmod3, fmod3, m2, m3, item_rgb let2, item_rgb hκ]
    exact hwd _ _
/-- three that are alike -/
theorem told_flat {M : Nat} (h0 : 0 < M) (h46 : M ≤ 2 ^ 46) : ∃ near off, ToldIn M M M M M near off (Str.ofString "") := by
  have e1 : fl (M : Int) (M : Int) = f1 := by
    obtain ⟨X, p, _, _, _, h, _⟩ := share_of h0 (Nat.le_refl M) h46
    rw [fl_nat]
    have := h rfl
    subst this
    exact p.uniq pos_f1
  have e2 : fl (M : Int) (2 * (M : Int)) = fh := by
    obtain ⟨X, p, _, _, _, h, _⟩ := share_of h0 (Nat.le_refl M) h46
    have := h rfl
    subst this
    obtain ⟨Y, q, e⟩ := (h1_of h0 (Nat.le_refl M) h46).pos p
    rw [fl_nat2]
    have : Y = 2 ^ 1073 := by
      rw [show (1074 : Nat) = 1073 + 1 from rfl, twice] at e
      exact (Nat.le_antisymm (Nat.not_lt.mp fun hq9 => lin (zs := []) (ns := [_]) [.eqN (.n (2 * 2 ^ 1073)) (.m 2 (.v 0)), .ltN (.n (2 ^ 1073)) (.v 0)] [-1, 2] rfl e hq9) (Nat.not_lt.mp fun hq9 => lin (zs := []) (ns := [_]) [.eqN (.n (2 * 2 ^ 1073)) (.m 2 (.v 0)), .ltN (.v 0) (.n (2 ^ 1073))] [1, 2] rfl e hq9))
    subst this
    exact q.uniq pos_fh
  have esum : ((M : Int) + (M : Int)) = ((M + M : Nat) : Int) := (Int.natCast_add M M).symm
  have s0 : satF fh fh fh = 0 := by decide +kernel
  have m0 : mul 0 (ofInt ((M + M : Nat) : Int)) = 0 := by
    have p := ofInt_pos (i := M + M) (by exact (Nat.not_lt.mp fun hq9 => lin (zs := []) (ns := [_]) [.leN (.v 0) (.n (2 ^ 46)), .ltN (.n (2 ^ 53)) (.a (.v 0) (.v 0))] [2, 1] rfl h46 hq9))
    exact (mul_is pos_zero p (by rw [Nat.zero_mul]; exact Nat.zero_le _)).exact (Nat.two_pow_pos _) pos_zero (by rw [Nat.zero_mul, Nat.mul_zero])
  have a0 : add 0 fh = fh := by decide +kernel
  refine ⟨_, _,
    { x0 := by exact (Int.not_le.mp fun hq9 => lin (zs := []) (ns := [_]) [.ltN (.n 0) (.v 0), .le (.c (.v 0)) (.n 0)] [1, 1] rfl h0 hq9), y0 := by exact (Int.not_le.mp fun hq9 => lin (zs := []) (ns := [_]) [.ltN (.n 0) (.v 0), .le (.c (.v 0)) (.n 0)] [1, 1] rfl h0 hq9), z0 := by exact (Int.not_le.mp fun hq9 => lin (zs := []) (ns := [_]) [.ltN (.n 0) (.v 0), .le (.c (.v 0)) (.n 0)] [1, 1] rfl h0 hq9), m0 := by exact (Int.not_le.mp fun hq9 => lin (zs := []) (ns := [_]) [.ltN (.n 0) (.v 0), .le (.c (.v 0)) (.n 0)] [1, 1] rfl h0 hq9),
      mx := fun M' h1 h2 => by lia,
      mn := fun M' h1 h2 => by lia,
      fin := ?fin, ok1 := ?ok1, ok2 := ?ok2, same1 := ?same1, same2 := ?same2, same3 := ?same3, num1 := ?num1,
      sat0 := ?sat0,
      sat1 := fun h => absurd rfl h, fit := ?fit, nan3 := ?nan3, inf3 := ?inf3, nan4 := ?nan4, inf4 := ?inf4,
      pale := fun _ => rfl, more := ?more, less := ?less, near0 := rfl, off0 := rfl, num2 := ?num2 }⟩
  case fin =>
    intro v M' h1 h2
    have : v = (M : Int) := by lia
    subst this
    rcases h2 with rfl | rfl
    · rw [e1]; decide +kernel
    · rw [e2]; decide +kernel
  case ok1 =>
    rw [e1]
    have hf : flatF f1 f1 f1 = true := by decide +kernel
    exact ⟨(fun h => absurd (hf.symm.trans h) (by decide)), (fun h => absurd (hf.symm.trans h) (by decide)), (fun h => absurd (hf.symm.trans h) (by decide))⟩
  case ok2 =>
    rw [e2]
    have hf : flatF fh fh fh = true := by decide +kernel
    exact ⟨(fun h => absurd (hf.symm.trans h) (by decide)), (fun h => absurd (hf.symm.trans h) (by decide)), (fun h => absurd (hf.symm.trans h) (by decide))⟩
  case same1 => simp only [hue3]; rw [e1, e2]; decide +kernel
  case same2 => simp only [light3]; rw [e1, e2]; decide +kernel
  case same3 =>
    simp only [sat3]
    rw [e2, s0, esum, m0]
    show Flt.toInt Float64.truncOf (add 0 fh) = _
    rw [a0, trunc_pos pos_fh]
    rw [show (2 ^ 1073 / 2 ^ 1074 : Nat) = 0 by decide +kernel]
    exact (Int.le_antisymm (Int.not_lt.mp fun hq9 => lin (zs := []) (ns := [_]) [.lt (.s (.c (.v 0)) (.c (.v 0))) (.c (.n 0))] [1] rfl hq9) (Int.not_lt.mp fun hq9 => lin (zs := []) (ns := [_]) [.lt (.c (.n 0)) (.s (.c (.v 0)) (.c (.v 0)))] [1] rfl hq9))
  case num1 => simp only [hue3]; rw [e1]; decide +kernel
  case sat0 => intro _; simp only [sat3]; rw [e1]; decide +kernel
  case fit =>
    have h : ((M : Int) + (M : Int)).natAbs < 2 ^ 48 := by omega
    exact fun e => absurd (Nat.lt_of_le_of_lt e h) (by decide +kernel)
  case nan3 =>
    simp only [sat3]
    rw [e2, s0, esum, m0]
    decide +kernel
  case inf3 =>
    simp only [sat3]
    rw [e2, s0, esum, m0]
    decide +kernel
  case nan4 => simp only [hue3]; rw [e1]; decide +kernel
  case inf4 => simp only [hue3]; rw [e1]; decide +kernel
  case more => intro h; simp only [light3] at h; rw [e1] at h; exact absurd h (by decide +kernel)
  case less => intro h; simp only [light3] at h; rw [e1] at h; exact absurd h (by decide +kernel)
  case num2 => simp only [light3]; rw [e1]; decide +kernel
end Fl
end Mine
end

section
open PySem PySem.W PyProof.Rows PySem.Calls
set_option maxRecDepth 100000
set_option exponentiation.threshold 3000
set_option linter.unusedVariables false
namespace Mine
/-- the number that a letter stands for -/
noncomputable def cp (i : Int) (q : Int × Int × Int) : Int := if i = 0 then q.1 else if i = 1 then q.2.1 else q.2.2
theorem cp_mv {c d f : Int} (hc : Lett c) (hd : Lett d) (hf : Lett f) (cd : c ≠ d) (cf : c ≠ f) (df : d ≠ f) (q : Int × Int × Int) :
    cp d (mv d q) = cp c q * cp f q - cp d q ∧ cp c (mv d q) = cp c q ∧ cp f (mv d q) = cp f q := by
  obtain ⟨x, y, z⟩ := q
  rcases lett_or hc with rfl | rfl | rfl <;> rcases lett_or hd with rfl | rfl | rfl <;> (first | exact absurd rfl cd | skip) <;>
    rcases lett_or hf with rfl | rfl | rfl <;> (first | exact absurd rfl cf | exact absurd rfl df | exact ⟨rfl, rfl, rfl⟩ | exact ⟨congrArg (fun a => a - _) (Int.mul_comm _ _), rfl, rfl⟩)
/-- the last letter's number is the greatest, more than twice the others -/
structure St (X Y : Int) (c : Int) (q : Int × Int × Int) : Prop where
  lo : ∀ i, Lett i → 4 ≤ cp i q
  top : cp c q ≤ X
  rest : ∀ i, Lett i → i ≠ c → cp i q ≤ Y ∧ 2 * cp i q < cp c q
theorem St.step {X Y c d f : Int} {q : Int × Int × Int} (hc : Lett c) (hd : Lett d) (hf : Lett f) (cd : c ≠ d) (cf : c ≠ f) (df : d ≠ f) (h : St X Y c q) (hY : Y ≤ X) :
    St (X * Y) X d (mv d q) ∧ (Y ≤ 134217728 → cp d (mv d q) ≤ 268435456 * (cp c (mv d q) - cp f (mv d q))) ∧ cp f (mv d q) < cp c (mv d q) := by
  obtain ⟨e1, e2, e3⟩ := cp_mv hc hd hf cd cf df q
  have a1 := h.lo c hc
  have b1 := h.lo d hd
  have g1 := h.lo f hf
  have a2 := h.top
  obtain ⟨b2, b3⟩ := h.rest d hd (fun e => cd e.symm)
  obtain ⟨g2, g3⟩ := h.rest f hf (fun e => cf e.symm)
  have p1 : 4 * cp c q ≤ cp c q * cp f q := by rw [Int.mul_comm (cp c q)]; exact Int.mul_le_mul_of_nonneg_right g1 (by exact (Int.not_lt.mp fun hq9 => lin (zs := [_]) (ns := []) [.le (.n 4) (.v 0), .lt (.v 0) (.n 0)] [1, 1] rfl a1 hq9))
  have p2 : cp c q * cp f q ≤ X * Y := Int.le_trans (Int.mul_le_mul_of_nonneg_right a2 (by exact (Int.not_lt.mp fun hq9 => lin (zs := [_]) (ns := []) [.le (.n 4) (.v 0), .lt (.v 0) (.n 0)] [1, 1] rfl g1 hq9))) (Int.mul_le_mul_of_nonneg_left g2 (by exact (Int.not_lt.mp fun hq9 => lin (zs := [_, _]) (ns := []) [.le (.n 4) (.v 0), .le (.v 0) (.v 1), .lt (.v 1) (.n 0)] [1, 1, 1] rfl a1 a2 hq9)))
  have l3 : ∀ i, Lett i → i = c ∨ i = d ∨ i = f := fun i hi => three_or hi hc hd hf cd cf df
  refine ⟨⟨fun i hi => ?_, ?_, fun i hi hid => ?_⟩, fun hy => ?_, ?_⟩
  · rcases l3 i hi with rfl | rfl | rfl
    · rw [e2]; exact a1
    · rw [e1]; exact (Int.not_lt.mp fun hq9 => lin (zs := [_, _, _]) (ns := []) [.le (.n 4) (.v 0), .le (.m 4 (.v 0)) (.v 1), .lt (.m 2 (.v 2)) (.v 0), .lt (.s (.v 1) (.v 2)) (.n 4)] [7, 2, 1, 2] rfl a1 p1 b3 hq9)
    · rw [e3]; exact g1
  · rw [e1]; exact (Int.not_lt.mp fun hq9 => lin (zs := [_, _, _]) (ns := []) [.le (.n 4) (.v 0), .le (.v 1) (.v 2), .lt (.v 2) (.s (.v 1) (.v 0))] [1, 1, 1] rfl b1 p2 hq9)
  · rcases l3 i hi with rfl | rfl | rfl
    · rw [e2, e1]; exact ⟨(Int.not_lt.mp fun hq9 => lin (zs := [_, _]) (ns := []) [.le (.v 0) (.v 1), .lt (.v 1) (.v 0)] [1, 1] rfl a2 hq9), (Int.not_le.mp fun hq9 => lin (zs := [_, _, _, _]) (ns := []) [.le (.n 4) (.v 0), .lt (.m 2 (.v 1)) (.v 2), .lt (.m 2 (.v 0)) (.v 2), .le (.m 4 (.v 2)) (.v 3), .le (.s (.v 3) (.v 1)) (.m 2 (.v 2))] [6, 1, 3, 2, 2] rfl g1 b3 g3 p1 hq9)⟩
    · exact absurd rfl hid
    · rw [e3, e1]; exact ⟨(Int.not_lt.mp fun hq9 => lin (zs := [_, _, _]) (ns := []) [.le (.v 0) (.v 1), .le (.v 2) (.v 0), .lt (.v 1) (.v 2)] [1, 1, 1] rfl hY g2 hq9), (Int.not_le.mp fun hq9 => lin (zs := [_, _, _, _]) (ns := []) [.le (.n 4) (.v 0), .lt (.m 2 (.v 1)) (.v 0), .lt (.m 2 (.v 2)) (.v 0), .le (.m 4 (.v 0)) (.v 3), .le (.s (.v 3) (.v 1)) (.m 2 (.v 2))] [5, 1, 2, 2, 2] rfl a1 b3 g3 p1 hq9)⟩
  · rw [e1, e2, e3]
    have p3 : cp c q * cp f q ≤ cp c q * 134217728 := Int.mul_le_mul_of_nonneg_left (by exact (Int.not_lt.mp fun hq9 => lin (zs := [_, _]) (ns := []) [.le (.v 0) (.v 1), .le (.v 1) (.n 134217728), .lt (.n 134217728) (.v 0)] [1, 1, 1] rfl g2 hy hq9)) (by exact (Int.not_lt.mp fun hq9 => lin (zs := [_]) (ns := []) [.le (.n 4) (.v 0), .lt (.v 0) (.n 0)] [1, 1] rfl a1 hq9))
    exact (Int.not_lt.mp fun hq9 => lin (zs := [_, _, _, _]) (ns := []) [.le (.n 4) (.v 0), .lt (.m 2 (.v 1)) (.v 2), .le (.v 3) (.r (.v 2) 134217728), .lt (.m 268435456 (.s (.v 2) (.v 1))) (.s (.v 3) (.v 0))] [1, 134217728, 1, 1] rfl b1 g3 p3 hq9)
  · rw [e2, e3]; exact (Int.not_le.mp fun hq9 => lin (zs := [_, _, _]) (ns := []) [.le (.n 4) (.v 0), .lt (.m 2 (.v 0)) (.v 1), .lt (.m 2 (.v 2)) (.v 1), .le (.v 1) (.v 2)] [2, 1, 1, 2] rfl b1 b3 g3 hq9)
theorem St.first {p : Int × Int × Int} (hr : RootOk p) {c : Int} (hc : Lett c) : St 121 11 c (mv c p) := by
  obtain ⟨k, k0, k3, h1, h2, h3⟩ := hr
  have hd : ∃ d, Lett d ∧ d ≠ c := by
    rcases lett_or hc with rfl | rfl | rfl
    · exact ⟨1, by decide, by decide⟩
    · exact ⟨0, by decide, by decide⟩
    · exact ⟨0, by decide, by decide⟩
  have hall : ∀ i, Lett i → 4 + k ≤ cp i p ∧ cp i p < 2 * (4 + k) := fun i hi => by
    rcases lett_or hi with rfl | rfl | rfl
    · exact h1
    · exact h2
    · exact h3
  have key : ∀ d f, Lett d → Lett f → d ≠ c → f ≠ c → d ≠ f → St 121 11 c (mv c p) := by
    intro d f ld lf dc fc df
    obtain ⟨e1, e2, e3⟩ := cp_mv ld hc lf dc df (fun e => fc e.symm) p
    have a := hall c hc
    have b := hall d ld
    have g := hall f lf
    have l3 : ∀ i, Lett i → i = c ∨ i = d ∨ i = f := fun i hi => three_or hi hc ld lf (fun e => dc e.symm) (fun e => fc e.symm) df
    have q1 : 4 * cp d p ≤ cp d p * cp f p := by rw [Int.mul_comm (cp d p)]; exact Int.mul_le_mul_of_nonneg_right (by exact (Int.not_lt.mp fun hq9 => lin (zs := [_, _]) (ns := []) [.le (.n 0) (.v 0), .le (.a (.n 4) (.v 0)) (.v 1), .lt (.v 1) (.n 4)] [1, 1, 1] rfl k0 g.1 hq9)) (by exact (Int.not_lt.mp fun hq9 => lin (zs := [_, _]) (ns := []) [.le (.a (.n 4) (.v 0)) (.v 1), .lt (.v 1) (.m 2 (.a (.n 4) (.v 0))), .lt (.v 1) (.n 0)] [2, 1, 1] rfl b.1 b.2 hq9))
    have q2 : 4 * cp f p ≤ cp d p * cp f p := Int.mul_le_mul_of_nonneg_right (by exact (Int.not_lt.mp fun hq9 => lin (zs := [_, _]) (ns := []) [.le (.n 0) (.v 0), .le (.a (.n 4) (.v 0)) (.v 1), .lt (.v 1) (.n 4)] [1, 1, 1] rfl k0 b.1 hq9)) (by exact (Int.not_lt.mp fun hq9 => lin (zs := [_, _]) (ns := []) [.le (.a (.n 4) (.v 0)) (.v 1), .lt (.v 1) (.m 2 (.a (.n 4) (.v 0))), .lt (.v 1) (.n 0)] [2, 1, 1] rfl g.1 g.2 hq9))
    have q3 : cp d p * cp f p ≤ 11 * 11 := Int.le_trans (Int.mul_le_mul_of_nonneg_right (show cp d p ≤ 11 by exact (Int.not_lt.mp fun hq9 => lin (zs := [_, _]) (ns := []) [.lt (.v 0) (.n 3), .lt (.v 1) (.m 2 (.a (.n 4) (.v 0))), .lt (.n 11) (.v 1)] [2, 1, 1] rfl k3 b.2 hq9)) (by exact (Int.not_lt.mp fun hq9 => lin (zs := [_, _]) (ns := []) [.le (.a (.n 4) (.v 0)) (.v 1), .lt (.v 1) (.m 2 (.a (.n 4) (.v 0))), .lt (.v 1) (.n 0)] [2, 1, 1] rfl g.1 g.2 hq9))) (Int.mul_le_mul_of_nonneg_left (by exact (Int.not_lt.mp fun hq9 => lin (zs := [_, _]) (ns := []) [.lt (.v 0) (.n 3), .lt (.v 1) (.m 2 (.a (.n 4) (.v 0))), .lt (.n 11) (.v 1)] [2, 1, 1] rfl k3 g.2 hq9)) (by exact (Int.not_lt.mp fun hq9 => lin (zs := []) (ns := []) [.lt (.n 11) (.n 0)] [1] rfl hq9)))
    refine ⟨fun i hi => ?_, ?_, fun i hi hic => ?_⟩
    · rcases l3 i hi with rfl | rfl | rfl
      · rw [e1]; exact (Int.not_lt.mp fun hq9 => lin (zs := [_, _, _, _]) (ns := []) [.le (.n 0) (.v 0), .le (.a (.n 4) (.v 0)) (.v 1), .le (.m 4 (.v 1)) (.v 2), .lt (.v 3) (.m 2 (.a (.n 4) (.v 0))), .lt (.s (.v 2) (.v 3)) (.n 4)] [2, 4, 1, 1, 1] rfl k0 b.1 q1 a.2 hq9)
      · rw [e2]; exact (Int.not_lt.mp fun hq9 => lin (zs := [_, _]) (ns := []) [.le (.n 0) (.v 0), .le (.a (.n 4) (.v 0)) (.v 1), .lt (.v 1) (.n 4)] [1, 1, 1] rfl k0 b.1 hq9)
      · rw [e3]; exact (Int.not_lt.mp fun hq9 => lin (zs := [_, _]) (ns := []) [.le (.n 0) (.v 0), .le (.a (.n 4) (.v 0)) (.v 1), .lt (.v 1) (.n 4)] [1, 1, 1] rfl k0 g.1 hq9)
    · rw [e1]; exact (Int.not_lt.mp fun hq9 => lin (zs := [_, _, _]) (ns := []) [.le (.a (.n 4) (.v 0)) (.v 1), .lt (.v 1) (.m 2 (.a (.n 4) (.v 0))), .le (.v 2) (.n (11 * 11)), .lt (.n 121) (.s (.v 2) (.v 1))] [2, 1, 1, 1] rfl a.1 a.2 q3 hq9)
    · rcases l3 i hi with rfl | rfl | rfl
      · exact absurd rfl hic
      · rw [e2, e1]; exact ⟨(Int.not_lt.mp fun hq9 => lin (zs := [_, _]) (ns := []) [.lt (.v 0) (.n 3), .lt (.v 1) (.m 2 (.a (.n 4) (.v 0))), .lt (.n 11) (.v 1)] [2, 1, 1] rfl k3 b.2 hq9), (Int.not_le.mp fun hq9 => lin (zs := [_, _, _, _]) (ns := []) [.lt (.v 0) (.m 2 (.a (.n 4) (.v 1))), .le (.a (.n 4) (.v 1)) (.v 2), .le (.m 4 (.v 2)) (.v 3), .le (.s (.v 3) (.v 0)) (.m 2 (.v 2))] [1, 2, 1, 1] rfl a.2 b.1 q1 hq9)⟩
      · rw [e3, e1]; exact ⟨(Int.not_lt.mp fun hq9 => lin (zs := [_, _]) (ns := []) [.lt (.v 0) (.n 3), .lt (.v 1) (.m 2 (.a (.n 4) (.v 0))), .lt (.n 11) (.v 1)] [2, 1, 1] rfl k3 g.2 hq9), (Int.not_le.mp fun hq9 => lin (zs := [_, _, _, _, _]) (ns := []) [.lt (.v 0) (.m 2 (.a (.n 4) (.v 1))), .le (.a (.n 4) (.v 1)) (.v 2), .le (.m 4 (.v 2)) (.v 3), .le (.m 4 (.v 4)) (.v 3), .le (.s (.v 3) (.v 0)) (.m 2 (.v 4))] [2, 4, 1, 1, 2] rfl a.2 b.1 q1 q2 hq9)⟩
  rcases lett_or hc with rfl | rfl | rfl
  · exact key 1 2 (by decide) (by decide) (by decide) (by decide) (by decide)
  · exact key 0 2 (by decide) (by decide) (by decide) (by decide) (by decide)
  · exact key 0 1 (by decide) (by decide) (by decide) (by decide) (by decide)
theorem St.bounded {X Y c : Int} {q : Int × Int × Int} (hc : Lett c) (h : St X Y c q) (hX : X ≤ 70368744177664) : Bounded q := by
  have hall : ∀ i, Lett i → 0 < cp i q ∧ cp i q < 2 ^ 60 := fun i hi => by
    have a := h.lo i hi
    have b := h.lo c hc
    have t := h.top
    by_cases e : i = c
    · subst e; exact ⟨(Int.not_le.mp fun hq9 => lin (zs := [_]) (ns := []) [.le (.n 4) (.v 0), .le (.v 0) (.n 0)] [1, 1] rfl a hq9), (Int.not_le.mp fun hq9 => lin (zs := [_, _]) (ns := []) [.le (.v 0) (.n 70368744177664), .le (.v 1) (.v 0), .le (.n (2 ^ 60)) (.v 1)] [1, 1, 1] rfl hX t hq9)⟩
    · have := h.rest i hi e; exact ⟨(Int.not_le.mp fun hq9 => lin (zs := [_]) (ns := []) [.le (.n 4) (.v 0), .le (.v 0) (.n 0)] [1, 1] rfl a hq9), (Int.not_le.mp fun hq9 => lin (zs := [_, _, _]) (ns := []) [.le (.v 0) (.n 70368744177664), .le (.v 1) (.v 0), .lt (.m 2 (.v 2)) (.v 1), .le (.n (2 ^ 60)) (.v 2)] [1, 1, 1, 2] rfl hX t this.2 hq9)⟩
  exact ⟨hall 0 (by decide), hall 1 (by decide), hall 2 (by decide)⟩
theorem dark_of {a b c : Nat} {X Y Δ : Int} (lb : 4 ≤ (b : Int)) (lc : 4 ≤ (c : Int)) (r1 : (b : Int) ≤ Y ∧ 2 * (b : Int) < (a : Int)) (r2 : (c : Int) ≤ Y ∧ 2 * (c : Int) < (a : Int)) (ht : (a : Int) ≤ X) (hX : X ≤ 70368744177664) (hΔ : Δ = (b : Int) - (c : Int))
    (hs : Δ = 0 ∨ (a : Int) ≤ 268435456 * Δ ∨ (a : Int) ≤ 268435456 * (-Δ)) :
    ∃ m : Nat, (m = b ∨ m = c) ∧ m ≤ b ∧ m ≤ c ∧ 0 < m ∧ m < a ∧ 2 * m ≤ a ∧ b < a ∧ c < a ∧ a ≤ 2 ^ 46 ∧ (Δ = 0 ∨ (a : Int) - (m : Int) ≤ 268435456 * Δ ∨ (a : Int) - (m : Int) ≤ 268435456 * (-Δ)) ∧ 2 * Δ ≤ (a : Int) - (m : Int) ∧ 2 * (-Δ) ≤ (a : Int) - (m : Int) := by
  obtain ⟨m, e, k1, k2⟩ : ∃ m : Nat, (m = b ∨ m = c) ∧ m ≤ b ∧ m ≤ c := by
    rcases Nat.le_total b c with h | h
    · exact ⟨b, .inl rfl, Nat.le_refl b, h⟩
    · exact ⟨c, .inr rfl, h, Nat.le_refl c⟩
  have k3 : 0 < m := by
    rcases e with rfl | rfl
    · exact (Nat.not_le.mp fun hq9 => lin (zs := []) (ns := [_]) [.le (.n 4) (.c (.v 0)), .leN (.v 0) (.n 0)] [1, 1] rfl lb hq9)
    · exact (Nat.not_le.mp fun hq9 => lin (zs := []) (ns := [_]) [.le (.n 4) (.c (.v 0)), .leN (.v 0) (.n 0)] [1, 1] rfl lc hq9)
  refine ⟨m, e, k1, k2, k3, by exact (Nat.not_le.mp fun hq9 => lin (zs := []) (ns := [_, _, _]) [.lt (.m 2 (.c (.v 0))) (.c (.v 1)), .leN (.v 2) (.v 0), .ltN (.n 0) (.v 2), .leN (.v 1) (.v 2)] [1, 2, 1, 1] rfl r1.2 k1 k3 hq9), by exact (Nat.not_lt.mp fun hq9 => lin (zs := []) (ns := [_, _, _]) [.lt (.m 2 (.c (.v 0))) (.c (.v 1)), .leN (.v 2) (.v 0), .ltN (.v 1) (.m 2 (.v 2))] [1, 2, 1] rfl r1.2 k1 hq9), by exact (Nat.not_le.mp fun hq9 => lin (zs := []) (ns := [_, _]) [.le (.n 4) (.c (.v 0)), .lt (.m 2 (.c (.v 0))) (.c (.v 1)), .leN (.v 1) (.v 0)] [1, 1, 1] rfl lb r1.2 hq9), by exact (Nat.not_le.mp fun hq9 => lin (zs := []) (ns := [_, _]) [.lt (.m 2 (.c (.v 0))) (.c (.v 1)), .leN (.v 1) (.v 0)] [1, 1] rfl r2.2 hq9), by exact (Nat.not_lt.mp fun hq9 => lin (zs := [_]) (ns := [_]) [.le (.c (.v 0)) (.v 0), .le (.v 0) (.n 70368744177664), .ltN (.n (2 ^ 46)) (.v 0)] [1, 1, 1] rfl ht hX hq9), ?_, by exact (Int.not_lt.mp fun hq9 => lin (zs := [_]) (ns := [_, _, _, _]) [.lt (.m 2 (.c (.v 0))) (.c (.v 1)), .eq (.v 0) (.s (.c (.v 0)) (.c (.v 2))), .leN (.v 3) (.v 2), .ltN (.n 0) (.v 3), .lt (.s (.c (.v 1)) (.c (.v 3))) (.m 2 (.v 0))] [1, 2, 2, 1, 1] rfl r1.2 hΔ k2 k3 hq9), by exact (Int.not_lt.mp fun hq9 => lin (zs := [_]) (ns := [_, _, _, _]) [.le (.n 4) (.c (.v 0)), .lt (.m 2 (.c (.v 1))) (.c (.v 2)), .eq (.v 0) (.s (.c (.v 0)) (.c (.v 1))), .leN (.v 3) (.v 0), .lt (.s (.c (.v 2)) (.c (.v 3))) (.m 2 (.g (.v 0)))] [1, 1, -2, 1, 1] rfl lb r2.2 hΔ k1 hq9)⟩
  rcases hs with h | h | h
  · exact .inl h
  · exact .inr (.inl (by exact (Int.not_lt.mp fun hq9 => lin (zs := [_]) (ns := [_, _]) [.ltN (.n 0) (.v 0), .le (.c (.v 1)) (.m 268435456 (.v 0)), .lt (.m 268435456 (.v 0)) (.s (.c (.v 1)) (.c (.v 0)))] [1, 1, 1] rfl k3 h hq9)))
  · exact .inr (.inr (by exact (Int.not_lt.mp fun hq9 => lin (zs := [_]) (ns := [_, _]) [.ltN (.n 0) (.v 0), .le (.c (.v 1)) (.m 268435456 (.g (.v 0))), .lt (.m 268435456 (.g (.v 0))) (.s (.c (.v 1)) (.c (.v 0)))] [1, 1, 1] rfl k3 h hq9)))
theorem St.told {X Y c : Int} {q : Int × Int × Int} (hc : Lett c) (h : St X Y c q) (hX : X ≤ 70368744177664) {Δ : Int} (hΔ : Δ = cp ((c + 1) % 3) q - cp ((c + 2) % 3) q)
    (hs : Δ = 0 ∨ cp c q ≤ 268435456 * Δ ∨ cp c q ≤ 268435456 * (-Δ)) :
    ∃ most least near off, ToldIn q.1 q.2.1 q.2.2 most least near off (wd [if 0 < Δ then (c + 1) % 3 else (c + 2) % 3, c]) := by
  obtain ⟨x, y, z⟩ := q
  have l0 := h.lo 0 (by decide)
  have l1 := h.lo 1 (by decide)
  have l2 := h.lo 2 (by decide)
  have ht := h.top
  have hrest := h.rest
  obtain ⟨x, rfl⟩ := Int.eq_ofNat_of_zero_le (show 0 ≤ x from Int.le_trans (by decide) l0)
  obtain ⟨y, rfl⟩ := Int.eq_ofNat_of_zero_le (show 0 ≤ y from Int.le_trans (by decide) l1)
  obtain ⟨z, rfl⟩ := Int.eq_ofNat_of_zero_le (show 0 ≤ z from Int.le_trans (by decide) l2)
  have cp0 : cp 0 ((x : Int), (y : Int), (z : Int)) = x := rfl
  have cp1 : cp 1 ((x : Int), (y : Int), (z : Int)) = y := rfl
  have cp2 : cp 2 ((x : Int), (y : Int), (z : Int)) = z := rfl
  rw [cp0] at l0
  rw [cp1] at l1
  rw [cp2] at l2
  clear h
  rcases lett_or hc with rfl | rfl | rfl
  · have r1 := hrest 1 (by decide) (by decide)
    have r2 := hrest 2 (by decide) (by decide)
    rw [cp0, cp1] at r1
    rw [cp0, cp2] at r2
    rw [show ((0 : Int) + 1) % 3 = 1 from rfl, show ((0 : Int) + 2) % 3 = 2 from rfl, cp1, cp2] at hΔ
    rw [cp0] at ht hs
    clear hrest
    obtain ⟨m, e, k1, k2, k3, k4, k5, k6, k7, k8, k9, kA, kB⟩ := dark_of l1 l2 r1 r2 ht hX hΔ hs
    have t : Fl.Tri x y z x m := ⟨.inl rfl, Nat.le_refl x, Nat.le_of_lt k6, Nat.le_of_lt k7, .inr e, Nat.le_of_lt k4, k1, k2, k3, k4, k8⟩
    obtain ⟨n, o, k⟩ := Fl.told_dark t k5 hc (.inl ⟨rfl, rfl, hΔ⟩) k9 kA kB
    exact ⟨_, _, n, o, k⟩
  · have r1 := hrest 0 (by decide) (by decide)
    have r2 := hrest 2 (by decide) (by decide)
    rw [cp1, cp0] at r1
    rw [cp1, cp2] at r2
    rw [show ((1 : Int) + 1) % 3 = 2 from rfl, show ((1 : Int) + 2) % 3 = 0 from rfl, cp2, cp0] at hΔ
    rw [cp1] at ht hs
    clear hrest
    obtain ⟨m, e, k1, k2, k3, k4, k5, k6, k7, k8, k9, kA, kB⟩ := dark_of l2 l0 r2 r1 ht hX hΔ hs
    have t : Fl.Tri x y z y m := ⟨.inr (.inl rfl), Nat.le_of_lt k7, Nat.le_refl y, Nat.le_of_lt k6, e.elim (fun e => .inr (.inr e)) .inl, k2, Nat.le_of_lt k4, k1, k3, k4, k8⟩
    obtain ⟨n, o, k⟩ := Fl.told_dark t k5 hc (.inr (.inl ⟨Nat.ne_of_lt k7, rfl, rfl, hΔ⟩)) k9 kA kB
    exact ⟨_, _, n, o, k⟩
  · have r1 := hrest 0 (by decide) (by decide)
    have r2 := hrest 1 (by decide) (by decide)
    rw [cp2, cp0] at r1
    rw [cp2, cp1] at r2
    rw [show ((2 : Int) + 1) % 3 = 0 from rfl, show ((2 : Int) + 2) % 3 = 1 from rfl, cp0, cp1] at hΔ
    rw [cp2] at ht hs
    clear hrest
    obtain ⟨m, e, k1, k2, k3, k4, k5, k6, k7, k8, k9, kA, kB⟩ := dark_of l0 l1 r1 r2 ht hX hΔ hs
    have t : Fl.Tri x y z z m := ⟨.inr (.inr rfl), Nat.le_of_lt k6, Nat.le_of_lt k7, Nat.le_refl z, e.elim .inl (fun e => .inr (.inl e)), k1, k2, Nat.le_of_lt k4, k3, k4, k8⟩
    obtain ⟨n, o, k⟩ := Fl.told_dark t k5 hc (.inr (.inr ⟨Nat.ne_of_lt k6, Nat.ne_of_lt k7, rfl, hΔ⟩)) k9 kA kB
    exact ⟨_, _, n, o, k⟩
/-- one letter more -/
theorem St.more {X Y c d : Int} {q : Int × Int × Int} (hc : Lett c) (hd : Lett d) (cd : c ≠ d) (h : St X Y c q) (hYX : Y ≤ X) (hY : Y ≤ 134217728) (hX : X * Y ≤ 70368744177664) :
    St (X * Y) X d (mv d q) ∧ ∃ most least near off, ToldIn (mv d q).1 (mv d q).2.1 (mv d q).2.2 most least near off (wd [c, d]) := by
  obtain ⟨lf, cf, df, ef⟩ := third_of hc hd cd
  obtain ⟨s1, s2, s3⟩ := h.step hc hd lf cd cf df hYX
  refine ⟨s1, ?_⟩
  have s2 := s2 hY
  rcases ef with ⟨e, ef⟩ | ⟨e, ec, ef⟩
  · have k := s1.told hd hX (Δ := cp c (mv d q) - cp (3 - c - d) (mv d q)) (by rw [ef, ← e]) (.inr (.inl s2))
    rw [if_pos (by exact (Int.not_le.mp fun hq9 => lin (zs := [_, _]) (ns := []) [.lt (.v 0) (.v 1), .le (.s (.v 1) (.v 0)) (.n 0)] [1, 1] rfl s3 hq9)), ← e] at k
    exact k
  · have k := s1.told hd hX (Δ := cp (3 - c - d) (mv d q) - cp c (mv d q)) (by rw [ef, ec]) (.inr (.inr (by exact (Int.not_lt.mp fun hq9 => lin (zs := [_, _, _]) (ns := []) [.le (.v 0) (.m 268435456 (.s (.v 1) (.v 2))), .lt (.m 268435456 (.g (.s (.v 2) (.v 1)))) (.v 0)] [1, 1] rfl s2 hq9))))
    rw [if_neg (by exact (fun hq9 => lin (zs := [_, _]) (ns := []) [.lt (.v 0) (.v 1), .lt (.n 0) (.s (.v 0) (.v 1))] [1, 1] rfl s3 hq9)), ec] at k
    exact k
theorem most_of (x y z : Nat) : ∃ M, (M = x ∨ M = y ∨ M = z) ∧ x ≤ M ∧ y ≤ M ∧ z ≤ M := by
  rcases Nat.le_total x y with h | h
  · rcases Nat.le_total y z with k | k
    · exact ⟨z, .inr (.inr rfl), Nat.le_trans h k, k, Nat.le_refl z⟩
    · exact ⟨y, .inr (.inl rfl), h, Nat.le_refl y, k⟩
  · rcases Nat.le_total x z with k | k
    · exact ⟨z, .inr (.inr rfl), k, Nat.le_trans h k, Nat.le_refl z⟩
    · exact ⟨x, .inl rfl, Nat.le_refl x, h, k⟩
theorem least_of (x y z : Nat) : ∃ M, (M = x ∨ M = y ∨ M = z) ∧ M ≤ x ∧ M ≤ y ∧ M ≤ z := by
  rcases Nat.le_total y x with h | h
  · rcases Nat.le_total z y with k | k
    · exact ⟨z, .inr (.inr rfl), Nat.le_trans k h, k, Nat.le_refl z⟩
    · exact ⟨y, .inr (.inl rfl), h, Nat.le_refl y, k⟩
  · rcases Nat.le_total z x with k | k
    · exact ⟨z, .inr (.inr rfl), k, Nat.le_trans k h, Nat.le_refl z⟩
    · exact ⟨x, .inl rfl, Nat.le_refl x, h, k⟩
theorem told_nil {p : Int × Int × Int} (hr : RootOk p) : ∃ most least near off, ToldIn p.1 p.2.1 p.2.2 most least near off (Str.ofString "") := by
  obtain ⟨x, y, z⟩ := p
  obtain ⟨k, k0, k3, h1, h2, h3⟩ := hr
  dsimp only at h1 h2 h3 ⊢
  obtain ⟨x, rfl⟩ := Int.eq_ofNat_of_zero_le (show 0 ≤ x by exact (Int.not_lt.mp fun hq9 => lin (zs := [_, _]) (ns := []) [.le (.a (.n 4) (.v 0)) (.v 1), .lt (.v 1) (.m 2 (.a (.n 4) (.v 0))), .lt (.v 1) (.n 0)] [2, 1, 1] rfl h1.1 h1.2 hq9))
  obtain ⟨y, rfl⟩ := Int.eq_ofNat_of_zero_le (show 0 ≤ y by exact (Int.not_lt.mp fun hq9 => lin (zs := [_, _]) (ns := []) [.le (.a (.n 4) (.v 0)) (.v 1), .lt (.v 1) (.m 2 (.a (.n 4) (.v 0))), .lt (.v 1) (.n 0)] [2, 1, 1] rfl h2.1 h2.2 hq9))
  obtain ⟨z, rfl⟩ := Int.eq_ofNat_of_zero_le (show 0 ≤ z by exact (Int.not_lt.mp fun hq9 => lin (zs := [_, _]) (ns := []) [.le (.a (.n 4) (.v 0)) (.v 1), .lt (.v 1) (.m 2 (.a (.n 4) (.v 0))), .lt (.v 1) (.n 0)] [2, 1, 1] rfl h3.1 h3.2 hq9))
  by_cases e : x = y ∧ y = z
  · obtain ⟨rfl, rfl⟩ := e
    obtain ⟨n, o, t⟩ := Fl.told_flat (M := x) (by exact (Nat.not_le.mp fun hq9 => lin (zs := [_]) (ns := [_]) [.le (.a (.n 4) (.v 0)) (.c (.v 0)), .lt (.c (.v 0)) (.m 2 (.a (.n 4) (.v 0))), .leN (.v 0) (.n 0)] [2, 1, 1] rfl h1.1 h1.2 hq9)) (by exact (Nat.not_lt.mp fun hq9 => lin (zs := [_]) (ns := [_]) [.lt (.v 0) (.n 3), .lt (.c (.v 0)) (.m 2 (.a (.n 4) (.v 0))), .ltN (.n (2 ^ 46)) (.v 0)] [2, 1, 1] rfl k3 h1.2 hq9))
    exact ⟨_, _, n, o, t⟩
  · obtain ⟨M, hM, Mx, My, Mz⟩ := most_of x y z
    obtain ⟨m, hm, mx, my, mz⟩ := least_of x y z
    have b1 : (M : Int) < 2 * (4 + k) := by
      rcases hM with rfl | rfl | rfl
      · exact h1.2
      · exact h2.2
      · exact h3.2
    have b2 : 4 + k ≤ (m : Int) := by
      rcases hm with rfl | rfl | rfl
      · exact h1.1
      · exact h2.1
      · exact h3.1
    have lt : m < M := Nat.lt_of_le_of_ne (Nat.le_trans mx Mx) fun q => by
      subst q
      exact e ⟨(Nat.le_antisymm Mx mx).trans (Nat.le_antisymm my My), (Nat.le_antisymm My my).trans (Nat.le_antisymm mz Mz)⟩
    have t : Fl.Tri x y z M m := ⟨hM, Mx, My, Mz, hm, mx, my, mz, by exact (Nat.not_le.mp fun hq9 => lin (zs := [_]) (ns := [_, _]) [.lt (.c (.v 0)) (.m 2 (.a (.n 4) (.v 0))), .le (.a (.n 4) (.v 0)) (.c (.v 1)), .ltN (.v 1) (.v 0), .leN (.v 1) (.n 0)] [1, 2, 1, 1] rfl b1 b2 lt hq9), lt, by exact (Nat.not_lt.mp fun hq9 => lin (zs := [_]) (ns := [_]) [.lt (.v 0) (.n 3), .lt (.c (.v 0)) (.m 2 (.a (.n 4) (.v 0))), .ltN (.n (2 ^ 46)) (.v 0)] [2, 1, 1] rfl k3 b1 hq9)⟩
    obtain ⟨n, o, t⟩ := Fl.told_pale t (by exact (Nat.not_lt.mp fun hq9 => lin (zs := [_]) (ns := [_, _]) [.lt (.v 0) (.n 3), .lt (.c (.v 0)) (.m 2 (.a (.n 4) (.v 0))), .le (.a (.n 4) (.v 0)) (.c (.v 1)), .ltN (.m 32 (.v 1)) (.m 17 (.v 0))] [2, 17, 32, 1] rfl k3 b1 b2 hq9))
    exact ⟨_, _, n, o, t⟩
/-- what holds behind a word -/
structure Behind (q : Int × Int × Int) (ls : List Int) : Prop where
  told : ∃ most least near off out, ToldIn q.1 q.2.1 q.2.2 most least near off out ∧ Says out ls
  bounded : Bounded q
theorem behind {p : Int × Int × Int} (hr : RootOk p) : ∀ {ls : List Int}, Good ls → ls.length ≤ 5 → Behind (run p ls) ls
  | [], _, _ => by
    obtain ⟨a, b, c, d, h⟩ := told_nil hr
    refine ⟨⟨a, b, c, d, _, h, rfl⟩, ?_⟩
    obtain ⟨k, k0, k3, h1, h2, h3⟩ := hr
    show Bounded p
    exact ⟨⟨by exact (Int.not_le.mp fun hq9 => lin (zs := [_, _]) (ns := []) [.le (.a (.n 4) (.v 0)) (.v 1), .lt (.v 1) (.m 2 (.a (.n 4) (.v 0))), .le (.v 1) (.n 0)] [2, 1, 1] rfl h1.1 h1.2 hq9), by exact (Int.not_le.mp fun hq9 => lin (zs := [_, _]) (ns := []) [.lt (.v 0) (.n 3), .lt (.v 1) (.m 2 (.a (.n 4) (.v 0))), .le (.n (2 ^ 60)) (.v 1)] [2, 1, 1] rfl k3 h1.2 hq9)⟩, ⟨by exact (Int.not_le.mp fun hq9 => lin (zs := [_, _]) (ns := []) [.le (.a (.n 4) (.v 0)) (.v 1), .lt (.v 1) (.m 2 (.a (.n 4) (.v 0))), .le (.v 1) (.n 0)] [2, 1, 1] rfl h2.1 h2.2 hq9), by exact (Int.not_le.mp fun hq9 => lin (zs := [_, _]) (ns := []) [.lt (.v 0) (.n 3), .lt (.v 1) (.m 2 (.a (.n 4) (.v 0))), .le (.n (2 ^ 60)) (.v 1)] [2, 1, 1] rfl k3 h2.2 hq9)⟩, ⟨by exact (Int.not_le.mp fun hq9 => lin (zs := [_, _]) (ns := []) [.le (.a (.n 4) (.v 0)) (.v 1), .lt (.v 1) (.m 2 (.a (.n 4) (.v 0))), .le (.v 1) (.n 0)] [2, 1, 1] rfl h3.1 h3.2 hq9), by exact (Int.not_le.mp fun hq9 => lin (zs := [_, _]) (ns := []) [.lt (.v 0) (.n 3), .lt (.v 1) (.m 2 (.a (.n 4) (.v 0))), .le (.n (2 ^ 60)) (.v 1)] [2, 1, 1] rfl k3 h3.2 hq9)⟩⟩
  | [a], g, _ => by
    have ha : Lett a := g
    have s1 := St.first hr ha
    obtain ⟨lt1, lt2⟩ := lett_next ha
    have ht := s1.top
    obtain ⟨u, v, n, o, k⟩ := s1.told ha (by decide) rfl (by lia)
    refine ⟨⟨u, v, n, o, _, k, ?_⟩, s1.bounded ha (by decide)⟩
    refine ⟨_, ?_, rfl⟩
    split
    · exact lt1
    · exact lt2
  | [a, b], g, _ => by
    obtain ⟨ha, ab, hb⟩ := g
    obtain ⟨s2, u, v, n, o, k⟩ := (St.first hr ha).more ha hb ab (by decide) (by decide) (by decide)
    exact ⟨⟨u, v, n, o, _, k, rfl⟩, s2.bounded hb (by decide)⟩
  | [a, b, c], g, _ => by
    obtain ⟨ha, ab, hb, bc, hc⟩ := g
    obtain ⟨s2, _⟩ := (St.first hr ha).more ha hb ab (by decide) (by decide) (by decide)
    obtain ⟨s3, u, v, n, o, k⟩ := s2.more hb hc bc (by decide) (by decide) (by decide)
    exact ⟨⟨u, v, n, o, _, k, rfl⟩, s3.bounded hc (by decide)⟩
  | [a, b, c, d], g, _ => by
    obtain ⟨ha, ab, hb, bc, hc, cd, hd⟩ := g
    obtain ⟨s2, _⟩ := (St.first hr ha).more ha hb ab (by decide) (by decide) (by decide)
    obtain ⟨s3, _⟩ := s2.more hb hc bc (by decide) (by decide) (by decide)
    obtain ⟨s4, u, v, n, o, k⟩ := s3.more hc hd cd (by decide) (by decide) (by decide)
    exact ⟨⟨u, v, n, o, _, k, rfl⟩, s4.bounded hd (by decide)⟩
  | [a, b, c, d, e], g, _ => by
    obtain ⟨ha, ab, hb, bc, hc, cd, hd, de, he⟩ := g
    obtain ⟨s2, _⟩ := (St.first hr ha).more ha hb ab (by decide) (by decide) (by decide)
    obtain ⟨s3, _⟩ := s2.more hb hc bc (by decide) (by decide) (by decide)
    obtain ⟨s4, _⟩ := s3.more hc hd cd (by decide) (by decide) (by decide)
    obtain ⟨s5, u, v, n, o, k⟩ := s4.more hd he de (by decide) (by decide) (by decide)
    exact ⟨⟨u, v, n, o, _, k, rfl⟩, s5.bounded he (by decide)⟩
  | a :: b :: c :: d :: e :: f :: r, _, hl => by simp at hl
theorem told_at {p : Int × Int × Int} (hr : RootOk p) {ls : List Int} (g : Good ls) (hl : ls.length ≤ 5) : ∃ most least near off out, ToldIn (run p ls).1 (run p ls).2.1 (run p ls).2.2 most least near off out ∧ Says out ls := (behind hr g hl).told
theorem run_bounded {p : Int × Int × Int} (hr : RootOk p) {ls : List Int} (g : Good ls) (hl : ls.length ≤ 5) : Bounded (run p ls) := (behind hr g hl).bounded
end Mine
end

section
open PySem PySem.W PyProof.Rows PySem.Calls
set_option Elab.async false
set_option maxRecDepth 100000
set_option maxHeartbeats 1000000
set_option linter.unusedVariables false
namespace Mine
theorem told_root {p : Int × Int × Int} (hr : RootOk p) : ∃ most least near off, ToldIn p.1 p.2.1 p.2.2 most least near off (Str.ofString "") := by
  obtain ⟨most, least, near, off, out, h1, h2⟩ := told_at hr (ls := []) trivial (by simp)
  exact ⟨most, least, near, off, (show out = _ from h2) ▸ h1⟩
theorem root_ok {ys : List Value} {x y z k : Int} (hys : IntsAre ys [x, y, z]) (h0 : 0 ≤ k) (h3 : k < 3) (bx : 4 + k ≤ x ∧ x < 2 * (4 + k)) (bb : 4 + k ≤ y ∧ y < 2 * (4 + k)) (bz : 4 + k ≤ z ∧ z < 2 * (4 + k)) : RootOk (x, y, z) :=
  ⟨k, h0, h3, bx, bb, bz⟩
theorem next_hit {ls : List Int} {c : Int} (h : ls.getLast? = some c) : next ls c = ls.dropLast := if_pos h
theorem next_miss {ls : List Int} {c : Int} (h : ¬ ls.getLast? = some c) : next ls c = ls ++ [c] := if_neg h
theorem mv_hit {p : Int × Int × Int} (hr : RootOk p) {ls : List Int} {c : Int} (h : ls.getLast? = some c) : mv c (run p ls) = run p ls.dropLast := by
  rw [← next_hit h, run_next]
theorem mv_miss {p : Int × Int × Int} (hr : RootOk p) {ls : List Int} {c : Int} (h : ¬ ls.getLast? = some c) : mv c (run p ls) = run p (ls ++ [c]) := by
  rw [← next_miss h, run_next]
theorem wd_len_of {ls : List Int} (g : Good ls) : (wd ls).length = ls.length := wd_len ls
theorem sq_run_of {p : Int × Int × Int} (hr : RootOk p) {ls : List Int} (g : Good ls) : sq (run p ls) = sq p := sq_run p ls
theorem told_led {w : World} {pp : Program} {loose : List Str} {mean : ExcName → Option Value} {mg mb : Str → Option Value} {x y z most least near off : Int} {out : Str} {tx ty tz : Tok} {ep : Nat} {l : Addr}
    {dp un : Nat} {gd : Option (List Code)} {cn : Str} {cs : Scope} {a : Addr} {ccd : Value} {cl : List (Str × Addr)} {outer : List Env} {A₀ : Around} {base h₀ : Heap} {L : Addr} {m : Str → Option Value} {news : List (Addr × Obj)} {s : Shared} {Q E : Value → Shared → Prop}
    (hT : ToldIn x y z most least near off out)
    (B : Below A₀ base outer h₀) (F : Fr h₀ L s.heap m) (X₀ : (tp.heap_39 w.params).In h₀) (N : News h₀ L s.heap news) (hl : (l, tri x y z tx ty tz ep) ∈ news) (T : Top pp loose mean mg mb h₀) (hk : cs.kind = .function)
    (hdp : dp + 2 < recursionLimit) (hun : un + 16 < cLine)
    (ret : ∀ t h' tk', Fr h₀ L h' m → News h₀ L h' news → Q (.str out t) { s with heap := h', toks := tk' }) :
    wpAny (model PySem.Challenge.rw_wu0012_01.row.prog w) (ktrTop dp un gd cn cs L a ccd cl outer) (call (.ref 145) [.ref l]) Q E s := by
  have N2 : News h₀ L s.heap ((l, tri x y z tx ty tz ep) :: news) := fun q hq => by
    rcases List.mem_cons.mp hq with rfl | hq
    · exact N _ hl
    · exact N _ hq
  exact told_walk hT B F X₀ N2 T hk hdp hun fun t h' tk' F' N' => ret t h' tk' F' fun q hq => N' q (.tail _ hq)
end Mine
end

section
open PySem PySem.W PyProof.Rows PySem.Calls Builtin
set_option Elab.async false
set_option maxRecDepth 100000
set_option maxHeartbeats 1000000
set_option linter.unusedVariables false
namespace Mine
noncomputable def spaced (y : Str) : List Str := (signs y).map fun a => Str.ofString " " ++ a
theorem bl_spaced {ls : List Int} (g : ∀ c ∈ ls, Lett c) (hl : ls.length ≤ 5) : Txt.join (Str.ofString "") (spaced (wd ls)) = bl ls ∧ ((spaced (wd ls)).map (·.length)).sum + (spaced (wd ls)).length ≤ 1048576 :=
  of_decide_eq_true (all_words (fun ls => decide (Txt.join (Str.ofString "") (spaced (wd ls)) = bl ls ∧ ((spaced (wd ls)).map (·.length)).sum + (spaced (wd ls)).length ≤ 1048576)) (by decide +kernel) g hl)
theorem strs_carried : ∀ {vs : List Value} {l : List Str}, CarriedAll vs (l.map .str) → StrsAre vs l
  | [], [], _ => .nil
  | _ :: _, [], h => nomatch h
  | [], _ :: _, h => nomatch h
  | v :: vs, y :: l, h => by
    cases h with
    | cons a b =>
      cases a with
      | str x t => exact .cons y t (strs_carried b)
section
variable {prog : Program} {w : World} {A : Around} {E : Value → Shared → Prop} {s₁ : Shared} {h₀ : Heap} {L : Addr} {m : Str → Option Value} {news : List (Addr × Obj)} {env : Env}
theorem way_elt {x : Str} {k : Nat} {p1 p2 p3 : Pos} {c : Nat} {u : Tok} {s₂ : Shared} {m₂ : Str → Option Value} (hk : env.scope.kind = .function) (hl : env.kindOf x = some .local) (hn : s₂.heap.Ns env.locals m₂) (hm : m₂ x = some (.str ⟨#[c]⟩ u)) (hd : (x == ("__debug__" : Str)) = false) :
    wpAny (model prog w) A (eval (.BinOp (.Constant (.str (Str.ofString " ")) k p1) .Add (.Name x p2) p3) env) (fun r s₃ => Carried r (.str (Str.ofString " " ++ ⟨#[c]⟩)) ∧ Keeps s₂ s₃) E s₂ := by
  refine wpAny_BinOp (wpAny_Constant_str ?_)
  refine wpAny_Name (wpAny_loadName_local hk hl hn hm ?_) hd
  refine PyProof.Rows.add_str (fun t' tk => ?_) ?_
  · exact ⟨.str _ _, s₂.heap, tk, rfl, fun _ _ e => e⟩
  · rw [PySem.sizeLine_eq]
    show (Str.ofString " ").length + 1 ≤ _
    have : (Str.ofString " ").length = 1 := by decide
    omega
theorem way_src {scope : Scope} {x : Str} {k : Nat} {p1 p2 p3 : Pos} {Q : Value → Shared → Prop} {y : Str} {t : Tok}
    (hh : A.handled = none) (F : Fr h₀ L s₁.heap m) (N : News h₀ L s₁.heap news) (hsz : y.length ≤ sizeLine)
    (hk : scope.kind = .function) (hl : ∀ C, (compEnv scope C env).kindOf x = some .local) (hd : (x == ("__debug__" : Str)) = false)
    (g3 : ∀ D (ys : List Value) h' tk, Fr h₀ L h' m → News h₀ L h' news → h'.IsList D ys.toArray → StrsAre ys (spaced y) → Q (.ref D) { s₁ with heap := h', toks := tk }) :
    wpAny (model prog w) A (pyIter (.str y t)) (CompPost prog w A env scope x [] (.BinOp (.Constant (.str (Str.ofString " ")) k p1) .Add (.Name x p2) p3) Q) E s₁ := by
  unfold CompPost
  refine wpAny_pyIter_str fun o St W hst => ?_
  have up : ∀ (h' : Heap), (∀ b o', b ∉ [s₁.heap.objs.size] → (s₁.heap.push o).get? b = some o' → h'.get? b = some o') → ∀ b o', s₁.heap.get? b = some o' → h'.get? b = some o' :=
    fun h' hk b o' e => hk b o' (old_not_new e) (Heap.get?_push_of_some _ e)
  refine ⟨ItemKind.str.lift fun _ => true, fun v r => ∃ a, ItemKind.str.is a v ∧ Carried r (.str (Str.ofString " " ++ a)), s₁.heap.objs.size, [s₁.heap.objs.size], [s₁.heap.objs.size], y.cps.size, SignAt y, St, rfl, W A hh, hsz, hst, ?_, ⟨?_, ?_⟩, ?_⟩
  · intro b hb
    show b < (s₁.heap.push o).objs.size
    rw [Heap.size_push, List.mem_singleton.mp hb]
    exact Nat.lt_succ_self _
  · intro C i v s₃ m₃ E' hP hn hm _ htk
    obtain ⟨c, u, _, rfl⟩ := hP
    have ha : ItemKind.str.is ⟨#[c]⟩ (.str ⟨#[c]⟩ u) := ⟨u, rfl⟩
    rw [ItemKind.lift_is ha]
    exact wpAny_pure ⟨rfl, s₃.heap, s₃.toks, rfl, fun _ _ e => e⟩
  · intro C i v s₃ m₃ E' hP hp hn hm _ htk
    obtain ⟨c, u, _, rfl⟩ := hP
    have ha : ItemKind.str.is ⟨#[c]⟩ (.str ⟨#[c]⟩ u) := ⟨u, rfl⟩
    exact wpAny_mono (way_elt hk (hl C) hn hm hd) (fun r s₄ h₄ => ⟨⟨_, ha, h₄.1⟩, h₄.2⟩) fun _ _ e => e
  · intro D h' tk ys vs hnew hlD hplD hlen hP hF hk
    refine g3 D ys.toList h' tk (F.keeps (up h' hk)) (N.grown (up h' hk)) (by rw [Array.toArray_toList]; exact hlD) (strs_carried ?_)
    have := (areOf_signs hlen hP).paired (fun _ => true) (fun a => .str (Str.ofString " " ++ a)) _ hF
    rw [List.filter_eq_self.mpr (fun _ _ => rfl)] at this
    rw [spaced, List.map_map]
    exact this
end
end Mine
end

section
open PySem PySem.W PyProof.Rows PySem.Calls
set_option Elab.async false
set_option maxRecDepth 100000
set_option maxHeartbeats 1000000
set_option linter.unusedVariables false
namespace Mine
section
variable {prog : Program} {w : World} {A : Around} {E : Value → Shared → Prop} {s : Shared} {Q : Value → Shared → Prop}
theorem ne_str_eq {x y : Str} {t u : Tok} (e : x = y) (h : Q (.bool false) s) : wpAny (model prog w) A (compareOp .NotEq (.str x t) (.str y u)) Q E s := by
  subst e
  refine PyProof.Rows.ne_str ?_
  have : (!(x == x)) = false := by simp
  first | exact h | (rw [bne_self_eq_false]; exact h) | (rw [this]; exact h) | (simp only [bne_self_eq_false]; exact h)
theorem ne_int_eq {x y : Int} {t u : Tok} (e : x = y) (h : Q (.bool false) s) : wpAny (model prog w) A (compareOp .NotEq (.int x t) (.int y u)) Q E s := by
  subst e
  refine PyProof.Rows.ne_int ?_
  first | exact h | (rw [bne_self_eq_false]; exact h) | (simp only [bne_self_eq_false]; exact h)
end
theorem tail_eq {ls : List Int} {out : Str} (g : Good ls) (hl : ls.length ≤ 5) (h : Says out ls) : Txt.slice out (some 1) none = Txt.slice (wd ls) (some (-1)) none := by
  rw [says_tail g h, slice_last (good_lett g) hl]
theorem two_eq {ls : List Int} {out : Str} (g : Good ls) (hl : ls.length ≤ 5) (h : Says out ls) (h1 : 1 < ls.length) : out = Txt.slice (wd ls) (some (-2)) none := by
  rw [slice_two (good_lett g) hl]; exact says_two h h1
theorem due_eq {p q : Int × Int × Int} (h : sq p = sq q) :
    (List.map (fun k' => k' * k') [p.1, p.2.1, p.2.2]).sum - [p.1, p.2.1, p.2.2].getD (Int.toNat 0) 0 * [p.1, p.2.1, p.2.2].getD (Int.toNat 1) 0 * [p.1, p.2.1, p.2.2].getD (Int.toNat 2) 0 =
    (List.map (fun k' => k' * k') [q.1, q.2.1, q.2.2]).sum - [q.1, q.2.1, q.2.2].getD (Int.toNat 0) 0 * [q.1, q.2.1, q.2.2].getD (Int.toNat 1) 0 * [q.1, q.2.1, q.2.2].getD (Int.toNat 2) 0 := by
  unfold sq at h
  show p.1 * p.1 + (p.2.1 * p.2.1 + (p.2.2 * p.2.2 + 0)) - p.1 * p.2.1 * p.2.2 = q.1 * q.1 + (q.2.1 * q.2.1 + (q.2.2 * q.2.2 + 0)) - q.1 * q.2.1 * q.2.2
  omega
theorem mul_mem {p : Int × Int × Int} {k : Int} (hk : k ∈ [p.1, p.2.1, p.2.2]) (b : Bounded p) (a : Int) : IntMulOk a k := by
  have : 0 ≤ k ∧ k < 2 ^ 60 := by
    obtain ⟨⟨b1, b2⟩, ⟨b3, b4⟩, b5, b6⟩ := b
    rcases List.mem_cons.mp hk with rfl | hk
    · omega
    rcases List.mem_cons.mp hk with rfl | hk
    · omega
    rw [List.mem_singleton.mp hk]; omega
  exact IntMulOk.of_right (intBits_le_64 (by omega) (by omega))
end Mine
end

section
open PySem PySem.W PyProof.Rows PySem.Calls
set_option Elab.async false
set_option maxRecDepth 100000
set_option maxHeartbeats 1000000
set_option linter.unusedVariables false
namespace Mine
theorem map_turn {mB : Str → Option Value} {kv lv kv' lv' : Option Value} {a b c a' b' c' : Value} :
    (fun y => if y = Str.ofString "told" then some b else if y = Str.ofString "three" then some c else if y = Str.ofString "way" then some a else if y = Str.ofString "letter" then lv' else if y = Str.ofString "k" then kv' else turnM mB kv lv a' b' c' y) = turnM mB kv' lv' a b c := by
  funext y
  unfold turnM
  by_cases h1 : y = Str.ofString "told"
  · subst h1; rw [if_pos rfl, if_neg (by decide), if_neg (by decide), if_neg (by decide), if_pos rfl]
  by_cases h2 : y = Str.ofString "three"
  · subst h2; rw [if_neg h1, if_pos rfl, if_neg (by decide), if_neg (by decide), if_neg (by decide), if_neg h1, if_pos rfl]
  by_cases h3 : y = Str.ofString "way"
  · subst h3; rw [if_neg h1, if_neg h2, if_pos rfl, if_neg (by decide), if_neg (by decide), if_pos rfl]
  by_cases h4 : y = Str.ofString "letter"
  · subst h4; rw [if_neg h1, if_neg h2, if_neg h3, if_pos rfl, if_pos rfl]
  by_cases h5 : y = Str.ofString "k"
  · subst h5; rw [if_neg h1, if_neg h2, if_neg h3, if_neg h4, if_pos rfl, if_neg h4, if_pos rfl]
  simp only [h1, h2, h3, h4, h5, if_false]
theorem map_cont {mB : Str → Option Value} {kv lv kv' lv' : Option Value} {a b c : Value} :
    (fun y => if y = Str.ofString "letter" then lv' else if y = Str.ofString "k" then kv' else turnM mB kv lv a b c y) = turnM mB kv' lv' a b c := by
  funext y
  unfold turnM
  by_cases h4 : y = Str.ofString "letter"
  · subst h4; rw [if_pos rfl, if_pos rfl]
  by_cases h5 : y = Str.ofString "k"
  · subst h5; rw [if_neg h4, if_pos rfl, if_neg h4, if_pos rfl]
  simp only [h4, h5, if_false]
section
variable {w : World} {x d T R DR a4 a3 I : Addr} {its : Array Value} {ep te i : Nat} {tk tv ta tb tc ra rb rc tl t1 t2 : Tok} {low x0 y0 z0 : Int} {ysD : List Value} {c4 c3 : Obj} {p0 p7 : Array Value} {pcs : List (Addr × Obj)} {ls : List Int}
    {h₀ : Heap} {L : Addr} {s S₁ : Shared} {mB : Str → Option Value} {kv lv : Option Value} {out : Str} {m' : Str → Option Value}
theorem turn_end2 (K : Key w x d R DR a4 a3 I tk tv low x0 y0 z0 ra rb rc ysD c4 c3 (some (.int low tl)) (some (.ref DR)) (4 + ((i + 1 : Nat) : Int)) (((12 : Nat) : Int) - ((i + 1 : Nat) : Int)))
    (F : Fr h₀ L s.heap m')
    (N : News h₀ L s.heap (led10 w x d T R DR a4 a3 I its ep tk tv low (tri (run (x0, y0, z0) ls).1 (run (x0, y0, z0) ls).2.1 (run (x0, y0, z0) ls).2.2 ta tb tc te) (tri x0 y0 z0 ra rb rc 3) ysD c4 c3 p0 p7 (4 + ((i + 1 : Nat) : Int)) (((12 : Nat) : Int) - ((i + 1 : Nat) : Int)) pcs))
    (G : AllBare s.gens) (O : s.os = S₁.os) (g : Good ls) (hl : ls.length ≤ 5) (hs : Says out ls) (hp : PiecesOk its ls pcs) (h0 : TriplesOk p0.toList) (h7 : TriplesOk p7.toList)
    (hm : m' = turnM mB kv lv (.str (wd ls) t1) (.str out t2) (.ref T)) :
    TurnEnd h₀ L I 4 12 (LP S₁) (LJ ⟨w, x, d, R, DR, a4, a3, tk, tv, low, x0, y0, z0, ra, rb, rc, ysD, c4, c3⟩ mB) (i + 1) s := by
  refine turn_end (f := ⟨w, x, d, R, DR, a4, a3, tk, tv, low, x0, y0, z0, ra, rb, rc, ysD, c4, c3⟩) ⟨⟨_, K.e4⟩, K.e3⟩ F N ⟨G, O⟩ (ta := ta) (tb := tb) (tc := tc) (te := te) (its := its) (ep := ep) (T := T) (p0 := p0) (p7 := p7) (pcs := pcs)
    (x := (run (x0, y0, z0) ls).1) (y := (run (x0, y0, z0) ls).2.1) (z := (run (x0, y0, z0) ls).2.2) ⟨?_, ?_, ?_, ?_, ?_, ?_, ?_, ?_, ?_, ?_, ?_⟩ g hl hs hp h0 h7 rfl hm
  · exact .head _
  · exact .tail _ (.head _)
  · exact .tail _ (.tail _ (.head _))
  · exact .tail _ (.tail _ (.tail _ (.head _)))
  · exact .tail _ (.tail _ (.tail _ (.tail _ (.head _))))
  · exact .tail _ (.tail _ (.tail _ (.tail _ (.tail _ (.head _)))))
  · exact .tail _ (.tail _ (.tail _ (.tail _ (.tail _ (.tail _ (.head _))))))
  · exact .tail _ (.tail _ (.tail _ (.tail _ (.tail _ (.tail _ (.tail _ (.head _)))))))
  · exact .tail _ (.tail _ (.tail _ (.tail _ (.tail _ (.tail _ (.tail _ (.tail _ (.head _))))))))
  · exact .tail _ (.tail _ (.tail _ (.tail _ (.tail _ (.tail _ (.tail _ (.tail _ (.tail _ (.head _)))))))))
  · intro p hp'
    exact .tail _ (.tail _ (.tail _ (.tail _ (.tail _ (.tail _ (.tail _ (.tail _ (.tail _ (.tail _ hp')))))))))
end
end Mine
end

section
open PySem PySem.W PyProof.Rows PySem.Calls
set_option Elab.async false
set_option maxRecDepth 100000
set_option maxHeartbeats 1000000
set_option linter.unusedVariables false
namespace Mine
section
variable {prog : Program} {w : World} {A : Around} {E : Value → Shared → Prop} {s : Shared} {Q : Value → Shared → Prop} {ls : List Int} {c : Int} {t u : Tok}
theorem eq_str_is {x y : Str} {b : Bool} (e : (x == y) = b) (h : Q (.bool b) s) : wpAny (model prog w) A (compareOp .Eq (.str x t) (.str y u)) Q E s := by
  refine PyProof.Rows.eq_str ?_
  subst e
  first | exact h | (have e2 : (x.cps.toList == y.cps.toList) = (x == y) := by (rw [Bool.eq_iff_iff]; simp [beq_iff_eq, Str.mk.injEq]; constructor <;> (intro hh; cases x; cases y; simp_all)); rw [e2]; exact h)
theorem eq_last_hit (g : Good ls) (hl : ls.length ≤ 5) (hc : Lett c) (h : ls.getLast? = some c) (hQ : Q (.bool true) s) :
    wpAny (model prog w) A (compareOp .Eq (.str (Txt.slice (wd ls) (some (-1)) none) t) (.str (LT c) u)) Q E s := by
  refine eq_str_is (b := true) ?_ hQ
  rw [slice_last (good_lett g) hl]
  exact (hit_iff g hc).mpr h
theorem eq_last_miss (g : Good ls) (hl : ls.length ≤ 5) (hc : Lett c) (h : ¬ ls.getLast? = some c) (hQ : Q (.bool false) s) :
    wpAny (model prog w) A (compareOp .Eq (.str (Txt.slice (wd ls) (some (-1)) none) t) (.str (LT c) u)) Q E s := by
  refine eq_str_is (b := false) ?_ hQ
  rw [slice_last (good_lett g) hl]
  cases hb : wd ls.getLast?.toList == LT c with
  | false => rfl
  | true => exact absurd ((hit_iff g hc).mp hb) h
theorem add_word (hl : ls.length ≤ 5) (h : ∀ t' tk, Q (.str (wd (ls ++ [c])) t') { s with toks := tk }) : wpAny (model prog w) A (binaryOp .Add (.str (wd ls) t) (.str (LT c) u)) Q E s := by
  refine PyProof.Rows.add_str (fun t' tk => ?_) ?_
  · rw [wd_snoc]; exact h t' tk
  · rw [PySem.sizeLine_eq, wd_len]
    show ls.length + 1 ≤ _
    omega
theorem push_len {its : Array Value} {pcs : List (Addr × Obj)} (hP : PiecesOk its ls pcs) (h : ¬ ls.getLast? = some c) (hl : its.size < 5) : (ls ++ [c]).length ≤ 5 := by
  rw [List.length_append, ← hP.1]
  exact hl
theorem small_of {its : Array Value} {pcs : List (Addr × Obj)} (hP : PiecesOk its ls pcs) (hl : ls.length ≤ 5) : its.size ≤ 1000 := by rw [hP.1]; omega
theorem sub_cons {q : Addr × Obj} {pcs all : List (Addr × Obj)} (hq : q ∈ all) (hp : ∀ p ∈ pcs, p ∈ all) : ∀ p ∈ q :: pcs, p ∈ all := List.forall_mem_cons.mpr ⟨hq, hp⟩
theorem pushed_of {h₀ h : Heap} {L q : Addr} {t1 t2 : Tok} {its : Array Value} {pcs rest : List (Addr × Obj)}
    (N : News h₀ L h ((q, { cls := .type "tuple", data := .seq #[.str (Str.ofString " ") t1, .str (LT c) t2] }) :: rest)) (hP : PiecesOk its ls pcs) :
    PiecesOk (its.push (.ref q)) (ls ++ [c]) ((q, pairObj (Str.ofString " ") (LT c) t1 t2 0) :: pcs) := pieces_push hP
end
end Mine
end

section
open PySem PySem.W PyProof.Rows PySem.Calls
set_option Elab.async false
set_option maxRecDepth 100000
set_option maxHeartbeats 1000000
set_option linter.unusedVariables false
namespace Mine
theorem item_two {b c : Int} (hb : Lett b) (hc : Lett c) : Txt.item (wd [b, c]) 1 = LT c := by
  have h1 : b = 0 ∨ b = 1 ∨ b = 2 := by have := hb.1; have := hb.2; omega
  have h2 : c = 0 ∨ c = 1 ∨ c = 2 := by have := hc.1; have := hc.2; omega
  rcases h1 with rfl | rfl | rfl <;> rcases h2 with rfl | rfl | rfl <;> decide +kernel
/-- a word that is not empty: its colour tells two letters, the second of which is its last -/
theorem says_some {ks : List Int} {out : Str} (g : Good ks) (h : Says out ks) (hn : ks ≠ []) : ∃ c b, ks.getLast? = some c ∧ Lett c ∧ Lett b ∧ out = wd [b, c] := by
  have gl := good_lett g
  have hr : ks.getLast? = ks.reverse.head? := by simp
  unfold Says at h
  have gr : ∀ c ∈ ks.reverse, Lett c := fun c hc => gl c (by simpa using hc)
  match hq : ks.reverse, h, gr with
  | [], h, _ => exact absurd (List.reverse_eq_nil_iff.mp hq) hn
  | [c], h, gr =>
    obtain ⟨b, hb, e⟩ := h
    exact ⟨c, b, by rw [hr, hq]; rfl, gr c (.head _), hb, e⟩
  | c :: b :: r, h, gr => exact ⟨c, b, by rw [hr, hq]; rfl, gr c (.head _), gr b (.tail _ (.head _)), h⟩
theorem says_nil {out : Str} (h : Says out []) : out = Str.ofString "" := h
theorem cons_word (c : Int) (bs : List Int) : LT c ++ wd bs = wd (c :: bs) := by
  show (⟨_ ++ _⟩ : Str) = _
  simp [wd, LT]
end Mine
end

section
open PySem PySem.W PyProof.Rows PySem.Calls
set_option Elab.async false
set_option maxRecDepth 100000
set_option maxHeartbeats 1000000
set_option linter.unusedVariables false
namespace Mine
/-- the ledger behind the loop -/
noncomputable abbrev ledW (T R : Addr) (tr tr0 : Obj) (p0 p7 : Array Value) : List (Addr × Obj) := [(T, tr), (R, tr0), (70, tabObj p0), (77, tabObj p7)]
/-- the way back: the word is what is left and what was walked back -/
def LW (p : Int × Int × Int) (ls : List Int) (R : Addr) (ra rb rc : Tok) (p0 p7 : Array Value) (mB : Str → Option Value) (kv lv : Option Value) (t1 : Tok) (n : Nat) (m : Str → Option Value) (news : List (Addr × Obj)) : Prop :=
  ∃ (ks bs : List Int) (t2 t3 : Tok) (out : Str) (T : Addr) (ta tb tc : Tok) (te : Nat), ls = ks ++ bs ∧ n = ks.length ∧ Good ks ∧ Says out ks ∧
    m = (fun y => if y = Str.ofString "back" then some (.str (wd bs) t3) else turnM mB kv lv (.str (wd ls) t1) (.str out t2) (.ref T) y) ∧
    news = ledW T R (tri (run p ks).1 (run p ks).2.1 (run p ks).2.2 ta tb tc te) (tri p.1 p.2.1 p.2.2 ra rb rc 3) p0 p7
theorem map_back {mB : Str → Option Value} {kv lv : Option Value} {w a b c a' b' c' : Value} :
    (fun y => if y = Str.ofString "told" then some b else if y = Str.ofString "three" then some c else if y = Str.ofString "back" then some a else if y = Str.ofString "back" then some a' else turnM mB kv lv w b' c' y) =
    (fun y => if y = Str.ofString "back" then some a else turnM mB kv lv w b c y) := by
  funext y
  unfold turnM
  by_cases h1 : y = Str.ofString "told"
  · subst h1; rw [if_pos rfl, if_neg (by decide), if_neg (by decide), if_neg (by decide), if_neg (by decide), if_pos rfl]
  by_cases h2 : y = Str.ofString "three"
  · subst h2; rw [if_neg h1, if_pos rfl, if_neg (by decide), if_neg (by decide), if_neg (by decide), if_neg (by decide), if_neg h1, if_pos rfl]
  by_cases h3 : y = Str.ofString "back"
  · subst h3; rw [if_neg h1, if_neg h2, if_pos rfl, if_pos rfl]
  simp only [h1, h2, h3, if_false]
theorem ne_two {prog : Program} {w : World} {A : Around} {E : Value → Shared → Prop} {s : Shared} {Q : Value → Shared → Prop} {b c : Int} {t u : Tok} (h : Q (.bool true) s) : wpAny (model prog w) A (compareOp .NotEq (.str (wd [b, c]) t) (.str (Str.ofString "") u)) Q E s := by
  refine PyProof.Rows.ne_str ?_
  have e : (wd [b, c] != Str.ofString "") = true := by
    rw [bne_iff_ne]
    intro e
    have := congrArg Str.length e
    rw [wd_len] at this
    exact absurd (show 2 = (Str.ofString "").length from this) (by decide)
  first | exact e ▸ h | (rw [e]; exact h)
theorem item_told {prog : Program} {w : World} {A : Around} {E : Value → Shared → Prop} {s : Shared} {value slice : PySem.Expr} {t u : Tok} {b c : Int} {Q : Value → Shared → Prop} (hb : Lett b) (hc : Lett c) (h : Q (.str (LT c) s.toks) { s with toks := s.toks + 1 })
    (hs : subscripted slice false (.str (wd [b, c]) t) (.int 1 u) = operate [.str (wd [b, c]) t, .int 1 u] (getItem (.str (wd [b, c]) t) (.int 1 u)) := by with_unfolding_all rfl)
    (ht : ∀ r, letTemporaryGo value (.str (wd [b, c]) t) r = pure () := by intro _; with_unfolding_all rfl) :
    wpAny (model prog w) A (subscriptTail value slice (.str (wd [b, c]) t) (.int 1 u)) Q E s :=
  KXi.item (n := 2) (wd_len _) (by decide) (by decide) (by decide) (fun _ => by rw [item_two hb hc]; exact h) hs ht
theorem add_back {prog : Program} {w : World} {A : Around} {E : Value → Shared → Prop} {s : Shared} {Q : Value → Shared → Prop} {bs : List Int} {c : Int} {t u : Tok} (hl : bs.length ≤ 5) (h : ∀ t' tk, Q (.str (wd (c :: bs)) t') { s with toks := tk }) : wpAny (model prog w) A (binaryOp .Add (.str (LT c) t) (.str (wd bs) u)) Q E s := by
  refine PyProof.Rows.add_str (fun t' tk => ?_) ?_
  · rw [cons_word]; exact h t' tk
  · rw [PySem.sizeLine_eq, wd_len]
    show 1 + bs.length ≤ _
    omega
theorem ks_len {ks bs ls : List Int} (e : ls = ks ++ bs) (hl : ls.length ≤ 5) : ks.length ≤ 5 := by rw [e, List.length_append] at hl; omega
theorem drop_len {ks : List Int} (h : ks.length ≤ 5) : ks.dropLast.length ≤ 5 := by rw [List.length_dropLast]; omega
theorem wd_len_bs {ks bs ls : List Int} (e : ls = ks ++ bs) : (wd bs).length = bs.length := wd_len bs
theorem bs_lt {ks bs ls : List Int} (e : ls = ks ++ bs) (hl : ls.length ≤ 5) (hk : ks ≠ []) : bs.length < 5 := by
  have := List.length_pos_iff.mpr hk
  rw [e, List.length_append] at hl; omega
theorem nil_or {ks : List Int} (g : Good ks) : ks = [] ∨ ks ≠ [] := Classical.em _
theorem bs_len {ks bs ls : List Int} (e : ls = ks ++ bs) (hl : ls.length ≤ 5) : bs.length ≤ 5 := by rw [e, List.length_append] at hl; omega
section
variable {prog : Program} {w : World} {A : Around} {E : Value → Shared → Prop} {Q : Flow → Shared → Prop} {s : Shared} {env : Env} {h₀ : Heap} {L : Addr}
    {p : Int × Int × Int} {ls : List Int} {R T x d DR a4 a3 : Addr} {ra rb rc ta tb tc tk tv t1 t2 t3 : Tok} {te ep : Nat} {p0 p7 its : Array Value} {mB : Str → Option Value} {kv lv : Option Value} {out : Str} {low : Int} {ysD : List Value} {c4 c3 : Obj} {pcs : List (Addr × Obj)} {w' : World}
theorem while_end {n : Nat} {h' : Heap} {tk' : Nat} {m' : Str → Option Value} {all : List (Addr × Obj)} {ks bs : List Int} (e : ls = ks ++ bs) (hn : ks.length < n) (g : Good ks) (hs : Says out ks)
    (F : Fr h₀ L h' m') (N : News h₀ L h' all) (hT : (T, tri (run p ks).1 (run p ks).2.1 (run p ks).2.2 ta tb tc te) ∈ all) (hR : (R, tri p.1 p.2.1 p.2.2 ra rb rc 3) ∈ all) (h0 : (70, tabObj p0) ∈ all) (h7 : (77, tabObj p7) ∈ all)
    (hm : m' = (fun y => if y = Str.ofString "back" then some (.str (wd bs) t3) else turnM mB kv lv (.str (wd ls) t1) (.str out t2) (.ref T) y)) :
    WhileStep h₀ L s (LW p ls R ra rb rc p0 p7 mB kv lv t1) n .next { s with heap := h', toks := tk' } := by
  refine WhileStep.intro (news₂ := ledW T R (tri (run p ks).1 (run p ks).2.1 (run p ks).2.2 ta tb tc te) (tri p.1 p.2.1 p.2.2 ra rb rc 3) p0 p7) F (fun q hq => N q ?_) hn ⟨ks, bs, t2, t3, out, T, ta, tb, tc, te, e, rfl, g, hs, hm, rfl⟩
  simp only [List.mem_cons, List.mem_nil_iff, or_false] at hq
  rcases hq with rfl | rfl | rfl | rfl
  · exact hT
  · exact hR
  · exact h0
  · exact h7
theorem while_law {test : PySem.Expr} {body : List Stmt} {pos : Pos} (hroot : RootOk p) (g : Good ls) (hl : ls.length ≤ 5) (hs : Says out ls)
    (F : Fr h₀ L s.heap (fun y => if y = Str.ofString "back" then some (.str (Str.ofString "") t3) else turnM mB kv lv (.str (wd ls) t1) (.str out t2) (.ref T) y))
    (N : News h₀ L s.heap (led9 w' x d T R DR a4 a3 its ep tk tv low (tri (run p ls).1 (run p ls).2.1 (run p ls).2.2 ta tb tc te) (tri p.1 p.2.1 p.2.2 ra rb rc 3) ysD c4 c3 p0 p7 pcs))
    (turn : ∀ (ks bs : List Int) (t2 t3 : Tok) (out : Str) (T : Addr) (ta tb tc : Tok) (te : Nat) h₁ tk₁, ls = ks ++ bs → Good ks → Says out ks →
      Fr h₀ L h₁ (fun y => if y = Str.ofString "back" then some (.str (wd bs) t3) else turnM mB kv lv (.str (wd ls) t1) (.str out t2) (.ref T) y) →
      News h₀ L h₁ (ledW T R (tri (run p ks).1 (run p ks).2.1 (run p ks).2.2 ta tb tc te) (tri p.1 p.2.1 p.2.2 ra rb rc 3) p0 p7) →
      wpAny (model prog w) A (isTrue test env (eval test env)) (fun b s₂ =>
        if b = true then wpAny (model prog w) A (execs body env) (WhileStep h₀ L s (LW p ls R ra rb rc p0 p7 mB kv lv t1) ks.length) E s₂ else Q .next s₂) E { s with heap := h₁, toks := tk₁ })
    (hE : PassesOwn (model prog w) A env E := by passes_own) :
    wpAny (model prog w) A (exec (.While test body [] pos) env) Q E s := by
  refine While_inv (LW p ls R ra rb rc p0 p7 mB kv lv t1) (n₀ := ls.length) (news := ledW T R (tri (run p ls).1 (run p ls).2.1 (run p ls).2.2 ta tb tc te) (tri p.1 p.2.1 p.2.2 ra rb rc 3) p0 p7) F (fun q hq => N q ?_) ⟨ls, [], t2, t3, out, T, ta, tb, tc, te, by simp, rfl, g, hs, rfl, rfl⟩ ?_ hE
  · simp only [List.mem_cons, List.mem_nil_iff, or_false] at hq ⊢
    rcases hq with h | h | h | h <;> simp [h]
  · rintro n m₁ news₁ h₁ tk₁ F₁ N₁ ⟨ks, bs, t2, t3, out, T, ta, tb, tc, te, e, rfl, g', hs', rfl, rfl⟩
    exact turn ks bs t2 t3 out T ta tb tc te h₁ tk₁ e g' hs' F₁ N₁
end
end Mine
end

section
open PySem PySem.W PyProof.Rows PySem.Calls
set_option Elab.async false
set_option maxRecDepth 100000
set_option maxHeartbeats 16000000
set_option linter.unusedVariables false
namespace Mine
noncomputable def intOf : Value → Int
  | .int n _ => n
  | _ => 0
noncomputable def stepInts (vs : List Value) (lo hi st : Option Int) : List Int := (slicePick vs.toArray lo hi st).toList.map intOf
theorem ints_mem : ∀ {vs : List Value} {ns : List Int}, IntsAre vs ns → ∀ v ∈ vs, ∃ n t, v = .int n t
  | _, _, .nil, _, h => nomatch h
  | _, _, .cons n t r, v, h => by
    rcases List.mem_cons.mp h with rfl | h
    · exact ⟨n, t, rfl⟩
    · exact ints_mem r v h
theorem ints_map : ∀ {vs : List Value}, (∀ v ∈ vs, ∃ n t, v = .int n t) → IntsAre vs (vs.map intOf)
  | [], _ => .nil
  | v :: r, h => by
    obtain ⟨n, t, rfl⟩ := h v (.head _)
    exact .cons n t (ints_map fun u hu => h u (.tail _ hu))
theorem step_ints {vs : List Value} {ns : List Int} (hi : IntsAre vs ns) (lo hb st : Option Int) : IntsAre (slicePick vs.toArray lo hb st).toList (stepInts vs lo hb st) := by
  refine ints_map fun v hv => ints_mem hi v ?_
  unfold slicePick at hv
  obtain ⟨i, _, e⟩ := List.mem_filterMap.mp (by simpa using hv)
  exact List.mem_of_getElem? (by simpa using e)
theorem slice_step {prog : Program} {w : World} {A : Around} {E : Value → Shared → Prop} {s : Shared} {h₀ : Heap} {L : Addr} {m : Str → Option Value} {news : List (Addr × Obj)} {value slice : PySem.Expr} {l : Addr} {vs : List Value} {ns : List Int} {vl vu vk : Value} {lo hi st : Option Int} {ops : List Value} {Q : Value → Shared → Prop}
    (F : Fr h₀ L s.heap m) (N : News h₀ L s.heap news) (hl : s.heap.IsList l vs.toArray) (hI : IntsAre vs ns) (pl : IsPart vl lo) (pu : IsPart vu hi) (pk : IsPart vk st) (h0 : st ≠ some 0) (hsz : vs.toArray.size ≤ sizeLine)
    (hs : subscripted slice false (.ref l) (.ref s.heap.objs.size) = operate ops (getItem (.ref l) (.ref s.heap.objs.size))) (ht : ∀ r, letTemporaryGo value (.ref l) r = pure ())
    (h : ∀ D ws h', Fr h₀ L h' m → News h₀ L h' ((D, listOf ws.toArray 0) :: news) → (∀ p ∈ news, p.1 < D) → IntsAre ws (stepInts vs lo hi st) → Q (.ref D) { s with heap := h' }) :
    wpAny (model prog w) A (subscriptTail value slice (.ref l) (.ref s.heap.objs.size)) Q E { s with heap := s.heap.push { cls := .type "slice", data := .fields #[vl, vu, vk] } } := by
  refine slice_list3 F N hl pl pu pk h0 (fun h' F' N' => h _ (slicePick vs.toArray lo hi st).toList h' F' ?_ (fun p hp => Nat.lt_succ_of_lt (Heap.lt_size (N p hp).1)) (step_ints hI _ _ _)) hs ht hsz
  rw [Array.toArray_toList]
  exact N'
theorem mod_three {prog : Program} {w : World} {A : Around} {E : Value → Shared → Prop} {s : Shared} {a : Int} {t u : Tok} {Q : Value → Shared → Prop} (h : ∀ k : Int, 0 ≤ k → k < 3 → Q (.int k s.toks) { s with toks := s.toks + 1 }) :
    wpAny (model prog w) A (binaryOp .Mod (.int a t) (.int 3 u)) Q E s :=
  PyProof.Rows.mod_int (by decide) (h _ (Int.fmod_nonneg_of_pos _ (by decide)) (Int.fmod_lt_of_pos _ (by decide)))
theorem root_three {g : Int → Int} {kL : Int} {ys : List Value} (h : IntsAre ys (List.map (fun k' => 4 + kL + (g k').fmod (4 + kL)) (rangeKs 1 ((4 : Int) - 1).toNat))) (h0 : 0 ≤ kL) (h3 : kL < 3) :
    ∃ x y z, (4 + kL ≤ x ∧ x < 2 * (4 + kL)) ∧ (4 + kL ≤ y ∧ y < 2 * (4 + kL)) ∧ (4 + kL ≤ z ∧ z < 2 * (4 + kL)) ∧ IntsAre ys [x, y, z] := by
  have hb : ∀ k, 4 + kL ≤ 4 + kL + (g k).fmod (4 + kL) ∧ 4 + kL + (g k).fmod (4 + kL) < 2 * (4 + kL) := fun k => by
    have h1 := Int.fmod_nonneg_of_pos (g k) (show (0 : Int) < 4 + kL by omega)
    have h2 := Int.fmod_lt_of_pos (g k) (show (0 : Int) < 4 + kL by omega)
    omega
  exact ⟨_, _, _, hb 1, hb 2, hb 3, h⟩
theorem small_mem {x y z k lo : Int} (hk : k ∈ [x, y, z]) (h3 : lo < 3) (hx : 4 + lo ≤ x ∧ x < 2 * (4 + lo)) (hy : 4 + lo ≤ y ∧ y < 2 * (4 + lo)) (hz : 4 + lo ≤ z ∧ z < 2 * (4 + lo)) (h0 : 0 ≤ lo) : IntMulOk k k := by
  have : 0 ≤ k ∧ k < 100 := by
    rcases List.mem_cons.mp hk with rfl | hk
    · omega
    rcases List.mem_cons.mp hk with rfl | hk
    · omega
    rw [List.mem_singleton.mp hk]; omega
  exact IntMulOk.of_right (intBits_le_64 (by omega) (by omega))
/-- what the law's call ends in -/
def LawPost (s₁ : Shared) (r : Result) (s' : Shared) : Prop :=
  r = .ok (.ret (.bool true)) ∧ (∀ b o, (ghostOf s₁.heap [(74, 70), (81, 77)]).get? b = some o → s'.heap.get? b = some o) ∧ s'.os = s₁.os ∧ AllBare s'.gens ∧ GrownAll [(74, 70), (81, 77)] s'.heap
theorem law_post {M : Model} {A : Around} {cd : Code} {s s₁ : Shared} {cw : ClaimW} {cl : Str → Option Addr} {mean : ExcName → Option Value} {args : List WData} (hT : TabsAt [(74, 70), (81, 77)] s₁.heap) (hr : ∀ a x, cw.raises a x = false) (hp : cw.post args (.bool true) args = true)
    (h : codeAny M A cd (LawPost s₁) s) : codeAny M A cd (GoodWG cw cl mean args s₁) s :=
  codeAny_mono h fun r s' ⟨hv, hk, hos, hg, hgr⟩ => by
    have keep : ∀ b o, b ∉ ([(74, 70), (81, 77)] : List (Addr × Addr)).map (·.2) → s₁.heap.get? b = some o → s'.heap.get? b = some o := fun b o hb e => hk b o (ghost_ne e hb)
    have grown : ∀ b o, b ∈ ([(74, 70), (81, 77)] : List (Addr × Addr)).map (·.2) → s₁.heap.get? b = some o → isCodeTable s₁.heap b ∧ o = tabObj #[] ∧ ∃ ps, s'.heap.get? b = some (tabObj ps) := fun b o hb e => by
      obtain ⟨q, hq, rfl⟩ := List.mem_map.mp hb
      have e2 := (hT q hq).2
      rw [e] at e2
      exact ⟨((hT q hq).1.tab (hT q hq).2).isCodeTable, Option.some.inj e2, hgr.get q hq⟩
    refine ⟨.inl ⟨_, .bool true, [], hv, fun x => hr _ x, .bool true, hp, fun _ => ⟨List.nodup_nil, fun _ h => nomatch h⟩⟩, ⟨fun b o e => ?_, fun b o e => ?_⟩, hos, hg⟩
    · by_cases hb : b ∈ ([(74, 70), (81, 77)] : List (Addr × Addr)).map (·.2)
      · obtain ⟨ht, rfl, ps, hP⟩ := grown b o hb e
        exact .inr (.inl ⟨ht, rfl, #[], ps, rfl, by rw [Array.empty_append]; exact hP⟩)
      · exact .inl (keep b o hb e)
    · by_cases hb : b ∈ ([(74, 70), (81, 77)] : List (Addr × Addr)).map (·.2)
      · obtain ⟨_, _, ps, hP⟩ := grown b o hb e
        exact ⟨_, hP⟩
      · exact ⟨o, keep b o hb e⟩
end Mine
end

section
open PySem PySem.W PyProof.Rows PySem.Calls
set_option Elab.async false
set_option maxRecDepth 100000
set_option maxHeartbeats 16000000
set_option linter.unusedVariables false
namespace Mine
local macro_rules | `(tactic| omega) => `(tactic| first | decide | lia | omega +splitDisjunctions)
theorem fillL1 : PySem.Challenge.rw_wu0012_01 = PySem.Challenge.rw_wu0012_01 ∧ tp.heap_39 = tp.heap_39 := by
  k_fill
  exact ⟨rfl, rfl⟩
end Mine
end

section
open PySem PySem.W PyProof.Rows PySem.Calls
set_option Elab.async false
set_option maxRecDepth 100000
set_option maxHeartbeats 16000000
set_option linter.unusedVariables false
namespace Mine
theorem fillL2 : PySem.Challenge.rw_wu0012_01 = PySem.Challenge.rw_wu0012_01 ∧ tp.heap_39 = tp.heap_39 := by
  k_fill
  exact ⟨rfl, rfl⟩
theorem lst_tri {ys : List Value} {a b c : Int} (h : IntsAre ys [a, b, c]) : ∃ t1 t2 t3, LCg.lst ys = tri a b c t1 t2 t3 3 := by
  obtain ⟨t1, t2, t3, rfl⟩ := int3 h
  exact ⟨t1, t2, t3, rfl⟩
theorem news_dup {h₀ h : Heap} {L : Addr} {news : List (Addr × Obj)} {p : Addr × Obj} (N : News h₀ L h news) (hp : p ∈ news) : News h₀ L h (p :: news) := fun r hr => by
  rcases List.mem_cons.mp hr with e | hr
  · rw [e]; exact N _ hp
  · exact N _ hr
end Mine
end

section
open PySem PySem.W PyProof.Rows PySem.Calls
set_option Elab.async false
set_option maxRecDepth 100000
set_option maxHeartbeats 16000000
set_option linter.unusedVariables false
namespace Mine
theorem fillL3 : PySem.Challenge.rw_wu0012_01 = PySem.Challenge.rw_wu0012_01 ∧ tp.heap_39 = tp.heap_39 := by
  k_fill
  exact ⟨rfl, rfl⟩
theorem item_lt {prog : Program} {w : World} {A : Around} {E : Value → Shared → Prop} {s : Shared} {value slice : PySem.Expr} {t u : Tok} {i : Int} {Q : Value → Shared → Prop} (hi : Lett i) (h : Q (.str (LT i) s.toks) { s with toks := s.toks + 1 })
    (hs : subscripted slice false (.str (Str.ofString "rgb") t) (.int i u) = operate [.str (Str.ofString "rgb") t, .int i u] (getItem (.str (Str.ofString "rgb") t) (.int i u)) := by with_unfolding_all rfl)
    (ht : ∀ r, letTemporaryGo value (.str (Str.ofString "rgb") t) r = pure () := by intro _; with_unfolding_all rfl) :
    wpAny (model prog w) A (subscriptTail value slice (.str (Str.ofString "rgb") t) (.int i u)) Q E s :=
  KXi.item (n := 3) (by decide) (by have := hi.1; omega) hi.2 (by decide) (fun _ => by rw [item_rgb hi]; exact h) hs ht
theorem line_of {x : Str} {n : Nat} (h : x.length ≤ n) (hn : n ≤ 5) : x.length ≤ sizeLine := by
  rw [PySem.sizeLine_eq]; omega
end Mine
end

section
open PySem PySem.W PyProof.Rows PySem.Calls
set_option Elab.async false
set_option maxRecDepth 100000
set_option maxHeartbeats 16000000
set_option linter.unusedVariables false
namespace Mine
theorem fillL4 : PySem.Challenge.rw_wu0012_01 = PySem.Challenge.rw_wu0012_01 ∧ tp.heap_39 = tp.heap_39 := by
  k_fill
  exact ⟨rfl, rfl⟩
end Mine
end

section
open PySem PySem.W PyProof.Rows PySem.Calls
set_option Elab.async false
set_option maxRecDepth 100000
set_option maxHeartbeats 16000000
set_option linter.unusedVariables false
namespace Mine
theorem fillL5 : PySem.Challenge.rw_wu0012_01 = PySem.Challenge.rw_wu0012_01 ∧ tp.heap_39 = tp.heap_39 := by
  k_fill
  exact ⟨rfl, rfl⟩
end Mine
end

section
open PySem PySem.W PyProof.Rows PySem.Calls
set_option Elab.async false
set_option maxRecDepth 100000
set_option maxHeartbeats 16000000
set_option linter.unusedVariables false
namespace Mine
theorem fillL6 : PySem.Challenge.rw_wu0012_01 = PySem.Challenge.rw_wu0012_01 ∧ tp.heap_39 = tp.heap_39 := by
  k_fill
  exact ⟨rfl, rfl⟩
end Mine
end

section
open PySem PySem.W PyProof.Rows PySem.Calls
set_option Elab.async false
set_option maxRecDepth 100000
set_option maxHeartbeats 16000000
set_option linter.unusedVariables false
namespace Mine
theorem fillL7 : PySem.Challenge.rw_wu0012_01 = PySem.Challenge.rw_wu0012_01 ∧ tp.heap_39 = tp.heap_39 := by
  k_fill
  exact ⟨rfl, rfl⟩
end Mine
end

section
open PySem PySem.W PyProof.Rows PySem.Calls
set_option Elab.async false
set_option maxRecDepth 100000
set_option maxHeartbeats 16000000
set_option linter.unusedVariables false
namespace Mine
theorem fillL11 : PySem.Challenge.rw_wu0012_01 = PySem.Challenge.rw_wu0012_01 ∧ tp.heap_39 = tp.heap_39 := by
  k_fill
  exact ⟨rfl, rfl⟩
theorem snoc_step {ls ks bs : List Int} {c : Int} (e : ls = ks ++ bs) (h : ks.getLast? = some c) : ls = ks.dropLast ++ (c :: bs) ∧ ks.dropLast.length < ks.length := by
  have e2 := split_last h
  refine ⟨?_, ?_⟩
  · rw [e]; conv => lhs; rw [e2]
    rw [List.append_assoc]; rfl
  · have := congrArg List.length e2
    rw [List.length_append] at this
    simp only [List.length_singleton] at this
    omega
end Mine
end

section
open PySem PySem.W PyProof.Rows PySem.Calls
set_option Elab.async false
set_option maxRecDepth 100000
set_option maxHeartbeats 16000000
set_option linter.unusedVariables false
set_option maxHeartbeats 0
namespace Mine
local macro_rules | `(tactic| omega) => `(tactic| first | decide | lia | omega +splitDisjunctions)
local macro_rules | `(tactic| walk_at "subscriptTail Name Slice ref ref") => `(tactic| (k_here; (with_reducible show wpAny _ _ (subscriptTail _ (PySem.Expr.Slice _ _ (some _) _) (Value.ref _) (Value.ref _)) _ _ _); k_dflt (refine' slice_step ?F ?N ?l ?i ?p ?q ?k ?o ?z ?s ?t ?_; (case F => k_asm); (case N => k_asm); (case l => kmk_list); (case i => l_ints); (case p => kmk_part); (case q => kmk_part); (case k => kmk_part); (case o => decide); (case s => with_unfolding_all rfl); (case t => kmk_pure); (case z => kmk_size)); intro D' ws' h' F' N' l1 hI'; (try k_lt l1); (try k_sweep)))
theorem law_fin : PySem.Challenge.rw_wu0012_01.Holds := tp (by
  k_with_none
  k_with "binaryOp Mod int int" =>
    (((with_reducible show wpAny _ _ (binaryOp _ (Value.int _ _) (Value.int 3 _)) _ _ _); (refine mod_three ?_); intro kL' hl1' hl2'))
  k_with "binaryOp Mod int int" =>
    (((fail_if_success (with_reducible show wpAny _ _ (binaryOp _ (Value.int _ _) (Value.int 3 _)) _ _ _)); (refine PyProof.Rows.mod_int ?_ ?_; (· omega))))
  k_with "binaryOp Mult int int" =>
    ((refine PyProof.Rows.mul_int ?_ ?_; rotate_left; (· first | exact small_mem (by assumption) (by assumption) (by assumption) (by assumption) (by assumption) (by assumption) | exact PySem.IntMulOk.of_right (PySem.intBits_le_64 (by simp; omega) (by simp; omega)))))
  k_with "execs cons" =>
    (((with_reducible rename IntsAre _ (List.map _ (rangeKs 1 _)) => hR'); (obtain ⟨x0', y0', z0', bx', byy', bz', eR'⟩ := root_three hR' (by assumption) (by assumption)); clear hR'; walk_at "execs cons"))
  k_fill
  intro w s₀ s₁ mg mb G Y fa o pm cd doc dV kV ho hd hcd hD hmg hg args vals as hpre hlay hrd hwl hlo
  have KX : (tp.heap_39 w.params).In _ := km_in_of Y
  have hT8 := km_tabs_of Y
  clear Y
  have X := (Ground.X G).1
  have V := (Ground.X G).2
  refine Ground.open G ?_
  intro T B D TE TW
  try (refine guard_noD D (by decide +kernel) ?_; clear D)
  have hT9 : TabsAt ([(74, 70), (81, 77)] : List (Addr × Addr)) _ := List.forall_mem_cons.mpr ⟨⟨codeHd_of_K (c := 74) (P := 70) KX (by kernel_rfl), hT8 70 (by k_mem)⟩, List.forall_mem_cons.mpr ⟨⟨codeHd_of_K (c := 81) (P := 77) KX (by kernel_rfl), hT8 77 (by k_mem)⟩, fun _ h => nomatch h⟩⟩
  clear hmg
  wrow_args hpre hlay hrd hwl hlo
  all_goals (
    first | refine callC_kw (enter_call ?_) | refine enter_call ?_
    w_top on
    (refine law_post hT9 (fun _ _ => rfl) (postW_of rfl (w_eq_bool (w_res rfl) w_lit) rfl) ?_)
    w_call any ho hd hcd hD T F
    clear hd
    kn_ghosts F T
    k_drop)
  all_goals ((try k_unmd); (try k_fold))
  repeat' ((fail_if_success (with_reducible show wpAny _ _ (call (Value.ref 108) _) _ _ _)); (first | (k_unfold; (try dsimp only)) | (k_end; wrow_close) | walk1 | (dsimp only; walk1) | (leave1; walk_say "STEP leave1"; try dsimp only) | fail "no step"))
  try clear TE
  try clear TW
  try clear B
  try clear hT9
  try clear hT8
  try clear V
  try clear X
  try clear KX
  try clear ho
  try clear hcd
  try clear hD
  try clear Y
  try clear G
  k_with_none
  k_with "call ref" =>
    ((k_here; (with_reducible show wpAny _ _ (call (Value.ref 108) [Value.int _ _]) _ _ _); k_dflt (refine' acc_walk ?k1L2r0 ?k2L2r0 ?k3L2r0 ?k4L2r0 ?k5L2r0 ?k6L2r0 ?k7L2r0 ?k8L2r0 ?_; (case k1L2r0 => k_asm); (case k2L2r0 => k_asm); (case k3L2r0 => k_asm); (case k4L2r0 => k_asm); (case k5L2r0 => k_asm); (case k6L2r0 => exact rfl); (case k7L2r0 => decide); (case k8L2r0 => decide); k_whole); intro x' d' tk' tv' h' tk2' F' N' l1 l2; (try k_lt l1); (try k_lt2 l2)))
  k_with "call ref" =>
    ((k_here; (with_reducible show wpAny _ _ (call (Value.ref 145) [Value.ref _]) _ _ _); (with_reducible rename ToldIn _ _ _ _ _ _ _ _ => hT'); (with_reducible rename News _ _ _ _ => kN'); k_dflt (refine' told_walk hT' ?k1L2r1 ?k2L2r1 ?k3L2r1 (news_dup kN' ?k4L2r1) ?k5L2r1 ?k6L2r1 ?k7L2r1 ?k8L2r1 ?_; (case k1L2r1 => k_asm); (case k2L2r1 => k_asm); (case k3L2r1 => k_asm); (case k4L2r1 => k_mem); (case k5L2r1 => k_asm); (case k6L2r1 => exact rfl); (case k7L2r1 => decide); (case k8L2r1 => decide); k_whole); intro t' h' tk' F' N'))
  intros
  (try k_unmd)
  (with_reducible rename IntsAre _ [_, _, _] => eR)
  (with_reducible rename IntsAre _ (List.map _ (rangeKs 0 _)) => eD)
  (with_reducible rename News _ _ _ _ => N0)
  (with_reducible rename Fr _ _ _ _ => F0)
  have hRt := root_ok eR (by assumption) (by assumption) (by assumption) (by assumption) (by assumption)
  have hTo := told_root hRt
  obtain ⟨most, least, near, off, hT⟩ := hTo
  dsimp only at hT
  obtain ⟨ra, rb, rc, eL⟩ := lst_tri eR
  rw [eL] at N0
  repeat' ((fail_if_success (with_reducible show wpAny _ _ (exec (PySem.Stmt.For ..) _) _ _ _)); (first | (k_unfold; (try dsimp only)) | (k_end; wrow_close) | walk1 | (dsimp only; walk1) | (leave1; walk_say "STEP leave1"; try dsimp only) | fail "no step"))
  refine wpAny_For ?_
  repeat' ((fail_if_success (with_reducible show wpAny _ _ (pyIter _) _ _ _)); (first | (k_unfold; (try dsimp only)) | (k_end; wrow_close) | walk1 | (dsimp only; walk1) | (leave1; walk_say "STEP leave1"; try dsimp only) | fail "no step"))
  (with_reducible rename News _ _ _ _ => kN)
  (with_reducible rename Fr _ _ _ _ => kF)
  (rename Shared.gens _ = #[] => hg)
  refine for_law2 (S₁ := _) kN kF ⟨⟨_, by with_reducible assumption⟩, by with_reducible assumption⟩ (by with_reducible assumption) hRt rfl rfl rfl rfl rfl ⟨?_, rfl⟩ ?_ ?_
  · rw [hg]; intro y hy; exact absurd hy (Array.not_mem_empty y)
  · k_drop
    k_with_none
    k_with "binaryOp Mod int int" =>
      (((with_reducible show wpAny _ _ (binaryOp _ (Value.int _ _) (Value.int 3 _)) _ _ _); (refine mod_three ?_); intro kL' hl1' hl2'))
    k_with "subscriptTail" =>
      ((k_here; (with_reducible show wpAny _ _ (subscriptTail _ _ (Value.str (Str.ofString "rgb") _) (Value.int _ _)) _ _ _); (refine item_lt ⟨by assumption, by assumption⟩ ?_)))
    intros
    (try k_unmd)
    (try k_unmd)
    (try k_fold)
    (with_reducible rename Good _ => hG)
    (with_reducible rename List.length _ ≤ 5 => hL5)
    (with_reducible rename Says _ _ => hSay)
    (with_reducible rename PiecesOk _ _ _ => hPc)
    have hS1 := line_of (says_len hSay) (by decide)
    have hS2 := line_of (Nat.le_of_eq (wd_len _)) hL5
    repeat' ((fail_if_success (with_reducible show wpAny _ _ (getMethod _ _ _) _ _ _)); (first | (k_unfold; (try dsimp only)) | (k_end; wrow_close) | walk1 | (dsimp only; walk1) | (leave1; walk_say "STEP leave1"; try dsimp only) | fail "no step"))
    · (with_reducible rename (Txt.slice _ _ _ == _) = true => hA)
      (with_reducible rename News _ _ _ _ => kN)
      rw [says_tail hG hSay] at hA
      replace hA := (hit_iff hG ⟨by assumption, by assumption⟩).mp hA
      obtain ⟨its', q, u1, u2, nq, hsz, hPc2, hxd, kN2, hoff⟩ := hit_open kN hPc hL5 hA (by with_reducible assumption) (by with_reducible assumption)
      have hKey := key_of kN2 (by with_reducible assumption) (by with_reducible assumption)
      clear kN
      k_with_none
      k_with "k_inst" =>
        ((refine' inst_seq ?NL4r0 ?h1L4r0 ?h2L4r0; (case NL4r0 => k_asm); (case h1L4r0 => k_mem); (case h2L4r0 => k_mem)))
      k_with "getMethod ref" =>
        ((k_here; k_dflt (refine' acc_fn ?k1L4r1 ?k2L4r1 ?k3L4r1 ?k4L4r1 ?k5L4r1 ?k6L4r1 ?_; (case k1L4r1 => k_asm); (case k2L4r1 => k_asm); (case k3L4r1 => k_inst); (case k4L4r1 => k_is); (case k5L4r1 => k_is); (case k6L4r1 => k_get))))
      k_with "call ref" =>
        ((k_here; (with_reducible show wpAny _ _ (call (Value.ref 68) _) _ _ _); k_dflt (refine' pop_walk ?k0L4r2 ?k9L4r2 ?kAL4r2 ?k1L4r2 ?k2L4r2 ?k3L4r2 ?k4L4r2 ?k5L4r2 ?k6L4r2 ?k7L4r2 ?k8L4r2 ?_; (case k0L4r2 => with_reducible assumption); (case k9L4r2 => with_reducible assumption); (case k1L4r2 => k_asm); (case k2L4r2 => k_asm); (case k3L4r2 => k_asm); (case k4L4r2 => with_reducible assumption); (case kAL4r2 => with_reducible assumption); (case k5L4r2 => k_asm); (case k6L4r2 => exact rfl); (case k7L4r2 => decide); (case k8L4r2 => decide); k_whole); intro h' tk' F' N'; (try dsimp only)))
      k_with "compareOp NotEq ref ref" =>
        ((k_here; k_dflt (refine' ne_pair ?k1L4r3 ?k2L4r3 ?k3L4r3 ?k4L4r3 ?_; (case k1L4r3 => k_asm); (case k2L4r3 => k_mem); (case k3L4r3 => k_mem); (case k4L4r3 => first | ktr_units | exact Nat.le_of_ble_eq_true rfl))))
      k_with "call ref" =>
        ((k_here; (with_reducible show wpAny _ _ (call (Value.ref 138) _) _ _ _); k_dflt (refine' moved_any ⟨?kxL4r4, ?kyL4r4⟩ ?k0L4r4 ?kAL4r4 ?k1L4r4 ?k2L4r4 ?k3L4r4 ?k4L4r4 ?k9L4r4 ?k5L4r4 ?k6L4r4 ?k7L4r4 ?k8L4r4 ?_; (case kAL4r4 => with_reducible assumption); (case k0L4r4 => with_reducible assumption); (case kxL4r4 => assumption); (case kyL4r4 => assumption); (case k1L4r4 => k_asm); (case k2L4r4 => k_asm); (case k3L4r4 => k_asm); (case k4L4r4 => k_asm); (case k9L4r4 => k_mem); (case k5L4r4 => k_asm); (case k6L4r4 => exact rfl); (case k7L4r4 => decide); (case k8L4r4 => decide); k_whole); intro l' t1' t2' t3' h' tk' F' N' off'; (try dsimp only)))
      k_with "call ref" =>
        ((k_here; (with_reducible show wpAny _ _ (call (Value.ref 145) _) _ _ _); (with_reducible rename ToldIn _ _ _ _ _ _ _ _ => hT'); k_dflt (refine' told_led hT' ?k1L4r5 ?k2L4r5 ?k3L4r5 ?k4L4r5 ?k9L4r5 ?k5L4r5 ?k6L4r5 ?k7L4r5 ?k8L4r5 ?_; (case k1L4r5 => k_asm); (case k2L4r5 => k_asm); (case k3L4r5 => k_asm); (case k4L4r5 => k_asm); (case k9L4r5 => k_mem); (case k5L4r5 => k_asm); (case k6L4r5 => exact rfl); (case k7L4r5 => decide); (case k8L4r5 => decide); k_whole); intro t' h' tk' F' N'; (try dsimp only)))
      k_with "call ref" =>
        ((k_here; (with_reducible show wpAny _ _ (call (Value.ref 82) _) _ _ _); (with_reducible rename News _ _ _ _ => kN'); (with_reducible rename Key _ _ _ _ _ _ _ _ _ _ _ _ _ _ _ _ _ _ _ _ _ _ _ _ => hKey'); k_dflt (refine' str_led ?kGL4r6 ?kCL4r6 ?k7L4r6 ?kPL4r6 ?klL4r6 ?k5L4r6 hKey' (led_perm kN' ?hxL4r6 ?hdL4r6 ?hTL4r6 ?hRL4r6 ?hDL4r6 ?h4L4r6 ?h3L4r6 ?h0L4r6 ?h7L4r6 ?hIL4r6 ?hpL4r6) ?b1L4r6 ?b2L4r6 ?b3L4r6 ?b5L4r6 ?b6L4r6 ?b7L4r6 ?b8L4r6 ?_; (case hxL4r6 => k_mem); (case hTL4r6 => k_mem); (case h0L4r6 => k_mem); (case h7L4r6 => k_mem); (case hdL4r6 => k_mem); (case hRL4r6 => k_mem); (case hDL4r6 => k_mem); (case h4L4r6 => k_mem); (case h3L4r6 => k_mem); (case hIL4r6 => k_mem); (case kPL4r6 => with_reducible assumption); (case kGL4r6 => assumption); (case kCL4r6 => assumption); (case k7L4r6 => with_reducible assumption); (case klL4r6 => with_reducible assumption); (case k5L4r6 => with_reducible assumption); (case hpL4r6 => intro p hp; repeat (first | exact hp | refine List.mem_cons_of_mem _ ?_)); (case b1L4r6 => k_asm); (case b2L4r6 => k_asm); (case b3L4r6 => k_asm); (case b5L4r6 => k_asm); (case b6L4r6 => exact rfl); (case b7L4r6 => first | decide | exact Nat.le_of_ble_eq_true rfl); (case b8L4r6 => first | decide | exact Nat.le_of_ble_eq_true rfl); k_whole); intro p7' t' s' h7' G' os' F' N'; (try dsimp only [W.StrBack])))
      k_with "call ref" =>
        ((k_here; (with_reducible show wpAny _ _ (call (Value.ref 75) _) _ _ _); (with_reducible rename News _ _ _ _ => kN'); (with_reducible rename Key _ _ _ _ _ _ _ _ _ _ _ _ _ _ _ _ _ _ _ _ _ _ _ _ => hKey'); k_dflt (refine' len_led ?kGL4r7 ?kCL4r7 ?k7L4r7 ?kPL4r7 ?klL4r7 ?k5L4r7 hKey' (led_perm kN' ?hxL4r7 ?hdL4r7 ?hTL4r7 ?hRL4r7 ?hDL4r7 ?h4L4r7 ?h3L4r7 ?h0L4r7 ?h7L4r7 ?hIL4r7 ?hpL4r7) ?b1L4r7 ?b2L4r7 ?b3L4r7 ?b5L4r7 ?b6L4r7 ?b7L4r7 ?b8L4r7 ?_; (case hxL4r7 => k_mem); (case hTL4r7 => k_mem); (case h0L4r7 => k_mem); (case h7L4r7 => k_mem); (case hdL4r7 => k_mem); (case hRL4r7 => k_mem); (case hDL4r7 => k_mem); (case h4L4r7 => k_mem); (case h3L4r7 => k_mem); (case hIL4r7 => k_mem); (case kPL4r7 => with_reducible assumption); (case kGL4r7 => assumption); (case kCL4r7 => assumption); (case k7L4r7 => with_reducible assumption); (case klL4r7 => with_reducible assumption); (case k5L4r7 => with_reducible assumption); (case hpL4r7 => intro p hp; repeat (first | exact hp | refine List.mem_cons_of_mem _ ?_)); (case b1L4r7 => k_asm); (case b2L4r7 => k_asm); (case b3L4r7 => k_asm); (case b5L4r7 => k_asm); (case b6L4r7 => exact rfl); (case b7L4r7 => first | decide | exact Nat.le_of_ble_eq_true rfl); (case b8L4r7 => first | decide | exact Nat.le_of_ble_eq_true rfl); k_whole); intro p0' t' s' h0' G' os' F' N'; (try dsimp only [W.LenBack]); (try refine ⟨⟨by omega, by omega⟩, ?_⟩)))
      k_with "call ref" =>
        ((k_here; (with_reducible show wpAny _ _ (call (Value.ref 105) _) _ _ _); (with_reducible rename News _ _ _ _ => kN'); (with_reducible rename Key _ _ _ _ _ _ _ _ _ _ _ _ _ _ _ _ _ _ _ _ _ _ _ _ => hKey'); k_dflt (refine' pc_led hKey' ?k1L4r8 ?k2L4r8 ?k3L4r8 kN' ?kxL4r8 ?kdL4r8 ?k5L4r8 ?k6L4r8 ?k7L4r8 ?k8L4r8 ?_; (case k1L4r8 => k_asm); (case k2L4r8 => k_asm); (case k3L4r8 => k_asm); (case kxL4r8 => k_mem); (case kdL4r8 => k_mem); (case k5L4r8 => k_asm); (case k6L4r8 => exact rfl); (case k7L4r8 => decide); (case k8L4r8 => decide); k_whole); intro t' h' tk' F' N'; (try dsimp only)))
      intros
      (try k_unmd)
      (with_reducible rename RootOk _ => hRt)
      (with_reducible rename Good _ => hG)
      (with_reducible rename List.length _ ≤ 5 => hL5)
      (with_reducible rename List.getLast? _ = some _ => hit)
      have hG2 := good_dropLast hG
      have hL52 : _ ≤ 5 := Nat.le_trans (Nat.le_of_eq (List.length_dropLast ..)) (Nat.le_trans (Nat.sub_le _ 1) hL5)
      have hBd := run_bounded hRt hG hL5
      have hMv := mv_hit hRt hit
      obtain ⟨most, least, near, off, out', hT', hSay'⟩ := told_at hRt hG2 hL52
      have hS4 := line_of (says_len hSay') (by decide)
      (with_reducible rename LP _ _ => hLP)
      obtain ⟨hGen, hOs⟩ := hLP
      have hGl2 := good_lett hG2
      have hBd2 := run_bounded hRt hG2 hL52
      have hWl := wd_len_of hG2
      (with_reducible rename PiecesOk _ _ _ => hPc2)
      have hPsz := hPc2.1
      have hSq := sq_run_of hRt hG2
      have hS3 := line_of (Nat.le_of_eq (wd_len _)) hL52
      repeat' ((fail_if_success (with_reducible show wpAny _ _ (getMethod (Value.str _ _) _ _) _ _ _)); first | (k_unfold; (try dsimp only)) | (k_end; wrow_close) | walk1 | (dsimp only; walk1) | (leave1; walk_say "STEP leave1"; try dsimp only) | fail "no step")
      · (with_reducible rename Fr _ _ _ _ => kF)
        rw [slice_drop (good_lett hG) hL5] at kF
        k_with_none
        k_with "k_inst" =>
          ((refine' inst_seq ?NL6r0 ?h1L6r0 ?h2L6r0; (case NL6r0 => k_asm); (case h1L6r0 => k_mem); (case h2L6r0 => k_mem)))
        k_with "getMethod ref" =>
          ((k_here; k_dflt (refine' acc_fn ?k1L6r1 ?k2L6r1 ?k3L6r1 ?k4L6r1 ?k5L6r1 ?k6L6r1 ?_; (case k1L6r1 => k_asm); (case k2L6r1 => k_asm); (case k3L6r1 => k_inst); (case k4L6r1 => k_is); (case k5L6r1 => k_is); (case k6L6r1 => k_get))))
        k_with "call ref" =>
          ((k_here; (with_reducible show wpAny _ _ (call (Value.ref 68) _) _ _ _); k_dflt (refine' pop_walk ?k0L6r2 ?k9L6r2 ?kAL6r2 ?k1L6r2 ?k2L6r2 ?k3L6r2 ?k4L6r2 ?k5L6r2 ?k6L6r2 ?k7L6r2 ?k8L6r2 ?_; (case k0L6r2 => with_reducible assumption); (case k9L6r2 => with_reducible assumption); (case k1L6r2 => k_asm); (case k2L6r2 => k_asm); (case k3L6r2 => k_asm); (case k4L6r2 => with_reducible assumption); (case kAL6r2 => with_reducible assumption); (case k5L6r2 => k_asm); (case k6L6r2 => exact rfl); (case k7L6r2 => decide); (case k8L6r2 => decide); k_whole); intro h' tk' F' N'; (try dsimp only)))
        k_with "compareOp NotEq ref ref" =>
          ((k_here; k_dflt (refine' ne_pair ?k1L6r3 ?k2L6r3 ?k3L6r3 ?k4L6r3 ?_; (case k1L6r3 => k_asm); (case k2L6r3 => k_mem); (case k3L6r3 => k_mem); (case k4L6r3 => first | ktr_units | exact Nat.le_of_ble_eq_true rfl))))
        k_with "call ref" =>
          ((k_here; (with_reducible show wpAny _ _ (call (Value.ref 138) _) _ _ _); k_dflt (refine' moved_any ⟨?kxL6r4, ?kyL6r4⟩ ?k0L6r4 ?kAL6r4 ?k1L6r4 ?k2L6r4 ?k3L6r4 ?k4L6r4 ?k9L6r4 ?k5L6r4 ?k6L6r4 ?k7L6r4 ?k8L6r4 ?_; (case kAL6r4 => with_reducible assumption); (case k0L6r4 => with_reducible assumption); (case kxL6r4 => assumption); (case kyL6r4 => assumption); (case k1L6r4 => k_asm); (case k2L6r4 => k_asm); (case k3L6r4 => k_asm); (case k4L6r4 => k_asm); (case k9L6r4 => k_mem); (case k5L6r4 => k_asm); (case k6L6r4 => exact rfl); (case k7L6r4 => decide); (case k8L6r4 => decide); k_whole); intro l' t1' t2' t3' h' tk' F' N' off'; (try dsimp only)))
        k_with "call ref" =>
          ((k_here; (with_reducible show wpAny _ _ (call (Value.ref 145) _) _ _ _); (with_reducible rename ToldIn _ _ _ _ _ _ _ _ => hT'); k_dflt (refine' told_led hT' ?k1L6r5 ?k2L6r5 ?k3L6r5 ?k4L6r5 ?k9L6r5 ?k5L6r5 ?k6L6r5 ?k7L6r5 ?k8L6r5 ?_; (case k1L6r5 => k_asm); (case k2L6r5 => k_asm); (case k3L6r5 => k_asm); (case k4L6r5 => k_asm); (case k9L6r5 => k_mem); (case k5L6r5 => k_asm); (case k6L6r5 => exact rfl); (case k7L6r5 => decide); (case k8L6r5 => decide); k_whole); intro t' h' tk' F' N'; (try dsimp only)))
        k_with "call ref" =>
          ((k_here; (with_reducible show wpAny _ _ (call (Value.ref 82) _) _ _ _); (with_reducible rename News _ _ _ _ => kN'); (with_reducible rename Key _ _ _ _ _ _ _ _ _ _ _ _ _ _ _ _ _ _ _ _ _ _ _ _ => hKey'); k_dflt (refine' str_led ?kGL6r6 ?kCL6r6 ?k7L6r6 ?kPL6r6 ?klL6r6 ?k5L6r6 hKey' (led_perm kN' ?hxL6r6 ?hdL6r6 ?hTL6r6 ?hRL6r6 ?hDL6r6 ?h4L6r6 ?h3L6r6 ?h0L6r6 ?h7L6r6 ?hIL6r6 ?hpL6r6) ?b1L6r6 ?b2L6r6 ?b3L6r6 ?b5L6r6 ?b6L6r6 ?b7L6r6 ?b8L6r6 ?_; (case hxL6r6 => k_mem); (case hTL6r6 => k_mem); (case h0L6r6 => k_mem); (case h7L6r6 => k_mem); (case hdL6r6 => k_mem); (case hRL6r6 => k_mem); (case hDL6r6 => k_mem); (case h4L6r6 => k_mem); (case h3L6r6 => k_mem); (case hIL6r6 => k_mem); (case kPL6r6 => with_reducible assumption); (case kGL6r6 => assumption); (case kCL6r6 => assumption); (case k7L6r6 => with_reducible assumption); (case klL6r6 => with_reducible assumption); (case k5L6r6 => with_reducible assumption); (case hpL6r6 => intro p hp; repeat (first | exact hp | refine List.mem_cons_of_mem _ ?_)); (case b1L6r6 => k_asm); (case b2L6r6 => k_asm); (case b3L6r6 => k_asm); (case b5L6r6 => k_asm); (case b6L6r6 => exact rfl); (case b7L6r6 => first | decide | exact Nat.le_of_ble_eq_true rfl); (case b8L6r6 => first | decide | exact Nat.le_of_ble_eq_true rfl); k_whole); intro p7' t' s' h7' G' os' F' N'; (try dsimp only [StrBack])))
        k_with "call ref" =>
          ((k_here; (with_reducible show wpAny _ _ (call (Value.ref 75) _) _ _ _); (with_reducible rename News _ _ _ _ => kN'); (with_reducible rename Key _ _ _ _ _ _ _ _ _ _ _ _ _ _ _ _ _ _ _ _ _ _ _ _ => hKey'); k_dflt (refine' len_led ?kGL6r7 ?kCL6r7 ?k7L6r7 ?kPL6r7 ?klL6r7 ?k5L6r7 hKey' (led_perm kN' ?hxL6r7 ?hdL6r7 ?hTL6r7 ?hRL6r7 ?hDL6r7 ?h4L6r7 ?h3L6r7 ?h0L6r7 ?h7L6r7 ?hIL6r7 ?hpL6r7) ?b1L6r7 ?b2L6r7 ?b3L6r7 ?b5L6r7 ?b6L6r7 ?b7L6r7 ?b8L6r7 ?_; (case hxL6r7 => k_mem); (case hTL6r7 => k_mem); (case h0L6r7 => k_mem); (case h7L6r7 => k_mem); (case hdL6r7 => k_mem); (case hRL6r7 => k_mem); (case hDL6r7 => k_mem); (case h4L6r7 => k_mem); (case h3L6r7 => k_mem); (case hIL6r7 => k_mem); (case kPL6r7 => with_reducible assumption); (case kGL6r7 => assumption); (case kCL6r7 => assumption); (case k7L6r7 => with_reducible assumption); (case klL6r7 => with_reducible assumption); (case k5L6r7 => with_reducible assumption); (case hpL6r7 => intro p hp; repeat (first | exact hp | refine List.mem_cons_of_mem _ ?_)); (case b1L6r7 => k_asm); (case b2L6r7 => k_asm); (case b3L6r7 => k_asm); (case b5L6r7 => k_asm); (case b6L6r7 => exact rfl); (case b7L6r7 => first | decide | exact Nat.le_of_ble_eq_true rfl); (case b8L6r7 => first | decide | exact Nat.le_of_ble_eq_true rfl); k_whole); intro p0' t' s' h0' G' os' F' N'; (try dsimp only [W.LenBack]); (try refine ⟨⟨by omega, by omega⟩, ?_⟩)))
        k_with "call ref" =>
          ((k_here; (with_reducible show wpAny _ _ (call (Value.ref 105) _) _ _ _); (with_reducible rename News _ _ _ _ => kN'); (with_reducible rename Key _ _ _ _ _ _ _ _ _ _ _ _ _ _ _ _ _ _ _ _ _ _ _ _ => hKey'); k_dflt (refine' pc_led hKey' ?k1L6r8 ?k2L6r8 ?k3L6r8 kN' ?kxL6r8 ?kdL6r8 ?k5L6r8 ?k6L6r8 ?k7L6r8 ?k8L6r8 ?_; (case k1L6r8 => k_asm); (case k2L6r8 => k_asm); (case k3L6r8 => k_asm); (case kxL6r8 => k_mem); (case kdL6r8 => k_mem); (case k5L6r8 => k_asm); (case k6L6r8 => exact rfl); (case k7L6r8 => decide); (case k8L6r8 => decide); k_whole); intro t' h' tk' F' N'; (try dsimp only)))
        k_with "pyIter str" =>
          ((k_here; (with_reducible rename Fr _ _ _ _ => kF); (with_reducible rename News _ _ _ _ => kN); (refine' way_src rfl kF kN ?kszL6r9 rfl (fun _ => rfl) (by decide) ?_; (case kszL6r9 => with_reducible assumption)); intro D' ys' h' tk' F' N' lD' sD'))
        k_with "call builtin:str.join" =>
          ((k_here; (with_reducible rename StrsAre _ _ => sD'); (with_reducible rename (∀ c ∈ _, Lett c) => gl'); (have eJ := bl_spaced gl' (by with_reducible assumption)); (refine PyProof.Rows.join_listW (by with_reducible assumption) sD' (by decide) eJ.2 ?_); (rw [eJ.1]); clear eJ; intro t' k'))
        k_with "compareOp NotEq str str" =>
          ((k_here; (with_reducible refine ne_str_eq ?eL6r11 ?_); (case eL6r11 => first | (with_reducible rfl) | exact tail_eq (by with_reducible assumption) (by with_reducible assumption) (by with_reducible assumption) | exact two_eq (by with_reducible assumption) (by with_reducible assumption) (by with_reducible assumption) (by omega))))
        k_with "compareOp NotEq int int" =>
          ((k_here; (with_reducible refine ne_int_eq ?eL6r12 ?_); (case eL6r12 => first | omega | exact due_eq (by with_reducible assumption))))
        k_with "binaryOp Mult int int" =>
          (((with_reducible rename Bounded _ => hBd'); (refine PyProof.Rows.mul_int ?_ ?_; rotate_left; (· first | exact mul_mem (by assumption) hBd' _ | exact mul_mem (.head _) hBd' _ | exact mul_mem (.tail _ (.head _)) hBd' _ | exact mul_mem (.tail _ (.tail _ (.head _))) hBd' _ | exact PySem.IntMulOk.of_right (PySem.intBits_le_64 (by simp; omega) (by simp; omega))))))
        intros
        (try k_unmd)
        repeat' (first | (k_unfold; (try dsimp only)) | (k_end; wrow_close) | walk1 | (dsimp only; walk1) | (leave1; walk_say "STEP leave1"; try dsimp only) | fail "no step")
        · skip
          k_with_none
          intros
          (try k_unmd)
          (with_reducible rename News _ _ _ _ => kN')
          (with_reducible rename Fr _ _ _ _ => kF)
          (with_reducible rename Key _ _ _ _ _ _ _ _ _ _ _ _ _ _ _ _ _ _ _ _ _ _ _ _ => hKey')
          refine' turn_end2 hKey' kF (led_perm kN' ?hxG8 ?hdG8 ?hTG8 ?hRG8 ?hDG8 ?h4G8 ?h3G8 ?h0G8 ?h7G8 ?hIG8 ?hpG8) ?GG8 ?osG8 ?gG8 ?hlG8 ?hsG8 ?hPG8 ?p0G8 ?p7G8 ?hmG8
          case hmG8 => exact map_turn
          case hxG8 => k_mem
          case h0G8 => k_mem
          case h7G8 => k_mem
          case hdG8 => k_mem
          case hTG8 => k_mem
          case hRG8 => k_mem
          case hDG8 => k_mem
          case h4G8 => k_mem
          case h3G8 => k_mem
          case hIG8 => k_mem
          case hPG8 => with_reducible assumption
          case hpG8 => intro p hp; repeat (first | exact hp | refine List.mem_cons_of_mem _ ?_)
          case GG8 => assumption
          case p0G8 => with_reducible assumption
          case p7G8 => with_reducible assumption
          case gG8 => with_reducible assumption
          case hlG8 => with_reducible assumption
          case hsG8 => with_reducible assumption
          case osG8 =>
            (with_reducible rename Shared.os _ = _ => o1)
            refine o1.trans ?_
            clear o1
            (with_reducible rename Shared.os _ = _ => o2)
            refine o2.trans ?_
            clear o2
            (with_reducible rename Shared.os _ = _ => o3)
            exact o3
        · skip
          k_with_none
          intros
          (try k_unmd)
          (with_reducible rename News _ _ _ _ => kN')
          (with_reducible rename Fr _ _ _ _ => kF)
          (with_reducible rename Key _ _ _ _ _ _ _ _ _ _ _ _ _ _ _ _ _ _ _ _ _ _ _ _ => hKey')
          refine' turn_end2 hKey' kF (led_perm kN' ?hxG9 ?hdG9 ?hTG9 ?hRG9 ?hDG9 ?h4G9 ?h3G9 ?h0G9 ?h7G9 ?hIG9 ?hpG9) ?GG9 ?osG9 ?gG9 ?hlG9 ?hsG9 ?hPG9 ?p0G9 ?p7G9 ?hmG9
          case hmG9 => exact map_turn
          case hxG9 => k_mem
          case h0G9 => k_mem
          case h7G9 => k_mem
          case hdG9 => k_mem
          case hTG9 => k_mem
          case hRG9 => k_mem
          case hDG9 => k_mem
          case h4G9 => k_mem
          case h3G9 => k_mem
          case hIG9 => k_mem
          case hPG9 => with_reducible assumption
          case hpG9 => intro p hp; repeat (first | exact hp | refine List.mem_cons_of_mem _ ?_)
          case GG9 => assumption
          case p0G9 => with_reducible assumption
          case p7G9 => with_reducible assumption
          case gG9 => with_reducible assumption
          case hlG9 => with_reducible assumption
          case hsG9 => with_reducible assumption
          case osG9 =>
            (with_reducible rename Shared.os _ = _ => o1)
            refine o1.trans ?_
            clear o1
            (with_reducible rename Shared.os _ = _ => o2)
            refine o2.trans ?_
            clear o2
            (with_reducible rename Shared.os _ = _ => o3)
            exact o3
      · (with_reducible rename (Txt.slice _ _ _ == _) = false => hA)
        rw [slice_last (good_lett hG) hL5] at hA
        exact absurd (hA.symm.trans ((hit_iff hG ⟨by assumption, by assumption⟩).mpr hit)) Bool.false_ne_true
    · (with_reducible rename (Txt.slice _ _ _ == _) = false => hA)
      (with_reducible rename News _ _ _ _ => kN)
      rw [says_tail hG hSay] at hA
      have hA2 : ¬ _ := fun e => Bool.false_ne_true (hA.symm.trans ((hit_iff hG ⟨by assumption, by assumption⟩).mpr e))
      clear hA
      obtain ⟨hxd, hoff⟩ := apart_of kN (by with_reducible assumption) (by with_reducible assumption) hPc.2.2
      have hKey := key_of kN (by with_reducible assumption) (by with_reducible assumption)
      k_with_none
      k_with "k_inst" =>
        ((refine' inst_seq ?NL5r0 ?h1L5r0 ?h2L5r0; (case NL5r0 => k_asm); (case h1L5r0 => k_mem); (case h2L5r0 => k_mem)))
      k_with "getMethod ref" =>
        ((k_here; k_dflt (refine' acc_fn ?k1L5r1 ?k2L5r1 ?k3L5r1 ?k4L5r1 ?k5L5r1 ?k6L5r1 ?_; (case k1L5r1 => k_asm); (case k2L5r1 => k_asm); (case k3L5r1 => k_inst); (case k4L5r1 => k_is); (case k5L5r1 => k_is); (case k6L5r1 => k_get))))
      k_with "call ref" =>
        ((k_here; (with_reducible show wpAny _ _ (call (Value.ref 68) _) _ _ _); k_dflt (refine' pop_walk ?k0L5r2 ?k9L5r2 ?kAL5r2 ?k1L5r2 ?k2L5r2 ?k3L5r2 ?k4L5r2 ?k5L5r2 ?k6L5r2 ?k7L5r2 ?k8L5r2 ?_; (case k0L5r2 => with_reducible assumption); (case k9L5r2 => with_reducible assumption); (case k1L5r2 => k_asm); (case k2L5r2 => k_asm); (case k3L5r2 => k_asm); (case k4L5r2 => with_reducible assumption); (case kAL5r2 => with_reducible assumption); (case k5L5r2 => k_asm); (case k6L5r2 => exact rfl); (case k7L5r2 => decide); (case k8L5r2 => decide); k_whole); intro h' tk' F' N'; (try dsimp only)))
      k_with "compareOp NotEq ref ref" =>
        ((k_here; k_dflt (refine' ne_pair ?k1L5r3 ?k2L5r3 ?k3L5r3 ?k4L5r3 ?_; (case k1L5r3 => k_asm); (case k2L5r3 => k_mem); (case k3L5r3 => k_mem); (case k4L5r3 => first | ktr_units | exact Nat.le_of_ble_eq_true rfl))))
      k_with "call ref" =>
        ((k_here; (with_reducible show wpAny _ _ (call (Value.ref 138) _) _ _ _); k_dflt (refine' moved_any ⟨?kxL5r4, ?kyL5r4⟩ ?k0L5r4 ?kAL5r4 ?k1L5r4 ?k2L5r4 ?k3L5r4 ?k4L5r4 ?k9L5r4 ?k5L5r4 ?k6L5r4 ?k7L5r4 ?k8L5r4 ?_; (case kAL5r4 => with_reducible assumption); (case k0L5r4 => with_reducible assumption); (case kxL5r4 => assumption); (case kyL5r4 => assumption); (case k1L5r4 => k_asm); (case k2L5r4 => k_asm); (case k3L5r4 => k_asm); (case k4L5r4 => k_asm); (case k9L5r4 => k_mem); (case k5L5r4 => k_asm); (case k6L5r4 => exact rfl); (case k7L5r4 => decide); (case k8L5r4 => decide); k_whole); intro l' t1' t2' t3' h' tk' F' N' off'; (try dsimp only)))
      k_with "call ref" =>
        ((k_here; (with_reducible show wpAny _ _ (call (Value.ref 145) _) _ _ _); (with_reducible rename ToldIn _ _ _ _ _ _ _ _ => hT'); k_dflt (refine' told_led hT' ?k1L5r5 ?k2L5r5 ?k3L5r5 ?k4L5r5 ?k9L5r5 ?k5L5r5 ?k6L5r5 ?k7L5r5 ?k8L5r5 ?_; (case k1L5r5 => k_asm); (case k2L5r5 => k_asm); (case k3L5r5 => k_asm); (case k4L5r5 => k_asm); (case k9L5r5 => k_mem); (case k5L5r5 => k_asm); (case k6L5r5 => exact rfl); (case k7L5r5 => decide); (case k8L5r5 => decide); k_whole); intro t' h' tk' F' N'; (try dsimp only)))
      k_with "call ref" =>
        ((k_here; (with_reducible show wpAny _ _ (call (Value.ref 82) _) _ _ _); (with_reducible rename News _ _ _ _ => kN'); (with_reducible rename Key _ _ _ _ _ _ _ _ _ _ _ _ _ _ _ _ _ _ _ _ _ _ _ _ => hKey'); k_dflt (refine' str_led ?kGL5r6 ?kCL5r6 ?k7L5r6 ?kPL5r6 ?klL5r6 ?k5L5r6 hKey' (led_perm kN' ?hxL5r6 ?hdL5r6 ?hTL5r6 ?hRL5r6 ?hDL5r6 ?h4L5r6 ?h3L5r6 ?h0L5r6 ?h7L5r6 ?hIL5r6 ?hpL5r6) ?b1L5r6 ?b2L5r6 ?b3L5r6 ?b5L5r6 ?b6L5r6 ?b7L5r6 ?b8L5r6 ?_; (case hxL5r6 => k_mem); (case hTL5r6 => k_mem); (case h0L5r6 => k_mem); (case h7L5r6 => k_mem); (case hdL5r6 => k_mem); (case hRL5r6 => k_mem); (case hDL5r6 => k_mem); (case h4L5r6 => k_mem); (case h3L5r6 => k_mem); (case hIL5r6 => k_mem); (case kPL5r6 => with_reducible assumption); (case kGL5r6 => assumption); (case kCL5r6 => assumption); (case k7L5r6 => with_reducible assumption); (case klL5r6 => with_reducible assumption); (case k5L5r6 => with_reducible assumption); (case hpL5r6 => (refine sub_cons ?_ ?_; (· k_mem); (intro p hp; repeat (first | exact hp | refine List.mem_cons_of_mem _ ?_)))); (case b1L5r6 => k_asm); (case b2L5r6 => k_asm); (case b3L5r6 => k_asm); (case b5L5r6 => k_asm); (case b6L5r6 => exact rfl); (case b7L5r6 => first | decide | exact Nat.le_of_ble_eq_true rfl); (case b8L5r6 => first | decide | exact Nat.le_of_ble_eq_true rfl); k_whole); intro p7' t' s' h7' G' os' F' N'; (try dsimp only [W.StrBack])))
      k_with "call ref" =>
        ((k_here; (with_reducible show wpAny _ _ (call (Value.ref 75) _) _ _ _); (with_reducible rename News _ _ _ _ => kN'); (with_reducible rename Key _ _ _ _ _ _ _ _ _ _ _ _ _ _ _ _ _ _ _ _ _ _ _ _ => hKey'); k_dflt (refine' len_led ?kGL5r7 ?kCL5r7 ?k7L5r7 ?kPL5r7 ?klL5r7 ?k5L5r7 hKey' (led_perm kN' ?hxL5r7 ?hdL5r7 ?hTL5r7 ?hRL5r7 ?hDL5r7 ?h4L5r7 ?h3L5r7 ?h0L5r7 ?h7L5r7 ?hIL5r7 ?hpL5r7) ?b1L5r7 ?b2L5r7 ?b3L5r7 ?b5L5r7 ?b6L5r7 ?b7L5r7 ?b8L5r7 ?_; (case hxL5r7 => k_mem); (case hTL5r7 => k_mem); (case h0L5r7 => k_mem); (case h7L5r7 => k_mem); (case hdL5r7 => k_mem); (case hRL5r7 => k_mem); (case hDL5r7 => k_mem); (case h4L5r7 => k_mem); (case h3L5r7 => k_mem); (case hIL5r7 => k_mem); (case kPL5r7 => with_reducible assumption); (case kGL5r7 => assumption); (case kCL5r7 => assumption); (case k7L5r7 => with_reducible assumption); (case klL5r7 => with_reducible assumption); (case k5L5r7 => with_reducible assumption); (case hpL5r7 => (refine sub_cons ?_ ?_; (· k_mem); (intro p hp; repeat (first | exact hp | refine List.mem_cons_of_mem _ ?_)))); (case b1L5r7 => k_asm); (case b2L5r7 => k_asm); (case b3L5r7 => k_asm); (case b5L5r7 => k_asm); (case b6L5r7 => exact rfl); (case b7L5r7 => first | decide | exact Nat.le_of_ble_eq_true rfl); (case b8L5r7 => first | decide | exact Nat.le_of_ble_eq_true rfl); k_whole); intro p0' t' s' h0' G' os' F' N'; (try dsimp only [W.LenBack]); (try refine ⟨⟨by omega, by omega⟩, ?_⟩)))
      k_with "call ref" =>
        ((k_here; (with_reducible show wpAny _ _ (call (Value.ref 105) _) _ _ _); (with_reducible rename News _ _ _ _ => kN'); (with_reducible rename Key _ _ _ _ _ _ _ _ _ _ _ _ _ _ _ _ _ _ _ _ _ _ _ _ => hKey'); k_dflt (refine' pc_led hKey' ?k1L5r8 ?k2L5r8 ?k3L5r8 kN' ?kxL5r8 ?kdL5r8 ?k5L5r8 ?k6L5r8 ?k7L5r8 ?k8L5r8 ?_; (case k1L5r8 => k_asm); (case k2L5r8 => k_asm); (case k3L5r8 => k_asm); (case kxL5r8 => k_mem); (case kdL5r8 => k_mem); (case k5L5r8 => k_asm); (case k6L5r8 => exact rfl); (case k7L5r8 => decide); (case k8L5r8 => decide); k_whole); intro t' h' tk' F' N'; (try dsimp only)))
      k_with "call ref" =>
        ((k_here; (with_reducible show wpAny _ _ (call (Value.ref 82) _) _ _ _); (with_reducible rename News _ _ _ _ => kN'); (with_reducible rename Key _ _ _ _ _ _ _ _ _ _ _ _ _ _ _ _ _ _ _ _ _ _ _ _ => hKey'); k_dflt (refine' str_led ?kGL5r9 ?kCL5r9 ?k7L5r9 ?kPL5r9 ?klL5r9 ?k5L5r9 hKey' (led_perm kN' ?hxL5r9 ?hdL5r9 ?hTL5r9 ?hRL5r9 ?hDL5r9 ?h4L5r9 ?h3L5r9 ?h0L5r9 ?h7L5r9 ?hIL5r9 ?hpL5r9) ?b1L5r9 ?b2L5r9 ?b3L5r9 ?b5L5r9 ?b6L5r9 ?b7L5r9 ?b8L5r9 ?_; (case hxL5r9 => k_mem); (case hTL5r9 => k_mem); (case h0L5r9 => k_mem); (case h7L5r9 => k_mem); (case hdL5r9 => k_mem); (case hRL5r9 => k_mem); (case hDL5r9 => k_mem); (case h4L5r9 => k_mem); (case h3L5r9 => k_mem); (case hIL5r9 => k_mem); (case kPL5r9 => with_reducible assumption); (case kGL5r9 => assumption); (case kCL5r9 => assumption); (case k7L5r9 => with_reducible assumption); (case klL5r9 => with_reducible assumption); (case k5L5r9 => with_reducible assumption); (case hpL5r9 => (refine sub_cons ?_ ?_; (· k_mem); (intro p hp; repeat (first | exact hp | refine List.mem_cons_of_mem _ ?_)))); (case b1L5r9 => k_asm); (case b2L5r9 => k_asm); (case b3L5r9 => k_asm); (case b5L5r9 => k_asm); (case b6L5r9 => exact rfl); (case b7L5r9 => first | decide | exact Nat.le_of_ble_eq_true rfl); (case b8L5r9 => first | decide | exact Nat.le_of_ble_eq_true rfl); k_whole); intro p7' t' s' h7' G' os' F' N'; (try dsimp only [StrBack])))
      k_with "pyIter str" =>
        ((k_here; (with_reducible rename Fr _ _ _ _ => kF); (with_reducible rename News _ _ _ _ => kN); (refine' way_src rfl kF kN ?kszL5r10 rfl (fun _ => rfl) (by decide) ?_; (case kszL5r10 => with_reducible assumption)); intro D' ys' h' tk' F' N' lD' sD'))
      k_with "call builtin:str.join" =>
        ((k_here; (with_reducible rename StrsAre _ _ => sD'); (with_reducible rename (∀ c ∈ _, Lett c) => gl'); (have eJ := bl_spaced gl' (by with_reducible assumption)); (refine PyProof.Rows.join_listW (by with_reducible assumption) sD' (by decide) eJ.2 ?_); (rw [eJ.1]); clear eJ; intro t' k'))
      k_with "compareOp NotEq str str" =>
        ((k_here; (with_reducible refine ne_str_eq ?eL5r12 ?_); (case eL5r12 => first | (with_reducible rfl) | exact tail_eq (by with_reducible assumption) (by with_reducible assumption) (by with_reducible assumption) | exact two_eq (by with_reducible assumption) (by with_reducible assumption) (by with_reducible assumption) (by omega))))
      k_with "compareOp NotEq int int" =>
        ((k_here; (with_reducible refine ne_int_eq ?eL5r13 ?_); (case eL5r13 => first | omega | exact due_eq (by with_reducible assumption))))
      k_with "binaryOp Mult int int" =>
        (((with_reducible rename Bounded _ => hBd'); (refine PyProof.Rows.mul_int ?_ ?_; rotate_left; (· first | exact mul_mem (by assumption) hBd' _ | exact mul_mem (.head _) hBd' _ | exact mul_mem (.tail _ (.head _)) hBd' _ | exact mul_mem (.tail _ (.tail _ (.head _))) hBd' _ | exact PySem.IntMulOk.of_right (PySem.intBits_le_64 (by simp; omega) (by simp; omega))))))
      k_with "call ref" =>
        ((k_here; (with_reducible show wpAny _ _ (call (Value.ref 52) _) _ _ _); (with_reducible rename PiecesOk _ _ _ => hPc'); k_dflt (refine' push_walk (es := []) ?k0L5r15 ?k9L5r15 ?kAL5r15 ?k1L5r15 ?k2L5r15 ?k3L5r15 ?k4L5r15 ?k5L5r15 ?k6L5r15 ?k7L5r15 ?k8L5r15 ?_; (case k0L5r15 => with_reducible assumption); (case k9L5r15 => with_reducible assumption); (case k1L5r15 => k_asm); (case k2L5r15 => k_asm); (case k3L5r15 => k_asm); (case k4L5r15 => with_reducible assumption); (case kAL5r15 => with_reducible assumption); (case k5L5r15 => k_asm); (case k6L5r15 => exact rfl); (case k7L5r15 => decide); (case k8L5r15 => decide); k_whole); intro q' h' tk' F' N' lq'; (have hPc2' := pushed_of N' hPc'); (have hPsz' := hPc2'.1); (try dsimp only)))
      k_with "compareOp Eq str str" =>
        ((k_here; (with_reducible refine eq_last_miss ?gL5r16 ?lL5r16 ⟨?c0L5r16, ?c3L5r16⟩ ?hL5r16 ?_); (case hL5r16 => with_reducible assumption); (case gL5r16 => with_reducible assumption); (case lL5r16 => with_reducible assumption); (case c0L5r16 => assumption); (case c3L5r16 => assumption)))
      k_with "binaryOp Add str str" =>
        ((k_here; (with_reducible refine add_word ?lL5r17 ?_); (case lL5r17 => with_reducible assumption); intro t' k'))
      intros
      (try k_unmd)
      (with_reducible rename RootOk _ => hRt)
      (with_reducible rename Good _ => hG)
      (with_reducible rename List.length _ ≤ 5 => hL5)
      (with_reducible rename ¬ (List.getLast? _ = some _) => miss)
      (with_reducible rename PiecesOk _ _ _ => hPc)
      have hPz := hPc.1
      (with_reducible rename LP _ _ => hLP)
      obtain ⟨hGen, hOs⟩ := hLP
      repeat' ((fail_if_success (with_reducible show wpAny _ _ (getMethod _ (Str.ofString "push") _) _ _ _)); first | (k_unfold; (try dsimp only)) | (k_end; wrow_close) | walk1 | (dsimp only; walk1) | (leave1; walk_say "STEP leave1"; try dsimp only) | fail "no step")
      · have hL52 := push_len hPc miss (by omega)
        have hG2 := good_snoc hG ⟨by assumption, by assumption⟩ miss
        have hBd := run_bounded hRt hG hL5
        have hMv := mv_miss hRt miss
        obtain ⟨most, least, near, off, out', hT', hSay'⟩ := told_at hRt hG2 hL52
        have hS4 := line_of (says_len hSay') (by decide)
        have hGl2 := good_lett hG2
        have hBd2 := run_bounded hRt hG2 hL52
        have hWl := wd_len_of hG2
        have hSq := sq_run_of hRt hG2
        have hS3 := line_of (Nat.le_of_eq (wd_len _)) hL52
        have hsz : Array.size _ ≤ 1000 := small_of hPc hL5
        k_with_none
        k_with "k_inst" =>
          ((refine' inst_seq ?NL7r0 ?h1L7r0 ?h2L7r0; (case NL7r0 => k_asm); (case h1L7r0 => k_mem); (case h2L7r0 => k_mem)))
        k_with "getMethod ref" =>
          ((k_here; k_dflt (refine' acc_fn ?k1L7r1 ?k2L7r1 ?k3L7r1 ?k4L7r1 ?k5L7r1 ?k6L7r1 ?_; (case k1L7r1 => k_asm); (case k2L7r1 => k_asm); (case k3L7r1 => k_inst); (case k4L7r1 => k_is); (case k5L7r1 => k_is); (case k6L7r1 => k_get))))
        k_with "call ref" =>
          ((k_here; (with_reducible show wpAny _ _ (call (Value.ref 68) _) _ _ _); k_dflt (refine' pop_walk ?k0L7r2 ?k9L7r2 ?kAL7r2 ?k1L7r2 ?k2L7r2 ?k3L7r2 ?k4L7r2 ?k5L7r2 ?k6L7r2 ?k7L7r2 ?k8L7r2 ?_; (case k0L7r2 => with_reducible assumption); (case k9L7r2 => with_reducible assumption); (case k1L7r2 => k_asm); (case k2L7r2 => k_asm); (case k3L7r2 => k_asm); (case k4L7r2 => with_reducible assumption); (case kAL7r2 => with_reducible assumption); (case k5L7r2 => k_asm); (case k6L7r2 => exact rfl); (case k7L7r2 => decide); (case k8L7r2 => decide); k_whole); intro h' tk' F' N'; (try dsimp only)))
        k_with "compareOp NotEq ref ref" =>
          ((k_here; k_dflt (refine' ne_pair ?k1L7r3 ?k2L7r3 ?k3L7r3 ?k4L7r3 ?_; (case k1L7r3 => k_asm); (case k2L7r3 => k_mem); (case k3L7r3 => k_mem); (case k4L7r3 => first | ktr_units | exact Nat.le_of_ble_eq_true rfl))))
        k_with "call ref" =>
          ((k_here; (with_reducible show wpAny _ _ (call (Value.ref 138) _) _ _ _); k_dflt (refine' moved_any ⟨?kxL7r4, ?kyL7r4⟩ ?k0L7r4 ?kAL7r4 ?k1L7r4 ?k2L7r4 ?k3L7r4 ?k4L7r4 ?k9L7r4 ?k5L7r4 ?k6L7r4 ?k7L7r4 ?k8L7r4 ?_; (case kAL7r4 => with_reducible assumption); (case k0L7r4 => with_reducible assumption); (case kxL7r4 => assumption); (case kyL7r4 => assumption); (case k1L7r4 => k_asm); (case k2L7r4 => k_asm); (case k3L7r4 => k_asm); (case k4L7r4 => k_asm); (case k9L7r4 => k_mem); (case k5L7r4 => k_asm); (case k6L7r4 => exact rfl); (case k7L7r4 => decide); (case k8L7r4 => decide); k_whole); intro l' t1' t2' t3' h' tk' F' N' off'; (try dsimp only)))
        k_with "call ref" =>
          ((k_here; (with_reducible show wpAny _ _ (call (Value.ref 145) _) _ _ _); (with_reducible rename ToldIn _ _ _ _ _ _ _ _ => hT'); k_dflt (refine' told_led hT' ?k1L7r5 ?k2L7r5 ?k3L7r5 ?k4L7r5 ?k9L7r5 ?k5L7r5 ?k6L7r5 ?k7L7r5 ?k8L7r5 ?_; (case k1L7r5 => k_asm); (case k2L7r5 => k_asm); (case k3L7r5 => k_asm); (case k4L7r5 => k_asm); (case k9L7r5 => k_mem); (case k5L7r5 => k_asm); (case k6L7r5 => exact rfl); (case k7L7r5 => decide); (case k8L7r5 => decide); k_whole); intro t' h' tk' F' N'; (try dsimp only)))
        k_with "call ref" =>
          ((k_here; (with_reducible show wpAny _ _ (call (Value.ref 82) _) _ _ _); (with_reducible rename News _ _ _ _ => kN'); (with_reducible rename Key _ _ _ _ _ _ _ _ _ _ _ _ _ _ _ _ _ _ _ _ _ _ _ _ => hKey'); k_dflt (refine' str_led ?kGL7r6 ?kCL7r6 ?k7L7r6 ?kPL7r6 ?klL7r6 ?k5L7r6 hKey' (led_perm kN' ?hxL7r6 ?hdL7r6 ?hTL7r6 ?hRL7r6 ?hDL7r6 ?h4L7r6 ?h3L7r6 ?h0L7r6 ?h7L7r6 ?hIL7r6 ?hpL7r6) ?b1L7r6 ?b2L7r6 ?b3L7r6 ?b5L7r6 ?b6L7r6 ?b7L7r6 ?b8L7r6 ?_; (case hxL7r6 => k_mem); (case hTL7r6 => k_mem); (case h0L7r6 => k_mem); (case h7L7r6 => k_mem); (case hdL7r6 => k_mem); (case hRL7r6 => k_mem); (case hDL7r6 => k_mem); (case h4L7r6 => k_mem); (case h3L7r6 => k_mem); (case hIL7r6 => k_mem); (case kPL7r6 => with_reducible assumption); (case kGL7r6 => assumption); (case kCL7r6 => assumption); (case k7L7r6 => with_reducible assumption); (case klL7r6 => with_reducible assumption); (case k5L7r6 => with_reducible assumption); (case hpL7r6 => (refine sub_cons ?_ ?_; (· k_mem); (intro p hp; repeat (first | exact hp | refine List.mem_cons_of_mem _ ?_)))); (case b1L7r6 => k_asm); (case b2L7r6 => k_asm); (case b3L7r6 => k_asm); (case b5L7r6 => k_asm); (case b6L7r6 => exact rfl); (case b7L7r6 => first | decide | exact Nat.le_of_ble_eq_true rfl); (case b8L7r6 => first | decide | exact Nat.le_of_ble_eq_true rfl); k_whole); intro p7' t' s' h7' G' os' F' N'; (try dsimp only [W.StrBack])))
        k_with "call ref" =>
          ((k_here; (with_reducible show wpAny _ _ (call (Value.ref 75) _) _ _ _); (with_reducible rename News _ _ _ _ => kN'); (with_reducible rename Key _ _ _ _ _ _ _ _ _ _ _ _ _ _ _ _ _ _ _ _ _ _ _ _ => hKey'); k_dflt (refine' len_led ?kGL7r7 ?kCL7r7 ?k7L7r7 ?kPL7r7 ?klL7r7 ?k5L7r7 hKey' (led_perm kN' ?hxL7r7 ?hdL7r7 ?hTL7r7 ?hRL7r7 ?hDL7r7 ?h4L7r7 ?h3L7r7 ?h0L7r7 ?h7L7r7 ?hIL7r7 ?hpL7r7) ?b1L7r7 ?b2L7r7 ?b3L7r7 ?b5L7r7 ?b6L7r7 ?b7L7r7 ?b8L7r7 ?_; (case hxL7r7 => k_mem); (case hTL7r7 => k_mem); (case h0L7r7 => k_mem); (case h7L7r7 => k_mem); (case hdL7r7 => k_mem); (case hRL7r7 => k_mem); (case hDL7r7 => k_mem); (case h4L7r7 => k_mem); (case h3L7r7 => k_mem); (case hIL7r7 => k_mem); (case kPL7r7 => with_reducible assumption); (case kGL7r7 => assumption); (case kCL7r7 => assumption); (case k7L7r7 => with_reducible assumption); (case klL7r7 => with_reducible assumption); (case k5L7r7 => with_reducible assumption); (case hpL7r7 => (refine sub_cons ?_ ?_; (· k_mem); (intro p hp; repeat (first | exact hp | refine List.mem_cons_of_mem _ ?_)))); (case b1L7r7 => k_asm); (case b2L7r7 => k_asm); (case b3L7r7 => k_asm); (case b5L7r7 => k_asm); (case b6L7r7 => exact rfl); (case b7L7r7 => first | decide | exact Nat.le_of_ble_eq_true rfl); (case b8L7r7 => first | decide | exact Nat.le_of_ble_eq_true rfl); k_whole); intro p0' t' s' h0' G' os' F' N'; (try dsimp only [W.LenBack]); (try refine ⟨⟨by omega, by omega⟩, ?_⟩)))
        k_with "call ref" =>
          ((k_here; (with_reducible show wpAny _ _ (call (Value.ref 105) _) _ _ _); (with_reducible rename News _ _ _ _ => kN'); (with_reducible rename Key _ _ _ _ _ _ _ _ _ _ _ _ _ _ _ _ _ _ _ _ _ _ _ _ => hKey'); k_dflt (refine' pc_led hKey' ?k1L7r8 ?k2L7r8 ?k3L7r8 kN' ?kxL7r8 ?kdL7r8 ?k5L7r8 ?k6L7r8 ?k7L7r8 ?k8L7r8 ?_; (case k1L7r8 => k_asm); (case k2L7r8 => k_asm); (case k3L7r8 => k_asm); (case kxL7r8 => k_mem); (case kdL7r8 => k_mem); (case k5L7r8 => k_asm); (case k6L7r8 => exact rfl); (case k7L7r8 => decide); (case k8L7r8 => decide); k_whole); intro t' h' tk' F' N'; (try dsimp only)))
        k_with "call ref" =>
          ((k_here; (with_reducible show wpAny _ _ (call (Value.ref 82) _) _ _ _); (with_reducible rename News _ _ _ _ => kN'); (with_reducible rename Key _ _ _ _ _ _ _ _ _ _ _ _ _ _ _ _ _ _ _ _ _ _ _ _ => hKey'); k_dflt (refine' str_led ?kGL7r9 ?kCL7r9 ?k7L7r9 ?kPL7r9 ?klL7r9 ?k5L7r9 hKey' (led_perm kN' ?hxL7r9 ?hdL7r9 ?hTL7r9 ?hRL7r9 ?hDL7r9 ?h4L7r9 ?h3L7r9 ?h0L7r9 ?h7L7r9 ?hIL7r9 ?hpL7r9) ?b1L7r9 ?b2L7r9 ?b3L7r9 ?b5L7r9 ?b6L7r9 ?b7L7r9 ?b8L7r9 ?_; (case hxL7r9 => k_mem); (case hTL7r9 => k_mem); (case h0L7r9 => k_mem); (case h7L7r9 => k_mem); (case hdL7r9 => k_mem); (case hRL7r9 => k_mem); (case hDL7r9 => k_mem); (case h4L7r9 => k_mem); (case h3L7r9 => k_mem); (case hIL7r9 => k_mem); (case kPL7r9 => with_reducible assumption); (case kGL7r9 => assumption); (case kCL7r9 => assumption); (case k7L7r9 => with_reducible assumption); (case klL7r9 => with_reducible assumption); (case k5L7r9 => with_reducible assumption); (case hpL7r9 => (refine sub_cons ?_ ?_; (· k_mem); (intro p hp; repeat (first | exact hp | refine List.mem_cons_of_mem _ ?_)))); (case b1L7r9 => k_asm); (case b2L7r9 => k_asm); (case b3L7r9 => k_asm); (case b5L7r9 => k_asm); (case b6L7r9 => exact rfl); (case b7L7r9 => first | decide | exact Nat.le_of_ble_eq_true rfl); (case b8L7r9 => first | decide | exact Nat.le_of_ble_eq_true rfl); k_whole); intro p7' t' s' h7' G' os' F' N'; (try dsimp only [StrBack])))
        k_with "pyIter str" =>
          ((k_here; (with_reducible rename Fr _ _ _ _ => kF); (with_reducible rename News _ _ _ _ => kN); (refine' way_src rfl kF kN ?kszL7r10 rfl (fun _ => rfl) (by decide) ?_; (case kszL7r10 => with_reducible assumption)); intro D' ys' h' tk' F' N' lD' sD'))
        k_with "call builtin:str.join" =>
          ((k_here; (with_reducible rename StrsAre _ _ => sD'); (with_reducible rename (∀ c ∈ _, Lett c) => gl'); (have eJ := bl_spaced gl' (by with_reducible assumption)); (refine PyProof.Rows.join_listW (by with_reducible assumption) sD' (by decide) eJ.2 ?_); (rw [eJ.1]); clear eJ; intro t' k'))
        k_with "compareOp NotEq str str" =>
          ((k_here; (with_reducible refine ne_str_eq ?eL7r12 ?_); (case eL7r12 => first | (with_reducible rfl) | exact tail_eq (by with_reducible assumption) (by with_reducible assumption) (by with_reducible assumption) | exact two_eq (by with_reducible assumption) (by with_reducible assumption) (by with_reducible assumption) (by omega))))
        k_with "compareOp NotEq int int" =>
          ((k_here; (with_reducible refine ne_int_eq ?eL7r13 ?_); (case eL7r13 => first | omega | exact due_eq (by with_reducible assumption))))
        k_with "binaryOp Mult int int" =>
          (((with_reducible rename Bounded _ => hBd'); (refine PyProof.Rows.mul_int ?_ ?_; rotate_left; (· first | exact mul_mem (by assumption) hBd' _ | exact mul_mem (.head _) hBd' _ | exact mul_mem (.tail _ (.head _)) hBd' _ | exact mul_mem (.tail _ (.tail _ (.head _))) hBd' _ | exact PySem.IntMulOk.of_right (PySem.intBits_le_64 (by simp; omega) (by simp; omega))))))
        k_with "call ref" =>
          ((k_here; (with_reducible show wpAny _ _ (call (Value.ref 52) _) _ _ _); (with_reducible rename PiecesOk _ _ _ => hPc'); k_dflt (refine' push_walk (es := []) ?k0L7r15 ?k9L7r15 ?kAL7r15 ?k1L7r15 ?k2L7r15 ?k3L7r15 ?k4L7r15 ?k5L7r15 ?k6L7r15 ?k7L7r15 ?k8L7r15 ?_; (case k0L7r15 => with_reducible assumption); (case k9L7r15 => with_reducible assumption); (case k1L7r15 => k_asm); (case k2L7r15 => k_asm); (case k3L7r15 => k_asm); (case k4L7r15 => with_reducible assumption); (case kAL7r15 => with_reducible assumption); (case k5L7r15 => k_asm); (case k6L7r15 => exact rfl); (case k7L7r15 => decide); (case k8L7r15 => decide); k_whole); intro q' h' tk' F' N' lq'; (have hPc2' := pushed_of N' hPc'); (have hPsz' := hPc2'.1); (try dsimp only)))
        k_with "compareOp Eq str str" =>
          ((k_here; (with_reducible refine eq_last_miss ?gL7r16 ?lL7r16 ⟨?c0L7r16, ?c3L7r16⟩ ?hL7r16 ?_); (case hL7r16 => with_reducible assumption); (case gL7r16 => with_reducible assumption); (case lL7r16 => with_reducible assumption); (case c0L7r16 => assumption); (case c3L7r16 => assumption)))
        k_with "binaryOp Add str str" =>
          ((k_here; (with_reducible refine add_word ?lL7r17 ?_); (case lL7r17 => with_reducible assumption); intro t' k'))
        intros
        (try k_unmd)
        repeat' ((fail_if_success (with_reducible show wpAny _ _ (call (Value.ref 52) _) _ _ _)); first | (k_unfold; (try dsimp only)) | (k_end; wrow_close) | walk1 | (dsimp only; walk1) | (leave1; walk_say "STEP leave1"; try dsimp only) | fail "no step")
        (k_here; (with_reducible show wpAny _ _ (call (Value.ref 52) _) _ _ _); (with_reducible rename PiecesOk _ _ _ => hPc'); k_dflt (refine' push_walk (es := []) ?k0G7 ?k9G7 ?kAG7 ?k1G7 ?k2G7 ?k3G7 ?k4G7 ?k5G7 ?k6G7 ?k7G7 ?k8G7 ?_; (case k0G7 => with_reducible assumption); (case k9G7 => with_reducible assumption); (case k1G7 => k_asm); (case k2G7 => k_asm); (case k3G7 => k_asm); (case k4G7 => with_reducible assumption); (case kAG7 => with_reducible assumption); (case k5G7 => k_asm); (case k6G7 => exact rfl); (case k7G7 => decide); (case k8G7 => decide); k_whole); intro q' h' tk' F' N' lq'; (have hPc2' := pushed_of N' hPc'); (have hPsz' := hPc2'.1); (try dsimp only))
        repeat' (first | (k_unfold; (try dsimp only)) | (k_end; wrow_close) | walk1 | (dsimp only; walk1) | (leave1; walk_say "STEP leave1"; try dsimp only) | fail "no step")
        all_goals
          (with_reducible rename News _ _ _ _ => kN')
          (with_reducible rename Fr _ _ _ _ => kF)
          (with_reducible rename Key _ _ _ _ _ _ _ _ _ _ _ _ _ _ _ _ _ _ _ _ _ _ _ _ => hKey')
          refine' turn_end2 hKey' kF (led_perm kN' ?hxG7 ?hdG7 ?hTG7 ?hRG7 ?hDG7 ?h4G7 ?h3G7 ?h0G7 ?h7G7 ?hIG7 ?hpG7) ?GG7 ?osG7 ?gG7 ?hlG7 ?hsG7 ?hPG7 ?p0G7 ?p7G7 ?hmG7
          case hmG7 => exact map_turn
          case hxG7 => k_mem
          case h0G7 => k_mem
          case h7G7 => k_mem
          case hdG7 => k_mem
          case hTG7 => k_mem
          case hRG7 => k_mem
          case hDG7 => k_mem
          case h4G7 => k_mem
          case h3G7 => k_mem
          case hIG7 => k_mem
          case hPG7 => with_reducible assumption
          case hpG7 => (refine sub_cons ?_ ?_; (· k_mem); (intro p hp; repeat (first | exact hp | refine List.mem_cons_of_mem _ ?_)))
          case GG7 => assumption
          case p0G7 => with_reducible assumption
          case p7G7 => with_reducible assumption
          case gG7 => with_reducible assumption
          case hlG7 => with_reducible assumption
          case hsG7 => with_reducible assumption
          case osG7 =>
            (with_reducible rename Shared.os _ = _ => o1)
            refine o1.trans ?_
            clear o1
            (with_reducible rename Shared.os _ = _ => o2)
            refine o2.trans ?_
            clear o2
            (with_reducible rename Shared.os _ = _ => o3)
            exact o3
      · skip
        k_with_none
        intros
        (try k_unmd)
        (with_reducible rename News _ _ _ _ => kN')
        (with_reducible rename Fr _ _ _ _ => kF)
        (with_reducible rename Key _ _ _ _ _ _ _ _ _ _ _ _ _ _ _ _ _ _ _ _ _ _ _ _ => hKey')
        refine' turn_end2 hKey' kF (led_perm kN' ?hxG10 ?hdG10 ?hTG10 ?hRG10 ?hDG10 ?h4G10 ?h3G10 ?h0G10 ?h7G10 ?hIG10 ?hpG10) ?GG10 ?osG10 ?gG10 ?hlG10 ?hsG10 ?hPG10 ?p0G10 ?p7G10 ?hmG10
        case hmG10 => exact map_cont
        case hxG10 => k_mem
        case h0G10 => k_mem
        case h7G10 => k_mem
        case hdG10 => k_mem
        case hTG10 => k_mem
        case hRG10 => k_mem
        case hDG10 => k_mem
        case h4G10 => k_mem
        case h3G10 => k_mem
        case hIG10 => k_mem
        case hPG10 => with_reducible assumption
        case hpG10 =>
          intro p hp
          repeat (first | exact hp | refine List.mem_cons_of_mem _ ?_)
        case GG10 => assumption
        case p0G10 => with_reducible assumption
        case p7G10 => with_reducible assumption
        case gG10 => with_reducible assumption
        case hlG10 => with_reducible assumption
        case hsG10 => with_reducible assumption
        case osG10 =>
          (with_reducible rename Shared.os _ = _ => o1)
          exact o1
  · k_drop
    k_with_none
    intros
    (try k_unmd)
    repeat' ((fail_if_success (with_reducible show wpAny _ _ (exec (PySem.Stmt.While ..) _) _ _ _)); first | (k_unfold; (try dsimp only)) | (k_end; wrow_close) | walk1 | (dsimp only; walk1) | (leave1; walk_say "STEP leave1"; try dsimp only) | fail "no step")
    (with_reducible rename RootOk _ => hRt)
    (with_reducible rename Good _ => hG)
    (with_reducible rename List.length _ ≤ 5 => hL5)
    (with_reducible rename Says _ _ => hSay)
    (with_reducible rename LP _ _ => hLP)
    obtain ⟨hGen, hOs⟩ := hLP
    (with_reducible rename News _ _ _ _ => kN)
    (with_reducible rename Fr _ _ _ _ => kF)
    refine while_law hRt hG hL5 hSay kF kN ?_
    intro ks bs t2' t3' out' T' ta' tb' tc' te' h' tk' eK gK sK F' N'
    k_with_none
    k_with "k_inst" =>
      ((refine' inst_seq ?NL11r0 ?h1L11r0 ?h2L11r0; (case NL11r0 => k_asm); (case h1L11r0 => k_mem); (case h2L11r0 => k_mem)))
    k_with "getMethod ref" =>
      ((k_here; k_dflt (refine' acc_fn ?k1L11r1 ?k2L11r1 ?k3L11r1 ?k4L11r1 ?k5L11r1 ?k6L11r1 ?_; (case k1L11r1 => k_asm); (case k2L11r1 => k_asm); (case k3L11r1 => k_inst); (case k4L11r1 => k_is); (case k5L11r1 => k_is); (case k6L11r1 => k_get))))
    k_with "call ref" =>
      ((k_here; (with_reducible show wpAny _ _ (call (Value.ref 68) _) _ _ _); k_dflt (refine' pop_walk ?k0L11r2 ?k9L11r2 ?kAL11r2 ?k1L11r2 ?k2L11r2 ?k3L11r2 ?k4L11r2 ?k5L11r2 ?k6L11r2 ?k7L11r2 ?k8L11r2 ?_; (case k0L11r2 => with_reducible assumption); (case k9L11r2 => with_reducible assumption); (case k1L11r2 => k_asm); (case k2L11r2 => k_asm); (case k3L11r2 => k_asm); (case k4L11r2 => with_reducible assumption); (case kAL11r2 => with_reducible assumption); (case k5L11r2 => k_asm); (case k6L11r2 => exact rfl); (case k7L11r2 => decide); (case k8L11r2 => decide); k_whole); intro h' tk' F' N'; (try dsimp only)))
    k_with "compareOp NotEq ref ref" =>
      ((k_here; k_dflt (refine' ne_pair ?k1L11r3 ?k2L11r3 ?k3L11r3 ?k4L11r3 ?_; (case k1L11r3 => k_asm); (case k2L11r3 => k_mem); (case k3L11r3 => k_mem); (case k4L11r3 => first | ktr_units | exact Nat.le_of_ble_eq_true rfl))))
    k_with "call ref" =>
      ((k_here; (with_reducible show wpAny _ _ (call (Value.ref 138) _) _ _ _); k_dflt (refine' moved_any ⟨?kxL11r4, ?kyL11r4⟩ ?k0L11r4 ?kAL11r4 ?k1L11r4 ?k2L11r4 ?k3L11r4 ?k4L11r4 ?k9L11r4 ?k5L11r4 ?k6L11r4 ?k7L11r4 ?k8L11r4 ?_; (case kAL11r4 => with_reducible assumption); (case k0L11r4 => with_reducible assumption); (case kxL11r4 => assumption); (case kyL11r4 => assumption); (case k1L11r4 => k_asm); (case k2L11r4 => k_asm); (case k3L11r4 => k_asm); (case k4L11r4 => k_asm); (case k9L11r4 => k_mem); (case k5L11r4 => k_asm); (case k6L11r4 => exact rfl); (case k7L11r4 => decide); (case k8L11r4 => decide); k_whole); intro l' t1' t2' t3' h' tk' F' N' off'; (try dsimp only)))
    k_with "call ref" =>
      ((k_here; (with_reducible show wpAny _ _ (call (Value.ref 145) _) _ _ _); (with_reducible rename ToldIn _ _ _ _ _ _ _ _ => hT'); k_dflt (refine' told_led hT' ?k1L11r5 ?k2L11r5 ?k3L11r5 ?k4L11r5 ?k9L11r5 ?k5L11r5 ?k6L11r5 ?k7L11r5 ?k8L11r5 ?_; (case k1L11r5 => k_asm); (case k2L11r5 => k_asm); (case k3L11r5 => k_asm); (case k4L11r5 => k_asm); (case k9L11r5 => k_mem); (case k5L11r5 => k_asm); (case k6L11r5 => exact rfl); (case k7L11r5 => decide); (case k8L11r5 => decide); k_whole); intro t' h' tk' F' N'; (try dsimp only)))
    k_with "call ref" =>
      ((k_here; (with_reducible show wpAny _ _ (call (Value.ref 82) _) _ _ _); (with_reducible rename News _ _ _ _ => kN'); (with_reducible rename Key _ _ _ _ _ _ _ _ _ _ _ _ _ _ _ _ _ _ _ _ _ _ _ _ => hKey'); k_dflt (refine' str_led ?kGL11r6 ?kCL11r6 ?k7L11r6 ?kPL11r6 ?klL11r6 ?k5L11r6 hKey' (led_perm kN' ?hxL11r6 ?hdL11r6 ?hTL11r6 ?hRL11r6 ?hDL11r6 ?h4L11r6 ?h3L11r6 ?h0L11r6 ?h7L11r6 ?hIL11r6 ?hpL11r6) ?b1L11r6 ?b2L11r6 ?b3L11r6 ?b5L11r6 ?b6L11r6 ?b7L11r6 ?b8L11r6 ?_; (case hxL11r6 => k_mem); (case hTL11r6 => k_mem); (case h0L11r6 => k_mem); (case h7L11r6 => k_mem); (case hdL11r6 => k_mem); (case hRL11r6 => k_mem); (case hDL11r6 => k_mem); (case h4L11r6 => k_mem); (case h3L11r6 => k_mem); (case hIL11r6 => k_mem); (case kPL11r6 => with_reducible assumption); (case kGL11r6 => assumption); (case kCL11r6 => assumption); (case k7L11r6 => with_reducible assumption); (case klL11r6 => with_reducible assumption); (case k5L11r6 => with_reducible assumption); (case hpL11r6 => (refine sub_cons ?_ ?_; (· k_mem); (intro p hp; repeat (first | exact hp | refine List.mem_cons_of_mem _ ?_)))); (case b1L11r6 => k_asm); (case b2L11r6 => k_asm); (case b3L11r6 => k_asm); (case b5L11r6 => k_asm); (case b6L11r6 => exact rfl); (case b7L11r6 => first | decide | exact Nat.le_of_ble_eq_true rfl); (case b8L11r6 => first | decide | exact Nat.le_of_ble_eq_true rfl); k_whole); intro p7' t' s' h7' G' os' F' N'; (try dsimp only [W.StrBack])))
    k_with "call ref" =>
      ((k_here; (with_reducible show wpAny _ _ (call (Value.ref 75) _) _ _ _); (with_reducible rename News _ _ _ _ => kN'); (with_reducible rename Key _ _ _ _ _ _ _ _ _ _ _ _ _ _ _ _ _ _ _ _ _ _ _ _ => hKey'); k_dflt (refine' len_led ?kGL11r7 ?kCL11r7 ?k7L11r7 ?kPL11r7 ?klL11r7 ?k5L11r7 hKey' (led_perm kN' ?hxL11r7 ?hdL11r7 ?hTL11r7 ?hRL11r7 ?hDL11r7 ?h4L11r7 ?h3L11r7 ?h0L11r7 ?h7L11r7 ?hIL11r7 ?hpL11r7) ?b1L11r7 ?b2L11r7 ?b3L11r7 ?b5L11r7 ?b6L11r7 ?b7L11r7 ?b8L11r7 ?_; (case hxL11r7 => k_mem); (case hTL11r7 => k_mem); (case h0L11r7 => k_mem); (case h7L11r7 => k_mem); (case hdL11r7 => k_mem); (case hRL11r7 => k_mem); (case hDL11r7 => k_mem); (case h4L11r7 => k_mem); (case h3L11r7 => k_mem); (case hIL11r7 => k_mem); (case kPL11r7 => with_reducible assumption); (case kGL11r7 => assumption); (case kCL11r7 => assumption); (case k7L11r7 => with_reducible assumption); (case klL11r7 => with_reducible assumption); (case k5L11r7 => with_reducible assumption); (case hpL11r7 => (refine sub_cons ?_ ?_; (· k_mem); (intro p hp; repeat (first | exact hp | refine List.mem_cons_of_mem _ ?_)))); (case b1L11r7 => k_asm); (case b2L11r7 => k_asm); (case b3L11r7 => k_asm); (case b5L11r7 => k_asm); (case b6L11r7 => exact rfl); (case b7L11r7 => first | decide | exact Nat.le_of_ble_eq_true rfl); (case b8L11r7 => first | decide | exact Nat.le_of_ble_eq_true rfl); k_whole); intro p0' t' s' h0' G' os' F' N'; (try dsimp only [W.LenBack]); (try refine ⟨⟨by omega, by omega⟩, ?_⟩)))
    k_with "call ref" =>
      ((k_here; (with_reducible show wpAny _ _ (call (Value.ref 105) _) _ _ _); (with_reducible rename News _ _ _ _ => kN'); (with_reducible rename Key _ _ _ _ _ _ _ _ _ _ _ _ _ _ _ _ _ _ _ _ _ _ _ _ => hKey'); k_dflt (refine' pc_led hKey' ?k1L11r8 ?k2L11r8 ?k3L11r8 kN' ?kxL11r8 ?kdL11r8 ?k5L11r8 ?k6L11r8 ?k7L11r8 ?k8L11r8 ?_; (case k1L11r8 => k_asm); (case k2L11r8 => k_asm); (case k3L11r8 => k_asm); (case kxL11r8 => k_mem); (case kdL11r8 => k_mem); (case k5L11r8 => k_asm); (case k6L11r8 => exact rfl); (case k7L11r8 => decide); (case k8L11r8 => decide); k_whole); intro t' h' tk' F' N'; (try dsimp only)))
    k_with "call ref" =>
      ((k_here; (with_reducible show wpAny _ _ (call (Value.ref 82) _) _ _ _); (with_reducible rename News _ _ _ _ => kN'); (with_reducible rename Key _ _ _ _ _ _ _ _ _ _ _ _ _ _ _ _ _ _ _ _ _ _ _ _ => hKey'); k_dflt (refine' str_led ?kGL11r9 ?kCL11r9 ?k7L11r9 ?kPL11r9 ?klL11r9 ?k5L11r9 hKey' (led_perm kN' ?hxL11r9 ?hdL11r9 ?hTL11r9 ?hRL11r9 ?hDL11r9 ?h4L11r9 ?h3L11r9 ?h0L11r9 ?h7L11r9 ?hIL11r9 ?hpL11r9) ?b1L11r9 ?b2L11r9 ?b3L11r9 ?b5L11r9 ?b6L11r9 ?b7L11r9 ?b8L11r9 ?_; (case hxL11r9 => k_mem); (case hTL11r9 => k_mem); (case h0L11r9 => k_mem); (case h7L11r9 => k_mem); (case hdL11r9 => k_mem); (case hRL11r9 => k_mem); (case hDL11r9 => k_mem); (case h4L11r9 => k_mem); (case h3L11r9 => k_mem); (case hIL11r9 => k_mem); (case kPL11r9 => with_reducible assumption); (case kGL11r9 => assumption); (case kCL11r9 => assumption); (case k7L11r9 => with_reducible assumption); (case klL11r9 => with_reducible assumption); (case k5L11r9 => with_reducible assumption); (case hpL11r9 => (refine sub_cons ?_ ?_; (· k_mem); (intro p hp; repeat (first | exact hp | refine List.mem_cons_of_mem _ ?_)))); (case b1L11r9 => k_asm); (case b2L11r9 => k_asm); (case b3L11r9 => k_asm); (case b5L11r9 => k_asm); (case b6L11r9 => exact rfl); (case b7L11r9 => first | decide | exact Nat.le_of_ble_eq_true rfl); (case b8L11r9 => first | decide | exact Nat.le_of_ble_eq_true rfl); k_whole); intro p7' t' s' h7' G' os' F' N'; (try dsimp only [StrBack])))
    k_with "pyIter str" =>
      ((k_here; (with_reducible rename Fr _ _ _ _ => kF); (with_reducible rename News _ _ _ _ => kN); (refine' way_src rfl kF kN ?kszL11r10 rfl (fun _ => rfl) (by decide) ?_; (case kszL11r10 => with_reducible assumption)); intro D' ys' h' tk' F' N' lD' sD'))
    k_with "call builtin:str.join" =>
      ((k_here; (with_reducible rename StrsAre _ _ => sD'); (with_reducible rename (∀ c ∈ _, Lett c) => gl'); (have eJ := bl_spaced gl' (by with_reducible assumption)); (refine PyProof.Rows.join_listW (by with_reducible assumption) sD' (by decide) eJ.2 ?_); (rw [eJ.1]); clear eJ; intro t' k'))
    k_with "compareOp NotEq str str" =>
      ((k_here; (with_reducible refine ne_str_eq ?eL11r12 ?_); (case eL11r12 => first | (with_reducible rfl) | exact tail_eq (by with_reducible assumption) (by with_reducible assumption) (by with_reducible assumption) | exact two_eq (by with_reducible assumption) (by with_reducible assumption) (by with_reducible assumption) (by omega))))
    k_with "compareOp NotEq int int" =>
      ((k_here; (with_reducible refine ne_int_eq ?eL11r13 ?_); (case eL11r13 => first | omega | exact due_eq (by with_reducible assumption))))
    k_with "binaryOp Mult int int" =>
      (((with_reducible rename Bounded _ => hBd'); (refine PyProof.Rows.mul_int ?_ ?_; rotate_left; (· first | exact mul_mem (by assumption) hBd' _ | exact mul_mem (.head _) hBd' _ | exact mul_mem (.tail _ (.head _)) hBd' _ | exact mul_mem (.tail _ (.tail _ (.head _))) hBd' _ | exact PySem.IntMulOk.of_right (PySem.intBits_le_64 (by simp; omega) (by simp; omega))))))
    k_with "call ref" =>
      ((k_here; (with_reducible show wpAny _ _ (call (Value.ref 52) _) _ _ _); (with_reducible rename PiecesOk _ _ _ => hPc'); k_dflt (refine' push_walk (es := []) ?k0L11r15 ?k9L11r15 ?kAL11r15 ?k1L11r15 ?k2L11r15 ?k3L11r15 ?k4L11r15 ?k5L11r15 ?k6L11r15 ?k7L11r15 ?k8L11r15 ?_; (case k0L11r15 => with_reducible assumption); (case k9L11r15 => with_reducible assumption); (case k1L11r15 => k_asm); (case k2L11r15 => k_asm); (case k3L11r15 => k_asm); (case k4L11r15 => with_reducible assumption); (case kAL11r15 => with_reducible assumption); (case k5L11r15 => k_asm); (case k6L11r15 => exact rfl); (case k7L11r15 => decide); (case k8L11r15 => decide); k_whole); intro q' h' tk' F' N' lq'; (have hPc2' := pushed_of N' hPc'); (have hPsz' := hPc2'.1); (try dsimp only)))
    k_with "compareOp Eq str str" =>
      ((k_here; (with_reducible refine eq_last_miss ?gL11r16 ?lL11r16 ⟨?c0L11r16, ?c3L11r16⟩ ?hL11r16 ?_); (case hL11r16 => with_reducible assumption); (case gL11r16 => with_reducible assumption); (case lL11r16 => with_reducible assumption); (case c0L11r16 => assumption); (case c3L11r16 => assumption)))
    k_with "binaryOp Add str str" =>
      ((k_here; (with_reducible refine add_word ?lL11r17 ?_); (case lL11r17 => with_reducible assumption); intro t' k'))
    k_with "compareOp NotEq str str" =>
      ((k_here; (with_reducible refine ne_two ?_)))
    k_with "subscriptTail" =>
      ((k_here; (with_reducible show wpAny _ _ (subscriptTail _ _ (Value.str (wd [_, _]) _) (Value.int 1 _)) _ _ _); (refine item_told ?bL11r19 ?cL11r19 ?_; (case bL11r19 => with_reducible assumption); (case cL11r19 => with_reducible assumption))))
    k_with "binaryOp Add str str" =>
      ((k_here; (with_reducible refine add_back ?lL11r20 ?_); (case lL11r20 => with_reducible assumption); intro t' k'))
    intros
    (try k_unmd)
    (with_reducible rename Says _ _ => sK)
    (with_reducible rename Good _ => gK)
    (with_reducible rename _ = _ ++ _ => eK)
    (with_reducible rename List.length _ ≤ 5 => hL5)
    have hB5 := bs_len eK hL5
    have hS3 := line_of (says_len sK) (by decide)
    have hS4 := line_of (Nat.le_of_eq (wd_len _)) hB5
    rcases nil_or gK with hk | hk
    · subst hk
      have e0 := says_nil sK
      subst e0
      rw [List.nil_append] at eK
      subst eK
      repeat' (first | (k_unfold; (try dsimp only)) | (k_end; wrow_close) | walk1 | (dsimp only; walk1) | (leave1; walk_say "STEP leave1"; try dsimp only) | fail "no step")
      · (with_reducible rename News _ _ _ _ => kN')
        (with_reducible rename Fr _ _ _ _ => kF)
        refine ⟨by simp [run], kF.keep, ?_, ?_, ⟨_, (kN' _ (.tail _ (.tail _ (.head _)))).1⟩, ⟨_, (kN' _ (.tail _ (.tail _ (.tail _ (.head _))))).1⟩, trivial⟩
        · assumption
        · assumption
      all_goals (
        (with_reducible rename (wd _ == wd _) = false => hb)
        exact absurd hb (by simp))
    · obtain ⟨c', b', hlast, hc', hb', e0⟩ := says_some gK sK hk
      subst e0
      have hc0 := hc'.1
      have hc3 := hc'.2
      have gK2 := good_dropLast gK
      have hWl := wd_len_bs eK
      have hSt := bs_lt eK hL5 hk
      have hK5 := ks_len eK hL5
      have hK52 := drop_len hK5
      (with_reducible rename RootOk _ => hRt)
      have hBd := run_bounded hRt gK hK5
      have hMv := mv_hit hRt hlast
      obtain ⟨most, least, near, off, out', hT', hSay'⟩ := told_at hRt gK2 hK52
      repeat' (first | (k_unfold; (try dsimp only)) | (k_end; wrow_close) | walk1 | (dsimp only; walk1) | (leave1; walk_say "STEP leave1"; try dsimp only) | fail "no step")
      (with_reducible rename News _ _ _ _ => kN')
      (with_reducible rename Fr _ _ _ _ => kF)
      refine' while_end (snoc_step eK hlast).1 (snoc_step eK hlast).2 gK2 hSay' kF kN' ?hTG11 ?hRG11 ?h0G11 ?h7G11 ?hmG11
      case hTG11 => k_mem
      case hRG11 => k_mem
      case h0G11 => k_mem
      case h7G11 => k_mem
      case hmG11 => exact map_back)

end Mine
end

theorem PySem.Challenge.cw_wu0012_01_holds : PySem.Challenge.rw_wu0012_01.Holds :=
  Mine.law_fin
