import PyProof.Rows.All
import Wide.All
import OpenK.AllK
import Wide.FinOn
import PySem.Challenge.RW_sr0014_01
open PySem PySem.W PyProof.Rows PySem.Flt
set_option Elab.async false
set_option maxRecDepth 100000
set_option maxHeartbeats 8000000
namespace Mine
open_top hd for PySem.Challenge.rw_sr0014_01
section
def max3F (a b c : UInt64) : UInt64 := bestBits gtB a [b, c]
def min3F (a b c : UInt64) : UInt64 := bestBits ltB a [b, c]
section
variable {prog : Program} {w : World} {A : Around} {E : Value → Shared → Prop} {s : Shared} {Q : Value → Shared → Prop} {h₀ : Heap} {L : Addr} {m : Str → Option Value} {news : List (Addr × Obj)} {x y z : UInt64} {t u v : Tok}
theorem max_three_ff (hh : A.handled = none) (F : Fr h₀ L s.heap m) (N : News h₀ L s.heap news)
    (h : ∀ h' tk v', Fr h₀ L h' m → News h₀ L h' news → Q (.float (max3F x y z) v') { s with heap := h', toks := tk }) :
    wpAny (model prog w) A (call (.builtin "max") [.float x t, .float y u, .float z v]) Q E s := by
  have hT : (s.heap.push { cls := .type "tuple", data := .seq #[.float x t, .float y u, .float z v] }).IsTuple s.heap.objs.size #[.float x t, .float y u, .float z v] := ⟨_, Heap.get?_push_size _ rfl, rfl, 0, rfl⟩
  refine call_max_three (wpAny_pyIter_tuple hT ?_)
  have hsz : (s.heap.push { cls := .type "tuple", data := .seq #[.float x t, .float y u, .float z v] }).objs.size = s.heap.objs.size + 1 := Heap.size_push ..
  refine ⟨_, [_, s.heap.objs.size], [_], _, _, _, _, rfl, Walks.tuple (A := A.in1) hh _ s.heap.objs.size (by rw [hsz]; exact Nat.ne_of_lt (Nat.lt_succ_self _)) #[.float x t, .float y u, .float z v],
    ⟨⟨_, Heap.get?_push_size _ rfl, rfl, rfl⟩, hT.push _⟩, fun c hc => ?_, by simp, cmpOf_gt #[.float x t, .float y u, .float z v] (by
      intro p hp
      simp only [List.mem_toArray, List.mem_cons, List.not_mem_nil, or_false] at hp
      rcases hp with rfl | rfl | rfl <;> exact .float _ _), fun p h' tk hP hk => ?_⟩
  · show c < ((s.heap.push _).push _).objs.size
    rw [Heap.size_push, hsz]
    rcases List.mem_cons.mp hc with rfl | hc
    · rw [hsz]; exact Nat.lt_succ_self _
    · rcases List.mem_cons.mp hc with rfl | hc
      · exact Nat.lt_succ_of_lt (Nat.lt_succ_self _)
      · cases hc
  · have hold : ∀ c o, s.heap.get? c = some o → h'.get? c = some o := fun c o e => by
      refine hk c o (fun hm => ?_) (Heap.get?_push_of_some _ (Heap.get?_push_of_some _ e))
      rcases List.mem_cons.mp hm with e1 | hm
      · have := Heap.lt_size e; rw [e1, hsz] at this; exact Nat.lt_irrefl _ (Nat.lt_of_succ_lt this)
      · cases hm
    have hv : ∃ t', p = Value.float (max3F x y z) t' := by
      cases c1 : gtB y x <;> cases c2 : gtB z (if gtB y x then y else x) <;>
        (have c1' := c1; have c2' := c2; simp only [c1, if_true, Bool.false_eq_true, if_false] at c2'; simp only [gtB] at c1' c2';
         simp [argBest, ltV, c1', c2'] at hP; simp [max3F, bestBits, c1, c2', gtB]; subst hP; first | exact ⟨_, rfl⟩ | simp_all)
    obtain ⟨t', rfl⟩ := hv
    exact h h' tk t' (F.grownK hold) (N.grown hold)
theorem min_three_ff (hh : A.handled = none) (F : Fr h₀ L s.heap m) (N : News h₀ L s.heap news)
    (h : ∀ h' tk v', Fr h₀ L h' m → News h₀ L h' news → Q (.float (min3F x y z) v') { s with heap := h', toks := tk }) :
    wpAny (model prog w) A (call (.builtin "min") [.float x t, .float y u, .float z v]) Q E s := by
  have hT : (s.heap.push { cls := .type "tuple", data := .seq #[.float x t, .float y u, .float z v] }).IsTuple s.heap.objs.size #[.float x t, .float y u, .float z v] := ⟨_, Heap.get?_push_size _ rfl, rfl, 0, rfl⟩
  refine call_min_three (wpAny_pyIter_tuple hT ?_)
  have hsz : (s.heap.push { cls := .type "tuple", data := .seq #[.float x t, .float y u, .float z v] }).objs.size = s.heap.objs.size + 1 := Heap.size_push ..
  refine ⟨_, [_, s.heap.objs.size], [_], _, _, _, _, rfl, Walks.tuple (A := A.in1) hh _ s.heap.objs.size (by rw [hsz]; exact Nat.ne_of_lt (Nat.lt_succ_self _)) #[.float x t, .float y u, .float z v],
    ⟨⟨_, Heap.get?_push_size _ rfl, rfl, rfl⟩, hT.push _⟩, fun c hc => ?_, by simp, cmpOf_lt #[.float x t, .float y u, .float z v] (by
      intro p hp
      simp only [List.mem_toArray, List.mem_cons, List.not_mem_nil, or_false] at hp
      rcases hp with rfl | rfl | rfl <;> exact .float _ _), fun p h' tk hP hk => ?_⟩
  · show c < ((s.heap.push _).push _).objs.size
    rw [Heap.size_push, hsz]
    rcases List.mem_cons.mp hc with rfl | hc
    · rw [hsz]; exact Nat.lt_succ_self _
    · rcases List.mem_cons.mp hc with rfl | hc
      · exact Nat.lt_succ_of_lt (Nat.lt_succ_self _)
      · cases hc
  · have hold : ∀ c o, s.heap.get? c = some o → h'.get? c = some o := fun c o e => by
      refine hk c o (fun hm => ?_) (Heap.get?_push_of_some _ (Heap.get?_push_of_some _ e))
      rcases List.mem_cons.mp hm with e1 | hm
      · have := Heap.lt_size e; rw [e1, hsz] at this; exact Nat.lt_irrefl _ (Nat.lt_of_succ_lt this)
      · cases hm
    have hv : ∃ t', p = Value.float (min3F x y z) t' := by
      cases c1 : ltB y x <;> cases c2 : ltB z (if ltB y x then y else x) <;>
        (have c1' := c1; have c2' := c2; simp only [c1, if_true, Bool.false_eq_true, if_false] at c2'; simp only [ltB] at c1' c2';
         simp [argBest, ltV, c1', c2'] at hP; simp [min3F, bestBits, c1, c2', ltB]; subst hP; first | exact ⟨_, rfl⟩ | simp_all)
    obtain ⟨t', rfl⟩ := hv
    exact h h' tk t' (F.grownK hold) (N.grown hold)
end
end
section
theorem fill0 : PySem.Challenge.rw_sr0014_01 = PySem.Challenge.rw_sr0014_01 ∧ hd.heap_39 = hd.heap_39 := by
  k_fill
  exact ⟨rfl, rfl⟩
abbrev prg : PySem.Program := PySem.Challenge.rw_sr0014_01.row.prog
abbrev tupO (vs : List Value) : Obj := { cls := .type "tuple", data := .seq vs.toArray }
/-- what a call needs of its caller, and how it comes back -/
abbrev Tells (w : World) (dk uk : Nat) (f : Addr) (vs : List Value) (news : List (Addr × Obj)) (Ret : Value → List (Addr × Obj) → Prop) : Prop :=
  ∀ (mean : ExcName → Option Value) (mg mb : Str → Option Value) (loose : List Str) (dp un : Nat) (gd : Option (List Code)) (cn : Str) (cs : Scope) (a : Addr) (ccd : Value) (cl : List (Str × Addr)) (outer : List Env) (A₀ : Around) (base h₀ : Heap) (L : Addr) (m : Str → Option Value) (s : Shared) (Q E : Value → Shared → Prop),
    Below A₀ base outer h₀ → Fr h₀ L s.heap m → (hd.heap_39 w.params).In h₀ → News h₀ L s.heap news → Top hd.view_39 loose mean mg mb h₀ → cs.kind = .function → dp + dk < recursionLimit → un + uk < cLine →
    (∀ v news' h' tk', Ret v news' → Fr h₀ L h' m → News h₀ L h' news' → Q v { s with heap := h', toks := tk' }) →
    wpAny (model prg w) (ktrTop dp un gd cn cs L a ccd cl outer) (call (.ref f) vs) Q E s

def hsvH (r g b : UInt64) : UInt64 :=
  let maxc := max3F r g b
  let minc := min3F r g b
  let rangec := Float64.sub maxc minc
  let rc := Float64.div (Float64.sub maxc r) rangec
  let gc := Float64.div (Float64.sub maxc g) rangec
  let bc := Float64.div (Float64.sub maxc b) rangec
  let h := if (Float64.cmp r maxc == some .eq) = true then Float64.sub bc gc else if (Float64.cmp g maxc == some .eq) = true then Float64.sub (Float64.add 4611686018427387904 rc) bc else Float64.sub (Float64.add 4616189618054758400 gc) rc
  (Float64.divmod (Float64.div h 4618441417868443648) 4607182418800017408).2
/-- the hue: what both functions answer first -/
def hueF (r g b : UInt64) : UInt64 := if (Float64.cmp (min3F r g b) (max3F r g b) == some .eq) = true then 0 else hsvH r g b
structure DivOk (r g b : UInt64) : Prop where
  nz : (Float64.cmp (min3F r g b) (max3F r g b) == some .eq) = false → ¬ Float64.isZero (max3F r g b) = true ∧ ¬ Float64.isZero (Float64.sub (max3F r g b) (min3F r g b)) = true
abbrev HueRet (bits : UInt64) (news : List (Addr × Obj)) (v : Value) (news' : List (Addr × Obj)) : Prop := ∃ D ta y z, v = .ref D ∧ news' = (D, tupO [.float bits ta, y, z]) :: news ∧ AllLt D news
theorem neg_of {b : Bool} (h : b = false) : ¬ b = true := by rw [h]; decide
theorem hue_end {bits hue : UInt64} {D : Addr} {ta : Tok} {y z : Value} {news : List (Addr × Obj)} (e : bits = hue) (hl : ∀ p ∈ news, p.1 < D) : HueRet hue news (.ref D) ((D, tupO [.float bits ta, y, z]) :: news) := by
  subst e
  exact ⟨_, _, _, _, rfl, rfl, allLt_of hl⟩
local macro_rules | `(tactic| walk_at "call builtin:max") => `(tactic| (k_here; (with_reducible show wpAny _ _ (call _ [Value.float _ _, Value.float _ _, Value.float _ _]) _ _ _); (rename News _ _ _ _ => N'); (rename Fr _ _ _ _ => F'); refine max_three_ff rfl F' N' ?_; clear N'; intro h' _ _ F' N'; (try k_sweep)))
local macro_rules | `(tactic| walk_at "call builtin:min") => `(tactic| (k_here; (with_reducible show wpAny _ _ (call _ [Value.float _ _, Value.float _ _, Value.float _ _]) _ _ _); (rename News _ _ _ _ => N'); (rename Fr _ _ _ _ => F'); refine min_three_ff rfl F' N' ?_; clear N'; intro h' _ _ F' N'; (try k_sweep)))
local macro_rules | `(tactic| walk_at "binaryOp Div float float") => `(tactic| (k_here; refine AutoFloatOps.truediv_1 ?hz ?_; (case hz => first | decide +kernel | (rename DivOk _ _ _ => hz'; exact (hz'.nz (by first | assumption | simp_all)).1) | (rename DivOk _ _ _ => hz'; exact (hz'.nz (by first | assumption | simp_all)).2)); (try dsimp only [Made.post])))
local macro_rules | `(tactic| walk_at "binaryOp Mod float float") => `(tactic| (k_here; refine AutoFloatOps.mod_1 ?hz ?_; (case hz => decide +kernel); (try dsimp only [Made.post])))
theorem hsv_call (w : World) (news : List (Addr × Obj)) (r g b : UInt64) (t1 t2 t3 : Tok) (ok : DivOk r g b) :
    Tells w 1 8 28 [.float r t1, .float g t2, .float b t3] news (HueRet (hueF r g b) news) := by
  intro mean mg mb loose dp un gd cn cs a ccd cl outer A₀ base h₀ L m s Q E B F X N T hk hdp hun hret
  refine wpAny_call ?_
  k_dflt (refine' code_def (binds := [(Str.ofString "r", .float r t1), (Str.ofString "g", .float g t2), (Str.ofString "b", .float b t3)]) B F X N T rfl rfl hk ?k6 ?k7 ?k8 ?k9 ?kB ?_ ?c2 ?c3 ?c4 ?c5; (case k6 => k_is); (case k7 => k_is); (case k8 => ktr_room); (case k9 => exact BindsTo.of_eq rfl); (case c5 => decide); (case kB => exact locs rfl); (case c2 => exact rfl); (case c3 => exact rfl); (case c4 => exact rfl))
  clear B F X N T
  intro g' L' h' FG F N B X T
  (try k_fold)
  k_steps
  all_goals (
    refine leaveK_ (by assumption) (by assumption) ?_
    intro kF kN
    refine hret _ _ _ _ ?_ kF kN
    refine hue_end ?_ (by assumption)
    unfold hueF
    first
      | (rw [if_pos (by assumption)])
      | (rw [if_neg (neg_of (by assumption))]
         dsimp only [hsvH]
         first
           | rw [if_pos (by assumption)]
           | rw [if_neg (neg_of (by assumption)), if_pos (by assumption)]
           | rw [if_neg (neg_of (by assumption)), if_neg (neg_of (by assumption))]))
structure DivOkL (r g b : UInt64) : Prop where
  nz : (Float64.cmp (min3F r g b) (max3F r g b) == some .eq) = false → ¬ Float64.isZero (Float64.sub (max3F r g b) (min3F r g b)) = true ∧
    ((Float64.cmp (Float64.div (Float64.add (max3F r g b) (min3F r g b)) 4611686018427387904) 4602678819172646912 == some .lt || Float64.cmp (Float64.div (Float64.add (max3F r g b) (min3F r g b)) 4611686018427387904) 4602678819172646912 == some .eq) = true → ¬ Float64.isZero (Float64.add (max3F r g b) (min3F r g b)) = true) ∧
    ((Float64.cmp (Float64.div (Float64.add (max3F r g b) (min3F r g b)) 4611686018427387904) 4602678819172646912 == some .lt || Float64.cmp (Float64.div (Float64.add (max3F r g b) (min3F r g b)) 4611686018427387904) 4602678819172646912 == some .eq) = false → ¬ Float64.isZero (Float64.sub (Float64.sub 4611686018427387904 (max3F r g b)) (min3F r g b)) = true)
local macro_rules | `(tactic| walk_at "binaryOp Div float float") => `(tactic| (k_here; (rename DivOkL _ _ _ => hz'); refine AutoFloatOps.truediv_1 ?hz ?_; (case hz => first | decide +kernel | exact (hz'.nz (by assumption)).1 | exact (hz'.nz (by assumption)).2.1 (by assumption) | exact (hz'.nz (by assumption)).2.2 (by assumption)); (try dsimp only [Made.post])))
theorem hls_call (w : World) (news : List (Addr × Obj)) (r g b : UInt64) (t1 t2 t3 : Tok) (ok : DivOkL r g b) :
    Tells w 1 8 21 [.float r t1, .float g t2, .float b t3] news (HueRet (hueF r g b) news) := by
  intro mean mg mb loose dp un gd cn cs a ccd cl outer A₀ base h₀ L m s Q E B F X N T hk hdp hun hret
  refine wpAny_call ?_
  k_dflt (refine' code_def (binds := [(Str.ofString "r", .float r t1), (Str.ofString "g", .float g t2), (Str.ofString "b", .float b t3)]) B F X N T rfl rfl hk ?k6 ?k7 ?k8 ?k9 ?kB ?_ ?c2 ?c3 ?c4 ?c5; (case k6 => k_is); (case k7 => k_is); (case k8 => ktr_room); (case k9 => exact BindsTo.of_eq rfl); (case c5 => decide); (case kB => exact locs rfl); (case c2 => exact rfl); (case c3 => exact rfl); (case c4 => exact rfl))
  clear B F X N T
  intro g' L' h' FG F N B X T
  (try k_fold)
  k_steps
  all_goals (
    refine leaveK_ (by assumption) (by assumption) ?_
    intro kF kN
    refine hret _ _ _ _ ?_ kF kN
    refine hue_end ?_ (by assumption)
    unfold hueF
    first
      | (rw [if_pos (by assumption)])
      | (rw [if_neg (neg_of (by assumption))]
         dsimp only [hsvH]
         first
           | rw [if_pos (by assumption)]
           | rw [if_neg (neg_of (by assumption)), if_pos (by assumption)]
           | rw [if_neg (neg_of (by assumption)), if_neg (neg_of (by assumption))]))
end
section
abbrev IntRet (R : Int) (news : List (Addr × Obj)) (v : Value) (news' : List (Addr × Obj)) : Prop := news' = news ∧ ∃ t, v = .int R t
theorem int_end {x R : Int} {t : Tok} {news : List (Addr × Obj)} (e : x = R) : IntRet R news (.int x t) news := ⟨rfl, t, by rw [e]⟩
/-- the walk stands still here -/
structure Stop (P : Prop) : Prop where
  out : P
section
variable {prog : Program} {w : World} {A : Around} {E : Value → Shared → Prop} {s : Shared} {h₀ : Heap} {L l : Addr} {news : List (Addr × Obj)} {vs : List Value} {ns : List Int} {c : Nat}
/-- a list of ints that the ledger bears -/
structure LRow (news : List (Addr × Obj)) (l : Addr) (vs : List Value) (ns : List Int) (c : Nat) : Prop where
  mem : (l, listOf vs.toArray c) ∈ news
  its : IntsAre vs ns
  len : ns.length < 2 ^ 20
theorem LRow.isList (R : LRow news l vs ns c) (N : News h₀ L s.heap news) : s.heap.IsList l vs.toArray := ⟨_, (N _ R.mem).1, rfl, c, rfl⟩
theorem row_len {Q : Value → Shared → Prop} (R : LRow news l vs ns c) (N : News h₀ L s.heap news) (h : ∀ t tk, Q (.int (ns.length : Int) t) { s with toks := tk }) : wpAny (model prog w) A (call (.builtin "len") [.ref l]) Q E s :=
  kst_len N R.mem R.its.length (by have := R.len; omega) (h _ _)
theorem row_item {value slice : Expr} {k : Int} {u : Tok} {Q : Value → Shared → Prop} (R : LRow news l vs ns c) (N : News h₀ L s.heap news) (h0 : 0 ≤ k) (h1 : k < ns.length) (h : ∀ t, Q (.int (ns.getD k.toNat 0) t) s)
    (hs : subscripted slice false (.ref l) (.int k u) = operate [.ref l, .int k u] (getItem (.ref l) (.int k u)) := by with_unfolding_all rfl) :
    wpAny (model prog w) A (subscriptTail value slice (.ref l) (.int k u)) Q E s := by
  have hL := R.isList N
  have hk : k.toNat < ns.length := by omega
  have hl := R.its.length
  obtain ⟨n, t, e1, e2⟩ := IntsAre.at R.its k.toNat (vs[k.toNat]'(by omega)) (List.getElem?_eq_getElem (by omega))
  have hq := h t
  rw [List.getD_eq_getElem?_getD, e2] at hq
  exact tail_any hL.typeIs slot_list_getitem.lookup (wpAny_getItem_list hL h0 (by have := R.len; omega) (by simpa using (List.getElem?_eq_getElem (l := vs) (by omega)).trans (congrArg some e1)) hq) hs
end
theorem fdiv2 (a : Int) : 2 * Int.fdiv a 2 ≤ a ∧ a < 2 * Int.fdiv a 2 + 2 := by
  have h := Int.fdiv_eq_ediv_of_nonneg a (b := 2) (by decide)
  omega
/-- the place that bisect_left finds, by its own halving -/
def bisL (ns : List Int) (x : Int) : Nat → Int → Int → Int
  | 0, lo, _ => lo
  | f + 1, lo, hi => if lo < hi then (if ns.getD (Int.fdiv (lo + hi) 2).toNat 0 < x then bisL ns x f (Int.fdiv (lo + hi) 2 + 1) hi else bisL ns x f lo (Int.fdiv (lo + hi) 2)) else lo
def bisF (ns : List Int) (x : Int) : Int := bisL ns x ns.length 0 ns.length
theorem bisL_lt {ns : List Int} {x lo hi R : Int} {f : Nat} (h : lo < hi) (hf : (hi - lo).toNat ≤ f) (hc : ns.getD (Int.fdiv (lo + hi) 2).toNat 0 < x) (e : bisL ns x f lo hi = R) : bisL ns x (f - 1) (Int.fdiv (lo + hi) 2 + 1) hi = R := by
  cases f with
  | zero => omega
  | succ f => rw [bisL, if_pos h, if_pos hc] at e; exact e
theorem bisL_ge {ns : List Int} {x lo hi R : Int} {f : Nat} (h : lo < hi) (hf : (hi - lo).toNat ≤ f) (hc : ¬ ns.getD (Int.fdiv (lo + hi) 2).toNat 0 < x) (e : bisL ns x f lo hi = R) : bisL ns x (f - 1) lo (Int.fdiv (lo + hi) 2) = R := by
  cases f with
  | zero => omega
  | succ f => rw [bisL, if_pos h, if_neg hc] at e; exact e
theorem bisL_end {ns : List Int} {x lo hi R : Int} {f : Nat} (h : ¬ lo < hi) (e : bisL ns x f lo hi = R) : lo = R := by
  cases f with
  | zero => rw [bisL] at e; exact e
  | succ f => rw [bisL, if_neg h] at e; exact e
local macro_rules | `(tactic| walk_at "call builtin:len") => `(tactic| (k_here; (with_reducible show wpAny _ _ (call (Value.builtin "len") [Value.ref _]) _ _ _); k_dflt (refine row_len (by assumption) (by assumption) ?_); intro _ _; (try dsimp only)))
local macro_rules | `(tactic| walk_at "subscriptTail") => `(tactic| (k_here; (with_reducible show wpAny _ _ (subscriptTail _ _ (Value.ref _) (Value.int _ _)) _ _ _); k_dflt (refine row_item (by assumption) (by assumption) (by first | omega | (k_fmods; omega)) (by first | omega | (k_fmods; omega)) ?_); intro _; (try dsimp only)))
local macro_rules | `(tactic| walk_at "my_steps") => `(tactic| repeat' (first | (k_unfold; (try dsimp only)) | walk1 | (dsimp only; walk1) | fail "no step"))
local macro_rules | `(tactic| walk_at "KswEnd") => `(tactic| refine Stop.out ?_)
local macro_rules | `(tactic| walk_at "LeaveK") => `(tactic| refine Stop.out ?_)
local macro_rules | `(tactic| walk_at "exec While Compare cons nil") => `(tactic| refine Stop.out ?_)
theorem bis_call2 (w : World) (news : List (Addr × Obj)) (l : Addr) (vs : List Value) (ns : List Int) (c : Nat) (x : Int) (t : Tok) (R : LRow news l vs ns c) :
    Tells w 1 8 46 [.ref l, .int x t] news (IntRet (bisF ns x) news) := by
  intro mean mg mb loose dp un gd cn cs a ccd cl outer A₀ base h₀ L m s Q E B F X N T hk hdp hun hret
  refine wpAny_call ?_
  k_dflt (refine' code_def (binds := [(Str.ofString "a", .ref l), (Str.ofString "x", .int x t), (Str.ofString "lo", .int 0 241), (Str.ofString "hi", .none), (Str.ofString "key", .none)]) B F X N T rfl rfl hk ?k6 ?k7 ?k8 ?k9 ?kB ?_ ?c2 ?c3 ?c4 ?c5; (case k6 => k_is); (case k7 => k_is); (case k8 => ktr_room); (case k9 => (refine' kp_binds ?kx ?ke; (case kx => k_in); (case ke => exact fun _ => rfl))); (case c5 => decide); (case kB => exact locs rfl); (case c2 => exact rfl); (case c3 => exact rfl); (case c4 => exact rfl))
  clear B F X N T
  intro g' L' h' FG F N B X T
  (try k_fold)
  walk_at "my_steps"
  refine Stop.mk ?_
  k_dflt refine' ksw_while (σ := Int × Tok × Int × Tok) (fun _ => news) (fun q => [(Str.ofString "lo", .int q.1 q.2.1), (Str.ofString "hi", .int q.2.2.1 q.2.2.2)]) (fun _ => True) [Str.ofString "mid"]
      (fun q => 0 ≤ q.1 ∧ q.1 ≤ q.2.2.1 ∧ q.2.2.1 ≤ (ns.length : Int) ∧ ∃ f : Nat, (q.2.2.1 - q.1).toNat ≤ f ∧ bisL ns x f q.1 q.2.2.1 = bisF ns x) (fun q => (q.2.2.1 - q.1).toNat) (0, 241, (ns.length : Int), _) (by assumption) (by assumption) trivial ?kk ?kp ?kt
  case kk => kst_all
  case kp =>
    dsimp only
    exact ⟨by omega, by omega, by omega, ns.length, by omega, rfl⟩
  case kt =>
    intro q u h2 tk2 _ ⟨i1, i2, i3, f, i4, i5⟩ F2 N2
    obtain ⟨lo, t5, hi, t6⟩ := q
    dsimp only [kstB] at F2 i1 i2 i3 i4 i5 ⊢
    have hmid := fdiv2 (lo + hi)
    k_unmd
    (try k_fold)
    walk_at "my_steps"
    all_goals refine Stop.mk ?_
    · k_dflt refine' ksw_end ⟨_, _, _, _⟩ (by assumption) (by assumption) (fun p hp => hp) trivial (by kst_all) (by ksw_same) ?_ ?_
      · dsimp only
        exact ⟨by omega, by omega, by omega, f - 1, by omega, bisL_lt (by assumption) i4 (by assumption) i5⟩
      · dsimp only
        omega
    · k_dflt refine' ksw_end ⟨_, _, _, _⟩ (by assumption) (by assumption) (fun p hp => hp) trivial (by kst_all) (by ksw_same) ?_ ?_
      · dsimp only
        exact ⟨by omega, by omega, by omega, f - 1, by omega, bisL_ge (by assumption) i4 (by first | assumption | omega) i5⟩
      · dsimp only
        omega
    · refine leaveK_ (by assumption) (by assumption) ?_
      intro kF kN
      exact hret _ _ _ _ (int_end (bisL_end (by first | assumption | omega) i5)) kF kN
theorem bis_call4 (w : World) (news : List (Addr × Obj)) (l : Addr) (vs : List Value) (ns : List Int) (c : Nat) (x : Int) (t t0 : Tok) (R : LRow news l vs ns c) :
    Tells w 1 8 46 [.ref l, .int x t, .int 0 t0, .none] news (IntRet (bisF ns x) news) := by
  intro mean mg mb loose dp un gd cn cs a ccd cl outer A₀ base h₀ L m s Q E B F X N T hk hdp hun hret
  refine wpAny_call ?_
  k_dflt (refine' code_def (binds := [(Str.ofString "a", .ref l), (Str.ofString "x", .int x t), (Str.ofString "lo", .int 0 t0), (Str.ofString "hi", .none), (Str.ofString "key", .none)]) B F X N T rfl rfl hk ?k6 ?k7 ?k8 ?k9 ?kB ?_ ?c2 ?c3 ?c4 ?c5; (case k6 => k_is); (case k7 => k_is); (case k8 => ktr_room); (case k9 => (refine' kp_binds ?kx ?ke; (case kx => k_in); (case ke => exact fun _ => rfl))); (case c5 => decide); (case kB => exact locs rfl); (case c2 => exact rfl); (case c3 => exact rfl); (case c4 => exact rfl))
  clear B F X N T
  intro g' L' h' FG F N B X T
  (try k_fold)
  walk_at "my_steps"
  refine Stop.mk ?_
  k_dflt refine' ksw_while (σ := Int × Tok × Int × Tok) (fun _ => news) (fun q => [(Str.ofString "lo", .int q.1 q.2.1), (Str.ofString "hi", .int q.2.2.1 q.2.2.2)]) (fun _ => True) [Str.ofString "mid"]
      (fun q => 0 ≤ q.1 ∧ q.1 ≤ q.2.2.1 ∧ q.2.2.1 ≤ (ns.length : Int) ∧ ∃ f : Nat, (q.2.2.1 - q.1).toNat ≤ f ∧ bisL ns x f q.1 q.2.2.1 = bisF ns x) (fun q => (q.2.2.1 - q.1).toNat) (0, t0, (ns.length : Int), _) (by assumption) (by assumption) trivial ?kk ?kp ?kt
  case kk => kst_all
  case kp =>
    dsimp only
    exact ⟨by omega, by omega, by omega, ns.length, by omega, rfl⟩
  case kt =>
    intro q u h2 tk2 _ ⟨i1, i2, i3, f, i4, i5⟩ F2 N2
    obtain ⟨lo, t5, hi, t6⟩ := q
    dsimp only [kstB] at F2 i1 i2 i3 i4 i5 ⊢
    have hmid := fdiv2 (lo + hi)
    k_unmd
    (try k_fold)
    walk_at "my_steps"
    all_goals refine Stop.mk ?_
    · k_dflt refine' ksw_end ⟨_, _, _, _⟩ (by assumption) (by assumption) (fun p hp => hp) trivial (by kst_all) (by ksw_same) ?_ ?_
      · dsimp only
        exact ⟨by omega, by omega, by omega, f - 1, by omega, bisL_lt (by assumption) i4 (by assumption) i5⟩
      · dsimp only
        omega
    · k_dflt refine' ksw_end ⟨_, _, _, _⟩ (by assumption) (by assumption) (fun p hp => hp) trivial (by kst_all) (by ksw_same) ?_ ?_
      · dsimp only
        exact ⟨by omega, by omega, by omega, f - 1, by omega, bisL_ge (by assumption) i4 (by first | assumption | omega) i5⟩
      · dsimp only
        omega
    · refine leaveK_ (by assumption) (by assumption) ?_
      intro kF kN
      exact hret _ _ _ _ (int_end (bisL_end (by first | assumption | omega) i5)) kF kN
end
section
local macro_rules | `(tactic| walk_at "pad of mine") => `(tactic| fail "pad")
theorem tells_use {w : World} {dk uk : Nat} {f : Addr} {vs : List Value} {news : List (Addr × Obj)} {Ret : Value → List (Addr × Obj) → Prop} (C : Tells w dk uk f vs news Ret)
    {mean : ExcName → Option Value} {mg mb : Str → Option Value} {loose : List Str} {dp un : Nat} {gd : Option (List Code)} {cn : Str} {cs : Scope} {a : Addr} {ccd : Value} {cl : List (Str × Addr)} {outer : List Env} {A₀ : Around} {base h₀ : Heap} {L : Addr} {m : Str → Option Value} {s : Shared} {Q E : Value → Shared → Prop}
    (B : Below A₀ base outer h₀) (F : Fr h₀ L s.heap m) (X : (hd.heap_39 w.params).In h₀) (N : News h₀ L s.heap news) (T : Top hd.view_39 loose mean mg mb h₀) (hk : cs.kind = .function) (hd : dp + dk < recursionLimit) (hu : un + uk < cLine)
    (ret : ∀ v news' h' tk', Ret v news' → Fr h₀ L h' m → News h₀ L h' news' → Q v { s with heap := h', toks := tk' }) :
    wpAny (model prg w) (ktrTop dp un gd cn cs L a ccd cl outer) (call (.ref f) vs) Q E s := C _ _ _ _ _ _ _ _ _ _ _ _ _ _ _ _ _ _ _ _ _ B F X N T hk hd hu ret
/-- an int put into its place -/
def insF (ns : List Int) (k x : Int) : List Int := ns.take k.toNat ++ x :: ns.drop k.toNat
theorem bisL_range {ns : List Int} {x : Int} : ∀ (f : Nat) (lo hi : Int), lo ≤ hi → lo ≤ bisL ns x f lo hi ∧ bisL ns x f lo hi ≤ hi
  | 0, lo, hi, h => by rw [bisL]; omega
  | f + 1, lo, hi, h => by
    rw [bisL]
    have hm := fdiv2 (lo + hi)
    split
    · split
      · have := bisL_range (ns := ns) (x := x) f ((lo + hi).fdiv 2 + 1) hi (by omega)
        omega
      · have := bisL_range (ns := ns) (x := x) f lo ((lo + hi).fdiv 2) (by omega)
        omega
    · omega
theorem bisF_range (ns : List Int) (x : Int) : 0 ≤ bisF ns x ∧ bisF ns x ≤ ns.length := bisL_range _ _ _ (by omega)
theorem ints_take {vs : List Value} {ns : List Int} (h : IntsAre vs ns) : ∀ k : Nat, IntsAre (vs.take k) (ns.take k) := by
  induction h with
  | nil => intro k; simp only [List.take_nil]; exact .nil
  | cons n t _ ih => intro k; cases k with
    | zero => exact .nil
    | succ k => exact .cons n t (ih k)
theorem ints_drop {vs : List Value} {ns : List Int} (h : IntsAre vs ns) : ∀ k : Nat, IntsAre (vs.drop k) (ns.drop k) := by
  induction h with
  | nil => intro k; simp only [List.drop_nil]; exact .nil
  | cons n t r ih => intro k; cases k with
    | zero => exact .cons n t r
    | succ k => exact ih k
theorem ints_ins {vs : List Value} {ns : List Int} {k x : Int} {t : Tok} (h : IntsAre vs ns) (h0 : 0 ≤ k) (h1 : k ≤ ns.length) : IntsAre (kl_ins vs k (.int x t)) (insF ns k x) := by
  have hl := h.length
  have e : (if k < 0 then (k + (vs.length : Int)).toNat else min k.toNat vs.length) = k.toNat := by rw [if_neg (by omega)]; omega
  unfold kl_ins insF
  rw [e]
  exact IntsAre.append (ints_take h _) (.cons x t (ints_drop h _))
theorem insF_length {ns : List Int} {k x : Int} (h0 : 0 ≤ k) (h1 : k ≤ ns.length) : (insF ns k x).length = ns.length + 1 := by
  unfold insF
  rw [List.length_append, List.length_cons, List.length_take, List.length_drop]
  omega
theorem upd_mem {d : Addr} {o o' : Obj} {l l' : List (Addr × Obj)} (U : Upd d o o' l l') : (d, o) ∈ l := by
  obtain ⟨pre, post, rfl, _, _, _⟩ := U.split
  exact List.mem_append_right _ (.head _)
local macro_rules | `(tactic| walk_at "my_steps") => `(tactic| repeat' (first | (k_unfold; (try dsimp only)) | walk1 | (dsimp only; walk1) | fail "no step"))
local macro_rules | `(tactic| walk_at "LeaveK") => `(tactic| refine Stop.out ?_)
local macro_rules | `(tactic| walk_at "call ref") => `(tactic| refine Stop.out ?_)
local macro_rules | `(tactic| walk_at "call builtin:list.insert") => `(tactic| refine Stop.out ?_)
local macro_rules | `(tactic| walk_at "my_call") => `(tactic| ((case B => k_asm); (case F => k_asm); (case X => k_asm); (case N => k_asm); (case T => k_asm); (case k => first | exact rfl | assumption); (case d => ktr_room); (case u => ktr_units)))
local macro_rules | `(tactic| walk_at "getMethod ref") => `(tactic| (k_here; (with_reducible show wpAny _ _ (getMethod (Value.ref _) (PySem.Str.ofString "insert") _) _ _ _); k_dflt (refine' kl_method ?N ?m PySem.F.slot_list_insert PySem.F.type_list_insert ?_; (case N => k_asm); (case m => exact LRow.mem (by assumption)))))
theorem ins_call (w : World) (news news₂ : List (Addr × Obj)) (l : Addr) (vs : List Value) (ns : List Int) (c : Nat) (x : Int) (t : Tok) (R : LRow news l vs ns c)
    (U : Upd l (listOf vs.toArray c) (listOf (kl_ins vs (bisF ns x) (.int x t)).toArray (c + 1)) news news₂) :
    Tells w 2 16 37 [.ref l, .int x t] news (fun v news' => v = .none ∧ news' = news₂) := by
  intro mean mg mb loose dp un gd cn cs a ccd cl outer A₀ base h₀ L m s Q E B F X N T hk hdp hun hret
  refine wpAny_call ?_
  k_dflt (refine' code_def (binds := [(Str.ofString "a", .ref l), (Str.ofString "x", .int x t), (Str.ofString "lo", .int 0 228), (Str.ofString "hi", .none), (Str.ofString "key", .none)]) B F X N T rfl rfl hk ?k6 ?k7 ?k8 ?k9 ?kB ?_ ?c2 ?c3 ?c4 ?c5; (case k6 => k_is); (case k7 => k_is); (case k8 => ktr_room); (case k9 => (refine' kp_binds ?kx ?ke; (case kx => k_in); (case ke => exact fun _ => rfl))); (case c5 => decide); (case kB => exact locs rfl); (case c2 => exact rfl); (case c3 => exact rfl); (case c4 => exact rfl))
  clear B F X N T
  intro g' L' h' FG F N B X T
  (try k_fold)
  walk_at "my_steps"
  refine Stop.mk ?_
  k_dflt (refine' tells_use (bis_call4 w news l vs ns c x t _ R) ?B ?F ?X ?N ?T ?k ?d ?u ?r)
  walk_at "my_call"
  rintro v news' h' tk' ⟨e9, t9, rfl⟩ F N
  rw [e9] at N
  dsimp only
  k_unmd
  (try k_fold)
  walk_at "my_steps"
  refine Stop.mk ?_
  have hb := bisF_range ns x
  have hl := R.its.length
  have hn := R.len
  refine kl_insert (its := vs.toArray) (by assumption) (by assumption) (by simp only [Builtin.List.listFitsIndex, Bool.and_eq_true, decide_eq_true_eq]; omega) rfl U (by rw [sizeLine_eq]; simp; omega) ?_
  intro h' F N
  k_unmd
  walk_at "my_steps"
  refine Stop.mk ?_
  refine leaveK_ (by assumption) (by assumption) ?_
  intro kF kN
  exact hret _ _ _ _ ⟨rfl, rfl⟩ kF kN
end
section
local macro_rules | `(tactic| walk_at "pad of mine") => `(tactic| fail "pad")
local macro_rules | `(tactic| walk_at "pad of mine") => `(tactic| fail "pad")
local macro_rules | `(tactic| walk_at "my_steps") => `(tactic| repeat' (first | (k_unfold; (try dsimp only)) | walk1 | (dsimp only; walk1) | fail "no step"))
local macro_rules | `(tactic| walk_at "LeaveK") => `(tactic| refine Stop.out ?_)
local macro_rules | `(tactic| walk_at "KswEnd") => `(tactic| refine Stop.out ?_)
local macro_rules | `(tactic| walk_at "exec While Name cons nil") => `(tactic| refine Stop.out ?_)
local macro_rules | `(tactic| walk_at "subscriptTail") => `(tactic| ((with_reducible show wpAny _ _ (subscriptTail _ _ (Value.bytes _ _) (Value.ref _)) _ _ _); refine Stop.out ?_))
local macro_rules | `(tactic| walk_at "binaryOp Add bytes bytes") => `(tactic| refine Stop.out ?_)
theorem fmod16 (a : Int) : 0 ≤ Int.fmod a 16 ∧ Int.fmod a 16 < 16 ∧ 16 * Int.fdiv a 16 + Int.fmod a 16 = a := by
  have h := Int.fdiv_eq_ediv_of_nonneg a (b := 16) (by decide)
  have h2 := Int.fmod_eq_emod_of_nonneg a (b := 16) (by decide)
  omega
theorem ap16 {k : Int} (h0 : 0 ≤ k) (h1 : k < 16) : ((KBw.bInts #[65, 66, 67, 68, 69, 70, 71, 72, 73, 74, 75, 76, 77, 78, 79, 80]).drop ((some k).elim 0 (clipAt (KBw.bInts #[65, 66, 67, 68, 69, 70, 71, 72, 73, 74, 75, 76, 77, 78, 79, 80]).length))).take ((some (k + 1)).elim (KBw.bInts #[65, 66, 67, 68, 69, 70, 71, 72, 73, 74, 75, 76, 77, 78, 79, 80]).length (clipAt (KBw.bInts #[65, 66, 67, 68, 69, 70, 71, 72, 73, 74, 75, 76, 77, 78, 79, 80]).length) - (some k).elim 0 (clipAt (KBw.bInts #[65, 66, 67, 68, 69, 70, 71, 72, 73, 74, 75, 76, 77, 78, 79, 80]).length)) = [65 + k] := by
  obtain ⟨n, rfl⟩ := Int.eq_ofNat_of_zero_le h0
  have hn : n < 16 := by omega
  revert hn
  clear h0 h1
  revert n
  decide
/-- the letters that Int2AP puts before the ones that stand -/
def apL : Nat → Int → List Int → List Int
  | 0, _, ks => ks
  | f + 1, n, ks => if n = 0 then ks else apL f (Int.fdiv n 16) ((65 + Int.fmod n 16) :: ks)
theorem apL_step {f : Nat} {n : Int} {ks R : List Int} (h : n ≠ 0) (hf : 0 < f) (e : apL f n ks = R) : apL (f - 1) (Int.fdiv n 16) ([65 + Int.fmod n 16] ++ ks) = R := by
  cases f with
  | zero => omega
  | succ f => rw [apL, if_neg h] at e; exact e
theorem apL_end {f : Nat} {n : Int} {ks R : List Int} (h : n = 0) (e : apL f n ks = R) : ks = R := by
  cases f with
  | zero => rw [apL] at e; exact e
  | succ f => rw [apL, if_pos h] at e; exact e
theorem ap_call (w : World) (news : List (Addr × Obj)) (n : Int) (t : Tok) (h0 : n ≤ 0) (h1 : - 2 ^ 20 < n) :
    Tells w 1 8 53 [.int n t] news (fun v news' => news' = news ∧ ∃ b t, v = .bytes b t ∧ KBw.bInts b = apL (-n).toNat (-n) []) := by
  intro mean mg mb loose dp un gd cn cs a ccd cl outer A₀ base h₀ L m s Q E B F X N T hk hdp hun hret
  refine wpAny_call ?_
  k_dflt (refine' code_def (binds := [(Str.ofString "num", .int n t)]) B F X N T rfl rfl hk ?k6 ?k7 ?k8 ?k9 ?kB ?_ ?c2 ?c3 ?c4 ?c5; (case k6 => k_is); (case k7 => k_is); (case k8 => ktr_room); (case k9 => exact BindsTo.of_eq rfl); (case c5 => decide); (case kB => exact locs rfl); (case c2 => exact rfl); (case c3 => exact rfl); (case c4 => exact rfl))
  clear B F X N T
  intro g' L' h' FG F N B X T
  (try k_fold)
  walk_at "my_steps"
  refine Stop.mk ?_
  have hab : (if n < 0 then -n else n) = -n := by split <;> omega
  k_dflt refine' ksw_while (σ := Int × Tok × Array UInt8 × Tok) (fun _ => news) (fun q => [(Str.ofString "num", .int q.1 q.2.1), (Str.ofString "val", .bytes q.2.2.1 q.2.2.2)]) (fun _ => True) [Str.ofString "mod"]
      (fun q => 0 ≤ q.1 ∧ q.1 < 2 ^ 20 ∧ (q.2.2.1.size : Int) + q.1 ≤ -n ∧ ∃ f : Nat, q.1.toNat ≤ f ∧ apL f q.1 (KBw.bInts q.2.2.1) = apL (-n).toNat (-n) []) (fun q => q.1.toNat) (if n < 0 then -n else n, _, #[], _) (by assumption) (by assumption) trivial ?kk ?kp ?kt
  case kk => kst_all
  case kp =>
    dsimp only
    rw [hab]
    exact ⟨by omega, by omega, by simp, (-n).toNat, by omega, rfl⟩
  case kt =>
    intro q u h2 tk2 _ ⟨i1, i2, i3, f, i4, i5⟩ F2 N2
    obtain ⟨num, t5, val, t6⟩ := q
    dsimp only [kstB] at F2 i1 i2 i3 i4 i5 ⊢
    k_unmd
    (try k_fold)
    walk_at "my_steps"
    · have hm := fmod16 num
      refine Stop.mk ?_
      refine KBc.slice_K (s := ⟨_, _, _, _, _⟩) (by assumption) (by assumption) rfl (.int _ _) (.int _ _) (by decide) ?_
      intro h3 t3 k3 F3 N3 hk3
      rw [ap16 hm.1 hm.2.1] at hk3
      k_unmd
      walk_at "my_steps"
      refine Stop.mk ?_
      refine KBa.add_K hk3 rfl (by rw [KBw.ints_length]; simp; omega) ?_
      intro t4 k4 happ
      k_unmd
      walk_at "my_steps"
      refine Stop.mk ?_
      have hsz := congrArg List.length happ
      rw [KBw.ints_length, List.length_append, KBw.ints_length, List.length_singleton] at hsz
      k_dflt refine' ksw_end ⟨_, _, _, _⟩ (by assumption) (by assumption) (fun p hp => List.mem_cons_of_mem _ hp) trivial (by kst_all) (by ksw_same) ?_ ?_
      · dsimp only
        refine ⟨by omega, by omega, by omega, f - 1, by omega, ?_⟩
        rw [happ]
        exact apL_step (by assumption) (by omega) i5
      · dsimp only
        omega
    · refine Stop.mk ?_
      refine leaveK_ (by assumption) (by assumption) ?_
      intro kF kN
      exact hret _ _ _ _ ⟨rfl, _, _, rfl, apL_end (by assumption) i5⟩ kF kN
end
section
abbrev tripO (a b c : Int) (ta tb tc : Tok) (n : Nat) : Obj := { cls := .type "tuple", data := .seq #[.int a ta, .int b tb, .int c tc] n }
/-- v is a tuple of the three ints p -/
def TripAt (h : Heap) (v : Value) (p : Int × Int × Int) : Prop := ∃ x ta tb tc n, v = .ref x ∧ h.get? x = some (tripO p.1 p.2.1 p.2.2 ta tb tc n)
def lexLt (p q : Int × Int × Int) : Bool := if p.1 = q.1 then (if p.2.1 = q.2.1 then decide (p.2.2 < q.2.2) else decide (p.2.1 < q.2.1)) else decide (p.1 < q.1)
/-- pairs of ints, told apart at the first that differs -/
def lexPairs : List ((Int × Tok) × (Int × Tok)) → Bool
  | [] => false
  | (x, y) :: r => if x.1 = y.1 then lexPairs r else decide (x.1 < y.1)
theorem lt_ints {prog : Program} {w : World} {A : Around} {E : Value → Shared → Prop} {s : Shared} {a b : Int} {t u : Tok} {Q : Value → Shared → Prop} (h : Q (.bool (decide (a < b))) s) : wpAny (model prog w) A (richCompare .Lt (.int a t) (.int b u)) Q E s :=
  richCompare_gives (op := .Lt) (typeIs_int s a t) (typeIs_int s b u) F.slot_int_lt F.entry_int_lt (F.args_int_lt_2 _ _) (gives_int_lt _ _ t u) (fun x => nomatch x) h
theorem tuple_lt3 (l b : Addr) (x1 x2 x3 y1 y2 y3 : Int) (t1 t2 t3 u1 u2 u3 : Tok) (n n2 : Nat) :
    Meets (Builtin.«tuple.__lt__» ⟨[.ref l, .ref b], []⟩) (fun _ R s => s.heap.get? l = some (tripO x1 x2 x3 t1 t2 t3 n) ∧ s.heap.get? b = some (tripO y1 y2 y3 u1 u2 u3 n2) ∧
      R (.ok (.ret (.bool (lexLt (x1, x2, x3) (y1, y2, y3))))) s) :=
  .of_wp fun prog w A R s h => by
    obtain ⟨hp, g, d, tk, os⟩ := s; obtain ⟨hl, hb, h⟩ := h
    have f2 := AutoSeq1.sub_tuple_tuple
    have h0 : R (.ok (.ret (.bool (lexPairs [((x1, t1), (y1, u1)), ((x2, t2), (y2, u2)), ((x3, t3), (y3, u3))])))) ⟨hp, g, d, tk, os⟩ := by
      have e : lexPairs [((x1, t1), (y1, u1)), ((x2, t2), (y2, u2)), ((x3, t3), (y3, u3))] = lexLt (x1, x2, x3) (y1, y2, y3) := by
        simp only [lexPairs, lexLt]
        by_cases e1 : x1 = y1 <;> by_cases e2 : x2 = y2 <;> by_cases e3 : x3 = y3 <;> simp [e1, e2, e3]
      rw [e]; exact h
    wp_walk using wpAny_loadPart' hl, wpAny_loadPart' hb, wpAny_forIn_list _ (fun rest b s' => b.1 = none ∧ s' = ⟨hp, g, d, tk, os⟩ ∧ ∃ ps : List ((Int × Tok) × (Int × Tok)), rest = ps.map (fun p => (Value.int p.1.1 p.1.2, Value.int p.2.1 p.2.2)) ∧
      R (.ok (.ret (.bool (lexPairs ps)))) ⟨hp, g, d, tk, os⟩) _
    case turn =>
      rintro ⟨y, x⟩ rest b s' ⟨hb', rfl, ps, hz, hR⟩
      cases ps with
      | nil => cases hz
      | cons q ps =>
        obtain ⟨⟨a1, a2⟩, c1, c2⟩ := q
        rw [List.map_cons] at hz
        injection hz with hyx hrest
        injection hyx with e1 e2
        subst e1 e2
        refine wpAny_bind (wpAny_eqBool_int ?_)
        simp only [lexPairs] at hR
        by_cases hac : a1 = c1
        · have hq : (a1 == c1) = true := by simp [hac]
          rw [hq]
          rw [if_pos hac] at hR
          wp_walk
          exact ⟨rfl, rfl, ps, hrest, hR⟩
        · have hq : (a1 == c1) = false := by simp [hac]
          rw [hq]
          rw [if_neg hac] at hR
          wp_walk using lt_ints
          exact ⟨_, rfl, hR⟩
    case fin =>
      rintro ⟨b1, b2⟩ s' ⟨hb', rfl, ps, hz, hR⟩
      simp only at hb'
      subst hb'
      cases ps with
      | cons q ps => cases hz
      | nil =>
        wp_walk
        exact ⟨_, rfl, by simpa [Builtin.Tuple.tupleCompareSizes, lexPairs] using hR⟩
    case h =>
      exact ⟨rfl, rfl, [((x1, t1), (y1, u1)), ((x2, t2), (y2, u2)), ((x3, t3), (y3, u3))], rfl, h0⟩
section
variable {prog : Program} {w : World} {A : Around} {E : Value → Shared → Prop} {s : Shared}
theorem TripAt.keeps {h h' : Heap} {v : Value} {p : Int × Int × Int} (T : TripAt h v p) (k : ∀ a o, v = .ref a → h.get? a = some o → h'.get? a = some o) : TripAt h' v p := by
  obtain ⟨x, ta, tb, tc, n, rfl, e⟩ := T
  exact ⟨x, ta, tb, tc, n, rfl, k x _ rfl e⟩
theorem trip_lt {v u : Value} {p q : Int × Int × Int} {Q : Value → Shared → Prop} (hv : TripAt s.heap v p) (hu : TripAt s.heap u q) (hr : A.units < cLine) (h : Q (.bool (lexLt p q)) s) :
    wpAny (model prog w) A (richCompare .Lt v u) Q E s := by
  obtain ⟨x, ta, tb, tc, n, rfl, e1⟩ := hv
  obtain ⟨y, ua, ub, uc, k, rfl, e2⟩ := hu
  exact wpAny_richCompare_same_room ⟨_, e1, rfl⟩ ⟨_, e2, rfl⟩ F.slot_tuple_lt
    (call_meets F.slot_tuple_lt ⟨_, e1, rfl⟩ F.entry_tuple_lt (F.args_tuple_lt_2 _ _) (tuple_lt3 x y _ _ _ _ _ _ _ _ _ _ _ _ _ _) ⟨e1, e2, fun z => (nomatch z), h⟩) hr
end
/-- a comparison that leans on what the walk keeps of the heap -/
def CmpIn (prog : Program) (w : World) (A : Around) (St : Nat → Heap → Prop) (P : Nat → Value → Prop) (bt : Nat → Nat → Bool) : Prop :=
  ∀ k i j vi vj (s : Shared) (Q : Value → Shared → Prop) (E : Value → Shared → Prop), St k s.heap → P i vi → P j vj → Q (.bool (bt i j)) s → wpAny (model prog w) A (richCompare .Lt vi vj) Q E s
section
variable {prog : Program} {w : World} {A : Around} {R : Result → Shared → Prop} {I : Addr} {fp wr : List Addr} {n : Nat} {P : Nat → Value → Prop} {St : Nat → Heap → Prop}
theorem least_turns (W : Walks prog w A.in1 I fp wr n P St) (bt : Nat → Nat → Bool) (hcmp : CmpIn prog w A.in1 St P bt) (S : Addr) (hSf : S ∉ fp) :
    ∀ (k j : Nat) (s : Shared) (best : Value) (c : Nat), n - (j + 1) = k → j + 1 ≤ n → St (j + 1) s.heap → P (argBest bt j) best →
    s.heap.get? S = some { cls := .type "list", dict := none, data := .seq #[best, best] c, slots := #[] } →
    (∀ v h' tk, P (argBest bt (n - 1)) v → (∀ b o, b ∉ wr → b ≠ S → s.heap.get? b = some o → h'.get? b = some o) → R (.ok (.ret v)) { s with heap := h', toks := tk }) →
    codeAny (model prog w) A (.builtin "min.loop" ⟨[.ref I, .none, .ref S], []⟩) R s := by
  have hname : (toString "min" ++ toString ".loop" : String) = "min.loop" := by decide
  have hSw : S ∉ wr := fun q => hSf (W.sub _ q)
  intro k
  induction k with
  | zero =>
    intro j s best c hk hj hst hP hS hR
    obtain rfl : n = j + 1 := by omega
    refine codeAny_builtin F.entry_min_loop ?_
    rw [Around.under_plainId F.plain_min_loop _]
    show wpAny _ A.in1 (seqItems? (.ref S) >>= _) _ _ s
    refine wpAny_bind (wpAny_seqItems hS rfl ?_)
    show wpAny _ A.in1 (tryCatch (pyNext (.ref I)) _ >>= _) _ _ s
    refine wpAny_bind (wpAny_tryCatch (W.done s _ _ hst fun h' tk hk' => ?_))
    show wpAny _ A.in1 (updateSeq S (fun _ => #[]) >>= _) _ _ _
    refine wpAny_bind (wpAny_updateSeq (hk' S _ hSw hS) rfl (wpAny_bind (wpAny_letGo (wpAny_pure ?_))))
    exact hR best _ tk hP fun b o hbw hbS e => (Heap.get?_update_other _ _ (Ne.symm hbS)).trans (hk' b o hbw e)
  | succ k ih =>
    intro j s best c hk hj hst hP hS hR
    have hlt : j + 1 < n := by omega
    refine codeAny_builtin F.entry_min_loop ?_
    rw [Around.under_plainId F.plain_min_loop _]
    show wpAny _ A.in1 (seqItems? (.ref S) >>= _) _ _ s
    refine wpAny_bind (wpAny_seqItems hS rfl ?_)
    show wpAny _ A.in1 (tryCatch (pyNext (.ref I)) _ >>= _) _ _ s
    refine wpAny_bind (wpAny_tryCatch (W.item (j + 1) s _ _ hlt hst fun v h' tk hPv hst' hk' => ?_))
    have hS' := hk' S _ hSw hS
    show wpAny _ A.in1 (tryCatch (holding [v, v] (richCompare .Lt v best >>= _)) _ >>= _) _ _ _
    refine wpAny_bind (wpAny_tryCatch (wpAny_holding (wpAny_bind (hcmp _ (j + 1) (argBest bt j) v best _ _ _ hst' hPv hP ?_))))
    refine wpAny_bind (wpAny_holding (wpAny_truthy_bool ?_))
    refine wpAny_bind (wpAny_letGo (wpAny_pure ?_))
    cases hb : bt (j + 1) (argBest bt j) with
    | false =>
      simp only [Bool.false_eq_true, if_false]
      refine wpAny_bind (wpAny_letGo ?_)
      rw [hname]
      refine wpAny_pure ⟨plainId_quiet F.plain_min_loop _, ih (j + 1) _ best c (by omega) hlt hst' (by simp only [argBest, hb, Bool.false_eq_true, if_false]; exact hP) hS' fun v' h2 tk2 hP2 hk2 => ?_⟩
      exact hR v' h2 tk2 hP2 fun b o hbw hbS e => hk2 b o hbw hbS (hk' b o hbw e)
    | true =>
      simp only [if_true]
      refine wpAny_bind (wpAny_updateSeq hS' rfl (wpAny_bind (wpAny_letGo ?_)))
      rw [hname]
      refine wpAny_pure ⟨plainId_quiet F.plain_min_loop _, ih (j + 1) _ v _ (by omega) hlt (W.frame _ _ _ hst' fun b hbf o e => ?_) (by simp only [argBest, hb, if_true]; exact hPv) (Heap.get?_update_self _ hS' rfl) fun v' h2 tk2 hP2 hk2 => ?_⟩
      · exact (Heap.get?_update_other _ _ (fun q : S = b => hSf (by rw [q]; exact hbf))).trans e
      · exact hR v' h2 tk2 hP2 fun b o hbw hbS e => hk2 b o hbw hbS ((Heap.get?_update_other _ _ (Ne.symm hbS)).trans (hk' b o hbw e))
theorem least_first (W : Walks prog w A.in1 I fp wr n P St) (bt : Nat → Nat → Bool) (hcmp : CmpIn prog w A.in1 St P bt) (S : Addr) (hSf : S ∉ fp) (hn : 0 < n) {s : Shared} {c : Nat} (hst : St 0 s.heap)
    (hS : s.heap.get? S = some { cls := .type "list", dict := none, data := .seq #[] c, slots := #[] })
    (hR : ∀ v h' tk, P (argBest bt (n - 1)) v → (∀ b o, b ∉ wr → b ≠ S → s.heap.get? b = some o → h'.get? b = some o) → R (.ok (.ret v)) { s with heap := h', toks := tk }) :
    codeAny (model prog w) A (.builtin "min.loop" ⟨[.ref I, .none, .ref S], []⟩) R s := by
  have hname : (toString "min" ++ toString ".loop" : String) = "min.loop" := by decide
  have hSw : S ∉ wr := fun q => hSf (W.sub _ q)
  refine codeAny_builtin F.entry_min_loop ?_
  rw [Around.under_plainId F.plain_min_loop _]
  show wpAny _ A.in1 (seqItems? (.ref S) >>= _) _ _ s
  refine wpAny_bind (wpAny_seqItems hS rfl ?_)
  show wpAny _ A.in1 (tryCatch (pyNext (.ref I)) _ >>= _) _ _ s
  refine wpAny_bind (wpAny_tryCatch (W.item 0 s _ _ hn hst fun v h' tk hP hst' hk' => ?_))
  have hS' := hk' S _ hSw hS
  show wpAny _ A.in1 (updateSeq S (fun _ => #[v, v]) >>= _) _ _ _
  refine wpAny_bind (wpAny_updateSeq hS' rfl ?_)
  rw [hname]
  refine wpAny_pure ⟨plainId_quiet F.plain_min_loop _, least_turns W bt hcmp S hSf _ 0 _ v _ rfl hn (W.frame _ _ _ hst' fun b hbf o e => ?_) hP (Heap.get?_update_self _ hS' rfl) fun v' h2 tk2 hP2 hk2 => ?_⟩
  · exact (Heap.get?_update_other _ _ (fun q : S = b => hSf (by rw [q]; exact hbf))).trans e
  · exact hR v' h2 tk2 hP2 fun b o hbw hbS e => hk2 b o hbw hbS ((Heap.get?_update_other _ _ (Ne.symm hbS)).trans (hk' b o hbw e))
end
section
variable {prog : Program} {w : World} {A : Around} {E : Value → Shared → Prop} {s : Shared} {l : Addr} {vs : List Value} {ps : List (Int × Int × Int)}
def refsOf (vs : List Value) : List Addr := vs.filterMap (fun v : Value => match v with | Value.ref a => some a | _ => none)
theorem refs_mem {vs : List Value} {a : Addr} (h : Value.ref a ∈ vs) : a ∈ refsOf vs := List.mem_filterMap.mpr ⟨_, h, rfl⟩
/-- min of a list of tuples of three ints -/
theorem min_trips {Q : Value → Shared → Prop} (hh : A.handled = none) (hu : A.units + 1 < cLine) (hl : s.heap.IsList l vs.toArray) (hne : 0 < vs.length)
    (ht : ∀ i v, vs[i]? = some v → TripAt s.heap v (ps.getD i (0, 0, 0)))
    (h : ∀ v h' tk, vs[argBest (fun i j => lexLt (ps.getD i (0, 0, 0)) (ps.getD j (0, 0, 0))) (vs.length - 1)]? = some v → (∀ b o, s.heap.get? b = some o → h'.get? b = some o) → Q v { s with heap := h', toks := tk }) :
    wpAny (model prog w) A (call (.builtin "min") [.ref l]) Q E s := by
  have hname : (toString "min" ++ toString ".loop" : String) = "min.loop" := by decide
  have hlt : l < s.heap.objs.size := by obtain ⟨_, e, _⟩ := hl; exact Heap.lt_size e
  refine call_function_tree F.kind_min F.plain_min F.entry_min (F.args_min1 _) ?_
  show wpAny _ A.in1 (Builtin.Builtins.bindParams "min" ["key", "default"] 0 ⟨[], []⟩ >>= _) _ _ s
  refine wpAny_bind (wpAny_of_eq (show Builtin.Builtins.bindParams "min" ["key", "default"] 0 ⟨[], []⟩ = pure [none, none] from rfl) ?_)
  refine wpAny_bind (wpAny_pure ?_)
  refine wpAny_bind (wpAny_pyIter_list hl ?_)
  refine wpAny_bind (wpAny_newObj_type ?_)
  rw [hname]
  have W0 := Walks.list (prog := prog) (w := w) (A := A.in1) hh s.heap.objs.size l (Nat.ne_of_lt hlt) vs.toArray
  have hold : ∀ (i : Nat) (v : Value) (a : Addr), vs[i]? = some v → v = Value.ref a → a < s.heap.objs.size := fun i v a e q => by
    obtain ⟨x, _, _, _, _, e1, e2⟩ := ht i v e
    rw [q] at e1
    cases e1
    exact Heap.lt_size e2
  have W : Walks prog w A.in1 s.heap.objs.size ([s.heap.objs.size, l] ++ refsOf vs) [s.heap.objs.size] vs.toArray.size (fun i v => vs.toArray[i]? = some v)
      (fun i h => (h.IsListIter s.heap.objs.size l i ∧ h.IsList l vs.toArray) ∧ ∀ i v, vs[i]? = some v → TripAt h v (ps.getD i (0, 0, 0))) :=
    { sub := fun b hb => List.mem_append_left _ (W0.sub b hb)
      frame := fun i h h' st hk => ⟨W0.frame i h h' st.1 fun b hb => hk b (List.mem_append_left _ hb), fun i v e => (st.2 i v e).keeps fun a o q ho => hk a (List.mem_append_right _ (refs_mem (q ▸ List.mem_of_getElem? e))) o ho⟩
      item := fun i s' Q' E' hi st hQ => W0.item i s' Q' E' hi st.1 fun v h' tk hP hst hk => hQ v h' tk hP ⟨hst, fun i v e => (st.2 i v e).keeps fun a o q ho => hk a o (fun hm => by rw [List.mem_singleton] at hm; exact absurd (hold i v a e q) (by rw [hm]; exact Nat.lt_irrefl _)) ho⟩ hk
      done := fun s' Q' E' st hQ => W0.done s' Q' E' st.1 hQ
      self := fun i s' Q' E' st hQ => W0.self i s' Q' E' st.1 hQ }
  have hsz : (s.heap.push { cls := .type "list_iterator", data := .fields #[.ref l, .int 0 0] }).objs.size = s.heap.objs.size + 1 := Heap.size_push ..
  have hS : (s.heap.push { cls := .type "list_iterator", data := .fields #[.ref l, .int 0 0] }).objs.size ∉ [s.heap.objs.size, l] ++ refsOf vs := by
    rw [hsz]
    intro hm
    rcases List.mem_append.mp hm with hm | hm
    · rcases List.mem_cons.mp hm with q | hm
      · exact absurd q (Nat.succ_ne_self _)
      · rw [List.mem_singleton] at hm
        exact absurd hlt (by rw [← hm]; exact Nat.not_lt.mpr (Nat.le_succ _))
    · obtain ⟨v, hv, e⟩ := List.mem_filterMap.mp hm
      obtain ⟨i, hi⟩ := List.mem_iff_getElem?.mp hv
      cases v with
      | ref a =>
        cases e
        exact absurd (hold i _ _ hi rfl) (Nat.not_lt.mpr (Nat.le_succ _))
      | _ => cases e
  refine wpAny_pure ⟨plainId_quiet F.plain_min_loop _, least_first W (fun i j => lexLt (ps.getD i (0, 0, 0)) (ps.getD j (0, 0, 0))) ?_ _ hS (by simpa using hne) ⟨⟨⟨_, Heap.get?_push_of_some _ (Heap.get?_push_size _ rfl), rfl, rfl⟩, (hl.push _).push _⟩, fun i v e => (ht i v e).keeps fun a o _ ho => Heap.get?_push_of_some _ (Heap.get?_push_of_some _ ho)⟩ (Heap.get?_push_size _ rfl) fun v h' tk hP hk => ?_⟩
  · intro k i j vi vj s' Q' E' st hi hj hq
    exact trip_lt (st.2 i vi (by simpa using hi)) (st.2 j vj (by simpa using hj)) hu hq
  · refine h v h' tk (by simpa using hP) fun b o e => hk b o (fun hm => ?_) (fun q => ?_) (Heap.get?_push_of_some _ (Heap.get?_push_of_some _ e))
    · rw [List.mem_singleton] at hm
      exact absurd (Heap.lt_size e) (by rw [hm]; exact Nat.lt_irrefl _)
    · exact absurd (Heap.lt_size e) (by rw [q, hsz]; exact Nat.not_lt.mpr (Nat.le_succ _))
end
end
section
section
variable {prog : Program} {w : World} {A : Around} {E : Value → Shared → Prop} {Q : Value → Shared → Prop} {hp : Heap} {g : Array GenState} {d : Drawn} {tk : Nat} {os : OsState} {a b : Int} {t u : Tok}
theorem addI (h : ∀ t k, Q (.int (a + b) t) ⟨hp, g, d, k, os⟩) : wpAny (model prog w) A (binaryOp .Add (.int a t) (.int b u)) Q E ⟨hp, g, d, tk, os⟩ := add_int (h _ _)
theorem subI (h : ∀ t k, Q (.int (a - b) t) ⟨hp, g, d, k, os⟩) : wpAny (model prog w) A (binaryOp .Sub (.int a t) (.int b u)) Q E ⟨hp, g, d, tk, os⟩ := sub_int (h _ _)
theorem mulI (hm : (a.natAbs < 2 ^ 60 ∨ b.natAbs < 2 ^ 60)) (h : ∀ t k, Q (.int (a * b) t) ⟨hp, g, d, k, os⟩) : wpAny (model prog w) A (binaryOp .Mult (.int a t) (.int b u)) Q E ⟨hp, g, d, tk, os⟩ :=
  mul_int (h _ _) (hm.elim (fun q => IntMulOk.of_left (intBits_le_64 (by omega) (by omega))) (fun q => IntMulOk.of_right (intBits_le_64 (by omega) (by omega))))
theorem fdivI (hb : b ≠ 0) (hp' : b.natAbs < 1073741824) (h : ∀ t k, Q (.int (Int.fdiv a b) t) ⟨hp, g, d, k, os⟩) : wpAny (model prog w) A (binaryOp .FloorDiv (.int a t) (.int b u)) Q E ⟨hp, g, d, tk, os⟩ :=
  floordiv_int hb (h _ _) (Or.inl (PyProof.noPylong_small hp'))
theorem fmodI (hb : b ≠ 0) (h : ∀ t k, Q (.int (Int.fmod a b) t) ⟨hp, g, d, k, os⟩) : wpAny (model prog w) A (binaryOp .Mod (.int a t) (.int b u)) Q E ⟨hp, g, d, tk, os⟩ := mod_int' hb (h _ _)
theorem negI (h : ∀ t k, Q (.int (-a) t) ⟨hp, g, d, k, os⟩) : wpAny (model prog w) A (unaryOp .USub (.int a t)) Q E ⟨hp, g, d, tk, os⟩ := neg_int (h _ _)
theorem constI {env : Env} {k0 : Nat} {pos : Pos} (h : ∀ t k, Q (.int a t) ⟨hp, g, d, k, os⟩) : wpAny (model prog w) A (eval (.Constant (.int a) k0 pos) env) Q E ⟨hp, g, d, tk, os⟩ := fun _ _ _ => h _ _
end
local macro_rules | `(tactic| walk_at "binaryOp Add int int") => `(tactic| (k_here; refine addI ?_; intro _ _))
local macro_rules | `(tactic| walk_at "binaryOp Sub int int") => `(tactic| (k_here; refine subI ?_; intro _ _))
local macro_rules | `(tactic| walk_at "binaryOp Mult int int") => `(tactic| (k_here; refine mulI ?hm ?_; (case hm => first | (refine Or.inl ?_; omega) | (refine Or.inr ?_; omega)); intro _ _))
local macro_rules | `(tactic| walk_at "binaryOp FloorDiv int int") => `(tactic| (k_here; refine fdivI ?hb ?hp ?_; (case hb => omega); (case hp => omega); intro _ _))
local macro_rules | `(tactic| walk_at "binaryOp Mod int int") => `(tactic| (k_here; refine fmodI ?hb ?_; (case hb => omega); intro _ _))
local macro_rules | `(tactic| walk_at "unaryOp USub int") => `(tactic| (k_here; refine negI ?_; intro _ _))
local macro_rules | `(tactic| walk_at "eval Constant int") => `(tactic| (k_here; refine constI ?_; intro _ _))
local macro_rules | `(tactic| walk_at "my_steps") => `(tactic| repeat' (first | (k_unfold; (try dsimp only)) | walk1 | (dsimp only; walk1) | fail "no step"))
local macro_rules | `(tactic| walk_at "pyIter ref") => `(tactic| refine Stop.out ?_)
local macro_rules | `(tactic| walk_at "call builtin:min") => `(tactic| refine Stop.out ?_)
local macro_rules | `(tactic| walk_at "UnrEnd") => `(tactic| refine Stop.out ?_)
local macro_rules | `(tactic| walk_at "LeaveK") => `(tactic| refine Stop.out ?_)
abbrev tupN (vs : List Value) (n : Nat) : Obj := { cls := .type "tuple", data := .seq vs.toArray n }
section
variable {prog : Program} {w : World} {A : Around} {E : Value → Shared → Prop} {s : Shared} {env : Env} {h₀ : Heap} {target : Expr} {body : List Stmt} {Q : Flow → Shared → Prop}
/-- a loop over a tuple of the ledger, by what holds between its turns -/
theorem iter_tupJ {ax : Addr} {lo : Obj} {vs : List Value} {n : Nat} {m₀ : Str → Option Value} {news : List (Addr × Obj)} (J : Nat → (Str → Option Value) → List (Addr × Obj) → Prop)
    (hh : A.handled = none) (F : Fr h₀ env.locals s.heap m₀) (N : News h₀ env.locals s.heap news) (hm : (ax, lo) ∈ news) (hc : lo.cls = .type "tuple") (hd : lo.data = .seq vs.toArray n) (h0 : J 0 m₀ news)
    (step : ∀ i v m₁ news₁ I it h₁ tk₁, vs[i]? = some v → (∀ p ∈ news₁, p.1 ≠ I) → J i m₁ news₁ → (ax, lo) ∈ news₁ → Fr h₀ env.locals h₁ m₁ → News h₀ env.locals h₁ ((I, it) :: news₁) →
      wpAny (model prog w) A (assign target env v) (fun _ s₂ => wpAny (model prog w) A (execs body env) (UnrPost h₀ env.locals { s with heap := h₁, toks := tk₁ } I it (fun m' n' => (ax, lo) ∈ n' ∧ J (i + 1) m' n') Q) E s₂) E { s with heap := h₁, toks := tk₁ })
    (done : ∀ h tk m' news', Fr h₀ env.locals h m' → News h₀ env.locals h news' → J vs.length m' news' → Q .next { s with heap := h, toks := tk }) :
    wpAny (model prog w) A (pyIter (.ref ax)) (fun it s₂ => TurnsAt prog w A h₀ env target body Q E it s₂) E s := by
  have hax := N _ hm
  have hl : s.heap.IsTuple ax vs.toArray := ⟨lo, hax.1, hc, n, hd⟩
  have hlt : ax < s.heap.objs.size := Heap.lt_size hax.1
  have hne : ax ≠ s.heap.objs.size := Nat.ne_of_lt hlt
  refine wpAny_pyIter_tuple hl ?_
  refine ⟨s.heap.objs.size, _, _, _, _, _, _, m₀, news, fun i m n => (ax, lo) ∈ n ∧ J i m n, rfl, KTurns.ofWalks (Walks.tuple hh s.heap.objs.size ax hne vs.toArray) (fun i v s Q E st q => letGo_tupleiter st.1 q), ?_, ?_, ?_, ⟨⟨_, Heap.get?_push_size _ rfl, rfl, rfl⟩, hl.at fun o e => Heap.get?_push_of_some _ e⟩, F.push _, (fun p hp => ⟨Heap.get?_push_of_some _ (N p hp).1, (N p hp).2⟩), ⟨hm, h0⟩, ?_, ?_⟩
  · intro hI
    rcases List.mem_cons.mp hI with e | hI
    · exact absurd F.ns.lt (e ▸ Nat.lt_irrefl _)
    · exact hax.2.1 (List.mem_singleton.mp hI).symm
  · intro b hb
    rw [List.mem_singleton.mp hb]
    exact next_is_new F
  · intro p hp hI
    exact absurd (Heap.lt_size (N p hp).1) ((List.mem_singleton.mp hI) ▸ Nat.lt_irrefl _)
  · intro i v m₁ news₁ h₁ tk₁ own hin hP hJ hoff hown hget hall hst F₁ N₁
    obtain ⟨hk, hJ⟩ := hJ
    have hv : vs[i]? = some v := by
      have q : vs.toArray[i]? = some v := hP
      simpa using q
    obtain ⟨it, hit, _⟩ := hst.1
    have hmem := hall s.heap.objs.size (List.mem_cons_self ..) (next_is_new F) it hit
    have N₂ : News h₀ env.locals h₁ ((s.heap.objs.size, it) :: news₁) := fun p hp => by
      rcases List.mem_cons.mp hp with rfl | hp
      · exact N₁ _ (List.mem_append_left _ hmem)
      · exact N₁ _ (List.mem_append_right _ hp)
    refine wpAny_mono (step i v m₁ news₁ _ it h₁ tk₁ hv (fun p hp e => hoff p hp (List.mem_singleton.mpr e)) hJ hk F₁ N₂) (fun _ s₂ h₂ => wpAny_mono h₂ (fun f s₃ p => ?_) fun _ _ e => e) fun _ _ e => e
    have fin : UnrEnd h₀ env.locals { s with heap := h₁, toks := tk₁ } s.heap.objs.size it (fun m' n' => (ax, lo) ∈ n' ∧ J (i + 1) m' n') s₃ →
        LoopStepU h₀ env.locals [s.heap.objs.size] own (fun m' n' => (ax, lo) ∈ n' ∧ J (i + 1) m' n') { s with heap := h₁, toks := tk₁ } .next s₃ := by
      rintro ⟨h', tk, m', news', e, F', N', ho, hk', r⟩
      refine ⟨rfl, h', tk, m', news', e, F', fun q hq => ?_, fun q hq hI => ho q hq (List.mem_singleton.mp hI), hk', r⟩
      rcases List.mem_append.mp hq with hq | hq
      · have h2 := hget q hq
        rcases List.mem_cons.mp (hown q hq) with h3 | h3
        · have h4 : q = (s.heap.objs.size, it) := by
            rw [h3, hit] at h2
            exact Prod.ext h3 (Option.some.inj h2).symm
          rw [h4]
          exact N' _ (List.mem_cons_self ..)
        · have h3' := List.mem_singleton.mp h3
          have h5 := (N₁ _ (List.mem_append_right _ hk)).1
          have h4 : q = (ax, lo) := by
            rw [h3', h5] at h2
            exact Prod.ext h3' (Option.some.inj h2).symm
          rw [h4]
          exact N' _ (List.mem_cons_of_mem _ hk')
      · exact N' _ (List.mem_cons_of_mem _ hq)
    cases f with
    | ret v => exact .ret p
    | brk => exact .brk p
    | next => exact .next (fin p)
    | cont => exact .cont (fin p)
  · intro h' tk m' news' F' N' _ hJ
    have e : vs.toArray.size = vs.length := by simp
    rw [e] at hJ
    exact done h' tk m' news' F' N' hJ.2
end
end
section
def stList : List (Int × Int) := [(0, 0), (1, 0), (0, 1), (1, 1), (-1, 0), (0, -1), (-1, -1)]
def candF (a b x y m n s t : Int) : Int × Int × Int :=
  ((x - (m + s) * a + (n + t) * b) * (x - (m + s) * a + (n + t) * b) - (x - (m + s) * a + (n + t) * b) * (y - (m + s) * b - (n + t) * (a - b)) + (y - (m + s) * b - (n + t) * (a - b)) * (y - (m + s) * b - (n + t) * (a - b)),
    x - (m + s) * a + (n + t) * b, y - (m + s) * b - (n + t) * (a - b))
def firstM (a b x y : Int) : Int := Int.fdiv (2 * (x * (a - b) + y * b) + (a * a - a * b + b * b)) (2 * (a * a - a * b + b * b))
def firstN (a b x y : Int) : Int := Int.fdiv (2 * (y * a - x * b) + (a * a - a * b + b * b)) (2 * (a * a - a * b + b * b))
def candsF (a b x y : Int) : List (Int × Int × Int) := stList.map fun p => candF a b x y (firstM a b x y) (firstN a b x y) p.1 p.2
def bestOf (cs : List (Int × Int × Int)) : Int × Int × Int := cs.getD (argBest (fun i j => lexLt (cs.getD i (0, 0, 0)) (cs.getD j (0, 0, 0))) (cs.length - 1)) (0, 0, 0)
def leastF (a b x y : Int) : Int × Int := (bestOf (candsF a b x y)).2

/-- what stands between the turns: the list found, its triples, the rest -/
structure Found (l : Addr) (cs : List (Int × Int × Int)) (stored : List Str) (m₀ : Str → Option Value) (base : List (Addr × Obj)) (i : Nat) (m₁ : Str → Option Value) (n₁ : List (Addr × Obj)) : Prop where
  same : ∀ z, stored.contains z = false → m₁ z = m₀ z
  led : ∃ (fs : List Value) (c : Nat) (own : List (Addr × Obj)), n₁ = (l, listOf fs.toArray c) :: (own ++ base) ∧ fs.length = i ∧
    (∀ (k : Nat) (v : Value), fs[k]? = some v → ∃ x ta tb tc, v = .ref x ∧ (x, tripO (cs.getD k (0, 0, 0)).1 (cs.getD k (0, 0, 0)).2.1 (cs.getD k (0, 0, 0)).2.2 ta tb tc 0) ∈ own) ∧ ∀ p ∈ own, p.1 ≠ l
theorem Found.next {l : Addr} {cs : List (Int × Int × Int)} {stored : List Str} {m₀ m' : Str → Option Value} {base own : List (Addr × Obj)} {i : Nat} {fs : List Value} {c : Nat} {x : Addr} {ta tb tc : Tok} {e1 e2 e3 : Int}
    (hs : ∀ z, stored.contains z = false → m' z = m₀ z) (hl : fs.length = i) (ht : ∀ (k : Nat) (v : Value), fs[k]? = some v → ∃ x ta tb tc, v = .ref x ∧ (x, tripO (cs.getD k (0, 0, 0)).1 (cs.getD k (0, 0, 0)).2.1 (cs.getD k (0, 0, 0)).2.2 ta tb tc 0) ∈ own)
    (ho : ∀ p ∈ own, p.1 ≠ l) (hx : x ≠ l) (e : cs.getD i (0, 0, 0) = (e1, e2, e3)) :
    Found l cs stored m₀ base (i + 1) m' ((l, listOf (fs ++ [Value.ref x]).toArray (c + 1)) :: (((x, tripO e1 e2 e3 ta tb tc 0) :: own) ++ base)) := by
  refine ⟨hs, fs ++ [Value.ref x], c + 1, (x, tripO e1 e2 e3 ta tb tc 0) :: own, rfl, by simp [hl], fun k v hk => ?_, fun p hp => ?_⟩
  · by_cases hlt : k < fs.length
    · rw [List.getElem?_append_left hlt] at hk
      obtain ⟨x', a', b', c', q1, q2⟩ := ht k v hk
      exact ⟨x', a', b', c', q1, List.mem_cons_of_mem _ q2⟩
    · rw [List.getElem?_append_right (by omega)] at hk
      have hk0 : k - fs.length = 0 := by
        cases hq : k - fs.length with
        | zero => rfl
        | succ j => rw [hq] at hk; simp at hk
      have hki : k = i := by omega
      rw [hk0] at hk
      have hv : v = .ref x := by simpa using hk.symm
      refine ⟨x, ta, tb, tc, hv, ?_⟩
      rw [hki, e]
      exact List.mem_cons_self ..
  · rcases List.mem_cons.mp hp with rfl | hp
    · exact hx
    · exact ho p hp
theorem map_as {stored : List Str} {m₁ m₀ : Str → Option Value} (h : ∀ z, stored.contains z = false → m₁ z = m₀ z) : m₁ = fun z => if stored.contains z then m₁ z else m₀ z := by
  funext z
  cases e : stored.contains z with
  | true => simp
  | false => simpa using h z e
section
variable {prog : Program} {w : World} {A : Around} {E : Value → Shared → Prop} {s : Shared} {env : Env} {h₀ : Heap} {target : Expr} {body : List Stmt} {Q : Flow → Shared → Prop}
theorem iter_seven {D l d1 d2 d3 d4 d5 d6 d7 : Addr} {t1 u1 t2 u2 t3 u3 t4 u4 t5 u5 t6 u6 t7 u7 : Tok} {n : Nat} {m₀ : Str → Option Value} {news : List (Addr × Obj)} (cs : List (Int × Int × Int)) (stored : List Str)
    (hh : A.handled = none) (F : Fr h₀ env.locals s.heap m₀) (N : News h₀ env.locals s.heap news) (hD : (D, tupN [.ref d1, .ref d2, .ref d3, .ref d4, .ref d5, .ref d6, .ref d7] n) ∈ news)
    (h1 : (d1, tupO [.int 0 t1, .int 0 u1]) ∈ news) (h2 : (d2, tupO [.int 1 t2, .int 0 u2]) ∈ news) (h3 : (d3, tupO [.int 0 t3, .int 1 u3]) ∈ news) (h4 : (d4, tupO [.int 1 t4, .int 1 u4]) ∈ news)
    (h5 : (d5, tupO [.int (-1) t5, .int 0 u5]) ∈ news) (h6 : (d6, tupO [.int 0 t6, .int (-1) u6]) ∈ news) (h7 : (d7, tupO [.int (-1) t7, .int (-1) u7]) ∈ news) (hl : (l, listOf #[] 0) ∈ news)
    (turn : ∀ (i : Nat) (sI tI : Int) (d : Addr) (ts tt : Tok) (fs : List Value) (c : Nat) (own base : List (Addr × Obj)) (u : Str → Option Value) (I : Addr) (it : Obj) (h₁ : Heap) (tk₁ : Nat), stList[i]? = some (sI, tI) → (-1 ≤ sI ∧ sI ≤ 1) → (-1 ≤ tI ∧ tI ≤ 1) → (d, tupO [.int sI ts, .int tI tt]) ∈ base →
      fs.length = i → i < 7 → (∀ (k : Nat) (v : Value), fs[k]? = some v → ∃ x ta tb tc, v = .ref x ∧ (x, tripO (cs.getD k (0, 0, 0)).1 (cs.getD k (0, 0, 0)).2.1 (cs.getD k (0, 0, 0)).2.2 ta tb tc 0) ∈ own) → (∀ p ∈ own, p.1 ≠ l) → (∀ p ∈ base, p.1 ≠ l) → l ≠ I →
      (∀ p ∈ own, p.1 ≠ I) → (∀ p ∈ base, p.1 ≠ I) → (D, tupN [.ref d1, .ref d2, .ref d3, .ref d4, .ref d5, .ref d6, .ref d7] n) ∈ base →
      Fr h₀ env.locals h₁ (fun z => if stored.contains z then u z else m₀ z) → News h₀ env.locals h₁ ((I, it) :: (l, listOf fs.toArray c) :: (own ++ base)) →
      wpAny (model prog w) A (assign target env (.ref d)) (fun _ s₂ => wpAny (model prog w) A (execs body env) (UnrPost h₀ env.locals { s with heap := h₁, toks := tk₁ } I it (fun m' n' => (D, tupN [.ref d1, .ref d2, .ref d3, .ref d4, .ref d5, .ref d6, .ref d7] n) ∈ n' ∧ Found l cs stored m₀ base (i + 1) m' n') Q) E s₂) E { s with heap := h₁, toks := tk₁ })
    (done : ∀ (h : Heap) (tk : Nat) (fs : List Value) (c : Nat) (own base : List (Addr × Obj)) (u : Str → Option Value), fs.length = 7 → (∀ (k : Nat) (v : Value), fs[k]? = some v → ∃ x ta tb tc, v = .ref x ∧ (x, tripO (cs.getD k (0, 0, 0)).1 (cs.getD k (0, 0, 0)).2.1 (cs.getD k (0, 0, 0)).2.2 ta tb tc 0) ∈ own) → (∀ p ∈ news, p.1 ≠ l → p ∈ base) →
      Fr h₀ env.locals h (fun z => if stored.contains z then u z else m₀ z) → News h₀ env.locals h ((l, listOf fs.toArray c) :: (own ++ base)) → Q .next { s with heap := h, toks := tk }) :
    wpAny (model prog w) A (pyIter (.ref D)) (fun it s₂ => TurnsAt prog w A h₀ env target body Q E it s₂) E s := by
  have off : ∀ d o, (d, o) ∈ news → o.cls ≠ .type "list" → d ≠ l := fun d o hm hc q => by
    have e1 := (N _ hm).1
    have e2 := (N _ hl).1
    dsimp only at e1 e2
    rw [q, e2] at e1
    cases e1
    exact hc rfl
  have inB : ∀ d o, (d, o) ∈ news → o.cls ≠ .type "list" → (d, o) ∈ news.filter (fun p => decide (p.1 ≠ l)) := fun d o hm hc => List.mem_filter.mpr ⟨hm, by simpa using off d o hm hc⟩
  have tl : ∀ vs : List Value, ∀ k, (tupN vs k).cls ≠ .type "list" := fun vs k e => absurd (Value.type.inj e) (by decide)
  have hB : ∀ p ∈ news.filter (fun p => decide (p.1 ≠ l)), p.1 ≠ l := fun p hp => by simpa using (List.mem_filter.mp hp).2
  have N' : News h₀ env.locals s.heap ((l, listOf ([] : List Value).toArray 0) :: ([] ++ news.filter (fun p => decide (p.1 ≠ l)))) := fun p hp => by
    rcases List.mem_cons.mp hp with rfl | hp
    · exact N _ hl
    · exact N _ (List.mem_filter.mp hp).1
  refine iter_tupJ (lo := tupN [.ref d1, .ref d2, .ref d3, .ref d4, .ref d5, .ref d6, .ref d7] n) (vs := [.ref d1, .ref d2, .ref d3, .ref d4, .ref d5, .ref d6, .ref d7])
    (fun i m n' => Found l cs stored m₀ (news.filter (fun p => decide (p.1 ≠ l))) i m n') hh F N' (List.mem_cons_of_mem _ (inB _ _ hD (tl _ _))) rfl rfl
    ⟨fun _ _ => rfl, [], 0, [], rfl, rfl, fun k v e => by simp at e, fun p hp => nomatch hp⟩ ?_ ?_
  · rintro i v m₁ news₁ I it h₁ tk₁ hv hI ⟨hs, fs, c, own, rfl, hlen, ht, ho⟩ hax F₁ N₁
    rw [map_as hs] at F₁
    have hDl : (D, tupN [.ref d1, .ref d2, .ref d3, .ref d4, .ref d5, .ref d6, .ref d7] n) ∈ news.filter (fun p => decide (p.1 ≠ l)) := inB _ _ hD (tl _ _)
    have key : ∃ (sI tI : Int) (d : Addr) (ts tt : Tok), v = .ref d ∧ stList[i]? = some (sI, tI) ∧ (-1 ≤ sI ∧ sI ≤ 1) ∧ (-1 ≤ tI ∧ tI ≤ 1) ∧ (d, tupO [.int sI ts, .int tI tt]) ∈ news ∧ i < 7 := by
      rcases i with _ | _ | _ | _ | _ | _ | _ | i
      · cases hv; exact ⟨0, 0, _, _, _, rfl, rfl, by omega, by omega, h1, by omega⟩
      · cases hv; exact ⟨1, 0, _, _, _, rfl, rfl, by omega, by omega, h2, by omega⟩
      · cases hv; exact ⟨0, 1, _, _, _, rfl, rfl, by omega, by omega, h3, by omega⟩
      · cases hv; exact ⟨1, 1, _, _, _, rfl, rfl, by omega, by omega, h4, by omega⟩
      · cases hv; exact ⟨-1, 0, _, _, _, rfl, rfl, by omega, by omega, h5, by omega⟩
      · cases hv; exact ⟨0, -1, _, _, _, rfl, rfl, by omega, by omega, h6, by omega⟩
      · cases hv; exact ⟨-1, -1, _, _, _, rfl, rfl, by omega, by omega, h7, by omega⟩
      · simp at hv
    obtain ⟨sI, tI, d, ts, tt, rfl, k1, k2, k3, k4, k5⟩ := key
    exact turn i sI tI d ts tt fs c own _ _ I it h₁ tk₁ k1 k2 k3 (inB _ _ k4 (tl _ _)) hlen k5 ht ho hB (hI _ (List.mem_cons_self ..)) (fun p hp => hI p (List.mem_cons_of_mem _ (List.mem_append_left _ hp))) (fun p hp => hI p (List.mem_cons_of_mem _ (List.mem_append_right _ hp))) hDl F₁ N₁
  · rintro h tk m' news' F' N' ⟨hs, fs, c, own, rfl, hlen, ht, ho⟩
    rw [map_as hs] at F'
    exact done h tk fs c own _ _ hlen ht (fun p hp hne => List.mem_filter.mpr ⟨hp, by simpa using hne⟩) F' N'
end
theorem mul_bd {u v U V : Int} (h1 : -U ≤ u ∧ u ≤ U) (h2 : -V ≤ v ∧ v ≤ V) : -(U * V) ≤ u * v ∧ u * v ≤ U * V := by
  have h3 : u.natAbs ≤ U.natAbs := by omega
  have h4 : v.natAbs ≤ V.natAbs := by omega
  have h5 : (u * v).natAbs ≤ (U * V).natAbs := by
    rw [Int.natAbs_mul, Int.natAbs_mul]
    exact Nat.mul_le_mul h3 h4
  have h6 : 0 ≤ U * V := Int.mul_nonneg (by omega) (by omega)
  omega
theorem fdiv_bd {q d U : Int} (hd : 0 < d) (h : -U ≤ q ∧ q ≤ U) : -U - 1 ≤ Int.fdiv q d ∧ Int.fdiv q d ≤ U := by
  rw [Int.fdiv_eq_ediv_of_nonneg q (by omega)]
  have h1 := Int.ediv_mul_le q (b := d) (by omega)
  have h2 := Int.lt_ediv_add_one_mul_self q hd
  constructor
  · by_cases hn : q / d < -U - 1
    · exfalso
      have h3 : (q / d + 1) * d ≤ (-U - 1) * d := Int.mul_le_mul_of_nonneg_right (by omega) (by omega)
      have h4 : (-U - 1) * d ≤ (-U - 1) * 1 := Int.mul_le_mul_of_nonpos_left (by omega) (by omega)
      omega
    · omega
  · by_cases hn : U < q / d
    · exfalso
      have h3 : (U + 1) * d ≤ q / d * d := Int.mul_le_mul_of_nonneg_right (by omega) (by omega)
      have h4 : (U + 1) * 1 ≤ (U + 1) * d := Int.mul_le_mul_of_nonneg_left (by omega) (by omega)
      omega
    · omega
end
section
local macro_rules | `(tactic| walk_at "binaryOp Add int int") => `(tactic| (k_here; refine addI ?_; intro _ _))
local macro_rules | `(tactic| walk_at "binaryOp Sub int int") => `(tactic| (k_here; refine subI ?_; intro _ _))
local macro_rules | `(tactic| walk_at "binaryOp Mult int int") => `(tactic| (k_here; refine mulI ?hm ?_; (case hm => first | (refine Or.inl ?_; omega) | (refine Or.inr ?_; omega)); intro _ _))
local macro_rules | `(tactic| walk_at "binaryOp FloorDiv int int") => `(tactic| (k_here; refine fdivI ?hb ?hp ?_; (case hb => omega); (case hp => omega); intro _ _))
local macro_rules | `(tactic| walk_at "binaryOp Mod int int") => `(tactic| (k_here; refine fmodI ?hb ?_; (case hb => omega); intro _ _))
local macro_rules | `(tactic| walk_at "unaryOp USub int") => `(tactic| (k_here; refine negI ?_; intro _ _))
local macro_rules | `(tactic| walk_at "eval Constant int") => `(tactic| (k_here; refine constI ?_; intro _ _))
local macro_rules | `(tactic| walk_at "my_steps") => `(tactic| repeat' ((first | (k_unfold; (try dsimp only)) | walk1 | (dsimp only; walk1) | fail "no step")))
theorem fsI {elts : List Expr} {c : Nat} {p : Pos} {env : Env} (x : Value) : foldedSetIterable (.Tuple elts c p) env x = pure x := rfl
local macro_rules | `(tactic| walk_at "exec For Tuple Tuple cons nil") => `(tactic| ((rename Fr _ _ _ _ => lF'); (refine' For_turns lF' ?_ ?hs ?hE); (case hs => intro x; exact fsI x); (case hE => passes_own)))
local macro_rules | `(tactic| walk_at "pyIter ref") => `(tactic| refine Stop.out ?_)
local macro_rules | `(tactic| walk_at "call builtin:min") => `(tactic| refine Stop.out ?_)
local macro_rules | `(tactic| walk_at "UnrEnd") => `(tactic| refine Stop.out ?_)
local macro_rules | `(tactic| walk_at "LeaveK") => `(tactic| refine Stop.out ?_)
abbrev PairRet (r : Int × Int) (news : List (Addr × Obj)) (v : Value) (news' : List (Addr × Obj)) : Prop := ∃ D t u c, v = .ref D ∧ news' = (D, tupN [.int r.1 t, .int r.2 u] c) :: news ∧ AllLt D news
local macro_rules | `(tactic| walk_at "getMethod ref") => `(tactic| (k_here; (with_reducible show wpAny _ _ (getMethod (Value.ref _) (PySem.Str.ofString "append") _) _ _ _); k_dflt (refine' listMethod_K ?N ?m PySem.F.slot_list_append PySem.F.type_list_append ?_; (case N => k_asm); (case m => first | k_mem | (simp only [List.mem_cons, true_or, or_true]; done)))))
local macro_rules | `(tactic| walk_at "call builtin:list.append") => `(tactic| refine Stop.out ?_)
theorem seven_end {D I l : Addr} {it : Obj} {h₀ h2 : Heap} {L : Addr} {m' m₀ : Str → Option Value} {e1 e2 e3 : Int} {ta tb tc : Tok} {fs : List Value} {c i : Nat} {own base : List (Addr × Obj)} {s₁ : Shared} {tk : Nat} {cs : List (Int × Int × Int)} {stored : List Str} {X : Addr × Obj}
    (F : Fr h₀ L h2 m') (N : News h₀ L h2 ((D, tripO e1 e2 e3 ta tb tc 0) :: (I, it) :: (l, listOf (fs ++ [Value.ref D]).toArray (c + 1)) :: (own ++ base))) (hl : fs.length = i)
    (ht : ∀ (k : Nat) (v : Value), fs[k]? = some v → ∃ x ta tb tc, v = .ref x ∧ (x, tripO (cs.getD k (0, 0, 0)).1 (cs.getD k (0, 0, 0)).2.1 (cs.getD k (0, 0, 0)).2.2 ta tb tc 0) ∈ own)
    (ho : ∀ p ∈ own, p.1 ≠ l) (hlI : l ≠ I) (hoI : ∀ p ∈ own, p.1 ≠ I) (hbI : ∀ p ∈ base, p.1 ≠ I) (d1 : I < D) (d2 : l < D) (e : cs.getD i (0, 0, 0) = (e1, e2, e3)) (hX : X ∈ base)
    (hs : ∀ z, stored.contains z = false → m' z = m₀ z) :
    UnrEnd h₀ L s₁ I it (fun m' n' => X ∈ n' ∧ Found l cs stored m₀ base (i + 1) m' n') { s₁ with heap := h2, toks := tk } := by
  refine UnrEnd.intro F N _ ?sub ?off ⟨.tail _ (List.mem_append_right _ hX), Found.next (c := c) (ta := ta) (tb := tb) (tc := tc) hs hl ht ho (Nat.ne_of_gt d2) e⟩
  case sub =>
    intro p hp
    rcases List.mem_cons.mp hp with rfl | hp
    · exact .tail _ (.head _)
    rcases List.mem_cons.mp hp with rfl | hp
    · exact .tail _ (.tail _ (.head _))
    rcases List.mem_cons.mp hp with rfl | hp
    · exact .head _
    · exact .tail _ (.tail _ (.tail _ hp))
  case off =>
    intro p hp
    rcases List.mem_cons.mp hp with rfl | hp
    · exact hlI
    rcases List.mem_cons.mp hp with rfl | hp
    · exact Nat.ne_of_gt d1
    · exact (List.mem_append.mp hp).elim (hoI p) (hbI p)
theorem least_call (w : World) (news : List (Addr × Obj)) (p : Addr) (a b x y : Int) (ta tb tx ty : Tok) (hm : (p, tupO [.int a ta, .int b tb]) ∈ news)
    (ha : -64 ≤ a ∧ a ≤ 64) (hb : -64 ≤ b ∧ b ≤ 64) (hx : -64 ≤ x ∧ x ≤ 64) (hy : -64 ≤ y ∧ y ≤ 64) (hn : 0 < a * a - a * b + b * b ∧ a * a - a * b + b * b < 65536) :
    Tells w 1 8 60 [.ref p, .int x tx, .int y ty] news (PairRet (leastF a b x y) news) := by
  intro mean mg mb loose dp un gd cn cs a' ccd cl outer A₀ base h₀ L m s Q E B F X N T hk hdp hun hret
  refine wpAny_call ?_
  k_dflt (refine' code_def (binds := [(Str.ofString "prime", .ref p), (Str.ofString "x", .int x tx), (Str.ofString "y", .int y ty)]) B F X N T rfl rfl hk ?k6 ?k7 ?k8 ?k9 ?kB ?_ ?c2 ?c3 ?c4 ?c5; (case k6 => k_is); (case k7 => k_is); (case k8 => ktr_room); (case k9 => exact BindsTo.of_eq rfl); (case c5 => decide); (case kB => exact locs rfl); (case c2 => exact rfl); (case c3 => exact rfl); (case c4 => exact rfl))
  clear B F X N T
  intro g' L' h' FG F N B X T
  (try k_fold)
  walk_at "my_steps"
  refine Stop.mk ?_
  have b1 := mul_bd hx (show -128 ≤ a - b ∧ a - b ≤ 128 by omega)
  have b2 := mul_bd hy hb
  have b3 := mul_bd hy ha
  have b4 := mul_bd hx hb
  have hM : -200000 ≤ firstM a b x y ∧ firstM a b x y ≤ 200000 := by
    have := fdiv_bd (q := 2 * (x * (a - b) + y * b) + (a * a - a * b + b * b)) (d := 2 * (a * a - a * b + b * b)) (U := 190000) (by omega) (by omega)
    unfold firstM
    omega
  have hN : -200000 ≤ firstN a b x y ∧ firstN a b x y ≤ 200000 := by
    have := fdiv_bd (q := 2 * (y * a - x * b) + (a * a - a * b + b * b)) (d := 2 * (a * a - a * b + b * b)) (U := 190000) (by omega) (by omega)
    unfold firstN
    omega
  rename (∀ p : Addr × Obj, p ∈ news → p.1 < _) => hlt
  k_dflt (refine' iter_seven (candsF a b x y) [Str.ofString "s", Str.ofString "t", Str.ofString "red", Str.ofString "green"] ?hh ?F ?N ?hD ?h1 ?h2 ?h3 ?h4 ?h5 ?h6 ?h7 ?hl ?turn ?done; (case hh => exact rfl); (case F => k_asm); (case N => k_asm); (case hD => k_mem); (case h1 => k_mem); (case h2 => k_mem); (case h3 => k_mem); (case h4 => k_mem); (case h5 => k_mem); (case h6 => k_mem); (case h7 => k_mem); (case hl => k_mem))
  case turn =>
    intro i sI tI d ts tt fs c own base u I it h₁ tk₁ hst hs ht hd hlen hi hfs hown hbase hlI hoI hbI hDb F1 N1
    clear hret hlt
    have hT := News.isTup N1 (List.mem_cons_of_mem _ (List.mem_cons_of_mem _ (List.mem_append_right _ hd)))
    unfold firstM at hM
    unfold firstN at hN
    have c1 := mul_bd (u := Int.fdiv (2 * (x * (a - b) + y * b) + (a * a - a * b + b * b)) (2 * (a * a - a * b + b * b)) + sI) (U := 200001) (by omega) ha
    have c2 := mul_bd (u := Int.fdiv (2 * (y * a - x * b) + (a * a - a * b + b * b)) (2 * (a * a - a * b + b * b)) + tI) (U := 200001) (by omega) hb
    have c3 := mul_bd (u := Int.fdiv (2 * (x * (a - b) + y * b) + (a * a - a * b + b * b)) (2 * (a * a - a * b + b * b)) + sI) (U := 200001) (by omega) hb
    have c4 := mul_bd (u := Int.fdiv (2 * (y * a - x * b) + (a * a - a * b + b * b)) (2 * (a * a - a * b + b * b)) + tI) (U := 200001) (by omega) (show -128 ≤ a - b ∧ a - b ≤ 128 by omega)
    k_unmd
    (try k_fold)
    walk_at "my_steps"
    refine Stop.mk ?_
    k_dflt (refine' append_K ?k1 ?k2 (Upd.tail ?a (Upd.tail ?b (Upd.head ?c))) ?_ ?z; (case k1 => k_asm); (case k2 => k_asm))
    case a => exact Nat.ne_of_gt (by omega)
    case b => exact fun e => hlI e.symm
    case c => exact fun q hq => (List.mem_append.mp hq).elim (hown q) (hbase q)
    case z => rw [sizeLine_eq]; simp only [List.size_toArray]; omega
    intro h2 F2 N2
    rw [List.push_toArray] at N2
    k_unmd
    (try k_fold)
    walk_at "my_steps"
    refine Stop.mk ?_
    rename (_ < _ ∧ _ < _ ∧ AllLt _ (own ++ base)) => lD
    have eq : (candsF a b x y).getD i (0, 0, 0) = candF a b x y (Int.fdiv (2 * (x * (a - b) + y * b) + (a * a - a * b + b * b)) (2 * (a * a - a * b + b * b))) (Int.fdiv (2 * (y * a - x * b) + (a * a - a * b + b * b)) (2 * (a * a - a * b + b * b))) sI tI := by
      unfold candsF
      rw [List.getD_eq_getElem?_getD, List.getElem?_map, hst]
      rfl
    refine seven_end F2 N2 hlen hfs hown hlI hoI hbI lD.1 lD.2.1 eq hDb ?_
    intro z h2
    simp only [List.contains_cons, Bool.or_eq_false_iff, beq_eq_false_iff_ne, ne_eq] at h2
    obtain ⟨q1, q2, q3, q4, _⟩ := h2
    simp only [q1, q2, q3, q4, if_false, List.contains_cons, List.contains_nil, Bool.or_false, Bool.or_eq_true, beq_iff_eq, or_self]
  case done =>
    intro h2 tk2 fs c own base u hlen hfs hbase F2 N2
    dsimp only
    k_unmd
    walk_at "my_steps"
    refine Stop.mk ?_
    have hvs : ∀ (k : Nat) (v : Value), fs[k]? = some v → TripAt h2 v ((candsF a b x y).getD k (0, 0, 0)) := by
      intro k v hv
      obtain ⟨x', q1, q2, q3, e1, e2⟩ := hfs k v hv
      exact ⟨x', q1, q2, q3, 0, e1, (N2 _ (List.mem_cons_of_mem _ (List.mem_append_left _ e2))).1⟩
    k_dflt (refine' min_trips ?hh ?hu ?hl ?hne hvs ?_; (case hh => exact rfl); (case hu => ktr_units); (case hl => exact News.isList N2 (List.mem_cons_self ..)); (case hne => omega))
    intro v h3 tk3 hv hk3
    rw [hlen] at hv
    obtain ⟨x', q1, q2, q3, e1, e2⟩ := hfs _ v hv
    subst e1
    have hgo : bestOf (candsF a b x y) = (candsF a b x y).getD (argBest (fun i j => lexLt ((candsF a b x y).getD i (0, 0, 0)) ((candsF a b x y).getD j (0, 0, 0))) (7 - 1)) (0, 0, 0) := rfl
    rw [← hgo] at e2
    have F3 := F2.keeps hk3
    have N3 := N2.keeps hk3
    k_unmd
    (try k_fold)
    walk_at "my_steps"
    have hT3 := News.isTup N3 (List.mem_cons_of_mem _ (List.mem_append_left _ e2))
    refine slice_tuple_from (s := ⟨h3, s.gens, s.drawn, _, s.os⟩) F3 N3 hT3 (Nat.le_refl 1) (by simp) ?_ (hsz := by rw [sizeLine_eq]; simp)
    intro h4 F4 N4
    have hin : ∀ p ∈ news, p ∈ base := fun p hp => hbase p (.tail _ (.tail _ (.tail _ (.tail _ (.tail _ (.tail _ (.tail _ (.tail _ (.tail _ hp))))))))) (Nat.ne_of_lt (hlt p hp))
    have N5 : News g' L' h4 ((h3.objs.size + 1, tupN [.int (leastF a b x y).1 q2, .int (leastF a b x y).2 q3] 0) :: news) := by
      intro p hp
      rcases List.mem_cons.mp hp with rfl | hp
      · exact N4 _ (List.mem_cons_self ..)
      · exact N4 _ (.tail _ (.tail _ (List.mem_append_right _ (hin p hp))))
    k_unmd
    walk_at "my_steps"
    refine Stop.mk ?_
    refine leaveK_ F4 N5 ?_
    intro kF kN
    exact hret _ _ _ _ ⟨_, _, _, _, rfl, rfl, allLt_of fun p hp => Nat.lt_succ_of_lt (Heap.lt_size (N3 p (List.mem_cons_of_mem _ (List.mem_append_right _ (hin p hp)))).1)⟩ kF kN
end
section
def normF (a b : Int) : Int := a * a - a * b + b * b
def lowF (r g : Int) : Int := if g < r then (if 0 < g then 0 else g) else (if 0 < r then 0 else r)
def eighth (n : Int) : UInt64 := Float64.ofFrac (decide (n < 0) != decide ((8 : Int) < 0)) n.natAbs (8 : Int).natAbs
def hueOf (r g : Int) : UInt64 := hueF (eighth (r - lowF r g)) (eighth (g - lowF r g)) (eighth (-lowF r g))
def wheelF (r g : Int) : UInt64 := Float64.mul (Float64.ofInt 360) (hueOf r g)
def turnOf (a b v : Int) : Int := toInt Float64.nearestOf (wheelF (leastF a b v 0).1 (leastF a b v 0).2)
def rowF (a b : Int) (pre : List Int) : List Int := pre.foldl (fun row v => insF row (bisF row (turnOf a b v)) (turnOf a b v)) []
structure TurnOk (Ok : UInt64 → UInt64 → UInt64 → Prop) (r g : Int) : Prop where
  br : -1000 ≤ r ∧ r ≤ 1000
  bg : -1000 ≤ g ∧ g ≤ 1000
  ok : Ok (eighth (r - lowF r g)) (eighth (g - lowF r g)) (eighth (-lowF r g))
  nan : Float64.isNaN (wheelF r g) = false
  inf : Float64.isInf (wheelF r g) = false
theorem rowF_snoc (a b : Int) (pre : List Int) (v : Int) : rowF a b (pre ++ [v]) = insF (rowF a b pre) (bisF (rowF a b pre) (turnOf a b v)) (turnOf a b v) := by
  unfold rowF
  rw [List.foldl_append]
  rfl
theorem foldIns_length (g : Int → Int) : ∀ (pre acc : List Int), (pre.foldl (fun row v => insF row (bisF row (g v)) (g v)) acc).length = pre.length + acc.length
  | [], acc => by simp
  | v :: pre, acc => by
    rw [List.foldl_cons, foldIns_length g pre, insF_length (bisF_range _ _).1 (bisF_range _ _).2, List.length_cons]
    omega
theorem rowF_length (a b : Int) (pre : List Int) : (rowF a b pre).length = pre.length := foldIns_length _ pre []
local macro_rules | `(tactic| walk_at "binaryOp Add int int") => `(tactic| (k_here; refine addI ?_; intro _ _))
local macro_rules | `(tactic| walk_at "binaryOp Sub int int") => `(tactic| (k_here; refine subI ?_; intro _ _))
local macro_rules | `(tactic| walk_at "binaryOp Mult int int") => `(tactic| (k_here; refine mulI ?hm ?_; (case hm => first | (refine Or.inl ?_; omega) | (refine Or.inr ?_; omega)); intro _ _))
local macro_rules | `(tactic| walk_at "binaryOp FloorDiv int int") => `(tactic| (k_here; refine fdivI ?hb ?hp ?_; (case hb => omega); (case hp => omega); intro _ _))
local macro_rules | `(tactic| walk_at "binaryOp Mod int int") => `(tactic| (k_here; refine fmodI ?hb ?_; (case hb => omega); intro _ _))
local macro_rules | `(tactic| walk_at "unaryOp USub int") => `(tactic| (k_here; refine negI ?_; intro _ _))
local macro_rules | `(tactic| walk_at "eval Constant int") => `(tactic| (k_here; refine constI ?_; intro _ _))
local macro_rules | `(tactic| walk_at "my_steps") => `(tactic| repeat' ((first | (k_unfold; (try dsimp only)) | walk1 | (dsimp only; walk1) | fail "no step")))
local macro_rules | `(tactic| walk_at "pyIter ref") => `(tactic| refine Stop.out ?_)
local macro_rules | `(tactic| walk_at "UnrEnd") => `(tactic| refine Stop.out ?_)
local macro_rules | `(tactic| walk_at "LeaveK") => `(tactic| refine Stop.out ?_)
local macro_rules | `(tactic| walk_at "call ref") => `(tactic| refine Stop.out ?_)
local macro_rules | `(tactic| k_all) => `(tactic| with_reducible assumption)
section
variable {prog : Program} {w : World} {A : Around} {E : Value → Shared → Prop} {Q : Value → Shared → Prop} {hp : Heap} {g : Array GenState} {d : Drawn} {tk : Nat} {os : OsState} {h₀ : Heap} {L : Addr} {m : Str → Option Value} {news : List (Addr × Obj)}
theorem min3I {a b : Int} {t u x : Tok} (hh : A.handled = none) (F : Fr h₀ L hp m) (N : News h₀ L hp news) (h : ∀ h' k t, Fr h₀ L h' m → News h₀ L h' news → Q (.int (lowF a b) t) ⟨h', g, d, k, os⟩) :
    wpAny (model prog w) A (call (.builtin "min") [.int a t, .int b u, .int 0 x]) Q E ⟨hp, g, d, tk, os⟩ :=
  min_three_ints hh fun h' k hk => by
    have H := h h' k
    unfold lowF at H
    split
    · rename_i h1
      simp only [if_pos h1] at H
      split
      · rename_i h2
        simp only [if_pos h2] at H
        exact H _ (F.keeps hk) (N.keeps hk)
      · rename_i h2
        simp only [if_neg h2] at H
        exact H _ (F.keeps hk) (N.keeps hk)
    · rename_i h1
      simp only [if_neg h1] at H
      split
      · rename_i h2
        simp only [if_pos h2] at H
        exact H _ (F.keeps hk) (N.keeps hk)
      · rename_i h2
        simp only [if_neg h2] at H
        exact H _ (F.keeps hk) (N.keeps hk)
theorem div8I {a : Int} {t u : Tok} (hh : A.handled = none) (ha : a.natAbs < 2 ^ 60) (h : ∀ t k, Q (.float (eighth a) t) ⟨hp, g, d, k, os⟩) : wpAny (model prog w) A (binaryOp .Div (.int a t) (.int 8 u)) Q E ⟨hp, g, d, tk, os⟩ :=
  div_ii_fits hh (Nat.lt_trans ha (by decide +kernel)) (fun e => absurd e (by decide)) fun _ _ => h _ _
theorem mul360 {x : UInt64} {t u : Tok} (hh : A.handled = none) (h : ∀ t k, Q (.float (Float64.mul (Float64.ofInt 360) x) t) ⟨hp, g, d, k, os⟩) : wpAny (model prog w) A (binaryOp .Mult (.int 360 t) (.float x u)) Q E ⟨hp, g, d, tk, os⟩ :=
  mul_if_sharp hh (fun e => absurd e (by decide +kernel)) fun _ => h _ _
theorem roundI {x : UInt64} {t : Tok} (hh : A.handled = none) (h1 : Float64.isNaN x = false) (h2 : Float64.isInf x = false) (h : ∀ t k, Q (.int (toInt Float64.nearestOf x) t) ⟨hp, g, d, k, os⟩) : wpAny (model prog w) A (call (.builtin "round") [.float x t]) Q E ⟨hp, g, d, tk, os⟩ :=
  call_round_float hh (fun e => by rw [h1] at e; cases e) (fun e => by rw [h2] at e; cases e) fun _ => h _ _
end
section
variable {prog : Program} {w : World} {A : Around} {E : Value → Shared → Prop} {s : Shared} {h₀ : Heap} {L : Addr} {m : Str → Option Value} {news : List (Addr × Obj)}
theorem row_upto {value slice : Expr} {l : Addr} {vs : List Value} {ns : List Int} {y : Int} {t : Tok} {Q : Value → Shared → Prop} (F : Fr h₀ L s.heap m) (N : News h₀ L s.heap news) (hl : s.heap.IsList l vs.toArray) (hi : IntsAre vs ns) (h0 : 0 ≤ y) (h2 : y ≤ ns.length) (hn : ns.length < 2 ^ 20)
    (h : ∀ h' D vs', IntsAre vs' (ns.take y.toNat) → Fr h₀ L h' m → News h₀ L h' ((D, listOf vs'.toArray 0) :: news) → (∀ p ∈ news, p.1 < D) → Q (.ref D) { s with heap := h' })
    (hs : subscripted slice false (.ref l) (.ref s.heap.objs.size) = operate [.ref s.heap.objs.size, .ref l] (getItem (.ref l) (.ref s.heap.objs.size)) := by with_unfolding_all rfl)
    (ht : ∀ r, letTemporaryGo value (.ref l) r = pure () := by intro _; with_unfolding_all rfl) :
    wpAny (model prog w) A (subscriptTail value slice (.ref l) (.ref s.heap.objs.size)) Q E { s with heap := s.heap.push { cls := .type "slice", data := .fields #[.none, .int y t, .none] } } :=
  slice_list F N hl .none (.int y t) (fun h' F' N' => h h' _ _ (slice_ints_upto hi h0 h2) F' N' fun p hp => Nat.lt_succ_of_lt (Heap.lt_size (N p hp).1)) hs ht (by rw [sizeLine_eq]; simp only [List.size_toArray, hi.length]; omega)
theorem row_from {value slice : Expr} {l : Addr} {vs : List Value} {ns : List Int} {y : Int} {t : Tok} {Q : Value → Shared → Prop} (F : Fr h₀ L s.heap m) (N : News h₀ L s.heap news) (hl : s.heap.IsList l vs.toArray) (hi : IntsAre vs ns) (h0 : 0 ≤ y) (h2 : y ≤ ns.length) (hn : ns.length < 2 ^ 20)
    (h : ∀ h' D vs', IntsAre vs' (ns.drop y.toNat) → Fr h₀ L h' m → News h₀ L h' ((D, listOf vs'.toArray 0) :: news) → (∀ p ∈ news, p.1 < D) → Q (.ref D) { s with heap := h' })
    (hs : subscripted slice false (.ref l) (.ref s.heap.objs.size) = operate [.ref s.heap.objs.size, .ref l] (getItem (.ref l) (.ref s.heap.objs.size)) := by with_unfolding_all rfl)
    (ht : ∀ r, letTemporaryGo value (.ref l) r = pure () := by intro _; with_unfolding_all rfl) :
    wpAny (model prog w) A (subscriptTail value slice (.ref l) (.ref s.heap.objs.size)) Q E { s with heap := s.heap.push { cls := .type "slice", data := .fields #[.int y t, .none, .none] } } :=
  slice_list F N hl (.int y t) .none (fun h' F' N' => h h' _ _ (slice_ints_from hi h0 h2) F' N' fun p hp => Nat.lt_succ_of_lt (Heap.lt_size (N p hp).1)) hs ht (by rw [sizeLine_eq]; simp only [List.size_toArray, hi.length]; omega)
end
theorem small_up {a b : Int} (ha : -(2 ^ 62) ≤ a) (ha' : a < 2 ^ 62) (hb : -(2 ^ 62) ≤ b) (hb' : b < 2 ^ 62) : Builtin.Range.small a b 1 = true := by
  unfold Builtin.Range.small
  rw [rangeSize_one]
  simp only [Builtin.Range.rangeFitsLong, Bool.and_eq_true, Bool.or_eq_true, decide_eq_true_eq, beq_iff_eq, show ((1 : Int) > 0) by decide, if_true]
  split <;> omega
theorem rangeSize_up {a b : Int} (h : a ≤ b) : Builtin.Range.rangeSize a b 1 = ((b - a).toNat : Int) := by rw [rangeSize_one]; split <;> omega
local macro_rules | `(tactic| walk_at "call builtin:min") => `(tactic| (k_here; (with_reducible show wpAny _ _ (call _ [Value.int _ _, Value.int _ _, Value.int _ _]) _ _ _); (rename News _ _ _ _ => N'); (rename Fr _ _ _ _ => F'); refine min3I rfl F' N' ?_; clear N'; intro h' _ _ F' N'; (try k_sweep)))
local macro_rules | `(tactic| walk_at "binaryOp Div int int") => `(tactic| (k_here; refine div8I rfl ?ha ?_; (case ha => unfold lowF; omega); intro _ _))
local macro_rules | `(tactic| walk_at "binaryOp Mult int float") => `(tactic| (k_here; refine mul360 rfl ?_; intro _ _))
local macro_rules | `(tactic| walk_at "call builtin:round") => `(tactic| refine Stop.out ?_)
local macro_rules | `(tactic| walk_at "call builtin:list.append") => `(tactic| refine Stop.out ?_)
local macro_rules | `(tactic| walk_at "InvEndN") => `(tactic| refine Stop.out ?_)
local macro_rules | `(tactic| walk_at "my_call") => `(tactic| ((case B => k_asm); (case F => k_asm); (case X => k_asm); (case N => k_asm); (case T => k_asm); (case k => first | exact rfl | assumption); (case d => ktr_room); (case u => ktr_units)))
local macro_rules | `(tactic| walk_at "my_call4") => `(tactic| ((case B4 => k_asm); (case F4 => k_asm); (case X4 => k_asm); (case N4 => k_asm); (case T4 => k_asm); (case k4 => first | exact rfl | assumption); (case d4 => ktr_room); (case u4 => ktr_units)))
local macro_rules | `(tactic| walk_at "my_call2") => `(tactic| ((case B2 => k_asm); (case F2 => k_asm); (case X2 => k_asm); (case N2 => k_asm); (case T2 => k_asm); (case k2 => first | exact rfl | assumption); (case d2 => ktr_room); (case u2 => ktr_units)))
local macro_rules | `(tactic| walk_at "my_call3") => `(tactic| ((case B3 => k_asm); (case F3 => k_asm); (case X3 => k_asm); (case N3 => k_asm); (case T3 => k_asm); (case k3 => first | exact rfl | assumption); (case d3 => ktr_room); (case u3 => ktr_units)))
theorem lowF_bd (r g : Int) : (lowF r g ≤ 0) ∧ (lowF r g ≤ r) ∧ (lowF r g ≤ g) ∧ (lowF r g = 0 ∨ lowF r g = r ∨ lowF r g = g) := by
  unfold lowF
  split <;> split <;> omega
local macro_rules | `(tactic| walk_at "subscriptTail Name Slice ref ref") => `(tactic| refine Stop.out ?_)
local macro_rules | `(tactic| walk_at "eval ListComp") => `(tactic| refine Stop.out ?_)
local macro_rules | `(tactic| walk_at "CompSrc") => `(tactic| refine Stop.out ?_)
local macro_rules | `(tactic| walk_at "CompEnd") => `(tactic| refine Stop.out ?_)
local macro_rules | `(tactic| walk_at "compareOp NotEq ref ref") => `(tactic| refine Stop.out ?_)
theorem sub8 {α : Type} {x0 x1 x2 x3 x4 x5 x6 x7 : α} {l : List α} : ∀ q ∈ x0 :: l, q ∈ x0 :: x1 :: x2 :: x3 :: x4 :: x5 :: x6 :: x7 :: l := by
  intro q hq
  rcases List.mem_cons.mp hq with rfl | hq
  · exact .head _
  · exact .tail _ (.tail _ (.tail _ (.tail _ (.tail _ (.tail _ (.tail _ (.tail _ hq)))))))
theorem fdiv3 (a : Int) : 3 * Int.fdiv a 3 ≤ a ∧ a ≤ 3 * Int.fdiv a 3 + 2 := by
  have h := Int.fdiv_eq_ediv_of_nonneg a (b := 3) (by decide)
  omega
theorem sub5 {α : Type} {d x1 x2 x3 x4 : α} {l o : List α} : ∀ q ∈ x1 :: x2 :: x3 :: x4 :: l, q ∈ d :: x1 :: x2 :: x3 :: x4 :: (l ++ o) := by
  intro q hq
  simp only [List.mem_cons, List.mem_append] at hq ⊢
  rcases hq with h | h | h | h | h <;> simp only [h, true_or, or_true]
theorem own5 {α : Type} {d x1 x2 x3 x4 : α} {l o : List α} : ∀ q ∈ o, q ∈ d :: x1 :: x2 :: x3 :: x4 :: (l ++ o) := by
  intro q hq
  simp only [List.mem_cons, List.mem_append, hq, or_true]
structure KeepsF (f : Addr) : Prop where
  k : ∀ P, keepIn (hd.heap_39 P) (.ref f) = true
local macro_rules | `(tactic| walk_at "callWith ref") => `(tactic| refine Stop.out ?_)
abbrev IntsRet (ks : List Int) (news : List (Addr × Obj)) (v : Value) (news' : List (Addr × Obj)) : Prop := ∃ l vs c, v = .ref l ∧ IntsAre vs ks ∧ news' = (l, listOf vs.toArray c) :: news ∧ ∀ p ∈ news, p.1 ≠ l
def thirdsF (a b : Int) : List Int :=
  if (List.take (2 * (normF a b).fdiv 3).toNat (rowF a b (rangeKs 1 (normF a b - 1).toNat))).map (fun k => k + 120) = List.drop ((normF a b).fdiv 3).toNat (rowF a b (rangeKs 1 (normF a b - 1).toNat)) then
    (0 :: (rangeKs 1 (normF a b - 1).toNat).map (turnOf a b)).map (fun t => (bisF (rowF a b (rangeKs 1 (normF a b - 1).toNat)) t).fdiv ((normF a b).fdiv 3))
  else []
theorem thirdsF_pos {a b : Int} (h : (List.take (2 * (normF a b).fdiv 3).toNat (rowF a b (rangeKs 1 (normF a b - 1).toNat))).map (fun k => k + 120) = List.drop ((normF a b).fdiv 3).toNat (rowF a b (rangeKs 1 (normF a b - 1).toNat))) :
    (0 :: (rangeKs 1 (normF a b - 1).toNat).map (turnOf a b)).map (fun t => (bisF (rowF a b (rangeKs 1 (normF a b - 1).toNat)) t).fdiv ((normF a b).fdiv 3)) = thirdsF a b := by
  unfold thirdsF
  rw [if_pos h]
theorem thirdsF_neg {a b : Int} (h : ¬ (List.take (2 * (normF a b).fdiv 3).toNat (rowF a b (rangeKs 1 (normF a b - 1).toNat))).map (fun k => k + 120) = List.drop ((normF a b).fdiv 3).toNat (rowF a b (rangeKs 1 (normF a b - 1).toNat))) : [] = thirdsF a b := by
  unfold thirdsF
  rw [if_neg h]
theorem off1_mem {D : Addr} : ∀ {l : List (Addr × Obj)}, LCg.Off1 D l → ∀ p ∈ l, p.1 ≠ D
  | [], _, _, h => nomatch h
  | _ :: _, x, p, h => by
    rcases List.mem_cons.mp h with rfl | h
    · exact x.1
    · exact off1_mem x.2 p h
theorem thirds_call (w : World) (news : List (Addr × Obj)) (p f : Addr) (a b : Int) (ta tb : Tok) (hm : (p, tupO [.int a ta, .int b tb]) ∈ news) (Ok : UInt64 → UInt64 → UInt64 → Prop) (kf : KeepsF f)
    (C : ∀ (news' : List (Addr × Obj)) (r g b : UInt64) (t1 t2 t3 : Tok), Ok r g b → Tells w 1 8 f [.float r t1, .float g t2, .float b t3] news' (HueRet (hueF r g b) news'))
    (ha : -64 ≤ a ∧ a ≤ 64) (hb : -64 ≤ b ∧ b ≤ 64) (hn : 7 ≤ a * a - a * b + b * b ∧ a * a - a * b + b * b ≤ 64) (ok : ∀ v : Int, 1 ≤ v → v < normF a b → TurnOk Ok (leastF a b v 0).1 (leastF a b v 0).2) :
    Tells w 3 96 65 [.ref p, .ref f] news (IntsRet (thirdsF a b) news) := by
  intro mean mg mb loose dp un gd cn cs a' ccd cl outer A₀ base h₀ L m s Q E B F X N T hk hdp hun hret
  refine wpAny_call ?_
  k_dflt (refine' code_defC (binds := [(Str.ofString "prime", .ref p), (Str.ofString "told", .ref f)]) B F X N T rfl rfl hk ?k6 ?k7 ?k8 ?k9 ?kB ?kD ?_ ?c2 ?c3 ?c4; (case k6 => k_is); (case k7 => k_is); (case k8 => ktr_room); (case k9 => exact BindsTo.of_eq rfl); (case kB => exact rfl); (case kD => decide +kernel); (case c2 => exact rfl); (case c3 => exact rfl); (case c4 => exact rfl))
  clear B F X N T
  intro g' L' h' tk' cells' FG F N Y B X T l1
  (try k_lt l1); k_cells Y; (try simp only [List.cons_append, List.nil_append] at N); (try dsimp only); (try k_lift B)
  have hc1 : ∀ q ∈ news, q.1 ≠ L' + 1 := fun q hq => Nat.ne_of_lt (Nat.lt_succ_of_lt (l1 q hq))
  have hc2 : ∀ q ∈ news, q.1 ≠ L' + 1 + 1 := fun q hq => Nat.ne_of_lt (Nat.lt_succ_of_lt (Nat.lt_succ_of_lt (l1 q hq)))
  have hT := News.isTup N (.tail _ (.tail _ hm))
  (try k_fold)
  walk_at "my_steps"
  refine Stop.mk ?_
  rename (_ < _ ∧ _ < _ ∧ _ < _ ∧ AllLt _ news) => lr3
  rename (_ < _ ∧ _ < _ ∧ AllLt _ news) => ld3
  have hrN : ∀ q ∈ news, q.1 ≠ _ := fun q hq => Nat.ne_of_lt (kst_ltOf lr3.2.2.2 q hq)
  have hdN : ∀ q ∈ news, q.1 ≠ _ := fun q hq => Nat.ne_of_lt (kst_ltOf ld3.2.2 q hq)
  rename (Obj.data _ = Data.cell (some (Value.ref _))) => dRow
  rename (IsRange _ _ _ _ _ _ _ _) => hRg
  k_dflt (refine' kst_range (σ := List Value × Nat × List Value × Nat) (n := (a * a - a * b + b * b - 1).toNat) (fun c => (_, listOf c.2.2.1.toArray c.2.2.2) :: (_, listOf c.1.toArray c.2.1) :: (_, _) :: (_, _) :: news) (fun _ => []) (fun _ => True) [Str.ofString "red", Str.ofString "green", Str.ofString "low", Str.ofString "turned"] (fun pre c => IntsAre c.1 (0 :: pre.map (turnOf a b)) ∧ IntsAre c.2.2.1 (rowF a b pre)) ([.int 0 _], 0, [], 0) ?hh hRg ?hs ?hn ?F ?N trivial ?kk ?kp ?turn ?done; (case hh => exact rfl); (case hs => exact small_up (by omega) (by omega) (by omega) (by omega)); (case hn => exact rangeSize_up (by omega)); (case F => k_asm); (case N => k_asm))
  case kk => kst_all
  case kp => exact ⟨.cons 0 _ .nil, .nil⟩
  case turn =>
    rintro ⟨dvs, c1, rvs, c2⟩ pre k t u h tk own hk' hlen hoff _ ⟨hP1, hP2⟩ F1 N1
    dsimp only [kstB] at hP1 hP2 F1 N1 ⊢
    simp only [List.cons_append] at N1
    have hrT : ∀ q ∈ news ++ own, q.1 ≠ _ := fun q hq => (List.mem_append.mp hq).elim (hrN q) (hoff.ne (.head _) q)
    have hdT : ∀ q ∈ news ++ own, q.1 ≠ _ := fun q hq => (List.mem_append.mp hq).elim (hdN q) (hoff.ne (.tail _ (.head _)) q)
    have tOk := ok k (by omega) (by unfold normF; omega)
    have hlow := lowF_bd (leastF a b k 0).1 (leastF a b k 0).2
    have br := tOk.br
    have bg := tOk.bg
    clear hret
    k_unmd
    (try k_fold)
    walk_at "my_steps"
    refine Stop.mk ?_
    refine' callWith_K X ?kc1 ?_
    case kc1 => k_is
    k_unmd
    (try k_fold)
    walk_at "my_steps"
    refine Stop.mk ?_
    k_dflt (refine' tells_use (least_call w _ p a b k 0 ta tb _ _ ?hm ha hb ?hx ?hy ?hn) ?B ?F ?X ?N ?T ?k ?d ?u ?r)
    walk_at "my_call"
    case hm => exact .tail _ (.tail _ (.tail _ (.tail _ (List.mem_append_left _ hm))))
    case hx => omega
    case hy => omega
    case hn => omega
    rintro v news' h' tk' ⟨D, tt, uu, cc, rfl, rfl, hDl⟩ F N
    have hT2 := News.isTup N (.head _)
    have hN2 := kst_newsOf N (fun q hq => List.mem_cons_of_mem _ hq)
    clear N
    dsimp only
    k_unmd
    (try k_fold)
    walk_at "my_steps"
    refine Stop.mk ?_
    refine' callWith_K X ?k2 ?_
    case k2 => exact kf.k _
    k_unmd
    (try k_fold)
    walk_at "my_steps"
    refine Stop.mk ?_
    k_dflt (refine' tells_use (C _ _ _ _ _ _ _ ?ok) ?B2 ?F2 ?X2 ?N2 ?T2 ?k2 ?d2 ?u2 ?r2)
    walk_at "my_call2"
    case ok => exact tOk.ok
    rintro v news' h' tk' ⟨D2, tt2, y2, z2, rfl, rfl, hDl2⟩ F N
    simp only [AllLt] at hDl2
    dsimp only
    k_unmd
    (try k_fold)
    walk_at "my_steps"
    refine Stop.mk ?_
    refine' roundI ?hh8 ?n8 ?i8 ?_
    case hh8 => exact rfl
    case n8 => exact tOk.nan
    case i8 => exact tOk.inf
    intro _ _
    k_unmd
    (try k_fold)
    walk_at "my_steps"
    refine Stop.mk ?_
    k_dflt (refine' append_K ?k1 ?kn ?U ?_ ?z; (case k1 => k_asm); (case kn => k_asm); (case U => k_upd))
    case z => have hz := hP1.length; simp only [List.length_cons, List.length_map] at hz; rw [sizeLine_eq]; simp only [List.size_toArray]; omega
    intro h2 F2 N2
    rw [List.push_toArray] at N2
    k_unmd
    (try k_fold)
    walk_at "my_steps"
    refine Stop.mk ?_
    refine' callWith_K X ?kc2 ?_
    case kc2 => k_is
    k_unmd
    (try k_fold)
    walk_at "my_steps"
    refine Stop.mk ?_
    k_dflt (refine' tells_use (ins_call w _ _ _ rvs (rowF a b pre) c2 (turnOf a b k) _ ?R ?U) ?B3 ?F3 ?X3 ?N3 ?T3 ?k3 ?d3 ?u3 ?r3)
    walk_at "my_call3"
    case R => exact ⟨.tail _ (.head _), hP2, by rw [rowF_length]; omega⟩
    case U => k_upd
    rintro v news' h' tk' ⟨rfl, rfl⟩ F3 N3
    dsimp only
    k_unmd
    (try k_fold)
    walk_at "my_steps"
    refine Stop.mk ?_
    refine kst_end (_, _, _, _) F3 N3 sub5 own5 rfl trivial ?ea ?es ⟨?p1, ?p2⟩
    case ea => kst_all
    case es => kst_same
    case p1 =>
      rw [List.map_append]
      exact IntsAre.append hP1 (.cons _ _ .nil)
    case p2 =>
      rw [rowF_snoc]
      exact ints_ins hP2 (bisF_range _ _).1 (bisF_range _ _).2
  case done =>
    rintro ⟨dvs, c1, rvs, c2⟩ u h tk _ ⟨hP1, hP2⟩ F1 N1
    dsimp only [kstB] at hP1 hP2 F1 N1 ⊢
    clear hRg
    k_unmd
    (try k_fold)
    walk_at "my_steps"
    refine Stop.mk ?_
    k_dflt (refine LCg.ListComp_U (F₀ := by k_asm) (by with_unfolding_all rfl) (by decide) (by rfl) (by decide) (by rfl) ?_)
    k_unmd
    (try k_fold)
    walk_at "my_steps"
    refine Stop.mk ?_
    rename Fr _ _ _ _ => F2
    rename News _ _ _ _ => N2
    have hlen := rowF_length a b (rangeKs 1 (a * a - a * b + b * b - 1).toNat)
    rw [rangeKs_length] at hlen
    have hn3 := fdiv3 (a * a - a * b + b * b)
    refine row_upto (s := ⟨_, s.gens, s.drawn, _, s.os⟩) F2 N2 (News.isList N2 (.head _)) hP2 (by omega) (by omega) (by omega) ?_
    intro h3 D3 vs3 hi3 F3 N3 l3
    k_unmd
    (try k_fold)
    walk_at "my_steps"
    refine Stop.mk ?_
    refine LCg.CompSrc.ledger (by rfl) F3 N3 (.head _) (by rw [sizeLine_eq]; have := hi3.length; simp only [List.size_toArray, this, List.length_take]; omega) ?_
    intro g3
    refine' kcf_list (fun k => k + 120) hi3 (fun k t I oI C oC D m₂ ys h tk E' hk hC hx F N off ne => ?_) ?_
    · intro hMark
      k_unmd
      (try k_fold)
      walk_at "my_steps"
      refine Stop.mk ?_
      rename Fr _ _ _ _ => F5
      rename News _ _ _ _ => N5
      exact LCg.CompEnd.intro F5 N5 _ (fun _ h => h) off (.inr ⟨_, .head _, rfl, _, rfl⟩) (kcf_el rfl rfl rfl)
    · unfold KPfDone
      intro ys hys
      unfold LCg.FinE
      intro D4 h4 tk4 F4 N4 o4
      dsimp only at F4 N4 ⊢
      k_unmd
      (try k_fold)
      walk_at "my_steps"
      refine Stop.mk ?_
      dsimp only
      rename Fr _ _ _ _ => F5
      rename News _ _ _ _ => N5
      refine row_from (s := ⟨_, s.gens, s.drawn, _, s.os⟩) F5 N5 (News.isList N5 (.tail _ (.tail _ (.head _)))) hP2 (by omega) (by omega) (by omega) ?_
      intro h6 D6 vs6 hi6 F6 N6 l6
      k_unmd
      (try k_fold)
      walk_at "my_steps"
      refine Stop.mk ?_
      rename Fr _ _ _ _ => F7
      rename News _ _ _ _ => N7
      refine ke_ne_ints (News.isList N7 (.tail _ (.head _))) (News.isList N7 (.head _)) hys hi6 ?hu ?_
      case hu => ktr_units
      k_unmd
      (try k_fold)
      walk_at "my_steps"
      · refine Stop.mk ?_
        rename (List.map _ _ = _) => hE
        k_dflt (refine LCg.ListComp_U (F₀ := by k_asm) (by with_unfolding_all rfl) (by decide) (by rfl) (by decide) (by rfl) ?_)
        k_unmd
        (try k_fold)
        walk_at "my_steps"
        refine Stop.mk ?_
        rename Fr _ _ _ _ => F8
        rename News _ _ _ _ => N8
        refine LCg.CompSrc.ledger (by rfl) F8 N8 (.tail _ (.tail _ (.tail _ (.tail _ (.head _))))) (by rw [sizeLine_eq]; have := hP1.length; simp only [List.size_toArray, this, List.length_cons, List.length_map, rangeKs_length]; omega) ?_
        intro g8
        refine' kcf_list (fun t => (bisF (rowF a b (rangeKs 1 (a * a - a * b + b * b - 1).toNat)) t).fdiv ((a * a - a * b + b * b).fdiv 3)) hP1 (fun k t I oI C oC D m₂ ys h tk E' hk hC hx F N off ne => ?_) ?_
        · intro hMark
          k_unmd
          (try k_fold)
          walk_at "my_steps"
          refine Stop.mk ?_
          refine' callWith_K X ?kc3 ?_
          case kc3 => k_is
          k_unmd
          (try k_fold)
          walk_at "my_steps"
          refine Stop.mk ?_
          k_dflt (refine' tells_use (bis_call2 w _ _ rvs (rowF a b (rangeKs 1 (a * a - a * b + b * b - 1).toNat)) c2 k _ ?R4) ?B4 ?F4 ?X4 ?N4 ?T4 ?k4 ?d4 ?u4 ?r4)
          walk_at "my_call4"
          case R4 => exact ⟨.tail _ (.tail _ (.tail _ (.tail _ (.tail _ (.tail _ (.head _)))))), hP2, by omega⟩
          rintro v news' h' tk' ⟨e9, t9, rfl⟩ F9 N9
          rw [e9] at N9
          dsimp only
          k_unmd
          (try k_fold)
          walk_at "my_steps"
          refine Stop.mk ?_
          rename Fr _ _ _ _ => F5
          rename News _ _ _ _ => N5
          exact LCg.CompEnd.intro F5 N5 _ (fun _ h => h) off (.inr ⟨_, .tail _ (.tail _ (.tail _ (.tail _ (.head _)))), rfl, _, rfl⟩) (kcf_el rfl rfl rfl)
        · unfold KPfDone
          intro ys2 hys2
          unfold LCg.FinE
          intro D9 h9 tk9 F9 N9 o9
          dsimp only at F9 N9 ⊢
          k_unmd
          (try k_fold)
          walk_at "my_steps"
          refine Stop.mk ?_
          refine leaveK_ F9 (kst_newsOf N9 (l' := (D9, LCg.lst ys2) :: news) ?sb) ?_
          case sb =>
            intro q hq
            rcases List.mem_cons.mp hq with rfl | hq
            · exact .head _
            · exact .tail _ (.tail _ (.tail _ (.tail _ (.tail _ (.tail _ (.tail _ (.tail _ hq)))))))
          intro kF kN
          refine hret _ _ _ _ ⟨D9, ys2, _, rfl, ?_, rfl, fun q hq => off1_mem o9 q (.tail _ (.tail _ (.tail _ (.tail _ (.tail _ (.tail _ (.tail _ hq)))))))⟩ kF kN
          rw [← thirdsF_pos hE]
          exact hys2
      · refine Stop.mk ?_
        rename (¬ (List.map _ _ = _)) => hE
        rename Fr _ _ _ _ => F8
        rename News _ _ _ _ => N8
        rename (_ < _ ∧ _ < _ ∧ _ < _ ∧ _ < _ ∧ _ < _ ∧ _ < _ ∧ _ < _ ∧ AllLt _ news) => lt8
        refine leaveK_ F8 (kst_newsOf N8 sub8) ?_
        intro kF kN
        refine hret _ _ _ _ ⟨_, [], 0, rfl, ?_, rfl, fun q hq => Nat.ne_of_lt (kst_ltOf lt8.2.2.2.2.2.2.2 q hq)⟩ kF kN
        rw [← thirdsF_neg hE]
        exact .nil
end
section
def rootsF (a b n : Int) : List Int := (rangeKs 0 n.toNat).foldl (fun l t => if Int.fmod (a + b * t) n = 0 then l ++ [t] else l) []
def rootF (a b n : Int) : Int := (rootsF a b n).getD 0 0
def restF (a b n x y : Int) : Int := Int.fmod (x + y * rootF a b n) n
def picksF (ts : List Int) (v : Int) : List Int := (rangeKs 1 (ts.length - 1)).foldl (fun l s => if ts.getD s.toNat 0 = 0 then l ++ [ts.getD (Int.fmod (s * v) ts.length).toNat 0] else l) []
def turnsF (ts : List Int) (v : Int) : Int := Int.fmod (picksF ts v).sum 3
def lettersF (many n : Int) : List Int := apL (many * (n - 1) + Int.fdiv n 3).toNat (many * (n - 1) + Int.fdiv n 3) []
def powF (v n : Int) (ks : List Int) : Int := ks.foldl (fun p k => Int.fmod (Int.fmod (p ^ 16) n * v ^ (k - 65).toNat) n) 1
def isCubeF (v n : Int) : Bool := ((rangeKs 1 (n.toNat - 1)).map (fun s => Int.fmod (s * s * s) n)).any (· == v)
def judgeF (a b n v t pw : Int) : Int := if pw ≠ Int.fmod (rootF a b n ^ t.toNat) n ∨ isCubeF v n ≠ (t == 0) then -1 else t
def symbolF (a b : Int) (ts : List Int) (x y many : Int) : Int :=
  judgeF a b ts.length (restF a b ts.length x y) (turnsF ts (restF a b ts.length x y)) (powF (restF a b ts.length x y) ts.length (lettersF many ts.length))
local macro_rules | `(tactic| walk_at "binaryOp Add int int") => `(tactic| (k_here; refine addI ?_; intro _ _))
local macro_rules | `(tactic| walk_at "binaryOp Sub int int") => `(tactic| (k_here; refine subI ?_; intro _ _))
local macro_rules | `(tactic| walk_at "binaryOp Mult int int") => `(tactic| (k_here; refine mulI ?hm ?_; (case hm => first | (refine Or.inl ?_; omega) | (refine Or.inr ?_; omega)); intro _ _))
local macro_rules | `(tactic| walk_at "binaryOp FloorDiv int int") => `(tactic| (k_here; refine fdivI ?hb ?hp ?_; (case hb => omega); (case hp => omega); intro _ _))
local macro_rules | `(tactic| walk_at "binaryOp Mod int int") => `(tactic| (k_here; refine fmodI ?hb ?_; (case hb => omega); intro _ _))
local macro_rules | `(tactic| walk_at "unaryOp USub int") => `(tactic| (k_here; refine negI ?_; intro _ _))
local macro_rules | `(tactic| walk_at "eval Constant int") => `(tactic| (k_here; refine constI ?_; intro _ _))
local macro_rules | `(tactic| walk_at "my_steps") => `(tactic| repeat' ((first | (k_unfold; (try dsimp only)) | walk1 | (dsimp only; walk1) | fail "no step")))
local macro_rules | `(tactic| walk_at "pyIter ref") => `(tactic| refine Stop.out ?_)
local macro_rules | `(tactic| walk_at "LeaveK") => `(tactic| refine Stop.out ?_)
local macro_rules | `(tactic| walk_at "call ref") => `(tactic| refine Stop.out ?_)
local macro_rules | `(tactic| k_all) => `(tactic| with_reducible assumption)
local macro_rules | `(tactic| walk_at "InvEndN") => `(tactic| refine Stop.out ?_)
local macro_rules | `(tactic| walk_at "my_call") => `(tactic| ((case B => k_asm); (case F => k_asm); (case X => k_asm); (case N => k_asm); (case T => k_asm); (case k => first | exact rfl | assumption); (case d => ktr_room); (case u => ktr_units)))
local macro_rules | `(tactic| walk_at "my_call4") => `(tactic| ((case B4 => k_asm); (case F4 => k_asm); (case X4 => k_asm); (case N4 => k_asm); (case T4 => k_asm); (case k4 => first | exact rfl | assumption); (case d4 => ktr_room); (case u4 => ktr_units)))
local macro_rules | `(tactic| walk_at "my_call2") => `(tactic| ((case B2 => k_asm); (case F2 => k_asm); (case X2 => k_asm); (case N2 => k_asm); (case T2 => k_asm); (case k2 => first | exact rfl | assumption); (case d2 => ktr_room); (case u2 => ktr_units)))
local macro_rules | `(tactic| walk_at "my_call3") => `(tactic| ((case B3 => k_asm); (case F3 => k_asm); (case X3 => k_asm); (case N3 => k_asm); (case T3 => k_asm); (case k3 => first | exact rfl | assumption); (case d3 => ktr_room); (case u3 => ktr_units)))
local macro_rules | `(tactic| walk_at "subscriptTail Name Slice ref ref") => `(tactic| refine Stop.out ?_)
local macro_rules | `(tactic| walk_at "eval ListComp") => `(tactic| refine Stop.out ?_)
local macro_rules | `(tactic| walk_at "CompSrc") => `(tactic| refine Stop.out ?_)
local macro_rules | `(tactic| walk_at "CompEnd") => `(tactic| refine Stop.out ?_)
local macro_rules | `(tactic| walk_at "compareOp NotEq ref ref") => `(tactic| refine Stop.out ?_)
local macro_rules | `(tactic| walk_at "call builtin:len") => `(tactic| refine Stop.out ?_)
local macro_rules | `(tactic| walk_at "call builtin:sum") => `(tactic| refine Stop.out ?_)
local macro_rules | `(tactic| walk_at "CompSrcT") => `(tactic| refine Stop.out ?_)
local macro_rules | `(tactic| walk_at "compareOp In int ref") => `(tactic| refine Stop.out ?_)
local macro_rules | `(tactic| walk_at "pyIter bytes") => `(tactic| refine Stop.out ?_)
local macro_rules | `(tactic| walk_at "subscriptTail") => `(tactic| ((with_reducible show wpAny _ _ (subscriptTail _ _ (Value.ref _) (Value.int _ _)) _ _ _); refine Stop.out ?_))
theorem fmod_bd (a : Int) {n : Int} (h : 0 < n) : 0 ≤ Int.fmod a n ∧ Int.fmod a n < n := by
  rw [Int.fmod_eq_emod_of_nonneg a (by omega)]
  exact ⟨Int.emod_nonneg a (by omega), Int.emod_lt_of_pos a h⟩
theorem fmod_small (a : Int) {n : Int} (h : 0 < n) (h2 : n ≤ 64) : (Int.fmod a n).natAbs < 2 ^ 60 := by
  have := fmod_bd a h
  omega
theorem roots_mem (a b n : Int) : ∀ k ∈ rootsF a b n, 0 ≤ k ∧ k < n.toNat := by
  have key : ∀ (ks : List Int), (∀ k ∈ ks, 0 ≤ k ∧ k < n.toNat) → ∀ l : List Int, (∀ k ∈ l, 0 ≤ k ∧ k < n.toNat) → ∀ k ∈ ks.foldl (fun l t => if Int.fmod (a + b * t) n = 0 then l ++ [t] else l) l, 0 ≤ k ∧ k < n.toNat := by
    intro ks
    induction ks with
    | nil => intro _ l hl k hk; exact hl k hk
    | cons x ks ih =>
      intro hks l hl k hk
      rw [List.foldl_cons] at hk
      refine ih (fun y hy => hks y (.tail _ hy)) _ (fun y hy => ?_) k hk
      split at hy
      · rcases List.mem_append.mp hy with h | h
        · exact hl y h
        · rw [List.mem_singleton.mp h]; exact hks x (.head _)
      · exact hl y hy
  exact key _ (fun k hk => by have := mem_rangeKs hk; omega) [] (fun k hk => nomatch hk)
theorem root_bd (a b n : Int) (h : 0 < (rootsF a b n).length) : 0 ≤ rootF a b n ∧ rootF a b n < n.toNat := by
  unfold rootF
  rw [List.getD_eq_getElem?_getD, List.getElem?_eq_getElem h]
  exact roots_mem a b n _ (List.getElem_mem h)
theorem apL_mem : ∀ (f : Nat) (n : Int) (ks : List Int), (∀ k ∈ ks, 65 ≤ k ∧ k ≤ 80) → ∀ k ∈ apL f n ks, 65 ≤ k ∧ k ≤ 80
  | 0, n, ks, h => by rw [apL]; exact h
  | f + 1, n, ks, h => by
    rw [apL]
    split
    · exact h
    · refine apL_mem f _ _ fun k hk => ?_
      rcases List.mem_cons.mp hk with rfl | hk
      · have := fmod16 n; omega
      · exact h k hk
theorem powF_snoc (v n : Int) (pre : List Int) (k : Int) : powF v n (pre ++ [k]) = Int.fmod (Int.fmod (powF v n pre ^ 16) n * v ^ (k - 65).toNat) n := by
  unfold powF
  rw [List.foldl_append]
  rfl
theorem powF_bd (v : Int) {n : Int} (h : 1 < n) (pre : List Int) : 0 ≤ powF v n pre ∧ powF v n pre < n := by
  rcases List.eq_nil_or_concat pre with rfl | ⟨l, k, rfl⟩
  · unfold powF; simp only [List.foldl_nil]; omega
  · rw [List.concat_eq_append, powF_snoc]; exact fmod_bd _ (by omega)
section
variable {prog : Program} {w : World} {A : Around} {E : Value → Shared → Prop} {Q : Value → Shared → Prop} {hp : Heap} {g : Array GenState} {d : Drawn} {tk : Nat} {os : OsState}
theorem powI {a n : Int} {t u : Tok} (hn : 0 ≤ n) (hn2 : n ≤ 1000000) (ha : a.natAbs < 2 ^ 64) (h : ∀ t k, Q (.int (a ^ n.toNat) t) ⟨hp, g, d, k, os⟩) : wpAny (model prog w) A (binaryOp .Pow (.int a t) (.int n u)) Q E ⟨hp, g, d, tk, os⟩ := pow_int_small hn hn2 ha (h _ _)
end
local macro_rules | `(tactic| walk_at "binaryOp Pow int int") => `(tactic| (k_here; refine powI ?hn ?hm ?ha ?_; (case hn => omega); (case hm => omega); (case ha => omega); intro _ _))
local macro_rules | `(tactic| walk_at "binaryOp Mult int int") => `(tactic| (k_here; refine mulI ?hm ?_; (case hm => first | (refine Or.inl ?_; omega) | (refine Or.inr ?_; omega) | exact Or.inl (fmod_small _ (by omega) (by omega))); intro _ _))
theorem sub5b {α : Type} {x1 x2 x3 x4 x5 : α} {l o : List α} : ∀ q ∈ x1 :: x2 :: x3 :: x4 :: x5 :: l, q ∈ x1 :: x2 :: x3 :: x4 :: x5 :: (l ++ o) := by
  intro q hq
  simp only [List.mem_cons, List.mem_append] at hq ⊢
  rcases hq with h | h | h | h | h | h <;> simp only [h, true_or, or_true]
theorem own5b {α : Type} {x1 x2 x3 x4 x5 : α} {l o : List α} : ∀ q ∈ o, q ∈ x1 :: x2 :: x3 :: x4 :: x5 :: (l ++ o) := by
  intro q hq
  simp only [List.mem_cons, List.mem_append, hq, or_true]
theorem grow_if (f : Int → Int) (c : Int → Prop) [DecidablePred c] : KPfGrows (fun l k => if c k then l ++ [f k] else l) := by
  intro l k
  dsimp only
  split <;> simp
theorem symbol_call (w : World) (news : List (Addr × Obj)) (p q : Addr) (a b : Int) (ta tb : Tok) (hm : (p, tupO [.int a ta, .int b tb]) ∈ news) (vs : List Value) (ts : List Int) (c : Nat) (R : LRow news q vs ts c)
    (x y many : Int) (tx ty tm : Tok) (ha : -64 ≤ a ∧ a ≤ 64) (hb : -64 ≤ b ∧ b ≤ 64) (hx : -64 ≤ x ∧ x ≤ 64) (hy : -64 ≤ y ∧ y ≤ 64) (hmany : 0 ≤ many ∧ many < 4096) (hn : 7 ≤ ts.length ∧ ts.length ≤ 64) (hroot : 0 < (rootsF a b ts.length).length) :
    Tells w 3 96 70 [.ref p, .ref q, .int x tx, .int y ty, .int many tm] news (IntRet (symbolF a b ts x y many) news) := by
  intro mean mg mb loose dp un gd cn cs a' ccd cl outer A₀ base h₀ L m s Q E B F X N T hk hdp hun hret
  refine wpAny_call ?_
  k_dflt (refine' code_defC (binds := [(Str.ofString "prime", .ref p), (Str.ofString "thirds", .ref q), (Str.ofString "x", .int x tx), (Str.ofString "y", .int y ty), (Str.ofString "many", .int many tm)]) B F X N T rfl rfl hk ?k6 ?k7 ?k8 ?k9 ?kB ?kD ?_ ?c2 ?c3 ?c4; (case k6 => k_is); (case k7 => k_is); (case k8 => ktr_room); (case k9 => exact BindsTo.of_eq rfl); (case kB => exact rfl); (case kD => decide +kernel); (case c2 => exact rfl); (case c3 => exact rfl); (case c4 => exact rfl))
  clear B F X N T
  intro g' L' h' tk' cells' FG F N Y B X T l1
  (try k_lt l1); k_cells Y; (try simp only [List.cons_append, List.nil_append] at N); (try dsimp only); (try k_lift B)
  have hc : ∀ j : Nat, ∀ r ∈ news, r.1 ≠ L' + j + 1 := fun j r hr => Nat.ne_of_lt (Nat.lt_succ_of_lt (Nat.lt_of_lt_of_le (l1 r hr) (Nat.le_add_right _ _)))
  have hc1 : ∀ r ∈ news, r.1 ≠ L' + 1 := hc 0
  have hc2 : ∀ r ∈ news, r.1 ≠ L' + 1 + 1 := hc 1
  have hc3 : ∀ r ∈ news, r.1 ≠ L' + 1 + 1 + 1 := hc 2
  have hc4 : ∀ r ∈ news, r.1 ≠ L' + 1 + 1 + 1 + 1 := hc 3
  have hc5 : ∀ r ∈ news, r.1 ≠ L' + 1 + 1 + 1 + 1 + 1 := hc 4
  rename (Obj.data _ = Data.cell (bindC _ _ _ (Str.ofString "thirds"))) => d5
  replace d5 : Obj.data _ = Data.cell (some (Value.ref q)) := d5
  have hT := News.isTup N (.tail _ (.tail _ (.tail _ (.tail _ (.tail _ hm)))))
  (try k_fold)
  walk_at "my_steps"
  refine Stop.mk ?_
  rename News _ _ _ _ => N1
  refine row_len (R := ⟨.tail _ (.tail _ (.tail _ (.tail _ (.tail _ R.mem)))), R.its, R.len⟩) N1 ?_
  intro _ _
  k_unmd
  (try k_fold)
  walk_at "my_steps"
  refine Stop.mk ?_
  k_dflt (refine LCt.ListComp_T (F₀ := by k_asm) (by with_unfolding_all rfl) (by decide) (by rfl) (by decide) (by rfl) ?_)
  k_unmd
  (try k_fold)
  walk_at "my_steps"
  refine Stop.mk ?_
  rename News _ _ _ _ => N2
  rename Fr _ _ _ _ => F2
  rename (IsRange _ _ _ _ _ _ _ _) => hRg
  refine LCt.CompSrcT.range (n := ts.length) (by rfl) F2 N2 hRg (small_up (by omega) (by omega) (by omega) (by omega)) (by rw [rangeSize_up (by omega)]; congr 1) (by rw [sizeLine_eq]; omega) ?_
  intro g3
  refine' kci_range (fun l t => if Int.fmod (a + b * t) ts.length = 0 then l ++ [t] else l) (fun k t I oI C oC D m₂ ys l h tk E' hlo hhi hI hC hx F N off ne => ?_) ?_ (grow_if (fun t => t) (fun t => Int.fmod (a + b * t) ts.length = 0))
  · intro hMark
    k_unmd
    (try k_fold)
    walk_at "my_steps"
    · refine Stop.mk ?_
      rename (Int.fmod _ _ = 0) => hE
      rename Fr _ _ _ _ => F5
      rename News _ _ _ _ => N5
      exact LCg.CompEnd.intro F5 N5 _ (fun _ h => h) off trivial (kci_el (if_pos hE) rfl rfl)
    · refine Stop.mk ?_
      rename (¬ Int.fmod _ _ = 0) => hE
      rename Fr _ _ _ _ => F5
      rename News _ _ _ _ => N5
      exact LCg.CompEnd.intro F5 N5 _ (fun _ h => h) off trivial (kci_no (if_neg hE) rfl)
  · unfold KPfDone
    intro ys hys hlen
    have hys2 : IntsAre ys (rootsF a b ts.length) := hys
    unfold LCg.FinE
    intro D4 h4 tk4 F4 N4 o4
    have o5 := off1_mem o4
    clear o4
    dsimp only at F4 N4 ⊢
    k_unmd
    (try k_fold)
    walk_at "my_steps"
    refine Stop.mk ?_
    refine row_item (k := 0) (R := ⟨.head _, hys2, by have := hys2.length; omega⟩) N4 (by omega) (by omega) ?_
    intro _
    have N5 := kst_newsOf N4 (fun q hq => List.mem_cons_of_mem _ hq)
    clear N4
    rw [show (rootsF a b ts.length).getD (Int.toNat 0) 0 = rootF a b ts.length from rfl]
    have hr := root_bd a b ts.length hroot
    generalize hre : rootF a b ts.length = r at hr
    have hv := fmod_bd (x + y * r) (n := ts.length) (by omega)
    (try dsimp only)
    k_unmd
    (try k_fold)
    walk_at "my_steps"
    refine Stop.mk ?_
    k_dflt (refine LCt.ListComp_T (F₀ := by k_asm) (by with_unfolding_all rfl) (by decide) (by rfl) (by decide) (by rfl) ?_)
    k_unmd
    (try k_fold)
    walk_at "my_steps"
    refine Stop.mk ?_
    rename News _ _ _ _ => N6
    rename Fr _ _ _ _ => F6
    rename (IsRange _ _ _ _ _ _ _ _) => hRg
    refine LCt.CompSrcT.range (n := ts.length - 1) (by rfl) F6 N6 hRg (small_up (by omega) (by omega) (by omega) (by omega)) (by rw [rangeSize_up (by omega)]; congr 1; omega) (by rw [sizeLine_eq]; omega) ?_
    intro g7
    refine' kci_range (fun l s => if ts.getD s.toNat 0 = 0 then l ++ [ts.getD (Int.fmod (s * Int.fmod (x + y * r) ts.length) ts.length).toNat 0] else l) (fun k t I oI C oC D m₂ ys l h tk E' hlo hhi hI hC hx F N off ne => ?_) ?_ (grow_if (fun s => ts.getD (Int.fmod (s * Int.fmod (x + y * r) ts.length) ts.length).toNat 0) (fun s => ts.getD s.toNat 0 = 0))
    · intro hMark
      k_unmd
      (try k_fold)
      walk_at "my_steps"
      refine Stop.mk ?_
      rename News _ _ _ _ => N7
      refine row_item (R := ⟨.tail _ (.tail _ (.tail _ (.tail _ (.tail _ (.tail _ (.tail _ (.tail _ R.mem))))))), R.its, R.len⟩) N7 (by omega) (by omega) ?_
      intro _
      k_unmd
      (try k_fold)
      walk_at "my_steps"
      · refine Stop.mk ?_
        rename (List.getD _ _ _ = 0) => hE
        rename News _ _ _ _ => N8
        have hf := fmod_bd (k * Int.fmod (x + y * r) ts.length) (n := ts.length) (by omega)
        refine row_item (R := ⟨.tail _ (.tail _ (.tail _ (.tail _ (.tail _ (.tail _ (.tail _ (.tail _ R.mem))))))), R.its, R.len⟩) N8 hf.1 hf.2 ?_
        intro _
        k_unmd
        (try k_fold)
        walk_at "my_steps"
        refine Stop.mk ?_
        rename Fr _ _ _ _ => F9
        rename News _ _ _ _ => N9
        exact LCg.CompEnd.intro F9 N9 _ (fun _ h => h) off trivial (kci_el (if_pos hE) rfl rfl)
      · refine Stop.mk ?_
        rename (¬ List.getD _ _ _ = 0) => hE
        rename Fr _ _ _ _ => F9
        rename News _ _ _ _ => N9
        exact LCg.CompEnd.intro F9 N9 _ (fun _ h => h) off trivial (kci_no (if_neg hE) rfl)
    · unfold KPfDone
      intro ys2 hys2 hlen2
      unfold LCg.FinE
      intro D8 h8 tk8 F8 N8 o8
      clear o8
      (try dsimp only at F8 N8 ⊢)
      k_unmd
      (try k_fold)
      walk_at "my_steps"
      refine Stop.mk ?_
      have hys3 : IntsAre ys2 (picksF ts (Int.fmod (x + y * r) ts.length)) := hys2
      refine LSm.sum_ints F8 N8 rfl (News.isList N8 (.head _)) hys3 ?_
      intro h10 tk10 t10 F10 N10
      generalize hS : (picksF ts (Int.fmod (x + y * r) ts.length)).sum = S
      have hS3 := fmod_bd S (n := 3) (by decide)
      have N11 := kst_newsOf N10 (fun q hq => List.mem_cons_of_mem _ hq)
      clear N10 N8
      k_unmd
      (try k_fold)
      walk_at "my_steps"
      refine Stop.mk ?_
      have hM := mul_bd (u := many) (v := (ts.length : Int) - 1) (U := 4096) (V := 64) (by omega) (by omega)
      have hM0 : 0 ≤ many * ((ts.length : Int) - 1) := Int.mul_nonneg (by omega) (by omega)
      have hn3 := fdiv3 (ts.length : Int)
      k_dflt (refine' tells_use (ap_call w _ (-(many * ((ts.length : Int) - 1) + (ts.length : Int).fdiv 3)) _ ?h0 ?h1) ?B ?F ?X ?N ?T ?k ?d ?u ?r)
      walk_at "my_call"
      case h0 => omega
      case h1 => omega
      rintro v12 news12 h12 tk12 ⟨e12, bs, tbs, rfl, hbs⟩ F12 N12
      rw [e12] at N12
      rw [Int.neg_neg] at hbs
      have hlet := apL_mem (many * ((ts.length : Int) - 1) + (ts.length : Int).fdiv 3).toNat (many * ((ts.length : Int) - 1) + (ts.length : Int).fdiv 3) [] (fun k hk => nomatch hk)
      rw [← hbs] at hlet
      dsimp only
      k_unmd
      (try k_fold)
      walk_at "my_steps"
      refine Stop.mk ?_
      k_dflt (refine' KStb.kst_bytes (σ := Int × Tok) (fun _ => _) (fun c => [(Str.ofString "power", .int c.1 c.2)]) (fun _ => True) [] (fun pre c => c.1 = powF (Int.fmod (x + y * r) ts.length) ts.length pre) (1, _) rfl rfl ?hh F12 N12 trivial ?kk ?kp ?turn ?done; (case hh => exact rfl))
      case kk => kst_all
      case kp => exact rfl
      case turn =>
        rintro ⟨pw, tpw⟩ pre post k t u h tk own hks hlen _ _ hoff _ hP F13 N13
        dsimp only [kstB] at hP F13 N13 ⊢
        simp only [List.cons_append] at N13
        have hk65 := hlet k (by rw [hks]; exact List.mem_append_right _ (.head _))
        have hpw := powF_bd (Int.fmod (x + y * r) ts.length) (n := ts.length) (by omega) pre
        rw [← hP] at hpw
        k_unmd
        (try k_fold)
        walk_at "my_steps"
        refine Stop.mk ?_
        rename Fr _ _ _ _ => F14
        rename News _ _ _ _ => N14
        refine kst_end (_, _) F14 N14 sub5b own5b rfl trivial (by kst_all) (by kst_same) ?ep
        case ep => rw [powF_snoc, ← hP]; rfl
      case done =>
        rintro ⟨pw, tpw⟩ u h tk _ _ hP F13 N13
        dsimp only [kstB] at hP F13 N13 ⊢
        k_unmd
        (try k_fold)
        walk_at "my_steps"
        refine Stop.mk ?_
        k_dflt (refine LCg.ListComp_U (F₀ := by k_asm) (by with_unfolding_all rfl) (by decide) (by rfl) (by decide) (by rfl) ?_)
        k_unmd
        (try k_fold)
        walk_at "my_steps"
        refine Stop.mk ?_
        rename News _ _ _ _ => N14
        rename Fr _ _ _ _ => F14
        rename (IsRange _ _ _ _ _ _ _ _) => hRg
        refine LCg.CompSrc.range (n := ts.length - 1) (by rfl) F14 N14 hRg (small_up (by omega) (by omega) (by omega) (by omega)) (by rw [rangeSize_up (by omega)]; congr 1; omega) (by rw [sizeLine_eq]; omega) ?_
        intro g15
        refine' kcf_range (fun s => Int.fmod (s * s * s) ts.length) (fun k t I oI C oC D m₂ ys h tk E' hlo hhi hC hx F N off ne => ?_) ?_
        · intro hMark
          k_unmd
          (try k_fold)
          walk_at "my_steps"
          refine Stop.mk ?_
          rename Fr _ _ _ _ => F9
          rename News _ _ _ _ => N9
          exact LCg.CompEnd.intro F9 N9 _ (fun _ h => h) off trivial (kcf_el rfl rfl rfl)
        · unfold KPfDone
          intro ys16 hys16
          unfold LCg.FinE
          intro D16 h16 tk16 F16 N16 o16
          clear o16
          (try dsimp only at F16 N16 ⊢)
          k_unmd
          (try k_fold)
          walk_at "my_steps"
          refine Stop.mk ?_
          refine in_list_ints (News.isList N16 (.head _)) hys16 ?_
          rw [show ((rangeKs 1 (ts.length - 1)).map (fun s => Int.fmod (s * s * s) ts.length)).any (· == Int.fmod (x + y * r) ts.length) = isCubeF (Int.fmod (x + y * r) ts.length) ts.length from rfl]
          have N17 := kst_newsOf N16 (fun q hq => List.mem_cons_of_mem _ hq)
          clear N16
          k_unmd
          (try k_fold)
          walk_at "my_steps"
          · refine Stop.mk ?_
            rename (¬ pw = _) => hE
            rename Fr _ _ _ _ => F18
            rename News _ _ _ _ => N18
            refine leaveK_ F18 (kst_newsOf N18 (fun q hq => .tail _ (.tail _ (.tail _ (.tail _ (.tail _ hq)))))) ?_
            intro kF kN
            refine hret _ _ _ _ (int_end ?_) kF kN
            subst hre hS
            unfold symbolF judgeF
            rw [if_pos (Or.inl (by rw [lettersF, ← hbs]; unfold restF turnsF; rw [← hP]; exact hE))]
          · refine Stop.mk ?_
            rename (pw = _) => hE
            rename ((_ != _) = true) => hE2
            rename Fr _ _ _ _ => F18
            rename News _ _ _ _ => N18
            refine leaveK_ F18 (kst_newsOf N18 (fun q hq => .tail _ (.tail _ (.tail _ (.tail _ (.tail _ hq)))))) ?_
            intro kF kN
            refine hret _ _ _ _ (int_end ?_) kF kN
            subst hre hS
            unfold symbolF judgeF
            rw [if_pos (Or.inr (by unfold restF turnsF; simpa using hE2))]
          · refine Stop.mk ?_
            rename (pw = _) => hE
            rename ((_ != _) = false) => hE2
            rename Fr _ _ _ _ => F18
            rename News _ _ _ _ => N18
            refine leaveK_ F18 (kst_newsOf N18 (fun q hq => .tail _ (.tail _ (.tail _ (.tail _ (.tail _ hq)))))) ?_
            intro kF kN
            refine hret _ _ _ _ (int_end ?_) kF kN
            subst hre hS
            unfold symbolF judgeF
            rw [if_neg (fun q => q.elim (fun q1 => q1 (by rw [lettersF, ← hbs]; unfold restF turnsF; rw [← hP]; exact hE)) (fun q2 => q2 (by unfold restF turnsF; simpa using hE2)))]
            rfl
end
section
/-! the power by the letters -/
theorem fmod_pos {a n : Int} (h : 0 < n) : Int.fmod a n = a % n := Int.fmod_eq_emod_of_nonneg a (by omega)
theorem pow_mod (a n : Int) : ∀ k : Nat, (a % n) ^ k % n = a ^ k % n
  | 0 => by rw [Int.pow_zero, Int.pow_zero]
  | k + 1 => by rw [Int.pow_succ, Int.pow_succ, Int.mul_emod, pow_mod a n k, Int.emod_emod, ← Int.mul_emod]
theorem fold_letters {v n : Int} (hn : 1 < n) : ∀ (f : Nat) (m : Int) (ks : List Int), 0 ≤ m → m ≤ f →
    (apL f m ks).foldl (fun p k => Int.fmod (Int.fmod (p ^ 16) n * v ^ (k - 65).toNat) n) 1 = ks.foldl (fun p k => Int.fmod (Int.fmod (p ^ 16) n * v ^ (k - 65).toNat) n) (v ^ m.toNat % n)
  | 0, m, ks, h0, h1 => by
    have e : m = 0 := by omega
    subst e
    rw [apL, Int.toNat_zero, Int.pow_zero, Int.emod_eq_of_lt (by omega) hn]
  | f + 1, m, ks, h0, h1 => by
    rw [apL]
    by_cases hm : m = 0
    · subst hm
      rw [if_pos rfl, Int.toNat_zero, Int.pow_zero, Int.emod_eq_of_lt (by omega) hn]
    · rw [if_neg hm]
      have h16 := fmod16 m
      rw [fold_letters hn f (Int.fdiv m 16) ((65 + Int.fmod m 16) :: ks) (by omega) (by omega), List.foldl_cons]
      congr 1
      rw [fmod_pos (n := n) (by omega), fmod_pos (n := n) (by omega), pow_mod, Int.mul_emod, Int.emod_emod, ← Int.mul_emod, ← Int.pow_mul, ← Int.pow_add]
      congr 2
      omega
theorem powF_letters {v n many : Int} (hn : 1 < n) (hm : 0 ≤ many) : powF v n (lettersF many n) = v ^ (many * (n - 1) + Int.fdiv n 3).toNat % n := by
  have h3 := fdiv3 n
  have h := Int.mul_nonneg hm (show 0 ≤ n - 1 by omega)
  unfold powF lettersF
  rw [fold_letters hn _ _ _ (by omega) (by omega)]
  rfl
theorem one_pow (n : Int) (h : 1 < n) (a : Int) (ha : a % n = 1) (k : Nat) : a ^ k % n = 1 := by
  rw [← pow_mod, ha, Int.one_pow, Int.emod_eq_of_lt (by omega) h]
theorem pow_many {v n many : Int} (hn : 3 ≤ n) (hm : 0 ≤ many) (hv : v = 0 ∨ v ^ (n - 1).toNat % n = 1) : powF v n (lettersF many n) = v ^ (Int.fdiv n 3).toNat % n := by
  have h3 := fdiv3 n
  have h := Int.mul_nonneg hm (show 0 ≤ n - 1 by omega)
  rw [powF_letters (by omega) hm]
  have e : (many * (n - 1) + Int.fdiv n 3).toNat = (n - 1).toNat * many.toNat + (Int.fdiv n 3).toNat := by
    have e1 : (((n - 1).toNat * many.toNat : Nat) : Int) = many * (n - 1) := by
      rw [Int.natCast_mul, Int.toNat_of_nonneg hm, Int.toNat_of_nonneg (by omega), Int.mul_comm]
    omega
  rw [e]
  rcases hv with rfl | hv
  · rw [Int.zero_pow (by omega), Int.zero_pow (by omega)]
  · rw [Int.pow_add, Int.pow_mul, Int.mul_emod, one_pow n (by omega) _ hv, Int.one_mul, Int.emod_emod]
/-! what the checks ask -/
def divB (r g b : UInt64) : Bool := (Float64.cmp (min3F r g b) (max3F r g b) == some .eq) || (!Float64.isZero (max3F r g b) && !Float64.isZero (Float64.sub (max3F r g b) (min3F r g b)))
def halfB (r g b : UInt64) : Bool := Float64.cmp (Float64.div (Float64.add (max3F r g b) (min3F r g b)) 4611686018427387904) 4602678819172646912 == some .lt || Float64.cmp (Float64.div (Float64.add (max3F r g b) (min3F r g b)) 4611686018427387904) 4602678819172646912 == some .eq
def divBL (r g b : UInt64) : Bool := (Float64.cmp (min3F r g b) (max3F r g b) == some .eq) || (!Float64.isZero (Float64.sub (max3F r g b) (min3F r g b)) && (if halfB r g b then !Float64.isZero (Float64.add (max3F r g b) (min3F r g b)) else !Float64.isZero (Float64.sub (Float64.sub 4611686018427387904 (max3F r g b)) (min3F r g b))))
theorem divB_ok {r g b : UInt64} (h : divB r g b = true) : DivOk r g b := ⟨fun e => by
  unfold divB at h
  rw [e, Bool.false_or, Bool.and_eq_true] at h
  refine ⟨fun q => ?_, fun q => ?_⟩
  · have := h.1; rw [q] at this; cases this
  · have := h.2; rw [q] at this; cases this⟩
theorem divBL_ok {r g b : UInt64} (h : divBL r g b = true) : DivOkL r g b := ⟨fun e => by
  unfold divBL at h
  rw [e, Bool.false_or, Bool.and_eq_true] at h
  refine ⟨fun q => ?_, fun c q => ?_, fun c q => ?_⟩
  · have := h.1; rw [q] at this; cases this
  · have := h.2
    rw [show halfB r g b = true from c, if_pos rfl, q] at this; cases this
  · have := h.2
    rw [show halfB r g b = false from c, if_neg (by decide), q] at this; cases this⟩
def turnB (div : UInt64 → UInt64 → UInt64 → Bool) (r g : Int) : Bool :=
  decide (-1000 ≤ r ∧ r ≤ 1000) && decide (-1000 ≤ g ∧ g ≤ 1000) && div (eighth (r - lowF r g)) (eighth (g - lowF r g)) (eighth (-lowF r g)) && !Float64.isNaN (wheelF r g) && !Float64.isInf (wheelF r g)
def turnsB (div : UInt64 → UInt64 → UInt64 → Bool) (a b : Int) : Bool := (List.range (normF a b).toNat).all fun i => decide (i = 0) || turnB div (leastF a b i 0).1 (leastF a b i 0).2
theorem turnB_ok {div : UInt64 → UInt64 → UInt64 → Bool} {Ok : UInt64 → UInt64 → UInt64 → Prop} (hd : ∀ r g b, div r g b = true → Ok r g b) {r g : Int} (h : turnB div r g = true) : TurnOk Ok r g := by
  unfold turnB at h
  simp only [Bool.and_eq_true, decide_eq_true_eq, Bool.not_eq_true'] at h
  exact ⟨h.1.1.1.1, h.1.1.1.2, hd _ _ _ h.1.1.2, h.1.2, h.2⟩
theorem turnsB_ok {div : UInt64 → UInt64 → UInt64 → Bool} {Ok : UInt64 → UInt64 → UInt64 → Prop} (hd : ∀ r g b, div r g b = true → Ok r g b) {a b : Int} (h : turnsB div a b = true) :
    ∀ v : Int, 1 ≤ v → v < normF a b → TurnOk Ok (leastF a b v 0).1 (leastF a b v 0).2 := by
  intro v h1 h2
  unfold turnsB at h
  have h3 := List.all_eq_true.mp h v.toNat (List.mem_range.mpr (by omega))
  have e : ((v.toNat : Nat) : Int) = v := Int.toNat_of_nonneg (by omega)
  rw [e, Bool.or_eq_true, decide_eq_true_eq] at h3
  exact turnB_ok hd (h3.resolve_left (by omega))
end
section
structure SpotOk (p : Int × Int × Int) : Prop where
  tu : toInt Float64.nearestOf (wheelF p.1 p.2.1) = p.2.2
  v : TurnOk DivOk p.1 p.2.1
  l : TurnOk DivOkL p.1 p.2.1
def spotB (r g d : Int) : Bool := decide (toInt Float64.nearestOf (wheelF r g) = d) && turnB divB r g && turnB divBL r g
theorem spot_ok {r g d : Int} (h : spotB r g d = true) : SpotOk (r, g, d) := by
  unfold spotB at h
  simp only [Bool.and_eq_true, decide_eq_true_eq] at h
  exact ⟨h.1.1, turnB_ok (fun _ _ _ => divB_ok) h.1.2, turnB_ok (fun _ _ _ => divBL_ok) h.2⟩
theorem sp0 : spotB (-3) (-3) (240) = true := by decide +kernel
theorem sp1 : spotB (-3) (-2) (220) = true := by decide +kernel
theorem sp2 : spotB (-3) (-1) (200) = true := by decide +kernel
theorem sp3 : spotB (-3) (0) (180) = true := by decide +kernel
theorem sp4 : spotB (-2) (-3) (260) = true := by decide +kernel
theorem sp5 : spotB (-2) (-2) (240) = true := by decide +kernel
theorem sp6 : spotB (-2) (-1) (210) = true := by decide +kernel
theorem sp7 : spotB (-2) (0) (180) = true := by decide +kernel
theorem sp8 : spotB (-2) (1) (160) = true := by decide +kernel
theorem sp9 : spotB (-1) (-3) (280) = true := by decide +kernel
theorem sp10 : spotB (-1) (-2) (270) = true := by decide +kernel
theorem sp11 : spotB (-1) (-1) (240) = true := by decide +kernel
theorem sp12 : spotB (-1) (0) (180) = true := by decide +kernel
theorem sp13 : spotB (-1) (1) (150) = true := by decide +kernel
theorem sp14 : spotB (-1) (2) (140) = true := by decide +kernel
theorem sp15 : spotB (0) (-3) (300) = true := by decide +kernel
theorem sp16 : spotB (0) (-2) (300) = true := by decide +kernel
theorem sp17 : spotB (0) (-1) (300) = true := by decide +kernel
theorem sp18 : spotB (0) (1) (120) = true := by decide +kernel
theorem sp19 : spotB (0) (2) (120) = true := by decide +kernel
theorem sp20 : spotB (0) (3) (120) = true := by decide +kernel
theorem sp21 : spotB (1) (-2) (320) = true := by decide +kernel
theorem sp22 : spotB (1) (-1) (330) = true := by decide +kernel
theorem sp23 : spotB (1) (0) (0) = true := by decide +kernel
theorem sp24 : spotB (1) (1) (60) = true := by decide +kernel
theorem sp25 : spotB (1) (2) (90) = true := by decide +kernel
theorem sp26 : spotB (1) (3) (100) = true := by decide +kernel
theorem sp27 : spotB (2) (-1) (340) = true := by decide +kernel
theorem sp28 : spotB (2) (0) (0) = true := by decide +kernel
theorem sp29 : spotB (2) (1) (30) = true := by decide +kernel
theorem sp30 : spotB (2) (2) (60) = true := by decide +kernel
theorem sp31 : spotB (2) (3) (80) = true := by decide +kernel
theorem sp32 : spotB (3) (0) (0) = true := by decide +kernel
theorem sp33 : spotB (3) (1) (20) = true := by decide +kernel
theorem sp34 : spotB (3) (2) (40) = true := by decide +kernel
theorem sp35 : spotB (3) (3) (60) = true := by decide +kernel
def spots : List (Int × Int × Int) := [(-3, -3, 240), (-3, -2, 220), (-3, -1, 200), (-3, 0, 180), (-2, -3, 260), (-2, -2, 240), (-2, -1, 210), (-2, 0, 180), (-2, 1, 160), (-1, -3, 280), (-1, -2, 270), (-1, -1, 240), (-1, 0, 180), (-1, 1, 150), (-1, 2, 140), (0, -3, 300), (0, -2, 300), (0, -1, 300), (0, 1, 120), (0, 2, 120), (0, 3, 120), (1, -2, 320), (1, -1, 330), (1, 0, 0), (1, 1, 60), (1, 2, 90), (1, 3, 100), (2, -1, 340), (2, 0, 0), (2, 1, 30), (2, 2, 60), (2, 3, 80), (3, 0, 0), (3, 1, 20), (3, 2, 40), (3, 3, 60)]
theorem spots_cons {p : Int × Int × Int} {l : List (Int × Int × Int)} (h : SpotOk p) (hl : ∀ q ∈ l, SpotOk q) : ∀ q ∈ p :: l, SpotOk q := List.forall_mem_cons.mpr ⟨h, hl⟩
theorem spots_nil : ∀ q ∈ ([] : List (Int × Int × Int)), SpotOk q := fun _ h => nomatch h
theorem spots_ok : ∀ q ∈ spots, SpotOk q :=
  spots_cons (spot_ok sp0) <| spots_cons (spot_ok sp1) <| spots_cons (spot_ok sp2) <| spots_cons (spot_ok sp3) <| spots_cons (spot_ok sp4) <| spots_cons (spot_ok sp5) <| spots_cons (spot_ok sp6) <| spots_cons (spot_ok sp7) <| spots_cons (spot_ok sp8) <| spots_cons (spot_ok sp9) <| spots_cons (spot_ok sp10) <| spots_cons (spot_ok sp11) <| spots_cons (spot_ok sp12) <| spots_cons (spot_ok sp13) <| spots_cons (spot_ok sp14) <| spots_cons (spot_ok sp15) <| spots_cons (spot_ok sp16) <| spots_cons (spot_ok sp17) <| spots_cons (spot_ok sp18) <| spots_cons (spot_ok sp19) <| spots_cons (spot_ok sp20) <| spots_cons (spot_ok sp21) <| spots_cons (spot_ok sp22) <| spots_cons (spot_ok sp23) <| spots_cons (spot_ok sp24) <| spots_cons (spot_ok sp25) <| spots_cons (spot_ok sp26) <| spots_cons (spot_ok sp27) <| spots_cons (spot_ok sp28) <| spots_cons (spot_ok sp29) <| spots_cons (spot_ok sp30) <| spots_cons (spot_ok sp31) <| spots_cons (spot_ok sp32) <| spots_cons (spot_ok sp33) <| spots_cons (spot_ok sp34) <| spots_cons (spot_ok sp35) <| spots_nil
def degF (p : Int × Int) : Option Int := (spots.find? fun q => q.1 == p.1 && q.2.1 == p.2).map fun q => q.2.2
theorem deg_ok {p : Int × Int} {d : Int} (h : degF p = some d) : SpotOk (p.1, p.2, d) := by
  unfold degF at h
  obtain ⟨q, hq, e⟩ := Option.map_eq_some_iff.mp h
  have h1 := List.find?_some hq
  simp only [Bool.and_eq_true, beq_iff_eq] at h1
  have h2 := spots_ok q (List.mem_of_find?_eq_some hq)
  obtain ⟨q1, q2, q3⟩ := q
  obtain ⟨rfl, rfl⟩ := h1
  subst e
  exact h2
def thirdsD (n : Int) (ds : List Int) : List Int :=
  if (List.take (2 * n.fdiv 3).toNat (ds.foldl (fun row d => insF row (bisF row d) d) [])).map (fun k => k + 120) = List.drop (n.fdiv 3).toNat (ds.foldl (fun row d => insF row (bisF row d) d) []) then
    (0 :: ds).map (fun t => (bisF (ds.foldl (fun row d => insF row (bisF row d) d) []) t).fdiv (n.fdiv 3))
  else []
structure RowOk (a b : Int) (ts : List Int) : Prop where
  th : thirdsF a b = ts
  v : ∀ v : Int, 1 ≤ v → v < normF a b → TurnOk DivOk (leastF a b v 0).1 (leastF a b v 0).2
  l : ∀ v : Int, 1 ≤ v → v < normF a b → TurnOk DivOkL (leastF a b v 0).1 (leastF a b v 0).2
theorem row_ok {a b : Int} (ds : List Int) {ts : List Int} (h : (rangeKs 1 (normF a b - 1).toNat).map (fun v => degF (leastF a b v 0)) = ds.map some) (ht : thirdsD (normF a b) ds = ts) : RowOk a b ts := by
  have key : ∀ v ∈ rangeKs 1 (normF a b - 1).toNat, ∃ d, degF (leastF a b v 0) = some d := by
    intro v hv
    have h1 : degF (leastF a b v 0) ∈ (rangeKs 1 (normF a b - 1).toNat).map (fun v => degF (leastF a b v 0)) := List.mem_map.mpr ⟨v, hv, rfl⟩
    rw [h] at h1
    obtain ⟨d, -, e⟩ := List.mem_map.mp h1
    exact ⟨d, e.symm⟩
  have hs : ∀ v : Int, 1 ≤ v → v < normF a b → ∃ d, SpotOk ((leastF a b v 0).1, (leastF a b v 0).2, d) := by
    intro v h1 h2
    obtain ⟨d, e⟩ := key v (kre_mem h1 (by omega))
    exact ⟨d, deg_ok e⟩
  have hm : (rangeKs 1 (normF a b - 1).toNat).map (turnOf a b) = ds := by
    have e1 : (rangeKs 1 (normF a b - 1).toNat).map (fun v => degF (leastF a b v 0)) = ((rangeKs 1 (normF a b - 1).toNat).map (turnOf a b)).map some := by
      rw [List.map_map]
      refine List.map_congr_left fun v hv => ?_
      obtain ⟨d, e⟩ := key v hv
      show degF (leastF a b v 0) = some (turnOf a b v)
      rw [e]
      exact congrArg some (deg_ok e).tu.symm
    rw [h] at e1
    have e2 := congrArg (List.filterMap id) e1
    rw [List.filterMap_map, List.filterMap_map] at e2
    simpa using e2.symm
  refine ⟨?_, fun v h1 h2 => (hs v h1 h2).elim fun d e => e.v, fun v h1 h2 => (hs v h1 h2).elim fun d e => e.l⟩
  rw [← ht]
  have hr : rowF a b (rangeKs 1 (normF a b - 1).toNat) = ds.foldl (fun row d => insF row (bisF row d) d) [] := by
    rw [← hm, List.foldl_map]
    rfl
  unfold thirdsF thirdsD
  rw [hr, hm]
theorem ds0 : (rangeKs 1 (normF (2) (3) - 1).toNat).map (fun v => degF (leastF (2) (3) v 0)) = ([0, 240, 300, 120, 60, 180] : List Int).map some := by decide +kernel
theorem td0 : thirdsD (normF (2) (3)) [0, 240, 300, 120, 60, 180] = [0, 0, 2, 2, 1, 0, 1] := by decide +kernel
theorem th0 : RowOk (2) (3) [0, 0, 2, 2, 1, 0, 1] := row_ok [0, 240, 300, 120, 60, 180] ds0 td0
theorem ds1 : (rangeKs 1 (normF (-1) (3) - 1).toNat).map (fun v => degF (leastF (-1) (3) v 0)) = ([0, 210, 240, 300, 330, 90, 270, 150, 120, 60, 30, 180] : List Int).map some := by decide +kernel
theorem td1 : thirdsD (normF (-1) (3)) [0, 210, 240, 300, 330, 90, 270, 150, 120, 60, 30, 180] = [0, 0, 1, 2, 2, 2, 0, 2, 1, 1, 0, 0, 1] := by decide +kernel
theorem th1 : RowOk (-1) (3) [0, 0, 1, 2, 2, 2, 0, 2, 1, 1, 0, 0, 1] := row_ok [0, 210, 240, 300, 330, 90, 270, 150, 120, 60, 30, 180] ds1 td1
theorem ds2 : (rangeKs 1 (normF (5) (3) - 1).toNat).map (fun v => degF (leastF (5) (3) v 0)) = ([0, 0, 120, 90, 60, 210, 240, 300, 330, 150, 120, 60, 30, 240, 270, 300, 180, 180] : List Int).map some := by decide +kernel
theorem td2 : thirdsD (normF (5) (3)) [0, 0, 120, 90, 60, 210, 240, 300, 330, 150, 120, 60, 30, 240, 270, 300, 180, 180] = [0, 0, 0, 1, 0, 0, 1, 2, 2, 2, 1, 1, 0, 0, 2, 2, 2, 1, 1] := by decide +kernel
theorem th2 : RowOk (5) (3) [0, 0, 0, 1, 0, 0, 1, 2, 2, 2, 1, 1, 0, 0, 2, 2, 2, 1, 1] := row_ok [0, 0, 120, 90, 60, 210, 240, 300, 330, 150, 120, 60, 30, 240, 270, 300, 180, 180] ds2 td2
theorem ds3 : (rangeKs 1 (normF (5) (6) - 1).toNat).map (fun v => degF (leastF (5) (6) v 0)) = ([0, 0, 200, 210, 240, 300, 330, 340, 220, 240, 270, 300, 320, 100, 80, 260, 280, 140, 120, 90, 60, 40, 160, 150, 120, 60, 30, 20, 180, 180] : List Int).map some := by decide +kernel
theorem td3 : thirdsD (normF (5) (6)) [0, 0, 200, 210, 240, 300, 330, 340, 220, 240, 270, 300, 320, 100, 80, 260, 280, 140, 120, 90, 60, 40, 160, 150, 120, 60, 30, 20, 180, 180] = [0, 0, 0, 1, 1, 2, 2, 2, 2, 1, 2, 2, 2, 2, 0, 0, 2, 2, 1, 1, 0, 0, 0, 1, 1, 1, 0, 0, 0, 1, 1] := by decide +kernel
theorem th3 : RowOk (5) (6) [0, 0, 0, 1, 1, 2, 2, 2, 2, 1, 2, 2, 2, 2, 0, 0, 2, 2, 1, 1, 0, 0, 0, 1, 1, 1, 0, 0, 0, 1, 1] := row_ok [0, 0, 200, 210, 240, 300, 330, 340, 220, 240, 270, 300, 320, 100, 80, 260, 280, 140, 120, 90, 60, 40, 160, 150, 120, 60, 30, 20, 180, 180] ds3 td3
theorem ds4 : (rangeKs 1 (normF (-4) (3) - 1).toNat).map (fun v => degF (leastF (-4) (3) v 0)) = ([0, 0, 0, 120, 100, 80, 60, 200, 210, 240, 300, 330, 340, 140, 120, 90, 60, 40, 220, 240, 270, 300, 320, 160, 150, 120, 60, 30, 20, 240, 260, 280, 300, 180, 180, 180] : List Int).map some := by decide +kernel
theorem td4 : thirdsD (normF (-4) (3)) [0, 0, 0, 120, 100, 80, 60, 200, 210, 240, 300, 330, 340, 140, 120, 90, 60, 40, 220, 240, 270, 300, 320, 160, 150, 120, 60, 30, 20, 240, 260, 280, 300, 180, 180, 180] = [0, 0, 0, 0, 1, 0, 0, 0, 1, 1, 2, 2, 2, 2, 1, 1, 0, 0, 0, 1, 2, 2, 2, 2, 1, 1, 1, 0, 0, 0, 2, 2, 2, 2, 1, 1, 1] := by decide +kernel
theorem th4 : RowOk (-4) (3) [0, 0, 0, 0, 1, 0, 0, 0, 1, 1, 2, 2, 2, 2, 1, 1, 0, 0, 0, 1, 2, 2, 2, 2, 1, 1, 1, 0, 0, 0, 2, 2, 2, 2, 1, 1, 1] := row_ok [0, 0, 0, 120, 100, 80, 60, 200, 210, 240, 300, 330, 340, 140, 120, 90, 60, 40, 220, 240, 270, 300, 320, 160, 150, 120, 60, 30, 20, 240, 260, 280, 300, 180, 180, 180] ds4 td4
theorem ds5 : (rangeKs 1 (normF (-1) (-3) - 1).toNat).map (fun v => degF (leastF (-1) (-3) v 0)) = ([0, 120, 60, 240, 300, 180] : List Int).map some := by decide +kernel
theorem td5 : thirdsD (normF (-1) (-3)) [0, 120, 60, 240, 300, 180] = [0, 0, 1, 0, 2, 2, 1] := by decide +kernel
theorem th5 : RowOk (-1) (-3) [0, 0, 1, 0, 2, 2, 1] := row_ok [0, 120, 60, 240, 300, 180] ds5 td5
theorem ds6 : (rangeKs 1 (normF (-4) (-3) - 1).toNat).map (fun v => degF (leastF (-4) (-3) v 0)) = ([0, 150, 120, 60, 30, 270, 90, 210, 240, 300, 330, 180] : List Int).map some := by decide +kernel
theorem td6 : thirdsD (normF (-4) (-3)) [0, 150, 120, 60, 30, 270, 90, 210, 240, 300, 330, 180] = [0, 0, 1, 1, 0, 0, 2, 0, 1, 2, 2, 2, 1] := by decide +kernel
theorem th6 : RowOk (-4) (-3) [0, 0, 1, 1, 0, 0, 2, 0, 1, 2, 2, 2, 1] := row_ok [0, 150, 120, 60, 30, 270, 90, 210, 240, 300, 330, 180] ds6 td6
theorem ds7 : (rangeKs 1 (normF (2) (-3) - 1).toNat).map (fun v => degF (leastF (2) (-3) v 0)) = ([0, 0, 240, 270, 300, 150, 120, 60, 30, 210, 240, 300, 330, 120, 90, 60, 180, 180] : List Int).map some := by decide +kernel
theorem td7 : thirdsD (normF (2) (-3)) [0, 0, 240, 270, 300, 150, 120, 60, 30, 210, 240, 300, 330, 120, 90, 60, 180, 180] = [0, 0, 0, 2, 2, 2, 1, 1, 0, 0, 1, 2, 2, 2, 1, 0, 0, 1, 1] := by decide +kernel
theorem th7 : RowOk (2) (-3) [0, 0, 0, 2, 2, 2, 1, 1, 0, 0, 1, 2, 2, 2, 1, 0, 0, 1, 1] := row_ok [0, 0, 240, 270, 300, 150, 120, 60, 30, 210, 240, 300, 330, 120, 90, 60, 180, 180] ds7 td7
theorem ds8 : (rangeKs 1 (normF (-1) (-6) - 1).toNat).map (fun v => degF (leastF (-1) (-6) v 0)) = ([0, 0, 160, 150, 120, 60, 30, 20, 140, 120, 90, 60, 40, 260, 280, 100, 80, 220, 240, 270, 300, 320, 200, 210, 240, 300, 330, 340, 180, 180] : List Int).map some := by decide +kernel
theorem td8 : thirdsD (normF (-1) (-6)) [0, 0, 160, 150, 120, 60, 30, 20, 140, 120, 90, 60, 40, 260, 280, 100, 80, 220, 240, 270, 300, 320, 200, 210, 240, 300, 330, 340, 180, 180] = [0, 0, 0, 1, 1, 1, 0, 0, 0, 1, 1, 0, 0, 0, 2, 2, 0, 0, 1, 2, 2, 2, 2, 1, 1, 2, 2, 2, 2, 1, 1] := by decide +kernel
theorem th8 : RowOk (-1) (-6) [0, 0, 0, 1, 1, 1, 0, 0, 0, 1, 1, 0, 0, 0, 2, 2, 0, 0, 1, 2, 2, 2, 2, 1, 1, 2, 2, 2, 2, 1, 1] := row_ok [0, 0, 160, 150, 120, 60, 30, 20, 140, 120, 90, 60, 40, 260, 280, 100, 80, 220, 240, 270, 300, 320, 200, 210, 240, 300, 330, 340, 180, 180] ds8 td8
theorem ds9 : (rangeKs 1 (normF (-7) (-3) - 1).toNat).map (fun v => degF (leastF (-7) (-3) v 0)) = ([0, 0, 0, 240, 260, 280, 300, 160, 150, 120, 60, 30, 20, 220, 240, 270, 300, 320, 140, 120, 90, 60, 40, 200, 210, 240, 300, 330, 340, 120, 100, 80, 60, 180, 180, 180] : List Int).map some := by decide +kernel
theorem td9 : thirdsD (normF (-7) (-3)) [0, 0, 0, 240, 260, 280, 300, 160, 150, 120, 60, 30, 20, 220, 240, 270, 300, 320, 140, 120, 90, 60, 40, 200, 210, 240, 300, 330, 340, 120, 100, 80, 60, 180, 180, 180] = [0, 0, 0, 0, 2, 2, 2, 2, 1, 1, 1, 0, 0, 0, 1, 2, 2, 2, 2, 1, 1, 0, 0, 0, 1, 1, 2, 2, 2, 2, 1, 0, 0, 0, 1, 1, 1] := by decide +kernel
theorem th9 : RowOk (-7) (-3) [0, 0, 0, 0, 2, 2, 2, 2, 1, 1, 1, 0, 0, 0, 1, 2, 2, 2, 2, 1, 1, 0, 0, 0, 1, 1, 2, 2, 2, 2, 1, 0, 0, 0, 1, 1, 1] := row_ok [0, 0, 0, 240, 260, 280, 300, 160, 150, 120, 60, 30, 20, 220, 240, 270, 300, 320, 140, 120, 90, 60, 40, 200, 210, 240, 300, 330, 340, 120, 100, 80, 60, 180, 180, 180] ds9 td9
end
section
def symF (a b : Int) (ts : List Int) (x y : Int) : Int :=
  judgeF a b ts.length (restF a b ts.length x y) (turnsF ts (restF a b ts.length x y)) (restF a b ts.length x y ^ (Int.fdiv (ts.length : Int) 3).toNat % (ts.length : Int))
def fermatB (n : Nat) : Bool := (List.range n).all fun v => v == 0 || ((v : Int) ^ ((n : Int) - 1).toNat % (n : Int) == 1)
theorem symbol_many {a b : Int} {ts : List Int} {x y many : Int} (hn : 3 ≤ ts.length) (hf : fermatB ts.length = true) (hm : 0 ≤ many) : symbolF a b ts x y many = symF a b ts x y := by
  unfold symbolF symF
  have hv := fmod_bd (x + y * rootF a b ts.length) (n := (ts.length : Int)) (by omega)
  rw [pow_many (by omega) hm]
  have h := List.all_eq_true.mp hf (restF a b ts.length x y).toNat (List.mem_range.mpr (by unfold restF; omega))
  rw [Int.toNat_of_nonneg (by unfold restF; exact hv.1), Bool.or_eq_true, beq_iff_eq, beq_iff_eq] at h
  rcases h with h | h
  · exact Or.inl (by unfold restF at h ⊢; omega)
  · exact Or.inr h
def grid : List (Int × Int) := [-4, -3, -2, -1, 0, 1, 2, 3, 4].flatMap fun x => [-4, -3, -2, -1, 0, 1, 2, 3, 4].map fun y => (x, y)
def stepX (a b x y : Int) : Int := if leastF a b x y = (0, 0) then x + 2 else x
def oneB (a b : Int) (ts : List Int) : Bool :=
  (symF a b ts 1 (-1) == Int.fmod (2 * Int.fdiv (a + 1) 3) 3) && (grid.all fun p => decide (0 ≤ symF a b ts (stepX a b p.1 p.2) p.2)) && fermatB ts.length && decide (0 < (rootsF a b ts.length).length) &&
    decide (7 ≤ ts.length ∧ ts.length ≤ 64) && decide (-64 ≤ a ∧ a ≤ 64) && decide (-64 ≤ b ∧ b ≤ 64) && decide (7 ≤ normF a b ∧ normF a b ≤ 64)
def pairB (a b : Int) (ts : List Int) (c d : Int) (us : List Int) : Bool := decide (0 ≤ symF a b ts c d) && (symF a b ts c d == symF c d us a b)
theorem on0 : oneB (2) (3) [0, 0, 2, 2, 1, 0, 1] = true := by decide +kernel
theorem on1 : oneB (-1) (3) [0, 0, 1, 2, 2, 2, 0, 2, 1, 1, 0, 0, 1] = true := by decide +kernel
theorem on2 : oneB (5) (3) [0, 0, 0, 1, 0, 0, 1, 2, 2, 2, 1, 1, 0, 0, 2, 2, 2, 1, 1] = true := by decide +kernel
theorem on3 : oneB (5) (6) [0, 0, 0, 1, 1, 2, 2, 2, 2, 1, 2, 2, 2, 2, 0, 0, 2, 2, 1, 1, 0, 0, 0, 1, 1, 1, 0, 0, 0, 1, 1] = true := by decide +kernel
theorem on4 : oneB (-4) (3) [0, 0, 0, 0, 1, 0, 0, 0, 1, 1, 2, 2, 2, 2, 1, 1, 0, 0, 0, 1, 2, 2, 2, 2, 1, 1, 1, 0, 0, 0, 2, 2, 2, 2, 1, 1, 1] = true := by decide +kernel
theorem on5 : oneB (-1) (-3) [0, 0, 1, 0, 2, 2, 1] = true := by decide +kernel
theorem on6 : oneB (-4) (-3) [0, 0, 1, 1, 0, 0, 2, 0, 1, 2, 2, 2, 1] = true := by decide +kernel
theorem on7 : oneB (2) (-3) [0, 0, 0, 2, 2, 2, 1, 1, 0, 0, 1, 2, 2, 2, 1, 0, 0, 1, 1] = true := by decide +kernel
theorem on8 : oneB (-1) (-6) [0, 0, 0, 1, 1, 1, 0, 0, 0, 1, 1, 0, 0, 0, 2, 2, 0, 0, 1, 2, 2, 2, 2, 1, 1, 2, 2, 2, 2, 1, 1] = true := by decide +kernel
theorem on9 : oneB (-7) (-3) [0, 0, 0, 0, 2, 2, 2, 2, 1, 1, 1, 0, 0, 0, 1, 2, 2, 2, 2, 1, 1, 0, 0, 0, 1, 1, 2, 2, 2, 2, 1, 0, 0, 0, 1, 1, 1] = true := by decide +kernel
theorem pa0 : (pairB (2) (3) [0, 0, 2, 2, 1, 0, 1] (-1) (3) [0, 0, 1, 2, 2, 2, 0, 2, 1, 1, 0, 0, 1] && pairB (2) (3) [0, 0, 2, 2, 1, 0, 1] (5) (3) [0, 0, 0, 1, 0, 0, 1, 2, 2, 2, 1, 1, 0, 0, 2, 2, 2, 1, 1] && pairB (2) (3) [0, 0, 2, 2, 1, 0, 1] (5) (6) [0, 0, 0, 1, 1, 2, 2, 2, 2, 1, 2, 2, 2, 2, 0, 0, 2, 2, 1, 1, 0, 0, 0, 1, 1, 1, 0, 0, 0, 1, 1] && pairB (2) (3) [0, 0, 2, 2, 1, 0, 1] (-4) (3) [0, 0, 0, 0, 1, 0, 0, 0, 1, 1, 2, 2, 2, 2, 1, 1, 0, 0, 0, 1, 2, 2, 2, 2, 1, 1, 1, 0, 0, 0, 2, 2, 2, 2, 1, 1, 1]) = true := by decide +kernel
theorem pa1 : (pairB (-1) (3) [0, 0, 1, 2, 2, 2, 0, 2, 1, 1, 0, 0, 1] (2) (3) [0, 0, 2, 2, 1, 0, 1] && pairB (-1) (3) [0, 0, 1, 2, 2, 2, 0, 2, 1, 1, 0, 0, 1] (5) (3) [0, 0, 0, 1, 0, 0, 1, 2, 2, 2, 1, 1, 0, 0, 2, 2, 2, 1, 1] && pairB (-1) (3) [0, 0, 1, 2, 2, 2, 0, 2, 1, 1, 0, 0, 1] (5) (6) [0, 0, 0, 1, 1, 2, 2, 2, 2, 1, 2, 2, 2, 2, 0, 0, 2, 2, 1, 1, 0, 0, 0, 1, 1, 1, 0, 0, 0, 1, 1] && pairB (-1) (3) [0, 0, 1, 2, 2, 2, 0, 2, 1, 1, 0, 0, 1] (-4) (3) [0, 0, 0, 0, 1, 0, 0, 0, 1, 1, 2, 2, 2, 2, 1, 1, 0, 0, 0, 1, 2, 2, 2, 2, 1, 1, 1, 0, 0, 0, 2, 2, 2, 2, 1, 1, 1]) = true := by decide +kernel
theorem pa2 : (pairB (5) (3) [0, 0, 0, 1, 0, 0, 1, 2, 2, 2, 1, 1, 0, 0, 2, 2, 2, 1, 1] (2) (3) [0, 0, 2, 2, 1, 0, 1] && pairB (5) (3) [0, 0, 0, 1, 0, 0, 1, 2, 2, 2, 1, 1, 0, 0, 2, 2, 2, 1, 1] (-1) (3) [0, 0, 1, 2, 2, 2, 0, 2, 1, 1, 0, 0, 1] && pairB (5) (3) [0, 0, 0, 1, 0, 0, 1, 2, 2, 2, 1, 1, 0, 0, 2, 2, 2, 1, 1] (5) (6) [0, 0, 0, 1, 1, 2, 2, 2, 2, 1, 2, 2, 2, 2, 0, 0, 2, 2, 1, 1, 0, 0, 0, 1, 1, 1, 0, 0, 0, 1, 1] && pairB (5) (3) [0, 0, 0, 1, 0, 0, 1, 2, 2, 2, 1, 1, 0, 0, 2, 2, 2, 1, 1] (-4) (3) [0, 0, 0, 0, 1, 0, 0, 0, 1, 1, 2, 2, 2, 2, 1, 1, 0, 0, 0, 1, 2, 2, 2, 2, 1, 1, 1, 0, 0, 0, 2, 2, 2, 2, 1, 1, 1]) = true := by decide +kernel
theorem pa3 : (pairB (5) (6) [0, 0, 0, 1, 1, 2, 2, 2, 2, 1, 2, 2, 2, 2, 0, 0, 2, 2, 1, 1, 0, 0, 0, 1, 1, 1, 0, 0, 0, 1, 1] (2) (3) [0, 0, 2, 2, 1, 0, 1] && pairB (5) (6) [0, 0, 0, 1, 1, 2, 2, 2, 2, 1, 2, 2, 2, 2, 0, 0, 2, 2, 1, 1, 0, 0, 0, 1, 1, 1, 0, 0, 0, 1, 1] (-1) (3) [0, 0, 1, 2, 2, 2, 0, 2, 1, 1, 0, 0, 1] && pairB (5) (6) [0, 0, 0, 1, 1, 2, 2, 2, 2, 1, 2, 2, 2, 2, 0, 0, 2, 2, 1, 1, 0, 0, 0, 1, 1, 1, 0, 0, 0, 1, 1] (5) (3) [0, 0, 0, 1, 0, 0, 1, 2, 2, 2, 1, 1, 0, 0, 2, 2, 2, 1, 1] && pairB (5) (6) [0, 0, 0, 1, 1, 2, 2, 2, 2, 1, 2, 2, 2, 2, 0, 0, 2, 2, 1, 1, 0, 0, 0, 1, 1, 1, 0, 0, 0, 1, 1] (-4) (3) [0, 0, 0, 0, 1, 0, 0, 0, 1, 1, 2, 2, 2, 2, 1, 1, 0, 0, 0, 1, 2, 2, 2, 2, 1, 1, 1, 0, 0, 0, 2, 2, 2, 2, 1, 1, 1]) = true := by decide +kernel
theorem pa4 : (pairB (-4) (3) [0, 0, 0, 0, 1, 0, 0, 0, 1, 1, 2, 2, 2, 2, 1, 1, 0, 0, 0, 1, 2, 2, 2, 2, 1, 1, 1, 0, 0, 0, 2, 2, 2, 2, 1, 1, 1] (2) (3) [0, 0, 2, 2, 1, 0, 1] && pairB (-4) (3) [0, 0, 0, 0, 1, 0, 0, 0, 1, 1, 2, 2, 2, 2, 1, 1, 0, 0, 0, 1, 2, 2, 2, 2, 1, 1, 1, 0, 0, 0, 2, 2, 2, 2, 1, 1, 1] (-1) (3) [0, 0, 1, 2, 2, 2, 0, 2, 1, 1, 0, 0, 1] && pairB (-4) (3) [0, 0, 0, 0, 1, 0, 0, 0, 1, 1, 2, 2, 2, 2, 1, 1, 0, 0, 0, 1, 2, 2, 2, 2, 1, 1, 1, 0, 0, 0, 2, 2, 2, 2, 1, 1, 1] (5) (3) [0, 0, 0, 1, 0, 0, 1, 2, 2, 2, 1, 1, 0, 0, 2, 2, 2, 1, 1] && pairB (-4) (3) [0, 0, 0, 0, 1, 0, 0, 0, 1, 1, 2, 2, 2, 2, 1, 1, 0, 0, 0, 1, 2, 2, 2, 2, 1, 1, 1, 0, 0, 0, 2, 2, 2, 2, 1, 1, 1] (5) (6) [0, 0, 0, 1, 1, 2, 2, 2, 2, 1, 2, 2, 2, 2, 0, 0, 2, 2, 1, 1, 0, 0, 0, 1, 1, 1, 0, 0, 0, 1, 1]) = true := by decide +kernel
theorem pa5 : (pairB (-1) (-3) [0, 0, 1, 0, 2, 2, 1] (-1) (3) [0, 0, 1, 2, 2, 2, 0, 2, 1, 1, 0, 0, 1] && pairB (-1) (-3) [0, 0, 1, 0, 2, 2, 1] (5) (3) [0, 0, 0, 1, 0, 0, 1, 2, 2, 2, 1, 1, 0, 0, 2, 2, 2, 1, 1] && pairB (-1) (-3) [0, 0, 1, 0, 2, 2, 1] (5) (6) [0, 0, 0, 1, 1, 2, 2, 2, 2, 1, 2, 2, 2, 2, 0, 0, 2, 2, 1, 1, 0, 0, 0, 1, 1, 1, 0, 0, 0, 1, 1] && pairB (-1) (-3) [0, 0, 1, 0, 2, 2, 1] (-4) (3) [0, 0, 0, 0, 1, 0, 0, 0, 1, 1, 2, 2, 2, 2, 1, 1, 0, 0, 0, 1, 2, 2, 2, 2, 1, 1, 1, 0, 0, 0, 2, 2, 2, 2, 1, 1, 1]) = true := by decide +kernel
theorem pa6 : (pairB (-4) (-3) [0, 0, 1, 1, 0, 0, 2, 0, 1, 2, 2, 2, 1] (2) (3) [0, 0, 2, 2, 1, 0, 1] && pairB (-4) (-3) [0, 0, 1, 1, 0, 0, 2, 0, 1, 2, 2, 2, 1] (5) (3) [0, 0, 0, 1, 0, 0, 1, 2, 2, 2, 1, 1, 0, 0, 2, 2, 2, 1, 1] && pairB (-4) (-3) [0, 0, 1, 1, 0, 0, 2, 0, 1, 2, 2, 2, 1] (5) (6) [0, 0, 0, 1, 1, 2, 2, 2, 2, 1, 2, 2, 2, 2, 0, 0, 2, 2, 1, 1, 0, 0, 0, 1, 1, 1, 0, 0, 0, 1, 1] && pairB (-4) (-3) [0, 0, 1, 1, 0, 0, 2, 0, 1, 2, 2, 2, 1] (-4) (3) [0, 0, 0, 0, 1, 0, 0, 0, 1, 1, 2, 2, 2, 2, 1, 1, 0, 0, 0, 1, 2, 2, 2, 2, 1, 1, 1, 0, 0, 0, 2, 2, 2, 2, 1, 1, 1]) = true := by decide +kernel
theorem pa7 : (pairB (2) (-3) [0, 0, 0, 2, 2, 2, 1, 1, 0, 0, 1, 2, 2, 2, 1, 0, 0, 1, 1] (2) (3) [0, 0, 2, 2, 1, 0, 1] && pairB (2) (-3) [0, 0, 0, 2, 2, 2, 1, 1, 0, 0, 1, 2, 2, 2, 1, 0, 0, 1, 1] (-1) (3) [0, 0, 1, 2, 2, 2, 0, 2, 1, 1, 0, 0, 1] && pairB (2) (-3) [0, 0, 0, 2, 2, 2, 1, 1, 0, 0, 1, 2, 2, 2, 1, 0, 0, 1, 1] (5) (6) [0, 0, 0, 1, 1, 2, 2, 2, 2, 1, 2, 2, 2, 2, 0, 0, 2, 2, 1, 1, 0, 0, 0, 1, 1, 1, 0, 0, 0, 1, 1] && pairB (2) (-3) [0, 0, 0, 2, 2, 2, 1, 1, 0, 0, 1, 2, 2, 2, 1, 0, 0, 1, 1] (-4) (3) [0, 0, 0, 0, 1, 0, 0, 0, 1, 1, 2, 2, 2, 2, 1, 1, 0, 0, 0, 1, 2, 2, 2, 2, 1, 1, 1, 0, 0, 0, 2, 2, 2, 2, 1, 1, 1]) = true := by decide +kernel
theorem pa8 : (pairB (-1) (-6) [0, 0, 0, 1, 1, 1, 0, 0, 0, 1, 1, 0, 0, 0, 2, 2, 0, 0, 1, 2, 2, 2, 2, 1, 1, 2, 2, 2, 2, 1, 1] (2) (3) [0, 0, 2, 2, 1, 0, 1] && pairB (-1) (-6) [0, 0, 0, 1, 1, 1, 0, 0, 0, 1, 1, 0, 0, 0, 2, 2, 0, 0, 1, 2, 2, 2, 2, 1, 1, 2, 2, 2, 2, 1, 1] (-1) (3) [0, 0, 1, 2, 2, 2, 0, 2, 1, 1, 0, 0, 1] && pairB (-1) (-6) [0, 0, 0, 1, 1, 1, 0, 0, 0, 1, 1, 0, 0, 0, 2, 2, 0, 0, 1, 2, 2, 2, 2, 1, 1, 2, 2, 2, 2, 1, 1] (5) (3) [0, 0, 0, 1, 0, 0, 1, 2, 2, 2, 1, 1, 0, 0, 2, 2, 2, 1, 1] && pairB (-1) (-6) [0, 0, 0, 1, 1, 1, 0, 0, 0, 1, 1, 0, 0, 0, 2, 2, 0, 0, 1, 2, 2, 2, 2, 1, 1, 2, 2, 2, 2, 1, 1] (-4) (3) [0, 0, 0, 0, 1, 0, 0, 0, 1, 1, 2, 2, 2, 2, 1, 1, 0, 0, 0, 1, 2, 2, 2, 2, 1, 1, 1, 0, 0, 0, 2, 2, 2, 2, 1, 1, 1]) = true := by decide +kernel
theorem pa9 : (pairB (-7) (-3) [0, 0, 0, 0, 2, 2, 2, 2, 1, 1, 1, 0, 0, 0, 1, 2, 2, 2, 2, 1, 1, 0, 0, 0, 1, 1, 2, 2, 2, 2, 1, 0, 0, 0, 1, 1, 1] (2) (3) [0, 0, 2, 2, 1, 0, 1] && pairB (-7) (-3) [0, 0, 0, 0, 2, 2, 2, 2, 1, 1, 1, 0, 0, 0, 1, 2, 2, 2, 2, 1, 1, 0, 0, 0, 1, 1, 2, 2, 2, 2, 1, 0, 0, 0, 1, 1, 1] (-1) (3) [0, 0, 1, 2, 2, 2, 0, 2, 1, 1, 0, 0, 1] && pairB (-7) (-3) [0, 0, 0, 0, 2, 2, 2, 2, 1, 1, 1, 0, 0, 0, 1, 2, 2, 2, 2, 1, 1, 0, 0, 0, 1, 1, 2, 2, 2, 2, 1, 0, 0, 0, 1, 1, 1] (5) (3) [0, 0, 0, 1, 0, 0, 1, 2, 2, 2, 1, 1, 0, 0, 2, 2, 2, 1, 1] && pairB (-7) (-3) [0, 0, 0, 0, 2, 2, 2, 2, 1, 1, 1, 0, 0, 0, 1, 2, 2, 2, 2, 1, 1, 0, 0, 0, 1, 1, 2, 2, 2, 2, 1, 0, 0, 0, 1, 1, 1] (5) (6) [0, 0, 0, 1, 1, 2, 2, 2, 2, 1, 2, 2, 2, 2, 0, 0, 2, 2, 1, 1, 0, 0, 0, 1, 1, 1, 0, 0, 0, 1, 1]) = true := by decide +kernel
end
section
structure LawOk (a b c d : Int) : Prop where
  ba : -64 ≤ a ∧ a ≤ 64
  bb : -64 ≤ b ∧ b ≤ 64
  bc : -64 ≤ c ∧ c ≤ 64
  bd : -64 ≤ d ∧ d ≤ 64
  n1 : 7 ≤ a * a - a * b + b * b ∧ a * a - a * b + b * b ≤ 64
  n2 : 7 ≤ c * c - c * d + d * d ∧ c * c - c * d + d * d ≤ 64
  t1 : ∀ v : Int, 1 ≤ v → v < normF a b → TurnOk DivOk (leastF a b v 0).1 (leastF a b v 0).2
  t2 : ∀ v : Int, 1 ≤ v → v < normF c d → TurnOk DivOkL (leastF c d v 0).1 (leastF c d v 0).2
  l1 : 7 ≤ (thirdsF a b).length ∧ (thirdsF a b).length ≤ 64
  l2 : 7 ≤ (thirdsF c d).length ∧ (thirdsF c d).length ≤ 64
  r1 : 0 < (rootsF a b (thirdsF a b).length).length
  r2 : 0 < (rootsF c d (thirdsF c d).length).length
  s1 : ∀ x y many : Int, (-4 ≤ x ∧ x ≤ 4) → (-4 ≤ y ∧ y ≤ 4) → 0 ≤ many → 0 ≤ symbolF a b (thirdsF a b) (stepX a b x y) y many
  s2 : ∀ many : Int, 0 ≤ many → symbolF a b (thirdsF a b) 1 (-1) many = Int.fmod (2 * Int.fdiv (a + 1) 3) 3
  s3 : ∀ many : Int, 0 ≤ many → 0 ≤ symbolF a b (thirdsF a b) c d many
  s4 : ∀ many : Int, 0 ≤ many → symbolF a b (thirdsF a b) c d many = symbolF c d (thirdsF c d) a b many
theorem grid_mem {x y : Int} (hx : -4 ≤ x ∧ x ≤ 4) (hy : -4 ≤ y ∧ y ≤ 4) : (x, y) ∈ grid := by
  have key : ∀ z : Int, (-4 ≤ z ∧ z ≤ 4) → z ∈ [-4, -3, -2, -1, 0, 1, 2, 3, 4] := by
    intro z hz
    simp only [List.mem_cons, List.not_mem_nil, or_false]
    omega
  exact List.mem_flatMap.mpr ⟨x, key x hx, List.mem_map.mpr ⟨y, key y hy, rfl⟩⟩
theorem lawOk_of {a b c d : Int} {ts us : List Int} (r1 : RowOk a b ts) (r2 : RowOk c d us) (h1 : oneB a b ts = true) (h2 : oneB c d us = true) (h3 : pairB a b ts c d us = true) : LawOk a b c d := by
  have e1 := r1.th
  have e2 := r2.th
  have v1 := r1.v
  have l2 := r2.l
  clear r1 r2
  subst e1 e2
  unfold oneB at h1 h2
  unfold pairB at h3
  simp only [Bool.and_eq_true, decide_eq_true_eq, beq_iff_eq] at h1 h2 h3
  obtain ⟨⟨⟨⟨⟨⟨⟨p1, p2⟩, p3⟩, p4⟩, p5⟩, p6⟩, p7⟩, p8⟩ := h1
  obtain ⟨⟨⟨⟨⟨⟨⟨q1, q2⟩, q3⟩, q4⟩, q5⟩, q6⟩, q7⟩, q8⟩ := h2
  refine ⟨p6, p7, q6, q7, p8, q8, v1, l2, p5, q5, p4, q4, fun x y many hx hy hm => ?_, fun many hm => ?_, fun many hm => ?_, fun many hm => ?_⟩
  · rw [symbol_many (by omega) p3 hm]
    have := List.all_eq_true.mp p2 (x, y) (grid_mem hx hy)
    simpa using this
  · rw [symbol_many (by omega) p3 hm]; exact p1
  · rw [symbol_many (by omega) p3 hm]; exact h3.1
  · rw [symbol_many (by omega) p3 hm, symbol_many (by omega) q3 hm]; exact h3.2
def primesL : List (Int × Int) := [(2, 3), (-1, 3), (5, 3), (5, 6), (-4, 3)]
def flipF (f : Bool) (p : Int × Int) : Int × Int := if f then (p.1 - p.2, -p.2) else p
abbrev LawOkP (p q : Int × Int) : Prop := LawOk p.1 p.2 q.1 q.2
theorem ok0_0_0 : LawOk (2) (3) (-1) (3) := by
  have h := pa0
  simp only [Bool.and_eq_true] at h
  exact lawOk_of th0 th1 on0 on1 h.1.1.1
theorem ok0_1_0 : LawOk (2) (3) (5) (3) := by
  have h := pa0
  simp only [Bool.and_eq_true] at h
  exact lawOk_of th0 th2 on0 on2 h.1.1.2
theorem ok0_2_0 : LawOk (2) (3) (5) (6) := by
  have h := pa0
  simp only [Bool.and_eq_true] at h
  exact lawOk_of th0 th3 on0 on3 h.1.2
theorem ok0_3_0 : LawOk (2) (3) (-4) (3) := by
  have h := pa0
  simp only [Bool.and_eq_true] at h
  exact lawOk_of th0 th4 on0 on4 h.2
theorem ok0_0_1 : LawOk (-1) (-3) (-1) (3) := by
  have h := pa5
  simp only [Bool.and_eq_true] at h
  exact lawOk_of th5 th1 on5 on1 h.1.1.1
theorem ok0_1_1 : LawOk (-1) (-3) (5) (3) := by
  have h := pa5
  simp only [Bool.and_eq_true] at h
  exact lawOk_of th5 th2 on5 on2 h.1.1.2
theorem ok0_2_1 : LawOk (-1) (-3) (5) (6) := by
  have h := pa5
  simp only [Bool.and_eq_true] at h
  exact lawOk_of th5 th3 on5 on3 h.1.2
theorem ok0_3_1 : LawOk (-1) (-3) (-4) (3) := by
  have h := pa5
  simp only [Bool.and_eq_true] at h
  exact lawOk_of th5 th4 on5 on4 h.2
theorem ok1_0_0 : LawOk (-1) (3) (2) (3) := by
  have h := pa1
  simp only [Bool.and_eq_true] at h
  exact lawOk_of th1 th0 on1 on0 h.1.1.1
theorem ok1_1_0 : LawOk (-1) (3) (5) (3) := by
  have h := pa1
  simp only [Bool.and_eq_true] at h
  exact lawOk_of th1 th2 on1 on2 h.1.1.2
theorem ok1_2_0 : LawOk (-1) (3) (5) (6) := by
  have h := pa1
  simp only [Bool.and_eq_true] at h
  exact lawOk_of th1 th3 on1 on3 h.1.2
theorem ok1_3_0 : LawOk (-1) (3) (-4) (3) := by
  have h := pa1
  simp only [Bool.and_eq_true] at h
  exact lawOk_of th1 th4 on1 on4 h.2
theorem ok1_0_1 : LawOk (-4) (-3) (2) (3) := by
  have h := pa6
  simp only [Bool.and_eq_true] at h
  exact lawOk_of th6 th0 on6 on0 h.1.1.1
theorem ok1_1_1 : LawOk (-4) (-3) (5) (3) := by
  have h := pa6
  simp only [Bool.and_eq_true] at h
  exact lawOk_of th6 th2 on6 on2 h.1.1.2
theorem ok1_2_1 : LawOk (-4) (-3) (5) (6) := by
  have h := pa6
  simp only [Bool.and_eq_true] at h
  exact lawOk_of th6 th3 on6 on3 h.1.2
theorem ok1_3_1 : LawOk (-4) (-3) (-4) (3) := by
  have h := pa6
  simp only [Bool.and_eq_true] at h
  exact lawOk_of th6 th4 on6 on4 h.2
theorem ok2_0_0 : LawOk (5) (3) (2) (3) := by
  have h := pa2
  simp only [Bool.and_eq_true] at h
  exact lawOk_of th2 th0 on2 on0 h.1.1.1
theorem ok2_1_0 : LawOk (5) (3) (-1) (3) := by
  have h := pa2
  simp only [Bool.and_eq_true] at h
  exact lawOk_of th2 th1 on2 on1 h.1.1.2
theorem ok2_2_0 : LawOk (5) (3) (5) (6) := by
  have h := pa2
  simp only [Bool.and_eq_true] at h
  exact lawOk_of th2 th3 on2 on3 h.1.2
theorem ok2_3_0 : LawOk (5) (3) (-4) (3) := by
  have h := pa2
  simp only [Bool.and_eq_true] at h
  exact lawOk_of th2 th4 on2 on4 h.2
theorem ok2_0_1 : LawOk (2) (-3) (2) (3) := by
  have h := pa7
  simp only [Bool.and_eq_true] at h
  exact lawOk_of th7 th0 on7 on0 h.1.1.1
theorem ok2_1_1 : LawOk (2) (-3) (-1) (3) := by
  have h := pa7
  simp only [Bool.and_eq_true] at h
  exact lawOk_of th7 th1 on7 on1 h.1.1.2
theorem ok2_2_1 : LawOk (2) (-3) (5) (6) := by
  have h := pa7
  simp only [Bool.and_eq_true] at h
  exact lawOk_of th7 th3 on7 on3 h.1.2
theorem ok2_3_1 : LawOk (2) (-3) (-4) (3) := by
  have h := pa7
  simp only [Bool.and_eq_true] at h
  exact lawOk_of th7 th4 on7 on4 h.2
theorem ok3_0_0 : LawOk (5) (6) (2) (3) := by
  have h := pa3
  simp only [Bool.and_eq_true] at h
  exact lawOk_of th3 th0 on3 on0 h.1.1.1
theorem ok3_1_0 : LawOk (5) (6) (-1) (3) := by
  have h := pa3
  simp only [Bool.and_eq_true] at h
  exact lawOk_of th3 th1 on3 on1 h.1.1.2
theorem ok3_2_0 : LawOk (5) (6) (5) (3) := by
  have h := pa3
  simp only [Bool.and_eq_true] at h
  exact lawOk_of th3 th2 on3 on2 h.1.2
theorem ok3_3_0 : LawOk (5) (6) (-4) (3) := by
  have h := pa3
  simp only [Bool.and_eq_true] at h
  exact lawOk_of th3 th4 on3 on4 h.2
theorem ok3_0_1 : LawOk (-1) (-6) (2) (3) := by
  have h := pa8
  simp only [Bool.and_eq_true] at h
  exact lawOk_of th8 th0 on8 on0 h.1.1.1
theorem ok3_1_1 : LawOk (-1) (-6) (-1) (3) := by
  have h := pa8
  simp only [Bool.and_eq_true] at h
  exact lawOk_of th8 th1 on8 on1 h.1.1.2
theorem ok3_2_1 : LawOk (-1) (-6) (5) (3) := by
  have h := pa8
  simp only [Bool.and_eq_true] at h
  exact lawOk_of th8 th2 on8 on2 h.1.2
theorem ok3_3_1 : LawOk (-1) (-6) (-4) (3) := by
  have h := pa8
  simp only [Bool.and_eq_true] at h
  exact lawOk_of th8 th4 on8 on4 h.2
theorem ok4_0_0 : LawOk (-4) (3) (2) (3) := by
  have h := pa4
  simp only [Bool.and_eq_true] at h
  exact lawOk_of th4 th0 on4 on0 h.1.1.1
theorem ok4_1_0 : LawOk (-4) (3) (-1) (3) := by
  have h := pa4
  simp only [Bool.and_eq_true] at h
  exact lawOk_of th4 th1 on4 on1 h.1.1.2
theorem ok4_2_0 : LawOk (-4) (3) (5) (3) := by
  have h := pa4
  simp only [Bool.and_eq_true] at h
  exact lawOk_of th4 th2 on4 on2 h.1.2
theorem ok4_3_0 : LawOk (-4) (3) (5) (6) := by
  have h := pa4
  simp only [Bool.and_eq_true] at h
  exact lawOk_of th4 th3 on4 on3 h.2
theorem ok4_0_1 : LawOk (-7) (-3) (2) (3) := by
  have h := pa9
  simp only [Bool.and_eq_true] at h
  exact lawOk_of th9 th0 on9 on0 h.1.1.1
theorem ok4_1_1 : LawOk (-7) (-3) (-1) (3) := by
  have h := pa9
  simp only [Bool.and_eq_true] at h
  exact lawOk_of th9 th1 on9 on1 h.1.1.2
theorem ok4_2_1 : LawOk (-7) (-3) (5) (3) := by
  have h := pa9
  simp only [Bool.and_eq_true] at h
  exact lawOk_of th9 th2 on9 on2 h.1.2
theorem ok4_3_1 : LawOk (-7) (-3) (5) (6) := by
  have h := pa9
  simp only [Bool.and_eq_true] at h
  exact lawOk_of th9 th3 on9 on3 h.2
theorem law_ok (i j : Nat) (hi : i < 5) (hj : j < 4) (f : Bool) : LawOkP (flipF f (primesL.getD i (0, 0))) ((primesL.eraseIdx i).getD j (0, 0)) := by
  rcases i with _ | _ | _ | _ | _ | i
  · rcases j with _ | _ | _ | _ | j
    · cases f
      · exact ok0_0_0
      · exact ok0_0_1
    · cases f
      · exact ok0_1_0
      · exact ok0_1_1
    · cases f
      · exact ok0_2_0
      · exact ok0_2_1
    · cases f
      · exact ok0_3_0
      · exact ok0_3_1
    · omega
  · rcases j with _ | _ | _ | _ | j
    · cases f
      · exact ok1_0_0
      · exact ok1_0_1
    · cases f
      · exact ok1_1_0
      · exact ok1_1_1
    · cases f
      · exact ok1_2_0
      · exact ok1_2_1
    · cases f
      · exact ok1_3_0
      · exact ok1_3_1
    · omega
  · rcases j with _ | _ | _ | _ | j
    · cases f
      · exact ok2_0_0
      · exact ok2_0_1
    · cases f
      · exact ok2_1_0
      · exact ok2_1_1
    · cases f
      · exact ok2_2_0
      · exact ok2_2_1
    · cases f
      · exact ok2_3_0
      · exact ok2_3_1
    · omega
  · rcases j with _ | _ | _ | _ | j
    · cases f
      · exact ok3_0_0
      · exact ok3_0_1
    · cases f
      · exact ok3_1_0
      · exact ok3_1_1
    · cases f
      · exact ok3_2_0
      · exact ok3_2_1
    · cases f
      · exact ok3_3_0
      · exact ok3_3_1
    · omega
  · rcases j with _ | _ | _ | _ | j
    · cases f
      · exact ok4_0_0
      · exact ok4_0_1
    · cases f
      · exact ok4_1_0
      · exact ok4_1_1
    · cases f
      · exact ok4_2_0
      · exact ok4_2_1
    · cases f
      · exact ok4_3_0
      · exact ok4_3_1
    · omega
  · omega
end
section
/-- refs to pairs of ints of a ledger -/
inductive PairsAre (news : List (Addr × Obj)) : List Value → List (Int × Int) → Prop
  | nil : PairsAre news [] []
  | cons {d : Addr} {a b : Int} {ta tb : Tok} {vs : List Value} {ps : List (Int × Int)} : (d, tupO [.int a ta, .int b tb]) ∈ news → PairsAre news vs ps → PairsAre news (.ref d :: vs) ((a, b) :: ps)
theorem PairsAre.length {news : List (Addr × Obj)} {vs : List Value} {ps : List (Int × Int)} (P : PairsAre news vs ps) : vs.length = ps.length := by
  induction P with
  | nil => rfl
  | cons _ _ ih => rw [List.length_cons, List.length_cons, ih]
theorem PairsAre.cut {news : List (Addr × Obj)} : ∀ {vs : List Value} {ps : List (Int × Int)} (k : Nat), PairsAre news vs ps → k < vs.length →
    ∃ p d q ta tb, kl_cut vs k = some (p, .ref d, q) ∧ (d, tupO [.int (ps.getD k (0, 0)).1 ta, .int (ps.getD k (0, 0)).2 tb]) ∈ news ∧ PairsAre news (p ++ q) (ps.eraseIdx k)
  | _, _, 0, .cons (d := d) (ta := ta) (tb := tb) (vs := vs) hm P, _ => ⟨[], d, vs, ta, tb, rfl, hm, P⟩
  | _, _, k + 1, .cons (d := d) hm P, hk => by
    obtain ⟨p, e, q, ta, tb, h1, h2, h3⟩ := P.cut k (by simpa using hk)
    refine ⟨.ref d :: p, e, q, ta, tb, ?_, ?_, ?_⟩
    · rw [kl_cut, h1]
    · simpa using h2
    · rw [List.cons_append, List.eraseIdx_cons_succ]; exact .cons hm h3
section
variable {prog : Program} {w : World} {A : Around} {E : Value → Shared → Prop} {s : Shared} {h₀ : Heap} {L : Addr} {m : Str → Option Value} {rest : List (Addr × Obj)}
theorem pop_pair {l : Addr} {vs : List Value} {ps : List (Int × Int)} {n : Nat} {i : Int} {u : Tok} {Q : Value → Shared → Prop} (F : Fr h₀ L s.heap m) (N : News h₀ L s.heap ((l, listOf vs.toArray n) :: rest)) (hr : ∀ p ∈ rest, p.1 ≠ l) (P : PairsAre rest vs ps)
    (h0 : 0 ≤ i) (h1 : i < ps.length) (hz : ps.length < 2 ^ 20)
    (h : ∀ h' d ta tb vs', (d, tupO [.int (ps.getD i.toNat (0, 0)).1 ta, .int (ps.getD i.toNat (0, 0)).2 tb]) ∈ rest → PairsAre rest vs' (ps.eraseIdx i.toNat) → Fr h₀ L h' m → News h₀ L h' ((l, listOf vs'.toArray (n + 1)) :: rest) → Q (.ref d) { s with heap := h' }) :
    wpAny (model prog w) A (call (.builtin "list.pop") [.ref l, .int i u]) Q E s := by
  have hl := P.length
  obtain ⟨p, d, q, ta, tb, e1, e2, e3⟩ := P.cut i.toNat (by omega)
  refine kl_popAt (k := i.toNat) (p := p) (q := q) F N (by simp only [Builtin.List.listFitsIndex, Bool.and_eq_true, decide_eq_true_eq]; omega) ?_ e1 (Upd.head hr) (by rw [sizeLine_eq]; show vs.length ≤ _; omega) fun h' F' N' => h h' d ta tb _ e2 e3 F' N'
  have hi : ¬ i < 0 := by omega
  have hs : (vs.toArray.size : Int) = vs.length := by rw [List.size_toArray]
  simp only [seqIndex?, if_neg hi]
  rw [if_pos (by simp only [Bool.and_eq_true, decide_eq_true_eq]; exact ⟨h0, by show i < ((vs.length : Nat) : Int); omega⟩)]
theorem pair_eq {l b : Addr} {x y z t : Int} {t1 t2 t3 t4 : Tok} {Q : Value → Shared → Prop} (hl : IsTup s.heap l #[.int x t1, .int y t2]) (hb : IsTup s.heap b #[.int z t3, .int t t4]) (hu : A.units < cLine)
    (h : Q (.bool (decide ((x, y) = (z, t)))) s) : wpAny (model prog w) A (compareOp .Eq (.ref l) (.ref b)) Q E s := by
  refine SeqAt.eq_tupleAt (e := fun j => if j = 0 then (x == z) else (y == t)) hl hb hu (fun j h1 h2 => ?_) ?_
  · have hj : j = 0 ∨ j = 1 := by simp at h1; omega
    rcases hj with rfl | rfl
    · exact SeqAt.EqAt.int_int x t1 z t3
    · exact SeqAt.EqAt.int_int y t2 t t4
  · have e : ((List.range (min (#[Value.int x t1, Value.int y t2] : Array Value).size (#[Value.int z t3, Value.int t t4] : Array Value).size)).all (fun j => if j = 0 then (x == z) else (y == t)) && (#[Value.int x t1, Value.int y t2] : Array Value).size == (#[Value.int z t3, Value.int t t4] : Array Value).size) = decide ((x, y) = (z, t)) := by
      have e1 : (List.range (min (#[Value.int x t1, Value.int y t2] : Array Value).size (#[Value.int z t3, Value.int t t4] : Array Value).size)) = [0, 1] := rfl
      rw [e1]
      by_cases h1 : x = z <;> by_cases h2 : y = t <;> simp [h1, h2]
    rw [e]
    exact h
theorem pair_item0 {value slice : Expr} {d : Addr} {x y : Int} {t1 t2 u : Tok} {Q : Value → Shared → Prop} (hl : IsTup s.heap d #[.int x t1, .int y t2]) (h : Q (.int x t1) s)
    (hs : subscripted slice false (.ref d) (.int 0 u) = operate [.ref d, .int 0 u] (getItem (.ref d) (.int 0 u)) := by with_unfolding_all rfl) : wpAny (model prog w) A (subscriptTail value slice (.ref d) (.int 0 u)) Q E s :=
  item_tupleT (l := [.int x t1, .int y t2]) (j := 0) hl (by decide) (by decide) (by rfl) rfl h hs
theorem pair_item1 {value slice : Expr} {d : Addr} {x y : Int} {t1 t2 u : Tok} {Q : Value → Shared → Prop} (hl : IsTup s.heap d #[.int x t1, .int y t2]) (h : Q (.int y t2) s)
    (hs : subscripted slice false (.ref d) (.int 1 u) = operate [.ref d, .int 1 u] (getItem (.ref d) (.int 1 u)) := by with_unfolding_all rfl) : wpAny (model prog w) A (subscriptTail value slice (.ref d) (.int 1 u)) Q E s :=
  item_tupleT (l := [.int x t1, .int y t2]) (j := 1) hl (by decide) (by decide) (by rfl) rfl h hs
/-- where the two ways of an if meet -/
def CutEnd (h₀ : Heap) (L : Addr) (x : Str) (m₀ : Str → Option Value) (J : Value → List (Addr × Obj) → Prop) (s : Shared) (fl : Flow) (s' : Shared) : Prop :=
  fl = .next ∧ ∃ v nw h' tk', s' = { s with heap := h', toks := tk' } ∧ Fr h₀ L h' (fun y => if y = x then some v else m₀ y) ∧ News h₀ L h' nw ∧ J v nw
theorem CutEnd.intro {x : Str} {m₀ : Str → Option Value} {J : Value → List (Addr × Obj) → Prop} {h' : Heap} {tk' : Nat} {v : Value} {nw : List (Addr × Obj)} (F : Fr h₀ L h' (fun y => if y = x then some v else m₀ y)) (N : News h₀ L h' nw) (j : J v nw) :
    CutEnd h₀ L x m₀ J s .next { s with heap := h', toks := tk' } := ⟨rfl, v, nw, h', tk', rfl, F, N, j⟩
theorem fr_same {h : Heap} {x : Str} {v : Value} {m₀ : Str → Option Value} (F : Fr h₀ L h m₀) (hx : m₀ x = some v) : Fr h₀ L h (fun y => if y = x then some v else m₀ y) := by
  have e : (fun y => if y = x then some v else m₀ y) = m₀ := by
    funext y
    by_cases h : y = x
    · rw [if_pos h, h, hx]
    · rw [if_neg h]
  rw [e]; exact F
theorem cut_if {c : Sem Flow} {Q : Flow → Shared → Prop} {m₀ : Str → Option Value} {nw₀ : List (Addr × Obj)} (x : Str) (J : Value → List (Addr × Obj) → Prop) (_F : Fr h₀ L s.heap m₀) (_N : News h₀ L s.heap nw₀)
    (h1 : wpAny (model prog w) A c (CutEnd h₀ L x m₀ J s) E s)
    (h2 : ∀ v nw h' tk', J v nw → Fr h₀ L h' (fun y => if y = x then some v else m₀ y) → News h₀ L h' nw → Q .next { s with heap := h', toks := tk' }) : wpAny (model prog w) A c Q E s :=
  wpAny_mono h1 (fun fl s' q => by
    obtain ⟨rfl, v, nw, h', tk', rfl, F, N, j⟩ := q
    exact h2 v nw h' tk' j F N) fun _ _ e => e
end
end
section
local macro_rules | `(tactic| walk_at "pad of mine") => `(tactic| fail "pad")
local macro_rules | `(tactic| walk_at "pad of mine") => `(tactic| fail "pad")
local macro_rules | `(tactic| walk_at "pad of mine") => `(tactic| fail "pad")
local macro_rules | `(tactic| walk_at "binaryOp Add int int") => `(tactic| (k_here; refine addI ?_; intro _ _))
local macro_rules | `(tactic| walk_at "binaryOp Sub int int") => `(tactic| (k_here; refine subI ?_; intro _ _))
local macro_rules | `(tactic| walk_at "binaryOp Mult int int") => `(tactic| (k_here; refine mulI ?hm ?_; (case hm => first | (refine Or.inl ?_; omega) | (refine Or.inr ?_; omega) | exact Or.inl (fmod_small _ (by omega) (by omega))); intro _ _))
local macro_rules | `(tactic| walk_at "binaryOp FloorDiv int int") => `(tactic| (k_here; refine fdivI ?hb ?hp ?_; (case hb => omega); (case hp => omega); intro _ _))
local macro_rules | `(tactic| walk_at "binaryOp Mod int int") => `(tactic| (k_here; refine fmodI ?hb ?_; (case hb => omega); intro _ _))
local macro_rules | `(tactic| walk_at "unaryOp USub int") => `(tactic| (k_here; refine negI ?_; intro _ _))
local macro_rules | `(tactic| walk_at "eval Constant int") => `(tactic| (k_here; refine constI ?_; intro _ _))
local macro_rules | `(tactic| walk_at "my_steps") => `(tactic| repeat' ((first | (k_unfold; (try dsimp only)) | walk1 | (dsimp only; walk1) | fail "no step")))
local macro_rules | `(tactic| walk_at "LeaveK") => `(tactic| refine Stop.out ?_)
local macro_rules | `(tactic| walk_at "call ref") => `(tactic| refine Stop.out ?_)
local macro_rules | `(tactic| k_all) => `(tactic| with_reducible assumption)
local macro_rules | `(tactic| walk_at "my_call") => `(tactic| ((case B => k_asm); (case F => k_asm); (case X => k_asm); (case N => k_asm); (case T => k_asm); (case k => first | exact rfl | assumption); (case d => ktr_room); (case u => ktr_units)))
local macro_rules | `(tactic| walk_at "my_call4") => `(tactic| ((case B4 => k_asm); (case F4 => k_asm); (case X4 => k_asm); (case N4 => k_asm); (case T4 => k_asm); (case k4 => first | exact rfl | assumption); (case d4 => ktr_room); (case u4 => ktr_units)))
local macro_rules | `(tactic| walk_at "my_call2") => `(tactic| ((case B2 => k_asm); (case F2 => k_asm); (case X2 => k_asm); (case N2 => k_asm); (case T2 => k_asm); (case k2 => first | exact rfl | assumption); (case d2 => ktr_room); (case u2 => ktr_units)))
local macro_rules | `(tactic| walk_at "my_call3") => `(tactic| ((case B3 => k_asm); (case F3 => k_asm); (case X3 => k_asm); (case N3 => k_asm); (case T3 => k_asm); (case k3 => first | exact rfl | assumption); (case d3 => ktr_room); (case u3 => ktr_units)))
local macro_rules | `(tactic| walk_at "compareOp NotEq ref ref") => `(tactic| refine Stop.out ?_)
local macro_rules | `(tactic| walk_at "call builtin:list.pop") => `(tactic| refine Stop.out ?_)
local macro_rules | `(tactic| walk_at "subscriptTail Name Slice ref ref") => `(tactic| refine Stop.out ?_)
local macro_rules | `(tactic| walk_at "subscriptTail") => `(tactic| ((with_reducible show wpAny _ _ (subscriptTail _ (PySem.Expr.Slice _ _ _ _) (Value.ref _) (Value.ref _)) _ _ _); refine Stop.out ?_))
local macro_rules | `(tactic| walk_at "subscriptTail") => `(tactic| ((with_reducible show wpAny _ _ (subscriptTail _ _ (Value.ref _) (Value.int _ _)) _ _ _); refine Stop.out ?_))
local macro_rules | `(tactic| walk_at "exec Assign cons ListComp") => `(tactic| refine Stop.out ?_)
local macro_rules | `(tactic| walk_at "CompSrc") => `(tactic| refine Stop.out ?_)
local macro_rules | `(tactic| walk_at "CompEnd") => `(tactic| refine Stop.out ?_)
section
variable {prog : Program} {w : World} {A : Around} {E : Value → Shared → Prop} {s : Shared} {h₀ : Heap} {L : Addr} {m : Str → Option Value} {news : List (Addr × Obj)}
theorem row_upto2 {value slice : Expr} {l : Addr} {vs : List Value} {ns : List Int} {y : Int} {t : Tok} {Q : Value → Shared → Prop} (F : Fr h₀ L s.heap m) (N : News h₀ L s.heap news) (hl : s.heap.IsList l vs.toArray) (hi : IntsAre vs ns) (h0 : 0 ≤ y) (hn : ns.length < 2 ^ 20)
    (h : ∀ h' D vs', IntsAre vs' (ns.take y.toNat) → Fr h₀ L h' m → News h₀ L h' ((D, listOf vs'.toArray 0) :: news) → (∀ p ∈ news, p.1 < D) → Q (.ref D) { s with heap := h' })
    (hs : subscripted slice false (.ref l) (.ref s.heap.objs.size) = operate [.ref s.heap.objs.size, .ref l] (getItem (.ref l) (.ref s.heap.objs.size)) := by with_unfolding_all rfl)
    (ht : ∀ r, letTemporaryGo value (.ref l) r = pure () := by intro _; with_unfolding_all rfl) :
    wpAny (model prog w) A (subscriptTail value slice (.ref l) (.ref s.heap.objs.size)) Q E { s with heap := s.heap.push { cls := .type "slice", data := .fields #[.none, .int y t, .none] } } :=
  slice_list F N hl .none (.int y t) (fun h' F' N' => h h' _ _ (slice_ints_uptoW hi h0) F' N' fun p hp => Nat.lt_succ_of_lt (Heap.lt_size (N p hp).1)) hs ht (by rw [sizeLine_eq]; simp only [List.size_toArray, hi.length]; omega)
theorem row_from2 {value slice : Expr} {l : Addr} {vs : List Value} {ns : List Int} {y : Int} {t : Tok} {Q : Value → Shared → Prop} (F : Fr h₀ L s.heap m) (N : News h₀ L s.heap news) (hl : s.heap.IsList l vs.toArray) (hi : IntsAre vs ns) (h0 : 0 ≤ y) (hn : ns.length < 2 ^ 20)
    (h : ∀ h' D vs', IntsAre vs' (ns.drop y.toNat) → Fr h₀ L h' m → News h₀ L h' ((D, listOf vs'.toArray 0) :: news) → (∀ p ∈ news, p.1 < D) → Q (.ref D) { s with heap := h' })
    (hs : subscripted slice false (.ref l) (.ref s.heap.objs.size) = operate [.ref s.heap.objs.size, .ref l] (getItem (.ref l) (.ref s.heap.objs.size)) := by with_unfolding_all rfl)
    (ht : ∀ r, letTemporaryGo value (.ref l) r = pure () := by intro _; with_unfolding_all rfl) :
    wpAny (model prog w) A (subscriptTail value slice (.ref l) (.ref s.heap.objs.size)) Q E { s with heap := s.heap.push { cls := .type "slice", data := .fields #[.int y t, .none, .none] } } :=
  slice_list F N hl (.int y t) .none (fun h' F' N' => h h' _ _ (slice_ints_fromW hi h0) F' N' fun p hp => Nat.lt_succ_of_lt (Heap.lt_size (N p hp).1)) hs ht (by rw [sizeLine_eq]; simp only [List.size_toArray, hi.length]; omega)
end
local macro_rules | `(tactic| walk_at "call builtin:len") => `(tactic| refine Stop.out ?_)
local macro_rules | `(tactic| walk_at "binaryOp Add ref ref") => `(tactic| refine Stop.out ?_)
structure IfMark : Prop where
  mk' : True
local macro_rules | `(tactic| walk_at "exec If") => `(tactic| ((fail_if_success (with_reducible rename IfMark => ifMk')); (fail_if_success (with_reducible show wpAny _ _ _ (CutEnd _ _ _ _ _ _) _ _)); refine Stop.out ?_))
local macro_rules | `(tactic| walk_at "compareOp Eq ref ref") => `(tactic| refine Stop.out ?_)
theorem ne6 {d1 d2 d3 d4 d5 d6 l : Addr} {o1 o2 o3 o4 o5 o6 : Obj} (h : d1 < l ∧ d2 < l ∧ d3 < l ∧ d4 < l ∧ d5 < l ∧ d6 < l) : ∀ q ∈ [(d1, o1), (d2, o2), (d3, o3), (d4, o4), (d5, o5), (d6, o6)], q.1 ≠ l := by
  intro q hq
  simp only [List.mem_cons, List.not_mem_nil, or_false] at hq
  obtain ⟨h1, h2, h3, h4, h5, h6⟩ := h
  rcases hq with rfl | rfl | rfl | rfl | rfl | rfl
  · exact Nat.ne_of_lt h1
  · exact Nat.ne_of_lt h2
  · exact Nat.ne_of_lt h3
  · exact Nat.ne_of_lt h4
  · exact Nat.ne_of_lt h5
  · exact Nat.ne_of_lt h6
local macro_rules | `(tactic| walk_at "CutEnd") => `(tactic| refine Stop.out ?_)
theorem keeps28 : KeepsF 28 := ⟨fun P => by k_is⟩
theorem keeps21 : KeepsF 21 := ⟨fun P => by k_is⟩
theorem first_only {α : Type} {x : α} {l : List α} : ∀ q ∈ [x], q ∈ x :: l := fun q hq => by rw [List.mem_singleton.mp hq]; exact .head _
theorem law_walk : PySem.Challenge.rw_sr0014_01.Holds := hd (by
  k_go0
  all_goals try k_fold
  walk_at "my_steps"
  refine Stop.mk ?_
  k_dflt (refine LCg.Assign_ListComp_U (F₀ := by k_asm) (by rfl) (by with_unfolding_all rfl) (by with_unfolding_all rfl) (by decide) (by rfl) (by decide) (by rfl) (by rfl) (by rfl) ?_)
  k_unmd
  (try k_fold)
  walk_at "my_steps"
  refine Stop.mk ?_
  rename Fr _ _ _ _ => F1
  rename News _ _ _ _ => N1
  rename IntsAre _ _ => hI
  rename Heap.IsList _ _ _ => hL
  rename (¬ (63 : Int) < _) => h63
  refine row_upto2 (s := ⟨_, _, _, _, _⟩) F1 N1 (Fr.lst F1 hL) hI (by decide) (by omega) ?_
  intro h2 D2 vs2 hi2 F2 N2 _
  clear F1 N1
  k_unmd
  (try k_fold)
  walk_at "my_steps"
  refine Stop.mk ?_
  refine LCg.CompSrc.ledger (by rfl) F2 N2 (.head _) (by rw [sizeLine_eq]; have := hi2.length; simp only [List.size_toArray, this, List.length_take]; omega) ?_
  intro g3
  refine' kcf_list (fun k => Int.fmod k (10 ^ Int.toNat 6)) hi2 (fun k t I oI C oC D m₂ ys h tk E' hk hC hx F N off ne => ?_) ?_
  · intro hMark
    k_unmd
    (try k_fold)
    walk_at "my_steps"
    refine Stop.mk ?_
    rename Fr _ _ _ _ => F5
    rename News _ _ _ _ => N5
    exact LCg.CompEnd.intro F5 N5 _ (fun _ h => h) off (.inr ⟨_, .head _, rfl, _, rfl⟩) (kcf_el rfl rfl rfl)
  · unfold KPfDone
    intro ys hys
    unfold LCg.FinA
    intro D4 h4 tk4 F4 N4 o4
    clear o4 F2
    have N5 := kst_newsOf N4 (l' := [(D4, LCg.lst ys)]) (fun q hq => by rw [List.mem_singleton.mp hq]; exact .head _)
    clear N4 N2
    (try dsimp only at F4 N5 ⊢)
    k_unmd
    (try k_fold)
    walk_at "my_steps"
    refine Stop.mk ?_
    rename News _ _ _ _ => N6
    have hxl := hys.length
    simp only [List.length_map, List.length_take] at hxl
    refine row_len (R := ⟨.tail _ (.head _), hys, by simp only [List.length_map, List.length_take]; omega⟩) N6 ?_
    intro _ _
    k_unmd
    (try k_fold)
    walk_at "my_steps"
    refine Stop.mk ?_
    rename News _ _ _ _ => N7
    rename Fr _ _ _ _ => F7
    refine kba_turn (value' := PySem.Expr.Name (PySem.Str.ofString "_") ⟨0, 0, 0, 0⟩) (fun _ => rfl) ?_
    refine row_from2 (s := ⟨_, _, _, _, _⟩) F7 N7 (News.isList N7 (.head _)) (.cons 0 _ (.cons 0 _ (.cons 47 _ (.cons 258 _ .nil)))) (by omega) (by decide) ?_
    intro h8 D8 vs8 hi8 F8 N8 _
    k_unmd
    (try k_fold)
    walk_at "my_steps"
    refine Stop.mk ?_
    refine add_lists_ints F8 N8 (News.isList N8 (.tail _ (.tail _ (.head _)))) (News.isList N8 (.head _)) hys hi8 ?_ (by rw [sizeLine_eq]; simp only [List.length_map, List.length_take, List.length_drop, List.length_cons, List.length_nil]; omega)
    intro h9 F9 N9 hdr
    have N10 := kst_newsOf N9 (first_only)
    clear N9 N8 F8
    (try dsimp only at F9 N10 ⊢)
    k_unmd
    (try k_fold)
    walk_at "my_steps"
    refine Stop.mk ?_
    obtain ⟨dl, hdv, hd4⟩ : ∃ dl : List Int, IntsAre (ys ++ vs8) dl ∧ dl.length = 4 := ⟨_, hdr, by simp only [List.length_append, List.length_map, List.length_take, List.length_drop, List.length_cons, List.length_nil]; omega⟩
    rename Fr _ _ _ _ => F11
    rename News _ _ _ _ => N11
    refine row_item (R := ⟨.tail _ (.tail _ (.tail _ (.tail _ (.tail _ (.tail _ (.head _)))))), hdv, by omega⟩) N11 (by decide) (by omega) ?_
    intro _
    k_unmd
    (try k_fold)
    walk_at "my_steps"
    refine Stop.mk ?_
    have hi5 := fmod_bd (dl.getD (Int.toNat 0) 0) (n := 5) (by decide)
    have hj4 := fmod_bd (dl.getD (Int.toNat 1) 0) (n := 4) (by decide)
    have hlen4 : (primesL.eraseIdx (Int.fmod (dl.getD (Int.toNat 0) 0) 5).toNat).length = 4 := by
      rw [List.length_eraseIdx, if_pos (by show _ < 5; omega)]
      rfl
    rename (_ < _ ∧ _ < _ ∧ _ < _ ∧ _ < _ ∧ _ < _ ∧ _ < _) => lt6
    rename Fr _ _ _ _ => F12
    rename News _ _ _ _ => N12
    k_dflt (refine' pop_pair (ps := primesL) F12 N12 ?hr1 ?P1 hi5.1 ?hi1 (by show (5 : Nat) < _; omega) ?_)
    case hr1 => exact ne6 lt6
    case hi1 => show _ < (5 : Int); exact hi5.2
    case P1 => exact .cons (.tail _ (.tail _ (.tail _ (.tail _ (.head _))))) (.cons (.tail _ (.tail _ (.tail _ (.head _)))) (.cons (.tail _ (.tail _ (.head _))) (.cons (.tail _ (.head _)) (.cons (.head _) .nil))))
    intro h13 d1 ta1 tb1 vs13 hm1 P1 F13 N13
    clear F12 N12
    k_unmd
    (try k_fold)
    walk_at "my_steps"
    refine Stop.mk ?_
    rename Fr _ _ _ _ => F14
    rename News _ _ _ _ => N14
    refine row_item (R := ⟨.tail _ (.tail _ (.tail _ (.tail _ (.tail _ (.tail _ (.head _)))))), hdv, by omega⟩) N14 (by decide) (by omega) ?_
    intro _
    k_unmd
    (try k_fold)
    walk_at "my_steps"
    refine Stop.mk ?_
    rename Fr _ _ _ _ => F15
    rename News _ _ _ _ => N15
    k_dflt (refine' pop_pair F15 N15 ?hr2 P1 hj4.1 ?hj1 (by omega) ?_)
    case hr2 => exact ne6 lt6
    case hj1 => rw [hlen4]; exact hj4.2
    intro h16 d2 ta2 tb2 vs16 hm2 _ F16 N16
    obtain ⟨nw, N17, m1, m2, m3⟩ : ∃ nw, News _ _ h16 nw ∧ _ ∈ nw ∧ _ ∈ nw ∧ (_, listOf (ys ++ vs8).toArray 0) ∈ nw := ⟨_, kst_newsOf N16 (fun q hq => List.mem_cons_of_mem _ hq), hm1, hm2, .tail _ (.tail _ (.tail _ (.tail _ (.tail _ (.head _)))))⟩
    clear hm1 hm2 N16
    (try clear N15)
    (try clear F15)
    (try clear N13)
    (try clear F13)
    clear P1
    k_unmd
    (try k_fold)
    walk_at "my_steps"
    refine Stop.mk ?_
    have LK := law_ok (Int.fmod (dl.getD (Int.toNat 0) 0) 5).toNat (Int.fmod (dl.getD (Int.toNat 1) 0) 4).toNat (by omega) (by omega) (decide (Int.fmod (Int.fdiv (dl.getD (Int.toNat 0) 0) 5) 2 = 1))
    generalize primesL.getD (Int.fmod (dl.getD (Int.toNat 0) 0) 5).toNat (0, 0) = p1 at m1 LK
    generalize (primesL.eraseIdx (Int.fmod (dl.getD (Int.toNat 0) 0) 5).toNat).getD (Int.fmod (dl.getD (Int.toNat 1) 0) 4).toNat (0, 0) = p2 at m2 LK
    clear hi5 hj4 hlen4
    rename Fr _ _ _ _ => F18
    rename News _ _ _ _ => N18
    refine cut_if (Str.ofString "one") (fun v nw' => ∃ d ta tb, v = .ref d ∧ (d, tupO [.int (flipF (decide (Int.fmod (Int.fdiv (dl.getD (Int.toNat 0) 0) 5) 2 = 1)) p1).1 ta, .int (flipF (decide (Int.fmod (Int.fdiv (dl.getD (Int.toNat 0) 0) 5) 2 = 1)) p1).2 tb]) ∈ nw' ∧ ∀ q ∈ nw, q ∈ nw') F18 N18 ?_ ?_
    · walk_at "my_steps"
      refine Stop.mk ?_
      rename News _ _ _ _ => N19
      refine row_item (R := ⟨m3, hdv, by omega⟩) N19 (by decide) (by omega) ?_
      intro _
      walk_at "my_steps"
      · refine Stop.mk ?_
        rename News _ _ _ _ => N19
        have hT1 := News.isTup N19 m1
        refine pair_item0 hT1 ?_
        walk_at "my_steps"
        refine Stop.mk ?_
        rename News _ _ _ _ => N20
        refine pair_item1 (News.isTup N20 m1) ?_
        walk_at "my_steps"
        refine Stop.mk ?_
        rename News _ _ _ _ => N21
        refine pair_item1 (News.isTup N21 m1) ?_
        walk_at "my_steps"
        refine Stop.mk ?_
        rename Fr _ _ _ _ => F22
        rename News _ _ _ _ => N22
        rename (Int.fmod _ _ = 1) => hE
        exact CutEnd.intro F22 N22 ⟨_, _, _, rfl, by rw [decide_eq_true hE]; exact .head _, fun q hq => .tail _ hq⟩
      · refine Stop.mk ?_
        rename Fr _ _ _ _ => F22
        rename News _ _ _ _ => N22
        rename (¬ (Int.fmod _ _ = 1)) => hE
        exact CutEnd.intro (fr_same F22 rfl) N22 ⟨_, _, _, rfl, by rw [decide_eq_false hE]; exact m1, fun q hq => hq⟩
    · rintro v nw2 h tk ⟨d, ta, tb, rfl, m5, sub⟩ F N
      generalize hq1 : flipF (decide (Int.fmod (Int.fdiv (dl.getD (Int.toNat 0) 0) 5) 2 = 1)) p1 = q1 at m5 LK
      replace m2 := sub _ m2
      replace m3 := sub _ m3
      clear m1 sub hq1 N18 F18
      (try clear N17)
      obtain ⟨a, b⟩ := q1
      obtain ⟨c, e⟩ := p2
      replace LK : LawOk a b c e := LK
      dsimp only at m5 m2
      k_unmd
      (try k_fold)
      walk_at "my_steps"
      refine Stop.mk ?_
      rename News _ _ _ _ => N19
      refine row_item (R := ⟨m3, hdv, by omega⟩) N19 (by decide) (by omega) ?_
      intro _
      k_unmd
      (try k_fold)
      walk_at "my_steps"
      refine Stop.mk ?_
      rename News _ _ _ _ => N19
      refine row_item (R := ⟨m3, hdv, by omega⟩) N19 (by decide) (by omega) ?_
      intro _
      k_unmd
      (try k_fold)
      walk_at "my_steps"
      refine Stop.mk ?_
      have hx := fmod_bd (dl.getD (Int.toNat 2) 0) (n := 9) (by decide)
      have hy := fmod_bd (Int.fdiv (dl.getD (Int.toNat 2) 0) 9) (n := 9) (by decide)
      generalize hX : Int.fmod (dl.getD (Int.toNat 2) 0) 9 = dx at hx
      generalize hY : Int.fmod (Int.fdiv (dl.getD (Int.toNat 2) 0) 9) 9 = dy at hy
      rename Fr _ _ _ _ => F24
      rename News _ _ _ _ => N24
      rw [hX, hY] at F24
      clear hX hY
      refine cut_if (Str.ofString "x") (fun v nw' => (∃ t, v = .int (stepX a b (dx - 4) (dy - 4)) t) ∧ ∀ q ∈ nw2, q ∈ nw') F24 N24 ?_ ?_
      · walk_at "my_steps"
        refine Stop.mk ?_
        k_dflt (refine' tells_use (least_call _ _ d a b (dx - 4) (dy - 4) ta tb _ _ m5 LK.ba LK.bb ?hx1 ?hy1 ?hn1) ?B2 ?F2 ?X2 ?N2 ?T2 ?k2 ?d2 ?u2 ?r2)
        walk_at "my_call2"
        case hx1 => omega
        case hy1 => omega
        case hn1 => have := LK.n1; omega
        rintro v news' h' tk' ⟨D, tt, uu, cc, rfl, rfl, hDl⟩ F N
        walk_at "my_steps"
        refine Stop.mk ?_
        rename News _ _ _ _ => N26
        rename Fr _ _ _ _ => F26
        refine pair_eq (News.isTup N26 (.tail _ (.head _))) (News.isTup N26 (.head _)) (by ktr_units) ?_
        walk_at "my_steps"
        · refine Stop.mk ?_
          rename Fr _ _ _ _ => F27
          rename News _ _ _ _ => N27
          rename ((_, _) = ((0 : Int), (0 : Int))) => hE
          exact CutEnd.intro F27 N27 ⟨⟨_, by rw [show stepX a b (dx - 4) (dy - 4) = dx - 4 + 2 from if_pos hE]⟩, fun q hq => .tail _ (.tail _ hq)⟩
        · refine Stop.mk ?_
          rename Fr _ _ _ _ => F27
          rename News _ _ _ _ => N27
          rename (¬ ((_, _) = ((0 : Int), (0 : Int)))) => hE
          exact CutEnd.intro (fr_same F27 rfl) N27 ⟨⟨_, by rw [show stepX a b (dx - 4) (dy - 4) = dx - 4 from if_neg hE]⟩, fun q hq => .tail _ (.tail _ hq)⟩
      · rintro v nw3 h tk ⟨⟨tX, rfl⟩, sub⟩ F N
        replace m5 := sub _ m5
        replace m2 := sub _ m2
        replace m3 := sub _ m3
        clear sub F24 N24
        k_unmd
        (try k_fold)
        walk_at "my_steps"
        refine Stop.mk ?_
        rename News _ _ _ _ => N28
        refine row_item (R := ⟨m3, hdv, by omega⟩) N28 (by decide) (by omega) ?_
        intro _
        have hmany := fmod_bd (dl.getD (Int.toNat 3) 0) (n := 4096) (by decide)
        k_unmd
        (try k_fold)
        walk_at "my_steps"
        refine Stop.mk ?_
        generalize hM : Int.fmod (dl.getD (Int.toNat 3) 0) 4096 = many at hmany
        rename Fr _ _ _ _ => F29
        rename News _ _ _ _ => N29
        rw [hM] at F29
        clear hM hdv hd4 m3
        k_dflt (refine' tells_use (thirds_call _ _ d 28 a b ta tb m5 DivOk keeps28 (fun news' r g b t1 t2 t3 h => hsv_call _ news' r g b t1 t2 t3 h) LK.ba LK.bb LK.n1 LK.t1) ?B3 ?F3 ?X3 ?N3 ?T3 ?k3 ?d3 ?u3 ?r3)
        walk_at "my_call3"
        rintro v news' h' tk' ⟨l1, vs1, c1, rfl, hts, rfl, hne1⟩ F30 N30
        clear F29 N29
        k_unmd
        (try k_fold)
        walk_at "my_steps"
        refine Stop.mk ?_
        rename Fr _ _ _ _ => F31
        rename News _ _ _ _ => N31
        k_dflt (refine' tells_use (thirds_call _ _ d2 21 c e ta2 tb2 (.tail _ m2) DivOkL keeps21 (fun news' r g b t1 t2 t3 h => hls_call _ news' r g b t1 t2 t3 h) LK.bc LK.bd LK.n2 LK.t2) ?B4 ?F4 ?X4 ?N4 ?T4 ?k4 ?d4 ?u4 ?r4)
        walk_at "my_call4"
        rintro v news' h' tk' ⟨l2, vs2, c2, rfl, hus, rfl, hne2⟩ F32 N32
        (try clear F31)
        (try clear N31)
        k_unmd
        (try k_fold)
        walk_at "my_steps"
        refine Stop.mk ?_
        have ifMark : IfMark := ⟨trivial⟩
        have lt1 := hts.length
        have lt2 := hus.length
        have ll1 := LK.l1
        have ll2 := LK.l2
        walk_at "my_steps"
        refine Stop.mk ?_
        rename News _ _ _ _ => N34
        refine ke_eq_ints (News.isList N34 (.tail _ (.tail _ (.head _)))) (News.isList N34 (.head _)) hts .nil (by ktr_units) ?_
        rw [decide_eq_false (fun q => by rw [q] at ll1; exact absurd ll1.1 (by decide))]
        walk_at "my_steps"
        refine Stop.mk ?_
        rename News _ _ _ _ => N35
        rename Fr _ _ _ _ => F35
        refine ke_eq_ints (News.isList N35 (.tail _ (.tail _ (.head _)))) (News.isList N35 (.head _)) hus .nil (by ktr_units) ?_
        rw [decide_eq_false (fun q => by rw [q] at ll2; exact absurd ll2.1 (by decide))]
        have N36 := kst_newsOf N35 (fun q hq => List.mem_cons_of_mem _ (List.mem_cons_of_mem _ hq))
        clear N35
        walk_at "my_steps"
        refine Stop.mk ?_
        have hst : -64 ≤ stepX a b (dx - 4) (dy - 4) ∧ stepX a b (dx - 4) (dy - 4) ≤ 64 := by unfold stepX; split <;> omega
        have s1 := LK.s1 (dx - 4) (dy - 4) many (by omega) (by omega) hmany.1
        k_dflt (refine' tells_use (symbol_call _ _ d l1 a b ta tb (.tail _ (.tail _ m5)) vs1 (thirdsF a b) c1 ⟨.tail _ (.head _), hts, by omega⟩ (stepX a b (dx - 4) (dy - 4)) (dy - 4) many _ _ _ LK.ba LK.bb hst ?hy5 hmany ll1 LK.r1) ?B5 ?F5 ?X5 ?N5 ?T5 ?k5 ?d5 ?u5 ?r5)
        (case B5 => k_asm); (case F5 => k_asm); (case X5 => k_asm); (case N5 => k_asm); (case T5 => k_asm); (case k5 => first | exact rfl | assumption); (case d5 => ktr_room); (case u5 => ktr_units)
        case hy5 => omega
        rintro v news' h' tk' ⟨rfl, t37, rfl⟩ F37 N37
        generalize symbolF a b (thirdsF a b) (stepX a b (dx - 4) (dy - 4)) (dy - 4) many = z at s1
        walk_at "my_steps"
        refine Stop.mk ?_
        k_dflt (refine' tells_use (symbol_call _ _ d l1 a b ta tb (.tail _ (.tail _ m5)) vs1 (thirdsF a b) c1 ⟨.tail _ (.head _), hts, by omega⟩ 1 (-1) many _ _ _ LK.ba LK.bb (by omega) (by omega) hmany ll1 LK.r1) ?B6 ?F6 ?X6 ?N6 ?T6 ?k6 ?d6 ?u6 ?r6)
        (case B6 => k_asm); (case F6 => k_asm); (case X6 => k_asm); (case N6 => k_asm); (case T6 => k_asm); (case k6 => first | exact rfl | assumption); (case d6 => ktr_room); (case u6 => ktr_units)
        rintro v news' h' tk' ⟨rfl, t39, rfl⟩ F39 N39
        rw [LK.s2 many hmany.1]
        walk_at "my_steps"
        refine Stop.mk ?_
        rename News _ _ _ _ => N40
        refine pair_item0 (News.isTup N40 (.tail _ (.tail _ m5))) ?_
        walk_at "my_steps"
        · exfalso
          rename (¬ (Int.fmod _ _ = Int.fmod _ _)) => hq
          exact hq rfl
        refine Stop.mk ?_
        rename News _ _ _ _ => N41
        refine pair_item0 (News.isTup N41 (.tail _ (.tail _ m2))) ?_
        walk_at "my_steps"
        refine Stop.mk ?_
        rename News _ _ _ _ => N42
        refine pair_item1 (News.isTup N42 (.tail _ (.tail _ m2))) ?_
        walk_at "my_steps"
        refine Stop.mk ?_
        k_dflt (refine' tells_use (symbol_call _ _ d l1 a b ta tb (.tail _ (.tail _ m5)) vs1 (thirdsF a b) c1 ⟨.tail _ (.head _), hts, by omega⟩ c e many _ _ _ LK.ba LK.bb LK.bc LK.bd hmany ll1 LK.r1) ?B7 ?F7 ?X7 ?N7 ?T7 ?k7 ?d7 ?u7 ?r7)
        (case B7 => k_asm); (case F7 => k_asm); (case X7 => k_asm); (case N7 => k_asm); (case T7 => k_asm); (case k7 => first | exact rfl | assumption); (case d7 => ktr_room); (case u7 => ktr_units)
        rintro v news' h' tk' ⟨rfl, t43, rfl⟩ F43 N43
        walk_at "my_steps"
        refine Stop.mk ?_
        rename News _ _ _ _ => N44
        refine pair_item0 (News.isTup N44 (.tail _ (.tail _ m5))) ?_
        walk_at "my_steps"
        refine Stop.mk ?_
        rename News _ _ _ _ => N45
        refine pair_item1 (News.isTup N45 (.tail _ (.tail _ m5))) ?_
        walk_at "my_steps"
        refine Stop.mk ?_
        k_dflt (refine' tells_use (symbol_call _ _ d2 l2 c e ta2 tb2 (.tail _ (.tail _ m2)) vs2 (thirdsF c e) c2 ⟨.head _, hus, by omega⟩ a b many _ _ _ LK.bc LK.bd LK.ba LK.bb hmany ll2 LK.r2) ?B8 ?F8 ?X8 ?N8 ?T8 ?k8 ?d8 ?u8 ?r8)
        (case B8 => k_asm); (case F8 => k_asm); (case X8 => k_asm); (case N8 => k_asm); (case T8 => k_asm); (case k8 => first | exact rfl | assumption); (case d8 => ktr_room); (case u8 => ktr_units)
        rintro v news' h' tk' ⟨rfl, t47, rfl⟩ F47 N47
        have s3 := LK.s3 many hmany.1
        rw [← LK.s4 many hmany.1]
        walk_at "my_steps"
        rw [beq_self_eq_true]
        dsimp only
        k_unmd
        walk_at "my_steps"
        k_steps)
end
end Mine
theorem PySem.Challenge.cw_sr0014_01_holds : PySem.Challenge.rw_sr0014_01.Holds := by
  exact Mine.law_walk
